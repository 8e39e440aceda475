import JvmDerived
import JvmDerived.Pilot.@@N@@Statement
import JvmDerived.Pilot.@@N@@Code
set_option linter.unusedVariables false
set_option linter.unusedSimpArgs false
namespace Jvm.Ow
open Sem ClassFile Op Lib Jvm.Stand Jvm.Free Jvm.LawKit Jvm.RoadKit
abbrev jv (x : Int64) : Slot := .val (.long x)
abbrev U0 : Slot := .unset
abbrev S2 : Slot := .second
def ush (x y : Int32) : Int32 := (x.toUInt32 >>> (y &&& 31).toUInt32).toInt32
def On (l : Launch) (Z : State) (n0 : Nat) (own : String) (bytes : ByteArray) (maxL : Nat) (ret : Option FieldType) (R : Room) (p : Program) (e : Env) (s : State) (m : MethodId) (args : Array Value) (below : List Frame) (meth : Method) (c : Code) (T : State) (h : Heap) (k n : Nat) : Prop :=
  ∃ locs, Stand p l e R s m args below meth c T locs k n ∧ Fr n0 locs ∧ T.heap = h ∧ p.tables.exec = Jvm.exec ∧ Z.Warmed39 s.vm ∧ c.code = bytes ∧ c.maxLocals = maxL ∧ s.vm.findClass own = some m.cls ∧ meth.sig.returnType = ret ∧ meth.locks = false ∧ n0 ≤ s.heap.size
def Wp (p : Program) (e : Env) (below : List Frame) (s : State) (n0 ck cs : Nat) (Q : Option Value → Heap → Prop) (U : State) : Prop :=
  ∃ t o, Steps p.tables e below U t ∧ t.status = .running ∧ Ended t below o ∧ ∃ v L, o = .returned v ∧ (Fr n0 L ∧ Q v t.heap) ∧ FrameEnd s o t L ck cs
def Met (l : Launch) (Z : State) (n0 : Nat) (y : MethodName) (bytes : ByteArray) (maxL : Nat) (ret : Option FieldType) (rm : Room) (as : Array Value) (h : Heap) (Q : Option Value → Heap → Prop) : Prop :=
  ∀ ws, MetFree l y (head1 (Cond.code y bytes maxL ret :: ws) rm) (fun a U => a = as ∧ Z.Warmed39 U.vm ∧ U.heap = h) (fun _ _ _ _ _ => True) (fun _ U o U' => ∃ v L, o = .returned v ∧ (Fr n0 L ∧ Q v U'.heap) ∧ FrameEnd U o U' L rm.cells rm.slots)
def AA (Z : State) (h : Heap) (a : Addr) (ty : FieldType) (vs : List Value) : Prop := ∃ c : Cell, Arr Z h a c ty ∧ c.slots = vs.toArray ∧ vs.length < 2147483648
section Kit
variable {l : Launch} {Z : State} {n0 : Nat} {own : String} {bytes : ByteArray} {maxL : Nat} {ret : Option FieldType} {R : Room} {p : Program} {e : Env} {s : State} {m : MethodId} {args : Array Value} {below : List Frame} {meth : Method} {c : Code} {T : State} {h h' : Heap} {k n ck cs : Nat} {Q : Option Value → Heap → Prop} {pc pc' : Nat} {Ls Ls' : Array Slot} {st : List Value} {a0 : Array Value} {a b : Addr} {ty : FieldType} {vs : List Value} {sl : Nat} {v w : Value} {ws : List Addr}
theorem AA.ext (F : AA Z h a ty vs) (E : Ext h h') : AA Z h' a ty vs := by obtain ⟨c, A, r⟩ := F; exact ⟨c, A.ext E, r⟩
theorem AA.other (F : AA Z h b ty vs) (W : Wr h h' a sl v) (q : b ≠ a) : AA Z h' b ty vs := by obtain ⟨c, A, r⟩ := F; exact ⟨c, A.other W q, r⟩
theorem AA.set (F : AA Z h a ty vs) (W : Wr h h' a sl v) : AA Z h' a ty (vs.set sl v) := by
  obtain ⟨c, A, r1, r2⟩ := F
  exact ⟨_, A.same W, by simp [Cell.setSlot, r1], by simpa using r2⟩
theorem AA.lt (F : AA Z h a ty vs) : a < h.size := by obtain ⟨c, A, -⟩ := F; exact A.lt
theorem AA.cast {vs' : List Value} (F : AA Z h a ty vs) (q : vs = vs') : AA Z h a ty vs' := q ▸ F
theorem Fld.cast {C f d : String} (F : Fld Z h a C f d v) (q : v = w) : Fld Z h a C f d w := q ▸ F
theorem AA.new {cA : ClassId} {z : Int32} {i : Nat} (A : Arr Z h a (newA cA ty z) ty) (hz : z.toInt = (i : Int)) : AA Z h a ty (List.replicate i (defaultValue ty)) := by
  have q : z.toNatClampNeg = i := by show z.toInt.toNat = i; omega
  have := z.toInt_lt
  refine ⟨_, A, ?_, ?_⟩
  · simp [newA, q]
  · simp; omega
theorem lt_ne {x y z : Nat} (q : x < y) (r : y = z) : x ≠ z := by omega
theorem le_eq {x y z : Nat} (q : x ≤ y) (r : y = z) : x ≤ z := by omega
theorem On.size(A : On l Z n0 own bytes maxL ret R p e s m args below meth c T h k n) : n0 ≤ h.size := by
  obtain ⟨locs, X, N, eT, hx, hZ, hby, hml, hown, hret, hlk, hsz⟩ := A
  have := X.same.2.1
  subst eT
  exact Nat.le_trans hsz this
theorem Wp.goo {U U' : State} (f : ∀ t, Steps p.tables e below U' t → Steps p.tables e below U t) (K : Wp p e below s n0 ck cs Q U') : Wp p e below s n0 ck cs Q U := by
  obtain ⟨t, o, q, r⟩ := K; exact ⟨t, o, f t q, r⟩
theorem Wp.cast {g g' : JFrame} (q : g = g') (K : Wp p e below s n0 ck cs Q (T.setTop g')) : Wp p e below s n0 ck cs Q (T.setTop g) := q ▸ K
theorem Wp.stk {st' : List Value} (q : st = st') (K : Wp p e below s n0 ck cs Q (T.setTop (mkF m pc Ls st'))) : Wp p e below s n0 ck cs Q (T.setTop (mkF m pc Ls st)) := q ▸ K
theorem Wp.mono {Q' : Option Value → Heap → Prop} {U : State} (K : Wp p e below s n0 ck cs Q U) (q : ∀ v h, Q v h → Q' v h) : Wp p e below s n0 ck cs Q' U := by
  obtain ⟨t, o, h1, h2, h3, v, L, h4, ⟨h5, h6⟩, h7⟩ := K; exact ⟨t, o, h1, h2, h3, v, L, h4, ⟨h5, q _ _ h6⟩, h7⟩
theorem met_intro {y : MethodName} {rm : Room} {as : Array Value} (hpl : plainFor y = true) (ho : y.cls = own) (hsz : n0 ≤ h.size)
    (body : ∀ p e s m below meth c T, On l Z n0 own bytes maxL ret rm p e s m as below meth c T h 0 0 → meth.name = y.name → Wp p e below s n0 rm.cells rm.slots Q (T.setTop (entryFrame m as maxL))) : Met l Z n0 y bytes maxL ret rm as h Q := by
  subst ho
  intro ws
  refine MetFree.of_bodySF hpl hisR ?_
  intro p e s m args below meth c s₁ Bd hml0 hP hK
  obtain ⟨rfl, hZ, hh⟩ := hP
  have X0 : Stand p l e rm s m args below meth c s₁ [] 0 0 := Stand.of_body Bd
  have e0 : s₁.heap = h := by rw [← hh, Bd.state]; rfl
  exact body p e s m below meth c s₁ ⟨[], X0, Fr.nil n0, e0, Bd.exec, hZ, Bd.bytes, hml0, findClass_of_methodNamed Bd.named, Bd.returns, Bd.notSynchronized, by rw [hh]; exact hsz⟩ (name_of_methodNamed Bd.named Bd.method).1
theorem Met.mono {y : MethodName} {rm : Room} {as : Array Value} {Q' : Option Value → Heap → Prop} (M : Met l Z n0 y bytes maxL ret rm as h Q) (q : ∀ v h, Q v h → Q' v h) : Met l Z n0 y bytes maxL ret rm as h Q' := by
  intro ws p e ha hc hk s m args below hf happ hP hK
  obtain ⟨n, o, h1, h2, h3, v, L, h4, ⟨h5, h6⟩, h7⟩ := M ws p e ha hc hk s m args below hf happ hP hK
  exact ⟨n, o, h1, h2, h3, v, L, h4, ⟨h5, q _ _ h6⟩, h7⟩
theorem s_iloadN (A : On l Z n0 own bytes maxL ret R p e s m args below meth c T h k n) {i : Fin 4} {z : Int32} (hd : decode bytes pc = .ok (.iload_n i, 1)) (hp : pc + 1 = pc') (hl : Ls[i.val]? = some (.val (.int z))) (K : Wp p e below s n0 ck cs Q (T.setTop (mkF m pc' Ls (.int z :: st)))) : Wp p e below s n0 ck cs Q (T.setTop (mkF m pc Ls st)) := by
  obtain ⟨locs, X, N, eT, hx, hZ, hby, hml, hown, hret, hlk, hsz⟩ := A
  subst hp
  exact K.goo fun t q => XS.iloadN X.here hx rfl (hb hby hd) hl q
theorem s_lloadN (A : On l Z n0 own bytes maxL ret R p e s m args below meth c T h k n) {i : Fin 4} {z : Int64} (hd : decode bytes pc = .ok (.lload_n i, 1)) (hp : pc + 1 = pc') (hl : Ls[i.val]? = some (.val (.long z))) (K : Wp p e below s n0 ck cs Q (T.setTop (mkF m pc' Ls (.long z :: st)))) : Wp p e below s n0 ck cs Q (T.setTop (mkF m pc Ls st)) := by
  obtain ⟨locs, X, N, eT, hx, hZ, hby, hml, hown, hret, hlk, hsz⟩ := A
  subst hp
  exact K.goo fun t q => XS.lloadN X.here hx rfl (hb hby hd) hl q
theorem s_aloadN (A : On l Z n0 own bytes maxL ret R p e s m args below meth c T h k n) {i : Fin 4} (hd : decode bytes pc = .ok (.aload_n i, 1)) (hp : pc + 1 = pc') (hl : Ls[i.val]? = some (.val v)) (hv : v.isRef = true) (K : Wp p e below s n0 ck cs Q (T.setTop (mkF m pc' Ls (v :: st)))) : Wp p e below s n0 ck cs Q (T.setTop (mkF m pc Ls st)) := by
  obtain ⟨locs, X, N, eT, hx, hZ, hby, hml, hown, hret, hlk, hsz⟩ := A
  subst hp
  exact K.goo fun t q => XS.aloadN X.here hx rfl (hb hby hd) hl hv q
theorem s_istoreN (A : On l Z n0 own bytes maxL ret R p e s m args below meth c T h k n) {i : Fin 4} {z : Int32} (hd : decode bytes pc = .ok (.istore_n i, 1)) (hp : pc + 1 = pc') (hl : storeLocals Ls i.val (.int z) = some Ls') (K : Wp p e below s n0 ck cs Q (T.setTop (mkF m pc' Ls' st))) : Wp p e below s n0 ck cs Q (T.setTop (mkF m pc Ls (.int z :: st))) := by
  obtain ⟨locs, X, N, eT, hx, hZ, hby, hml, hown, hret, hlk, hsz⟩ := A
  subst hp
  exact K.goo fun t q => XS.istoreN X.here hx rfl (hb hby hd) rfl hl q
theorem s_iload (A : On l Z n0 own bytes maxL ret R p e s m args below meth c T h k n) {i : Nat} {z : Int32} (hd : decode bytes pc = .ok (.iload i, 2)) (hp : pc + 2 = pc') (hl : Ls[i]? = some (.val (.int z))) (K : Wp p e below s n0 ck cs Q (T.setTop (mkF m pc' Ls (.int z :: st)))) : Wp p e below s n0 ck cs Q (T.setTop (mkF m pc Ls st)) := by
  obtain ⟨locs, X, N, eT, hx, hZ, hby, hml, hown, hret, hlk, hsz⟩ := A
  subst hp
  exact K.goo fun t q => XS.iload X.here hx rfl (hb hby hd) hl q
theorem s_lload (A : On l Z n0 own bytes maxL ret R p e s m args below meth c T h k n) {i : Nat} {z : Int64} (hd : decode bytes pc = .ok (.lload i, 2)) (hp : pc + 2 = pc') (hl : Ls[i]? = some (.val (.long z))) (K : Wp p e below s n0 ck cs Q (T.setTop (mkF m pc' Ls (.long z :: st)))) : Wp p e below s n0 ck cs Q (T.setTop (mkF m pc Ls st)) := by
  obtain ⟨locs, X, N, eT, hx, hZ, hby, hml, hown, hret, hlk, hsz⟩ := A
  subst hp
  exact K.goo fun t q => XS.lload X.here hx rfl (hb hby hd) hl q
theorem s_aload (A : On l Z n0 own bytes maxL ret R p e s m args below meth c T h k n) {i : Nat} (hd : decode bytes pc = .ok (.aload i, 2)) (hp : pc + 2 = pc') (hl : Ls[i]? = some (.val v)) (hv : v.isRef = true) (K : Wp p e below s n0 ck cs Q (T.setTop (mkF m pc' Ls (v :: st)))) : Wp p e below s n0 ck cs Q (T.setTop (mkF m pc Ls st)) := by
  obtain ⟨locs, X, N, eT, hx, hZ, hby, hml, hown, hret, hlk, hsz⟩ := A
  subst hp
  exact K.goo fun t q => XS.aload X.here hx rfl (hb hby hd) hl hv q
theorem s_istore (A : On l Z n0 own bytes maxL ret R p e s m args below meth c T h k n) {i : Nat} {z : Int32} (hd : decode bytes pc = .ok (.istore i, 2)) (hp : pc + 2 = pc') (hl : storeLocals Ls i (.int z) = some Ls') (K : Wp p e below s n0 ck cs Q (T.setTop (mkF m pc' Ls' st))) : Wp p e below s n0 ck cs Q (T.setTop (mkF m pc Ls (.int z :: st))) := by
  obtain ⟨locs, X, N, eT, hx, hZ, hby, hml, hown, hret, hlk, hsz⟩ := A
  subst hp
  exact K.goo fun t q => XS.istore X.here hx rfl (hb hby hd) rfl hl q
theorem s_lstore (A : On l Z n0 own bytes maxL ret R p e s m args below meth c T h k n) {i : Nat} {z : Int64} (hd : decode bytes pc = .ok (.lstore i, 2)) (hp : pc + 2 = pc') (hl : storeLocals Ls i (.long z) = some Ls') (K : Wp p e below s n0 ck cs Q (T.setTop (mkF m pc' Ls' st))) : Wp p e below s n0 ck cs Q (T.setTop (mkF m pc Ls (.long z :: st))) := by
  obtain ⟨locs, X, N, eT, hx, hZ, hby, hml, hown, hret, hlk, hsz⟩ := A
  subst hp
  exact K.goo fun t q => XS.lstore X.here hx rfl (hb hby hd) rfl hl q
theorem s_astore (A : On l Z n0 own bytes maxL ret R p e s m args below meth c T h k n) {i : Nat} (hd : decode bytes pc = .ok (.astore i, 2)) (hp : pc + 2 = pc') (hv : v.isRef = true) (hl : storeLocals Ls i v = some Ls') (K : Wp p e below s n0 ck cs Q (T.setTop (mkF m pc' Ls' st))) : Wp p e below s n0 ck cs Q (T.setTop (mkF m pc Ls (v :: st))) := by
  obtain ⟨locs, X, N, eT, hx, hZ, hby, hml, hown, hret, hlk, hsz⟩ := A
  subst hp
  exact K.goo fun t q => XS.astore X.here hx rfl (hb hby hd) rfl hv hl q
theorem s_iconst (A : On l Z n0 own bytes maxL ret R p e s m args below meth c T h k n) {i : Int} {z : Int32} (hd : decode bytes pc = .ok (.iconst i, 1)) (hp : pc + 1 = pc') (hz : Int32.ofInt i = z) (K : Wp p e below s n0 ck cs Q (T.setTop (mkF m pc' Ls (.int z :: st)))) : Wp p e below s n0 ck cs Q (T.setTop (mkF m pc Ls st)) := by
  obtain ⟨locs, X, N, eT, hx, hZ, hby, hml, hown, hret, hlk, hsz⟩ := A
  subst hp
  subst hz
  exact K.goo fun t q => XS.iconst X.here hx rfl (hb hby hd) q
theorem s_bipush (A : On l Z n0 own bytes maxL ret R p e s m args below meth c T h k n) {i : Int} {z : Int32} (hd : decode bytes pc = .ok (.bipush i, 2)) (hp : pc + 2 = pc') (hz : (Int8.ofInt i).toInt32 = z) (K : Wp p e below s n0 ck cs Q (T.setTop (mkF m pc' Ls (.int z :: st)))) : Wp p e below s n0 ck cs Q (T.setTop (mkF m pc Ls st)) := by
  obtain ⟨locs, X, N, eT, hx, hZ, hby, hml, hown, hret, hlk, hsz⟩ := A
  subst hp
  subst hz
  exact K.goo fun t q => XS.bipush X.here hx rfl (hb hby hd) q
theorem s_lconst (A : On l Z n0 own bytes maxL ret R p e s m args below meth c T h k n) {i : Fin 2} {z : Int64} (hd : decode bytes pc = .ok (.lconst i, 1)) (hp : pc + 1 = pc') (hz : Int64.ofNat i = z) (K : Wp p e below s n0 ck cs Q (T.setTop (mkF m pc' Ls (.long z :: st)))) : Wp p e below s n0 ck cs Q (T.setTop (mkF m pc Ls st)) := by
  obtain ⟨locs, X, N, eT, hx, hZ, hby, hml, hown, hret, hlk, hsz⟩ := A
  subst hp
  subst hz
  exact K.goo fun t q => XS.lconst X.here hx rfl (hb hby hd) q
theorem s_iadd (A : On l Z n0 own bytes maxL ret R p e s m args below meth c T h k n) {x y z : Int32} (hd : decode bytes pc = .ok (.iadd, 1)) (hp : pc + 1 = pc') (hz : x + y = z) (K : Wp p e below s n0 ck cs Q (T.setTop (mkF m pc' Ls (.int z :: st)))) : Wp p e below s n0 ck cs Q (T.setTop (mkF m pc Ls (.int y :: .int x :: st))) := by
  obtain ⟨locs, X, N, eT, hx, hZ, hby, hml, hown, hret, hlk, hsz⟩ := A
  subst hp
  subst hz
  exact K.goo fun t q => XS.iadd X.here hx rfl (hb hby hd) rfl q
theorem s_ladd (A : On l Z n0 own bytes maxL ret R p e s m args below meth c T h k n) {x y z : Int64} (hd : decode bytes pc = .ok (.ladd, 1)) (hp : pc + 1 = pc') (hz : x + y = z) (K : Wp p e below s n0 ck cs Q (T.setTop (mkF m pc' Ls (.long z :: st)))) : Wp p e below s n0 ck cs Q (T.setTop (mkF m pc Ls (.long y :: .long x :: st))) := by
  obtain ⟨locs, X, N, eT, hx, hZ, hby, hml, hown, hret, hlk, hsz⟩ := A
  subst hp
  subst hz
  exact K.goo fun t q => XS.ladd X.here hx rfl (hb hby hd) rfl q
theorem s_isub (A : On l Z n0 own bytes maxL ret R p e s m args below meth c T h k n) {x y z : Int32} (hd : decode bytes pc = .ok (.isub, 1)) (hp : pc + 1 = pc') (hz : x - y = z) (K : Wp p e below s n0 ck cs Q (T.setTop (mkF m pc' Ls (.int z :: st)))) : Wp p e below s n0 ck cs Q (T.setTop (mkF m pc Ls (.int y :: .int x :: st))) := by
  obtain ⟨locs, X, N, eT, hx, hZ, hby, hml, hown, hret, hlk, hsz⟩ := A
  subst hp
  subst hz
  exact K.goo fun t q => XS.isub X.here hx rfl (hb hby hd) rfl q
theorem s_lsub (A : On l Z n0 own bytes maxL ret R p e s m args below meth c T h k n) {x y z : Int64} (hd : decode bytes pc = .ok (.lsub, 1)) (hp : pc + 1 = pc') (hz : x - y = z) (K : Wp p e below s n0 ck cs Q (T.setTop (mkF m pc' Ls (.long z :: st)))) : Wp p e below s n0 ck cs Q (T.setTop (mkF m pc Ls (.long y :: .long x :: st))) := by
  obtain ⟨locs, X, N, eT, hx, hZ, hby, hml, hown, hret, hlk, hsz⟩ := A
  subst hp
  subst hz
  exact K.goo fun t q => XS.lsub X.here hx rfl (hb hby hd) rfl q
theorem s_iand (A : On l Z n0 own bytes maxL ret R p e s m args below meth c T h k n) {x y z : Int32} (hd : decode bytes pc = .ok (.iand, 1)) (hp : pc + 1 = pc') (hz : x &&& y = z) (K : Wp p e below s n0 ck cs Q (T.setTop (mkF m pc' Ls (.int z :: st)))) : Wp p e below s n0 ck cs Q (T.setTop (mkF m pc Ls (.int y :: .int x :: st))) := by
  obtain ⟨locs, X, N, eT, hx, hZ, hby, hml, hown, hret, hlk, hsz⟩ := A
  subst hp
  subst hz
  exact K.goo fun t q => XS.iand X.here hx rfl (hb hby hd) rfl q
theorem s_idiv (A : On l Z n0 own bytes maxL ret R p e s m args below meth c T h k n) {x y z : Int32} (hd : decode bytes pc = .ok (.idiv, 1)) (hp : pc + 1 = pc') (hy : y ≠ 0) (hz : x / y = z) (K : Wp p e below s n0 ck cs Q (T.setTop (mkF m pc' Ls (.int z :: st)))) : Wp p e below s n0 ck cs Q (T.setTop (mkF m pc Ls (.int y :: .int x :: st))) := by
  obtain ⟨locs, X, N, eT, hx, hZ, hby, hml, hown, hret, hlk, hsz⟩ := A
  subst hp
  subst hz
  exact K.goo fun t q => XS.idiv X.here hx rfl (hb hby hd) rfl hy q
theorem s_irem (A : On l Z n0 own bytes maxL ret R p e s m args below meth c T h k n) {x y z : Int32} (hd : decode bytes pc = .ok (.irem, 1)) (hp : pc + 1 = pc') (hy : y ≠ 0) (hz : x % y = z) (K : Wp p e below s n0 ck cs Q (T.setTop (mkF m pc' Ls (.int z :: st)))) : Wp p e below s n0 ck cs Q (T.setTop (mkF m pc Ls (.int y :: .int x :: st))) := by
  obtain ⟨locs, X, N, eT, hx, hZ, hby, hml, hown, hret, hlk, hsz⟩ := A
  subst hp
  subst hz
  exact K.goo fun t q => iremM X hx rfl (hb hby hd) rfl hy q
theorem s_iushr (A : On l Z n0 own bytes maxL ret R p e s m args below meth c T h k n) {x y z : Int32} (hd : decode bytes pc = .ok (.iushr, 1)) (hp : pc + 1 = pc') (hz : ush x y = z) (K : Wp p e below s n0 ck cs Q (T.setTop (mkF m pc' Ls (.int z :: st)))) : Wp p e below s n0 ck cs Q (T.setTop (mkF m pc Ls (.int y :: .int x :: st))) := by
  obtain ⟨locs, X, N, eT, hx, hZ, hby, hml, hown, hret, hlk, hsz⟩ := A
  subst hp
  subst hz
  exact K.goo fun t q => XS.iushr X.here hx rfl (hb hby hd) rfl q
theorem s_lcmp (A : On l Z n0 own bytes maxL ret R p e s m args below meth c T h k n) {x y : Int64} (hd : decode bytes pc = .ok (.lcmp, 1)) (hp : pc + 1 = pc') (K : Wp p e below s n0 ck cs Q (T.setTop (mkF m pc' Ls (.int (lcmpW x y) :: st)))) : Wp p e below s n0 ck cs Q (T.setTop (mkF m pc Ls (.long y :: .long x :: st))) := by
  obtain ⟨locs, X, N, eT, hx, hZ, hby, hml, hown, hret, hlk, hsz⟩ := A
  subst hp
  exact K.goo fun t q => XS.lcmp X.here hx rfl (hb hby hd) rfl q
theorem s_i2l (A : On l Z n0 own bytes maxL ret R p e s m args below meth c T h k n) {x : Int32} {z : Int64} (hd : decode bytes pc = .ok (.i2l, 1)) (hp : pc + 1 = pc') (hz : x.toInt64 = z) (K : Wp p e below s n0 ck cs Q (T.setTop (mkF m pc' Ls (.long z :: st)))) : Wp p e below s n0 ck cs Q (T.setTop (mkF m pc Ls (.int x :: st))) := by
  obtain ⟨locs, X, N, eT, hx, hZ, hby, hml, hown, hret, hlk, hsz⟩ := A
  subst hp
  subst hz
  exact K.goo fun t q => XS.i2l X.here hx rfl (hb hby hd) rfl q
theorem s_l2i (A : On l Z n0 own bytes maxL ret R p e s m args below meth c T h k n) {x : Int64} {z : Int32} (hd : decode bytes pc = .ok (.l2i, 1)) (hp : pc + 1 = pc') (hz : x.toInt32 = z) (K : Wp p e below s n0 ck cs Q (T.setTop (mkF m pc' Ls (.int z :: st)))) : Wp p e below s n0 ck cs Q (T.setTop (mkF m pc Ls (.long x :: st))) := by
  obtain ⟨locs, X, N, eT, hx, hZ, hby, hml, hown, hret, hlk, hsz⟩ := A
  subst hp
  subst hz
  exact K.goo fun t q => XS.l2i X.here hx rfl (hb hby hd) rfl q
theorem s_dup (A : On l Z n0 own bytes maxL ret R p e s m args below meth c T h k n)  (hd : decode bytes pc = .ok (.dup, 1)) (hp : pc + 1 = pc') (hc : v.category = 1) (K : Wp p e below s n0 ck cs Q (T.setTop (mkF m pc' Ls (v :: v :: st)))) : Wp p e below s n0 ck cs Q (T.setTop (mkF m pc Ls (v :: st))) := by
  obtain ⟨locs, X, N, eT, hx, hZ, hby, hml, hown, hret, hlk, hsz⟩ := A
  subst hp
  exact K.goo fun t q => XS.dup X.here hx rfl (hb hby hd) rfl hc q
theorem s_dup2X1L (A : On l Z n0 own bytes maxL ret R p e s m args below meth c T h k n) {x : Int64} (hd : decode bytes pc = .ok (.dup2_x1, 1)) (hp : pc + 1 = pc') (hc' : w.category = 1) (K : Wp p e below s n0 ck cs Q (T.setTop (mkF m pc' Ls (.long x :: w :: .long x :: st)))) : Wp p e below s n0 ck cs Q (T.setTop (mkF m pc Ls (.long x :: w :: st))) := by
  obtain ⟨locs, X, N, eT, hx, hZ, hby, hml, hown, hret, hlk, hsz⟩ := A
  subst hp
  refine K.goo fun t q => ?_
  jvm_step X.here [X.here.top, hx, (hb hby hd), Value.category, hc']
  exact ⟨hc', q⟩
theorem s_pop2L (A : On l Z n0 own bytes maxL ret R p e s m args below meth c T h k n) {x : Int64} (hd : decode bytes pc = .ok (.pop2, 1)) (hp : pc + 1 = pc') (K : Wp p e below s n0 ck cs Q (T.setTop (mkF m pc' Ls st))) : Wp p e below s n0 ck cs Q (T.setTop (mkF m pc Ls (.long x :: st))) := by
  obtain ⟨locs, X, N, eT, hx, hZ, hby, hml, hown, hret, hlk, hsz⟩ := A
  subst hp
  refine K.goo fun t q => ?_
  jvm_step X.here [X.here.top, hx, (hb hby hd), Value.category]
  exact q
theorem s_goto (A : On l Z n0 own bytes maxL ret R p e s m args below meth c T h k n)  {o : Int} (hd : decode bytes pc = .ok (.goto o, 3))  (ho : 0 ≤ (pc : Int) + o) (hp : ((pc : Int) + o).toNat = pc') (K : Wp p e below s n0 ck cs Q (T.setTop (mkF m pc' Ls st))) : Wp p e below s n0 ck cs Q (T.setTop (mkF m pc Ls st)) := by
  obtain ⟨locs, X, N, eT, hx, hZ, hby, hml, hown, hret, hlk, hsz⟩ := A
  exact K.goo fun t q => XS.goto X.here hx rfl (pc0 := pc) rfl (hb hby hd) ho hp q
theorem s_ifY (A : On l Z n0 own bytes maxL ret R p e s m args below meth c T h k n) {cd : ClassFile.Cond} {x : Int32} {o : Int} (hd : decode bytes pc = .ok (.ifCond cd o, 3)) (hc : ifCond.holds cd x = true) (ho : 0 ≤ (pc : Int) + o) (hp : ((pc : Int) + o).toNat = pc') (K : Wp p e below s n0 ck cs Q (T.setTop (mkF m pc' Ls st))) : Wp p e below s n0 ck cs Q (T.setTop (mkF m pc Ls (.int x :: st))) := by
  obtain ⟨locs, X, N, eT, hx, hZ, hby, hml, hown, hret, hlk, hsz⟩ := A
  exact K.goo fun t q => XS.ifYes X.here hx rfl (pc0 := pc) rfl (hb hby hd) rfl hc ho hp q
theorem s_icmpY (A : On l Z n0 own bytes maxL ret R p e s m args below meth c T h k n) {cd : ClassFile.Cond} {x y : Int32} {o : Int} (hd : decode bytes pc = .ok (.if_icmp cd o, 3)) (hc : if_icmp.holds cd x y = true) (ho : 0 ≤ (pc : Int) + o) (hp : ((pc : Int) + o).toNat = pc') (K : Wp p e below s n0 ck cs Q (T.setTop (mkF m pc' Ls st))) : Wp p e below s n0 ck cs Q (T.setTop (mkF m pc Ls (.int y :: .int x :: st))) := by
  obtain ⟨locs, X, N, eT, hx, hZ, hby, hml, hown, hret, hlk, hsz⟩ := A
  exact K.goo fun t q => XS.icmpYes X.here hx rfl (pc0 := pc) rfl (hb hby hd) rfl hc ho hp q
theorem s_ifN (A : On l Z n0 own bytes maxL ret R p e s m args below meth c T h k n) {cd : ClassFile.Cond} {x : Int32} {o : Int} (hd : decode bytes pc = .ok (.ifCond cd o, 3)) (hp : pc + 3 = pc') (hc : ifCond.holds cd x = false) (K : Wp p e below s n0 ck cs Q (T.setTop (mkF m pc' Ls st))) : Wp p e below s n0 ck cs Q (T.setTop (mkF m pc Ls (.int x :: st))) := by
  obtain ⟨locs, X, N, eT, hx, hZ, hby, hml, hown, hret, hlk, hsz⟩ := A
  subst hp
  exact K.goo fun t q => XS.ifNo X.here hx rfl (hb hby hd) rfl hc q
theorem s_icmpN (A : On l Z n0 own bytes maxL ret R p e s m args below meth c T h k n) {cd : ClassFile.Cond} {x y : Int32} {o : Int} (hd : decode bytes pc = .ok (.if_icmp cd o, 3)) (hp : pc + 3 = pc') (hc : if_icmp.holds cd x y = false) (K : Wp p e below s n0 ck cs Q (T.setTop (mkF m pc' Ls st))) : Wp p e below s n0 ck cs Q (T.setTop (mkF m pc Ls (.int y :: .int x :: st))) := by
  obtain ⟨locs, X, N, eT, hx, hZ, hby, hml, hown, hret, hlk, hsz⟩ := A
  subst hp
  exact K.goo fun t q => XS.icmpNo X.here hx rfl (hb hby hd) rfl hc q
theorem s_ldcInt (A : On l Z n0 own bytes maxL ret R p e s m args below meth c T h k n) {i : Nat} {z : Int32} (hd : decode bytes pc = .ok (.ldc i, 2)) (hp : pc + 2 = pc') (w0 : (Cond.constant own i z).before a0 Z = true) (K : Wp p e below s n0 ck cs Q (T.setTop (mkF m pc' Ls (.int z :: st)))) : Wp p e below s n0 ck cs Q (T.setTop (mkF m pc Ls st)) := by
  obtain ⟨locs, X, N, eT, hx, hZ, hby, hml, hown, hret, hlk, hsz⟩ := A
  subst hp
  exact K.goo fun t q => X.ldcInt hx hown (mvT hZ w0) (g := mkF m pc Ls st) rfl (hb hby hd) t q
theorem s_ldc2Long (A : On l Z n0 own bytes maxL ret R p e s m args below meth c T h k n) {i : Nat} {z : Int64} (hd : decode bytes pc = .ok (.ldc2_w i, 3)) (hp : pc + 3 = pc') (w0 : (Cond.constantLong own i z).before a0 Z = true) (K : Wp p e below s n0 ck cs Q (T.setTop (mkF m pc' Ls (.long z :: st)))) : Wp p e below s n0 ck cs Q (T.setTop (mkF m pc Ls st)) := by
  obtain ⟨locs, X, N, eT, hx, hZ, hby, hml, hown, hret, hlk, hsz⟩ := A
  subst hp
  exact K.goo fun t q => X.ldc2Long hx hown (mvT hZ w0) (g := mkF m pc Ls st) rfl (hb hby hd) t q
theorem idx_ok {j : Int32} {i : Nat} (hj : j.toInt = (i : Int)) : j.toNatClampNeg = i := by show j.toInt.toNat = i; omega
theorem idx_in' {j : Int32} {i : Nat} {N : Nat} (hj : j.toInt = (i : Int)) (hi : i < N) : ¬ (j < 0 ∨ N ≤ j.toNatClampNeg) := by
  rw [idx_ok hj, Int32.lt_iff_toInt_lt, hj]
  have : (0 : Int32).toInt = 0 := by decide
  omega
theorem s_getfield (A : On l Z n0 own bytes maxL ret R p e s m args below meth c T h k n) {index : Nat} {R0 O f d host : String} (w0 : (Cond.fieldLink own index R0 f d).before a0 Z = true ∨ (Cond.fieldLinkNest own index R0 f d host).before a0 Z = true) (via : Via Z R0 O f d) (F : Fld Z h a O f d v) (hd : decode bytes pc = .ok (.getfield index, 3)) (hp : pc + 3 = pc') (K : ∀ T' , On l Z n0 own bytes maxL ret R p e s m args below meth c T' h k n → Wp p e below s n0 ck cs Q (T'.setTop (mkF m pc' Ls (v :: st)))) : Wp p e below s n0 ck cs Q (T.setTop (mkF m pc Ls (.ref a :: st))) := by
  obtain ⟨locs, X, N, eT, hx, hZ, hby, hml, hown, hret, hlk, hsz⟩ := A
  subst hp
  obtain ⟨T', X', e', q⟩ := getF X hx hZ hown w0 via eT F (g := mkF m pc Ls (.ref a :: st)) rfl rfl (hb hby hd)
  exact (K T' ⟨_, X', N, e', hx, hZ, hby, hml, hown, hret, hlk, hsz⟩).goo q
theorem s_putfield (A : On l Z n0 own bytes maxL ret R p e s m args below meth c T h k n) {index kk : Nat} {R0 O f d host C : String} (w0 : (Cond.fieldLink own index R0 f d).before a0 Z = true ∨ (Cond.fieldLinkNest own index R0 f d host).before a0 Z = true) (via : Via Z R0 O f d) (F : Fld Z h a O f d w) (E : Exa Z h a C) (L : (Cond.lays C O f d).before a0 Z = true ∨ ((Cond.laysFinal C O f d).before a0 Z = true ∧ own = O ∧ meth.name = "<init>")) (wi : (Cond.instantiable C kk).before a0 Z = true) (hty : parseFieldDescriptor d = some ty) (hnar : narrow ty v = v) (hfit : fits ty v = true) (ha : n0 ≤ a) (hd : decode bytes pc = .ok (.putfield index, 3)) (hp : pc + 3 = pc') (K : ∀ T' h', On l Z n0 own bytes maxL ret R p e s m args below meth c T' h' k n → Wr h h' a (Jvm.RoadKit.slotOf Z O f d) v → Wp p e below s n0 ck cs Q (T'.setTop (mkF m pc' Ls st))) : Wp p e below s n0 ck cs Q (T.setTop (mkF m pc Ls (v :: .ref a :: st))) := by
  obtain ⟨locs, X, N, eT, hx, hZ, hby, hml, hown, hret, hlk, hsz⟩ := A
  subst hp
  obtain ⟨T', h', X', e', W, q⟩ := putF X hx hZ hown w0 via eT F E L wi hty hnar hfit (g := mkF m pc Ls (v :: .ref a :: st)) rfl rfl (hb hby hd)
  exact (K T' h' ⟨_, X', Fr.snoc X' N ha, e', hx, hZ, hby, hml, hown, hret, hlk, hsz⟩ W).goo q
theorem s_new (A : On l Z n0 own bytes maxL ret R p e s m args below meth c T h k n) {index ns : Nat} {C : String} (w0 : (Cond.classLink own index C).before a0 Z = true) (wi : (Cond.instantiable C ns).before a0 Z = true) (wz : (Cond.initialized C).before a0 Z = true) (hc : k + 1 ≤ R.cells) (hs : n + ns ≤ R.slots) (hd : decode bytes pc = .ok (.new index, 3)) (hp : pc + 3 = pc') (K : ∀ T' h' b, On l Z n0 own bytes maxL ret R p e s m args below meth c T' h' (k + 1) (n + ns) → h.size = b → n0 ≤ b → Ext h h' → Exa Z h' b C → (∀ {O nm d : String} {ty : FieldType}, Laid Z a0 C O nm d → parseFieldDescriptor d = some ty → Fld Z h' b O nm d (defaultValue ty)) → Wp p e below s n0 ck cs Q (T'.setTop (mkF m pc' Ls (.ref b :: st)))) : Wp p e below s n0 ck cs Q (T.setTop (mkF m pc Ls st)) := by
  obtain ⟨locs, X, N, eT, hx, hZ, hby, hml, hown, hret, hlk, hsz⟩ := A
  subst hp
  obtain ⟨T', h', X', e', E, A', D, -, q⟩ := newO X hx hZ hown w0 wi wz eT (g := mkF m pc Ls st) rfl (hb hby hd) hc hs
  have hz : n0 ≤ h.size := by rw [← eT]; exact Nat.le_trans hsz X.same.2.1
  exact (K T' h' _ ⟨_, X', N, e', hx, hZ, hby, hml, hown, hret, hlk, hsz⟩ rfl hz E A' D).goo q
theorem s_newarray (A : On l Z n0 own bytes maxL ret R p e s m args below meth c T h k n) {aty : ArrayType} {dv : Value} {z : Int32} {i cap : Nat} (hty : newarray.typeOf aty = ty) (hdv : defaultValue ty = dv) (wa : (Cond.arrayClass ty).before a0 Z = true) (hz : z.toInt = (i : Int)) (hcap : i ≤ cap) (hbig : cap * 8 ≤ 536870912) (hc : k + 1 ≤ R.cells) (hs : n + cap ≤ R.slots) (hd : decode bytes pc = .ok (.newarray aty, 2)) (hp : pc + 2 = pc') (K : ∀ T' h' b, On l Z n0 own bytes maxL ret R p e s m args below meth c T' h' (k + 1) (n + cap) → h.size = b → n0 ≤ b → Ext h h' → AA Z h' b ty (List.replicate i dv) → Wp p e below s n0 ck cs Q (T'.setTop (mkF m pc' Ls (.ref b :: st)))) : Wp p e below s n0 ck cs Q (T.setTop (mkF m pc Ls (.int z :: st))) := by
  obtain ⟨locs, X, N, eT, hx, hZ, hby, hml, hown, hret, hlk, hsz⟩ := A
  subst hp
  subst hty hdv
  have z0 : ¬ z < 0 := by rw [Int32.lt_iff_toInt_lt, hz]; have : (0 : Int32).toInt = 0 := by decide
                          omega
  obtain ⟨T', h', cA, X', e', E, A', q⟩ := newP X hx hZ wa eT (g := mkF m pc Ls (.int z :: st)) rfl (hb hby hd) rfl z0 (cap := cap) (by rw [idx_ok hz]; exact hcap) hbig hc hs
  have hz' : n0 ≤ h.size := by rw [← eT]; exact Nat.le_trans hsz X.same.2.1
  exact (K T' h' _ ⟨_, X', N, e', hx, hZ, hby, hml, hown, hret, hlk, hsz⟩ rfl hz' E (AA.new A' hz)).goo q
theorem s_iastore (A : On l Z n0 own bytes maxL ret R p e s m args below meth c T h k n) {x : Int32} {j : Int32} {i : Nat} (V : AA Z h a .int vs) (hj : j.toInt = (i : Int)) (hi : i < vs.length) (ha : n0 ≤ a) (hd : decode bytes pc = .ok (.iastore, 1)) (hp : pc + 1 = pc') (K : ∀ T' h', On l Z n0 own bytes maxL ret R p e s m args below meth c T' h' k n → Wr h h' a i (.int x) → AA Z h' a .int (vs.set i (.int x)) → Wp p e below s n0 ck cs Q (T'.setTop (mkF m pc' Ls st))) : Wp p e below s n0 ck cs Q (T.setTop (mkF m pc Ls (.int x :: .int j :: .ref a :: st))) := by
  obtain ⟨locs, X, N, eT, hx, hZ, hby, hml, hown, hret, hlk, hsz⟩ := A
  subst hp
  have V0 := V
  obtain ⟨cl, Ar, r1, r2⟩ := V0
  obtain ⟨T', h', X', e', W, q⟩ := stI X hx hZ eT Ar (j := j) (idx_in' hj (by rw [r1]; simpa using hi)) (g := mkF m pc Ls (.int x :: .int j :: .ref a :: st)) rfl rfl (hb hby hd)
  have W' := W
  rw [idx_ok hj] at W'
  exact (K T' h' ⟨_, X', Fr.snoc X' N ha, e', hx, hZ, hby, hml, hown, hret, hlk, hsz⟩ W' (V.set W')).goo q
theorem s_iaload (A : On l Z n0 own bytes maxL ret R p e s m args below meth c T h k n) {j : Int32} {i : Nat} (V : AA Z h a .int vs) (hj : j.toInt = (i : Int)) (hv : vs[i]? = some v) (hd : decode bytes pc = .ok (.iaload, 1)) (hp : pc + 1 = pc') (K : Wp p e below s n0 ck cs Q (T.setTop (mkF m pc' Ls (v :: st)))) : Wp p e below s n0 ck cs Q (T.setTop (mkF m pc Ls (.int j :: .ref a :: st))) := by
  obtain ⟨locs, X, N, eT, hx, hZ, hby, hml, hown, hret, hlk, hsz⟩ := A
  subst hp
  obtain ⟨cl, Ar, r1, r2⟩ := V
  have hi : i < vs.length := (List.getElem?_eq_some_iff.mp hv).1
  exact K.goo fun t q => X.iaload hx (j := j) (v := v) (by rw [eT]; exact Ar.1) (State.isArrayOf_alike hZ.alike Ar.2.1) Ar.2.2 (idx_in' hj (by rw [r1]; simpa using hi)) (by rw [idx_ok hj, r1]; simpa using hv) (g := mkF m pc Ls (.int j :: .ref a :: st)) rfl rfl (hb hby hd) t q
theorem s_arraylength (A : On l Z n0 own bytes maxL ret R p e s m args below meth c T h k n) {z : Int32} (V : AA Z h a ty vs) (hz : z.toInt = (vs.length : Int)) (hd : decode bytes pc = .ok (.arraylength, 1)) (hp : pc + 1 = pc') (K : Wp p e below s n0 ck cs Q (T.setTop (mkF m pc' Ls (.int z :: st)))) : Wp p e below s n0 ck cs Q (T.setTop (mkF m pc Ls (.ref a :: st))) := by
  obtain ⟨locs, X, N, eT, hx, hZ, hby, hml, hown, hret, hlk, hsz⟩ := A
  subst hp
  obtain ⟨cl, Ar, r1, r2⟩ := V
  have q0 : cl.slots.size.toInt32 = z := by
    rw [r1]; apply Int32.toInt_inj.mp; rw [len_toInt (by simpa using r2), hz]; simp
  exact K.goo fun t q => X.arraylength hx (by rw [eT]; exact Ar.1) (State.isArrayOf_alike hZ.alike Ar.2.1) (g := mkF m pc Ls (.ref a :: st)) rfl rfl (hb hby hd) t (by rw [q0]; exact q)
theorem s_static (A : On l Z n0 own bytes maxL ret R p e s m args below meth c T h k n) {index : Nat} {y : MethodName} {bytes' : ByteArray} {maxL' : Nat} {ret' : Option FieldType} {rm : Room} {argsL rest : List Value} {Q' : Option Value → Heap → Prop} (M : Met l Z n0 y bytes' maxL' ret' rm argsL.toArray h Q') (wl : (Cond.methodLink own index y).before a0 Z = true) (ws : (Cond.static y).before a0 Z = true) (wz : (Cond.initialized y.cls).before a0 Z = true) (wc : (Cond.code y bytes' maxL' ret').before a0 Z = true) (hy : y.cls ≠ "java/lang/invoke/MethodHandle" ∧ y.cls ≠ "java/lang/invoke/VarHandle") {sig : MethodDescriptor} (hsig : parseMethodDescriptor y.desc = some sig) (hlen : argsL.length = sig.parameters.length) {W : Nat} (hf : rm.frames + 1 ≤ R.frames) (hl : W + (maxL' + 11) + rm.locals ≤ R.locals) (hW : (rest.map fun v => v.category).sum ≤ W) (hc : k + rm.cells ≤ R.cells) (hs : n + rm.slots ≤ R.slots) (hLs : Ls.size = maxL) {stk : List Value} (hst : stk = argsL.reverse ++ rest) (hd : decode bytes pc = .ok (.invokestatic index, 3)) (hp : pc + 3 = pc') (K : ∀ T' h' v, On l Z n0 own bytes maxL ret R p e s m args below meth c T' h' (k + rm.cells) (n + rm.slots) → Q' v h' → Wp p e below s n0 ck cs Q (T'.setTop (mkF m pc' Ls (v.toList ++ rest)))) : Wp p e below s n0 ck cs Q (T.setTop (mkF m pc Ls stk)) := by
  obtain ⟨locs, X, N, eT, hx, hZ, hby, hml, hown, hret, hlk, hsz⟩ := A
  subst hp
  obtain ⟨v, _, ⟨T', L', k', n'⟩, -, X', ⟨Lc, ⟨Nq, hQ⟩, l1, l2, l3⟩, q⟩ := Jvm.LawKit.callS X hx (y := y) hown (mvT hZ wl) (mvT hZ ws) (mvT hZ wz) (mvT hZ wc) hy (backOf (Q := fun v h L => Fr n0 L ∧ Q' v h) (W := W) (M []) hZ wc wz hf hl) (g := mkF m pc Ls stk) rfl (by rw [hml]; exact hLs) (argsL := argsL) (rest := rest) (lenOf hsig hlen) hst (by show 2 * 0 + _ ≤ _; simpa using hW) (hb hby hd) (fun _ _ => ⟨rfl, eT, hc, hs⟩)
  dsimp only [Pt.U, Pt.locs, Pt.cells, Pt.slots] at X' l1 l2 l3 q hQ Nq
  subst l1 l2 l3
  exact (K T' T'.heap v ⟨_, X', Fr.app N Nq, rfl, hx, hZ, hby, hml, hown, hret, hlk, hsz⟩ hQ).goo q
theorem s_virtual (A : On l Z n0 own bytes maxL ret R p e s m args below meth c T h k n) {index : Nat} {y : MethodName} {bytes' : ByteArray} {maxL' : Nat} {ret' : Option FieldType} {rm : Room} {argsL rest : List Value} {Q' : Option Value → Heap → Prop} {C : String} {z : MethodName} (E : Exa Z h b C) (M : Met l Z n0 z bytes' maxL' ret' rm (.ref b :: argsL).toArray h Q') (wl : (Cond.methodLink own index y).before a0 Z = true) (wd : (Cond.declares y).before a0 Z = true) (wn : ∀ (args : Array Value) (s : State), Z.Warmed39 s.vm → NotFace s y) (wsel : (Cond.selects C y z).before a0 Z = true) (wim : (Cond.instanceMethod z).before a0 Z = true) (wz : (Cond.initialized z.cls).before a0 Z = true) (wc : (Cond.code z bytes' maxL' ret').before a0 Z = true) (hy : y.cls ≠ "java/lang/invoke/MethodHandle" ∧ y.cls ≠ "java/lang/invoke/VarHandle") {sig : MethodDescriptor} (hsig : parseMethodDescriptor y.desc = some sig) (hlen : argsL.length = sig.parameters.length) {W : Nat} (hf : rm.frames + 1 ≤ R.frames) (hl : W + (maxL' + 11) + rm.locals ≤ R.locals) (hW : (rest.map fun v => v.category).sum ≤ W) (hc : k + rm.cells ≤ R.cells) (hs : n + rm.slots ≤ R.slots) (hLs : Ls.size = maxL) {stk : List Value} (hst : stk = argsL.reverse ++ .ref b :: rest) (hd : decode bytes pc = .ok (.invokevirtual index, 3)) (hp : pc + 3 = pc') (K : ∀ T' h' v, On l Z n0 own bytes maxL ret R p e s m args below meth c T' h' (k + rm.cells) (n + rm.slots) → Q' v h' → Wp p e below s n0 ck cs Q (T'.setTop (mkF m pc' Ls (v.toList ++ rest)))) : Wp p e below s n0 ck cs Q (T.setTop (mkF m pc Ls stk)) := by
  obtain ⟨locs, X, N, eT, hx, hZ, hby, hml, hown, hret, hlk, hsz⟩ := A
  subst hp
  obtain ⟨cq, kq, qa, qb, qc⟩ := isOf hZ eT E
  obtain ⟨v, _, ⟨T', L', k', n'⟩, -, X', ⟨Lc, ⟨Nq, hQ⟩, l1, l2, l3⟩, q⟩ := X.virtualBack hx (y := y) (z := z) hown (mvT hZ wl) (mvT hZ wd) (wn #[] s hZ) (mvT hZ wsel) (mvT hZ wim) hy (backOf (Q := fun v h L => Fr n0 L ∧ Q' v h) (W := W) (M []) hZ wc wz hf hl) qa qc (g := mkF m pc Ls stk) rfl (by rw [hml]; exact hLs) (Steps.refl _) (argsL := argsL) (rest := rest) (lenOf hsig hlen) hst (by show 2 * 0 + _ ≤ _; simpa using hW) (hb hby hd) (fun _ _ => ⟨rfl, eT, hc, hs⟩)
  dsimp only [Pt.U, Pt.locs, Pt.cells, Pt.slots] at X' l1 l2 l3 q hQ Nq
  subst l1 l2 l3
  exact (K T' T'.heap v ⟨_, X', Fr.app N Nq, rfl, hx, hZ, hby, hml, hown, hret, hlk, hsz⟩ hQ).goo (fun t r => q.trans r)
theorem nf_same {y : MethodName} {C : String} (wsel : (Cond.selects y.cls y y).before a0 Z = true) : ∀ (args : Array Value) (s : State), Z.Warmed39 s.vm → NotFace s y := fun args s hZ => notFace_of_selects (args := #[]) (mvT hZ wsel)
theorem s_special (A : On l Z n0 own bytes maxL ret R p e s m args below meth c T h k n) {index : Nat} {y : MethodName} {bytes' : ByteArray} {maxL' : Nat} {rm : Room} {argsL rest : List Value} {Q' : Option Value → Heap → Prop} (M : Met l Z n0 y bytes' maxL' none rm (.ref b :: argsL).toArray h Q') (hy1 : y.name = "<init>") (wl : (Cond.methodLink own index y).before a0 Z = true) (wim : (Cond.instanceMethod y).before a0 Z = true) (wz : (Cond.initialized y.cls).before a0 Z = true) (wc : (Cond.code y bytes' maxL' none).before a0 Z = true) (hy : y.cls ≠ "java/lang/invoke/MethodHandle" ∧ y.cls ≠ "java/lang/invoke/VarHandle") {sig : MethodDescriptor} (hsig : parseMethodDescriptor y.desc = some sig) (hlen : argsL.length = sig.parameters.length) {W : Nat} (hf : rm.frames + 1 ≤ R.frames) (hl : W + (maxL' + 11) + rm.locals ≤ R.locals) (hW : (rest.map fun v => v.category).sum ≤ W) (hc : k + rm.cells ≤ R.cells) (hs : n + rm.slots ≤ R.slots) (hLs : Ls.size = maxL) {stk : List Value} (hst : stk = argsL.reverse ++ .ref b :: rest) (hd : decode bytes pc = .ok (.invokespecial index, 3)) (hp : pc + 3 = pc') (K : ∀ T' h' v, On l Z n0 own bytes maxL ret R p e s m args below meth c T' h' (k + rm.cells) (n + rm.slots) → Q' v h' → Wp p e below s n0 ck cs Q (T'.setTop (mkF m pc' Ls (v.toList ++ rest)))) : Wp p e below s n0 ck cs Q (T.setTop (mkF m pc Ls stk)) := by
  obtain ⟨locs, X, N, eT, hx, hZ, hby, hml, hown, hret, hlk, hsz⟩ := A
  subst hp
  obtain ⟨v, _, ⟨T', L', k', n'⟩, -, X', ⟨Lc, ⟨Nq, hQ⟩, l1, l2, l3⟩, q⟩ := X.specialBack hx (y := y) hy1 hown (mvT hZ wl) (mvT hZ wim) (mvT hZ wc) hy (backOf (Q := fun v h L => Fr n0 L ∧ Q' v h) (W := W) (M []) hZ wc wz hf hl) (g := mkF m pc Ls stk) rfl (by rw [hml]; exact hLs) (Steps.refl _) (a := b) (argsL := argsL) (rest := rest) (lenOf hsig hlen) hst (by show 2 * 0 + _ ≤ _; simpa using hW) (hb hby hd) (fun _ _ => ⟨rfl, eT, hc, hs⟩)
  dsimp only [Pt.U, Pt.locs, Pt.cells, Pt.slots] at X' l1 l2 l3 q hQ Nq
  subst l1 l2 l3
  exact (K T' T'.heap v ⟨_, X', Fr.app N Nq, rfl, hx, hZ, hby, hml, hown, hret, hlk, hsz⟩ hQ).goo (fun t r => q.trans r)
theorem s_initO (A : On l Z n0 own bytes maxL ret R p e s m args below meth c T h k n) {index : Nat} (w1 : (Cond.methodLink own index Lib.objectInit).before a0 Z = true) (w2 : (Cond.instanceMethod Lib.objectInit).before a0 Z = true) (w3 : (Cond.code Lib.objectInit ⟨#[0xb1]⟩ 1 none).before a0 Z = true) {W : Nat} (hf : 1 ≤ R.frames) (hW : (st.map fun v => v.category).sum ≤ W) (hl : W + 12 ≤ R.locals) (hLs : Ls.size = maxL) (hd : decode bytes pc = .ok (.invokespecial index, 3)) (hp : pc + 3 = pc') (K : ∀ T', On l Z n0 own bytes maxL ret R p e s m args below meth c T' h k n → Wp p e below s n0 ck cs Q (T'.setTop (mkF m pc' Ls st))) : Wp p e below s n0 ck cs Q (T.setTop (mkF m pc Ls (.ref a :: st))) := by
  obtain ⟨locs, X, N, eT, hx, hZ, hby, hml, hown, hret, hlk, hsz⟩ := A
  subst hp
  obtain ⟨T', X', e', q⟩ := initO X hx hZ hown w1 w2 w3 eT (g := mkF m pc Ls (.ref a :: st)) rfl (by rw [hml]; exact hLs) rfl (hb hby hd) hf (W := W) (by show 2 * 0 + _ ≤ _; simpa using hW) hl
  exact (K T' ⟨_, X', N, e', hx, hZ, hby, hml, hown, hret, hlk, hsz⟩).goo q
theorem r_void (A : On l Z n0 own bytes maxL ret R p e s m args below meth c T h k n) (hr : ret = none) (hd : decode bytes pc = .ok (.return_, 1)) (hk : k ≤ ck) (hn : n ≤ cs) (q : Q none h) : Wp p e below s n0 ck cs Q (T.setTop (mkF m pc Ls [])) := by
  obtain ⟨locs, X, N, eT, hx, hZ, hby, hml, hown, hret, hlk, hsz⟩ := A
  have hR : meth.sig.returnType = none := hret.trans hr
  obtain ⟨fs, h1, hrun, hended, hW, hsame⟩ := X.leave (v := none) (fun _ => rfl) hlk
  exact ⟨_, _, X.returnOut hx hR (hb hby hd) h1, hrun, hended, _, _, rfl, ⟨N, by show Q none T.heap; rw [eT]; exact q⟩, ⟨_, rfl⟩, hW, hsame.mono hk hn⟩
theorem r_val (A : On l Z n0 own bytes maxL ret R p e s m args below meth c T h k n) {i : Instr} {t : FieldType} (hr : ret = some t) (hn0 : narrow t v = v) (hi : (i = .ireturn ∧ (t = .int ∨ t = .boolean ∨ t = .byte ∨ t = .char ∨ t = .short) ∧ ∃ z, v = .int z) ∨ (i = .lreturn ∧ t = .long ∧ ∃ z, v = .long z) ∨ (i = .dreturn ∧ t = .double ∧ ∃ z, v = .double z) ∨ (i = .freturn ∧ t = .float ∧ ∃ z, v = .float z) ∨ (i = .areturn ∧ t.isReference = true ∧ v.isRef = true)) (hd : decode bytes pc = .ok (i, 1)) (hk : k ≤ ck) (hn : n ≤ cs) (q : Q (some v) h) : Wp p e below s n0 ck cs Q (T.setTop (mkF m pc Ls (v :: st))) := by
  obtain ⟨locs, X, N, eT, hx, hZ, hby, hml, hown, hret, hlk, hsz⟩ := A
  have hR : meth.sig.returnType = some t := hret.trans hr
  obtain ⟨fs, h1, hrun, hended, hW, hsame⟩ := X.leave (v := some v) (fun z => by rw [hR] at z; cases z) hlk
  exact ⟨_, _, retOut X hx hR hn0 hi (hb hby hd) h1, hrun, hended, _, _, rfl, ⟨N, by show Q (some v) T.heap; rw [eT]; exact q⟩, ⟨_, rfl⟩, hW, hsame.mono hk hn⟩
theorem r_int (A : On l Z n0 own bytes maxL ret R p e s m args below meth c T h k n) {z : Int32} (hr : ret = some .int) (hd : decode bytes pc = .ok (.ireturn, 1)) (hk : k ≤ ck) (hn : n ≤ cs) (q : Q (some (.int z)) h) : Wp p e below s n0 ck cs Q (T.setTop (mkF m pc Ls (.int z :: st))) := r_val A hr rfl (Or.inl ⟨rfl, Or.inl rfl, _, rfl⟩) hd hk hn q
theorem r_bool (A : On l Z n0 own bytes maxL ret R p e s m args below meth c T h k n) {z : Int32} (hr : ret = some .boolean) (hz : z = 0 ∨ z = 1) (hd : decode bytes pc = .ok (.ireturn, 1)) (hk : k ≤ ck) (hn : n ≤ cs) (q : Q (some (.int z)) h) : Wp p e below s n0 ck cs Q (T.setTop (mkF m pc Ls (.int z :: st))) := r_val A hr (by rcases hz with rfl | rfl <;> rfl) (Or.inl ⟨rfl, Or.inr (Or.inl rfl), _, rfl⟩) hd hk hn q
theorem r_long (A : On l Z n0 own bytes maxL ret R p e s m args below meth c T h k n) {z : Int64} (hr : ret = some .long) (hd : decode bytes pc = .ok (.lreturn, 1)) (hk : k ≤ ck) (hn : n ≤ cs) (q : Q (some (.long z)) h) : Wp p e below s n0 ck cs Q (T.setTop (mkF m pc Ls (.long z :: st))) := r_val A hr rfl (Or.inr (Or.inl ⟨rfl, rfl, _, rfl⟩)) hd hk hn q
end Kit
end Jvm.Ow
namespace Jvm.Pilot.@@N@@
open Jvm Jvm.ClassFile Sem Op Lib Jvm.Free Jvm.Stand Jvm.LawKit Jvm.RoadKit Jvm.Ow Bundle Jvm.Pilot.@@N@@.Jvm.D
theorem d5_0 : decode method_2_code 0 = .ok (.iload_n 0, 1) := by decide +kernel
theorem d5_1 : decode method_2_code 1 = .ok (.iconst 2, 1) := by decide +kernel
theorem d5_2 : decode method_2_code 2 = .ok (.idiv, 1) := by decide +kernel
theorem d5_3 : decode method_2_code 3 = .ok (.istore_n 2, 1) := by decide +kernel
theorem d5_4 : decode method_2_code 4 = .ok (.iload_n 1, 1) := by decide +kernel
theorem d5_5 : decode method_2_code 5 = .ok (.ifCond .ne 5, 3) := by decide +kernel
theorem d5_8 : decode method_2_code 8 = .ok (.iload_n 2, 1) := by decide +kernel
theorem d5_9 : decode method_2_code 9 = .ok (.ireturn, 1) := by decide +kernel
theorem d5_10 : decode method_2_code 10 = .ok (.iload_n 2, 1) := by decide +kernel
theorem d5_11 : decode method_2_code 11 = .ok (.ifCond .ne 7, 3) := by decide +kernel
theorem d5_14 : decode method_2_code 14 = .ok (.iconst 1, 1) := by decide +kernel
theorem d5_15 : decode method_2_code 15 = .ok (.goto 4, 3) := by decide +kernel
theorem d5_19 : decode method_2_code 19 = .ok (.istore_n 3, 1) := by decide +kernel
theorem d5_20 : decode method_2_code 20 = .ok (.iload_n 2, 1) := by decide +kernel
theorem d5_21 : decode method_2_code 21 = .ok (.iconst 2, 1) := by decide +kernel
theorem d5_22 : decode method_2_code 22 = .ok (.if_icmp .ne 7, 3) := by decide +kernel
theorem d5_25 : decode method_2_code 25 = .ok (.iconst 1, 1) := by decide +kernel
theorem d5_26 : decode method_2_code 26 = .ok (.goto 4, 3) := by decide +kernel
theorem d5_30 : decode method_2_code 30 = .ok (.istore 4, 2) := by decide +kernel
theorem d5_32 : decode method_2_code 32 = .ok (.iload_n 1, 1) := by decide +kernel
theorem d5_33 : decode method_2_code 33 = .ok (.iconst 1, 1) := by decide +kernel
theorem d5_34 : decode method_2_code 34 = .ok (.if_icmp .ne 16, 3) := by decide +kernel
theorem d5_37 : decode method_2_code 37 = .ok (.iload_n 0, 1) := by decide +kernel
theorem d5_38 : decode method_2_code 38 = .ok (.iconst 2, 1) := by decide +kernel
theorem d5_39 : decode method_2_code 39 = .ok (.irem, 1) := by decide +kernel
theorem d5_40 : decode method_2_code 40 = .ok (.ifCond .ne 7, 3) := by decide +kernel
theorem d5_43 : decode method_2_code 43 = .ok (.iload_n 3, 1) := by decide +kernel
theorem d5_44 : decode method_2_code 44 = .ok (.goto 5, 3) := by decide +kernel
theorem d5_49 : decode method_2_code 49 = .ok (.ireturn, 1) := by decide +kernel
theorem d5_47 : decode method_2_code 47 = .ok (.iload 4, 2) := by decide +kernel
theorem d5_50 : decode method_2_code 50 = .ok (.iload_n 0, 1) := by decide +kernel
theorem d5_51 : decode method_2_code 51 = .ok (.iconst 2, 1) := by decide +kernel
theorem d5_52 : decode method_2_code 52 = .ok (.irem, 1) := by decide +kernel
theorem d5_53 : decode method_2_code 53 = .ok (.ifCond .ne 8, 3) := by decide +kernel
theorem d5_56 : decode method_2_code 56 = .ok (.iload 4, 2) := by decide +kernel
theorem d5_58 : decode method_2_code 58 = .ok (.goto 4, 3) := by decide +kernel
theorem d5_62 : decode method_2_code 62 = .ok (.ireturn, 1) := by decide +kernel
theorem d5_61 : decode method_2_code 61 = .ok (.iload_n 3, 1) := by decide +kernel
theorem d5_29 : decode method_2_code 29 = .ok (.iconst 2, 1) := by decide +kernel
theorem d5_18 : decode method_2_code 18 = .ok (.iconst 0, 1) := by decide +kernel
abbrev y0_idx : MethodName := ⟨"com/example/wirefram/wirefram/sequence/BeginOrderRemovePinLaw", "idx", "(II)I"⟩
theorem pn_com_example_wirefram_wirefram_sequence_BeginOrderRemovePinLaw : plainName "com/example/wirefram/wirefram/sequence/BeginOrderRemovePinLaw" = true := by first | (simp [plainName, overriddenIn]; done) | decide +kernel
abbrev c0_BeginOrderRemovePinLaw : String := "com/example/wirefram/wirefram/sequence/BeginOrderRemovePinLaw"
theorem d7_0 : decode method_3_code 0 = .ok (.iload_n 1, 1) := by decide +kernel
theorem d7_1 : decode method_3_code 1 = .ok (.ifCond .le 12, 3) := by decide +kernel
theorem d7_4 : decode method_3_code 4 = .ok (.iload_n 0, 1) := by decide +kernel
theorem d7_5 : decode method_3_code 5 = .ok (.iconst 0, 1) := by decide +kernel
theorem d7_6 : decode method_3_code 6 = .ok (.invokestatic 7, 3) := by decide +kernel
theorem w28 {Z : State} {a0 : Array Value} (hw : ∀ d ∈ tables_1, d.before a0 Z = true) : (Jvm.Cond.methodLink "com/example/wirefram/wirefram/sequence/BeginOrderRemovePinLaw" (7 : Nat) ({ cls := "com/example/wirefram/wirefram/sequence/BeginOrderRemovePinLaw", name := "idx", desc := "(II)I" } : Jvm.MethodName)).before a0 Z = true := hw _ (List.mem_of_getElem? (i := 28) rfl)
theorem pd__II_I : parseMethodDescriptor "(II)I" = some ⟨[.int, .int], some .int⟩ := by decide +kernel
theorem w30 {Z : State} {a0 : Array Value} (hw : ∀ d ∈ tables_1, d.before a0 Z = true) : (Jvm.Cond.initialized "com/example/wirefram/wirefram/sequence/BeginOrderRemovePinLaw").before a0 Z = true := hw _ (List.mem_of_getElem? (i := 30) rfl)
theorem w31 {Z : State} {a0 : Array Value} (hw : ∀ d ∈ tables_1, d.before a0 Z = true) : (Jvm.Cond.code ({ cls := "com/example/wirefram/wirefram/sequence/BeginOrderRemovePinLaw", name := "idx", desc := "(II)I" } : Jvm.MethodName) method_2_code (5 : Nat) (Option.some Jvm.ClassFile.FieldType.int)).before a0 Z = true := hw _ (List.mem_of_getElem? (i := 31) rfl)
theorem w29 {Z : State} {a0 : Array Value} (hw : ∀ d ∈ tables_1, d.before a0 Z = true) : (Jvm.Cond.static ({ cls := "com/example/wirefram/wirefram/sequence/BeginOrderRemovePinLaw", name := "idx", desc := "(II)I" } : Jvm.MethodName)).before a0 Z = true := hw _ (List.mem_of_getElem? (i := 29) rfl)
theorem d7_9 : decode method_3_code 9 = .ok (.iload_n 2, 1) := by decide +kernel
theorem d7_10 : decode method_3_code 10 = .ok (.if_icmp .eq 31, 3) := by decide +kernel
theorem d7_41 : decode method_3_code 41 = .ok (.iconst 1, 1) := by decide +kernel
theorem d7_42 : decode method_3_code 42 = .ok (.goto 4, 3) := by decide +kernel
theorem d7_46 : decode method_3_code 46 = .ok (.ireturn, 1) := by decide +kernel
theorem d7_13 : decode method_3_code 13 = .ok (.iload_n 1, 1) := by decide +kernel
theorem d7_14 : decode method_3_code 14 = .ok (.iconst 1, 1) := by decide +kernel
theorem d7_15 : decode method_3_code 15 = .ok (.if_icmp .le 12, 3) := by decide +kernel
theorem d7_18 : decode method_3_code 18 = .ok (.iload_n 0, 1) := by decide +kernel
theorem d7_19 : decode method_3_code 19 = .ok (.iconst 1, 1) := by decide +kernel
theorem d7_20 : decode method_3_code 20 = .ok (.invokestatic 7, 3) := by decide +kernel
theorem d7_23 : decode method_3_code 23 = .ok (.iload_n 2, 1) := by decide +kernel
theorem d7_24 : decode method_3_code 24 = .ok (.if_icmp .eq 17, 3) := by decide +kernel
theorem d7_27 : decode method_3_code 27 = .ok (.iload_n 1, 1) := by decide +kernel
theorem d7_28 : decode method_3_code 28 = .ok (.iconst 2, 1) := by decide +kernel
theorem d7_29 : decode method_3_code 29 = .ok (.if_icmp .le 16, 3) := by decide +kernel
theorem d7_32 : decode method_3_code 32 = .ok (.iload_n 0, 1) := by decide +kernel
theorem d7_33 : decode method_3_code 33 = .ok (.iconst 2, 1) := by decide +kernel
theorem d7_34 : decode method_3_code 34 = .ok (.invokestatic 7, 3) := by decide +kernel
theorem d7_37 : decode method_3_code 37 = .ok (.iload_n 2, 1) := by decide +kernel
theorem d7_38 : decode method_3_code 38 = .ok (.if_icmp .ne 7, 3) := by decide +kernel
theorem d7_45 : decode method_3_code 45 = .ok (.iconst 0, 1) := by decide +kernel
abbrev y1_removed : MethodName := ⟨"com/example/wirefram/wirefram/sequence/BeginOrderRemovePinLaw", "removed", "(III)Z"⟩
theorem w0 {Z : State} {a0 : Array Value} (hw : ∀ d ∈ tables_1, d.before a0 Z = true) : (Jvm.Cond.constant "com/example/wirefram/wirefram/sequence/BeginOrderRemovePinLaw" (13 : Nat) (2147483647 : Int32)).before a0 Z = true := hw _ (List.mem_of_getElem? (i := 0) rfl)
theorem w1 {Z : State} {a0 : Array Value} (hw : ∀ d ∈ tables_1, d.before a0 Z = true) : (Jvm.Cond.classLink "com/example/wirefram/wirefram/sequence/BeginOrderRemovePinLaw" (14 : Nat) "com/example/wirefram/wirefram/sequence/BeginOrder").before a0 Z = true := hw _ (List.mem_of_getElem? (i := 1) rfl)
theorem w2 {Z : State} {a0 : Array Value} (hw : ∀ d ∈ tables_1, d.before a0 Z = true) : (Jvm.Cond.instantiable "com/example/wirefram/wirefram/sequence/BeginOrder" (3 : Nat)).before a0 Z = true := hw _ (List.mem_of_getElem? (i := 2) rfl)
theorem w3 {Z : State} {a0 : Array Value} (hw : ∀ d ∈ tables_1, d.before a0 Z = true) : (Jvm.Cond.initialized "com/example/wirefram/wirefram/sequence/BeginOrder").before a0 Z = true := hw _ (List.mem_of_getElem? (i := 3) rfl)
theorem w12 {Z : State} {a0 : Array Value} (hw : ∀ d ∈ tables_1, d.before a0 Z = true) : (Jvm.Cond.lays "com/example/wirefram/wirefram/sequence/BeginOrder" "com/example/wirefram/wirefram/sequence/BeginOrder" "ring" "[I").before a0 Z = true := hw _ (List.mem_of_getElem? (i := 12) rfl)
theorem w19 {Z : State} {a0 : Array Value} (hw : ∀ d ∈ tables_1, d.before a0 Z = true) : (Jvm.Cond.lays "com/example/wirefram/wirefram/sequence/BeginOrder" "com/example/wirefram/wirefram/sequence/BeginOrder" "first" "J").before a0 Z = true := hw _ (List.mem_of_getElem? (i := 19) rfl)
theorem w21 {Z : State} {a0 : Array Value} (hw : ∀ d ∈ tables_1, d.before a0 Z = true) : (Jvm.Cond.lays "com/example/wirefram/wirefram/sequence/BeginOrder" "com/example/wirefram/wirefram/sequence/BeginOrder" "next" "J").before a0 Z = true := hw _ (List.mem_of_getElem? (i := 21) rfl)
theorem w4 {Z : State} {a0 : Array Value} (hw : ∀ d ∈ tables_1, d.before a0 Z = true) : (Jvm.Cond.methodLink "com/example/wirefram/wirefram/sequence/BeginOrderRemovePinLaw" (16 : Nat) ({ cls := "com/example/wirefram/wirefram/sequence/BeginOrder", name := "<init>", desc := "()V" } : Jvm.MethodName)).before a0 Z = true := hw _ (List.mem_of_getElem? (i := 4) rfl)
theorem d1_0 : decode prog_63_method_1_code 0 = .ok (.aload_n 0, 1) := by decide +kernel
theorem d1_1 : decode prog_63_method_1_code 1 = .ok (.invokespecial 1, 3) := by decide +kernel
theorem w7 {Z : State} {a0 : Array Value} (hw : ∀ d ∈ tables_1, d.before a0 Z = true) : (Jvm.Cond.methodLink "com/example/wirefram/wirefram/sequence/BeginOrder" (1 : Nat) ({ cls := "java/lang/Object", name := "<init>", desc := "()V" } : Jvm.MethodName)).before a0 Z = true := hw _ (List.mem_of_getElem? (i := 7) rfl)
theorem w8 {Z : State} {a0 : Array Value} (hw : ∀ d ∈ tables_1, d.before a0 Z = true) : (Jvm.Cond.instanceMethod ({ cls := "java/lang/Object", name := "<init>", desc := "()V" } : Jvm.MethodName)).before a0 Z = true := hw _ (List.mem_of_getElem? (i := 8) rfl)
theorem w9 {Z : State} {a0 : Array Value} (hw : ∀ d ∈ tables_1, d.before a0 Z = true) : (Jvm.Cond.code ({ cls := "java/lang/Object", name := "<init>", desc := "()V" } : Jvm.MethodName) object_method_1_code (1 : Nat) (Option.none : Option Jvm.ClassFile.FieldType)).before a0 Z = true := hw _ (List.mem_of_getElem? (i := 9) rfl)
theorem d1_4 : decode prog_63_method_1_code 4 = .ok (.aload_n 0, 1) := by decide +kernel
theorem d1_5 : decode prog_63_method_1_code 5 = .ok (.iconst 4, 1) := by decide +kernel
theorem d1_6 : decode prog_63_method_1_code 6 = .ok (.newarray .int, 2) := by decide +kernel
theorem w10 {Z : State} {a0 : Array Value} (hw : ∀ d ∈ tables_1, d.before a0 Z = true) : (Jvm.Cond.arrayClass Jvm.ClassFile.FieldType.int).before a0 Z = true := hw _ (List.mem_of_getElem? (i := 10) rfl)
theorem d1_8 : decode prog_63_method_1_code 8 = .ok (.putfield 7, 3) := by decide +kernel
theorem w11 {Z : State} {a0 : Array Value} (hw : ∀ d ∈ tables_1, d.before a0 Z = true) : (Jvm.Cond.fieldLink "com/example/wirefram/wirefram/sequence/BeginOrder" (7 : Nat) "com/example/wirefram/wirefram/sequence/BeginOrder" "ring" "[I").before a0 Z = true := hw _ (List.mem_of_getElem? (i := 11) rfl)
theorem d1_11 : decode prog_63_method_1_code 11 = .ok (.return_, 1) := by decide +kernel
theorem sn_BeginOrder_first_ring {Z : State} {a0 : Array Value} (hw : ∀ d ∈ tables_1, d.before a0 Z = true) : Jvm.RoadKit.slotOf Z "com/example/wirefram/wirefram/sequence/BeginOrder" "first" "J" ≠ Jvm.RoadKit.slotOf Z "com/example/wirefram/wirefram/sequence/BeginOrder" "ring" "[I" := slot_ne (a0 := a0) (C := "com/example/wirefram/wirefram/sequence/BeginOrder") (Or.inl (w19 hw)) (Or.inl (w12 hw)) (by decide) (t := .long) (t' := (.array .int)) (by decide) (by decide)
theorem sn_BeginOrder_next_ring {Z : State} {a0 : Array Value} (hw : ∀ d ∈ tables_1, d.before a0 Z = true) : Jvm.RoadKit.slotOf Z "com/example/wirefram/wirefram/sequence/BeginOrder" "next" "J" ≠ Jvm.RoadKit.slotOf Z "com/example/wirefram/wirefram/sequence/BeginOrder" "ring" "[I" := slot_ne (a0 := a0) (C := "com/example/wirefram/wirefram/sequence/BeginOrder") (Or.inl (w21 hw)) (Or.inl (w12 hw)) (by decide) (t := .long) (t' := (.array .int)) (by decide) (by decide)
abbrev y2_init : MethodName := ⟨"com/example/wirefram/wirefram/sequence/BeginOrder", "<init>", "()V"⟩
theorem pn_com_example_wirefram_wirefram_sequence_BeginOrder : plainName "com/example/wirefram/wirefram/sequence/BeginOrder" = true := by first | (simp [plainName, overriddenIn]; done) | decide +kernel
abbrev c1_BeginOrder : String := "com/example/wirefram/wirefram/sequence/BeginOrder"
theorem pd___V : parseMethodDescriptor "()V" = some ⟨[], none⟩ := by decide +kernel
theorem w6 {Z : State} {a0 : Array Value} (hw : ∀ d ∈ tables_1, d.before a0 Z = true) : (Jvm.Cond.code ({ cls := "com/example/wirefram/wirefram/sequence/BeginOrder", name := "<init>", desc := "()V" } : Jvm.MethodName) prog_63_method_1_code (1 : Nat) (Option.none : Option Jvm.ClassFile.FieldType)).before a0 Z = true := hw _ (List.mem_of_getElem? (i := 6) rfl)
theorem w5 {Z : State} {a0 : Array Value} (hw : ∀ d ∈ tables_1, d.before a0 Z = true) : (Jvm.Cond.instanceMethod ({ cls := "com/example/wirefram/wirefram/sequence/BeginOrder", name := "<init>", desc := "()V" } : Jvm.MethodName)).before a0 Z = true := hw _ (List.mem_of_getElem? (i := 5) rfl)
theorem w13 {Z : State} {a0 : Array Value} (hw : ∀ d ∈ tables_1, d.before a0 Z = true) : (Jvm.Cond.methodLink "com/example/wirefram/wirefram/sequence/BeginOrderRemovePinLaw" (25 : Nat) ({ cls := "com/example/wirefram/wirefram/sequence/BeginOrder", name := "isEmpty", desc := "()Z" } : Jvm.MethodName)).before a0 Z = true := hw _ (List.mem_of_getElem? (i := 13) rfl)
theorem d3_0 : decode prog_63_method_4_code 0 = .ok (.aload_n 0, 1) := by decide +kernel
theorem d3_1 : decode prog_63_method_4_code 1 = .ok (.getfield 17, 3) := by decide +kernel
theorem w18 {Z : State} {a0 : Array Value} (hw : ∀ d ∈ tables_1, d.before a0 Z = true) : (Jvm.Cond.fieldLink "com/example/wirefram/wirefram/sequence/BeginOrder" (17 : Nat) "com/example/wirefram/wirefram/sequence/BeginOrder" "first" "J").before a0 Z = true := hw _ (List.mem_of_getElem? (i := 18) rfl)
theorem d3_4 : decode prog_63_method_4_code 4 = .ok (.aload_n 0, 1) := by decide +kernel
theorem d3_5 : decode prog_63_method_4_code 5 = .ok (.getfield 13, 3) := by decide +kernel
theorem w20 {Z : State} {a0 : Array Value} (hw : ∀ d ∈ tables_1, d.before a0 Z = true) : (Jvm.Cond.fieldLink "com/example/wirefram/wirefram/sequence/BeginOrder" (13 : Nat) "com/example/wirefram/wirefram/sequence/BeginOrder" "next" "J").before a0 Z = true := hw _ (List.mem_of_getElem? (i := 20) rfl)
theorem d3_8 : decode prog_63_method_4_code 8 = .ok (.lcmp, 1) := by decide +kernel
theorem d3_9 : decode prog_63_method_4_code 9 = .ok (.ifCond .ne 7, 3) := by decide +kernel
theorem d3_12 : decode prog_63_method_4_code 12 = .ok (.iconst 1, 1) := by decide +kernel
theorem d3_13 : decode prog_63_method_4_code 13 = .ok (.goto 4, 3) := by decide +kernel
theorem d3_17 : decode prog_63_method_4_code 17 = .ok (.ireturn, 1) := by decide +kernel
abbrev y3_isEmpty : MethodName := ⟨"com/example/wirefram/wirefram/sequence/BeginOrder", "isEmpty", "()Z"⟩
theorem pd___Z : parseMethodDescriptor "()Z" = some ⟨[], some .boolean⟩ := by decide +kernel
theorem w17 {Z : State} {a0 : Array Value} (hw : ∀ d ∈ tables_1, d.before a0 Z = true) : (Jvm.Cond.code ({ cls := "com/example/wirefram/wirefram/sequence/BeginOrder", name := "isEmpty", desc := "()Z" } : Jvm.MethodName) prog_63_method_4_code (1 : Nat) (Option.some Jvm.ClassFile.FieldType.boolean)).before a0 Z = true := hw _ (List.mem_of_getElem? (i := 17) rfl)
theorem w16 {Z : State} {a0 : Array Value} (hw : ∀ d ∈ tables_1, d.before a0 Z = true) : (Jvm.Cond.selects "com/example/wirefram/wirefram/sequence/BeginOrder" ({ cls := "com/example/wirefram/wirefram/sequence/BeginOrder", name := "isEmpty", desc := "()Z" } : Jvm.MethodName) ({ cls := "com/example/wirefram/wirefram/sequence/BeginOrder", name := "isEmpty", desc := "()Z" } : Jvm.MethodName)).before a0 Z = true := hw _ (List.mem_of_getElem? (i := 16) rfl)
theorem w14 {Z : State} {a0 : Array Value} (hw : ∀ d ∈ tables_1, d.before a0 Z = true) : (Jvm.Cond.declares ({ cls := "com/example/wirefram/wirefram/sequence/BeginOrder", name := "isEmpty", desc := "()Z" } : Jvm.MethodName)).before a0 Z = true := hw _ (List.mem_of_getElem? (i := 14) rfl)
theorem w15 {Z : State} {a0 : Array Value} (hw : ∀ d ∈ tables_1, d.before a0 Z = true) : (Jvm.Cond.instanceMethod ({ cls := "com/example/wirefram/wirefram/sequence/BeginOrder", name := "isEmpty", desc := "()Z" } : Jvm.MethodName)).before a0 Z = true := hw _ (List.mem_of_getElem? (i := 15) rfl)
theorem w22 {Z : State} {a0 : Array Value} (hw : ∀ d ∈ tables_1, d.before a0 Z = true) : (Jvm.Cond.methodLink "com/example/wirefram/wirefram/sequence/BeginOrderRemovePinLaw" (17 : Nat) ({ cls := "com/example/wirefram/wirefram/sequence/BeginOrder", name := "add", desc := "(I)J" } : Jvm.MethodName)).before a0 Z = true := hw _ (List.mem_of_getElem? (i := 22) rfl)
theorem d4_0 : decode prog_63_method_2_code 0 = .ok (.aload_n 0, 1) := by decide +kernel
theorem d4_1 : decode prog_63_method_2_code 1 = .ok (.getfield 13, 3) := by decide +kernel
theorem d4_4 : decode prog_63_method_2_code 4 = .ok (.aload_n 0, 1) := by decide +kernel
theorem d4_5 : decode prog_63_method_2_code 5 = .ok (.getfield 17, 3) := by decide +kernel
theorem d4_8 : decode prog_63_method_2_code 8 = .ok (.lsub, 1) := by decide +kernel
theorem d4_9 : decode prog_63_method_2_code 9 = .ok (.aload_n 0, 1) := by decide +kernel
theorem d4_10 : decode prog_63_method_2_code 10 = .ok (.getfield 7, 3) := by decide +kernel
theorem d4_13 : decode prog_63_method_2_code 13 = .ok (.arraylength, 1) := by decide +kernel
theorem d4_14 : decode prog_63_method_2_code 14 = .ok (.i2l, 1) := by decide +kernel
theorem d4_15 : decode prog_63_method_2_code 15 = .ok (.lcmp, 1) := by decide +kernel
theorem d4_16 : decode prog_63_method_2_code 16 = .ok (.ifCond .ne 7, 3) := by decide +kernel
theorem d4_23 : decode prog_63_method_2_code 23 = .ok (.aload_n 0, 1) := by decide +kernel
theorem d4_24 : decode prog_63_method_2_code 24 = .ok (.getfield 7, 3) := by decide +kernel
theorem d4_27 : decode prog_63_method_2_code 27 = .ok (.aload_n 0, 1) := by decide +kernel
theorem d4_28 : decode prog_63_method_2_code 28 = .ok (.getfield 13, 3) := by decide +kernel
theorem d4_31 : decode prog_63_method_2_code 31 = .ok (.l2i, 1) := by decide +kernel
theorem d4_32 : decode prog_63_method_2_code 32 = .ok (.aload_n 0, 1) := by decide +kernel
theorem d4_33 : decode prog_63_method_2_code 33 = .ok (.getfield 7, 3) := by decide +kernel
theorem d4_36 : decode prog_63_method_2_code 36 = .ok (.arraylength, 1) := by decide +kernel
theorem d4_37 : decode prog_63_method_2_code 37 = .ok (.iconst 1, 1) := by decide +kernel
theorem d4_38 : decode prog_63_method_2_code 38 = .ok (.isub, 1) := by decide +kernel
theorem d4_39 : decode prog_63_method_2_code 39 = .ok (.iand, 1) := by decide +kernel
theorem d4_40 : decode prog_63_method_2_code 40 = .ok (.iload_n 1, 1) := by decide +kernel
theorem d4_41 : decode prog_63_method_2_code 41 = .ok (.iconst 1, 1) := by decide +kernel
theorem d4_42 : decode prog_63_method_2_code 42 = .ok (.iadd, 1) := by decide +kernel
theorem d4_43 : decode prog_63_method_2_code 43 = .ok (.iastore, 1) := by decide +kernel
theorem d4_44 : decode prog_63_method_2_code 44 = .ok (.aload_n 0, 1) := by decide +kernel
theorem d4_45 : decode prog_63_method_2_code 45 = .ok (.dup, 1) := by decide +kernel
theorem d4_46 : decode prog_63_method_2_code 46 = .ok (.getfield 13, 3) := by decide +kernel
theorem d4_49 : decode prog_63_method_2_code 49 = .ok (.dup2_x1, 1) := by decide +kernel
theorem d4_50 : decode prog_63_method_2_code 50 = .ok (.lconst 1, 1) := by decide +kernel
theorem d4_51 : decode prog_63_method_2_code 51 = .ok (.ladd, 1) := by decide +kernel
theorem d4_52 : decode prog_63_method_2_code 52 = .ok (.putfield 13, 3) := by decide +kernel
theorem d4_55 : decode prog_63_method_2_code 55 = .ok (.lreturn, 1) := by decide +kernel
theorem sn_BeginOrder_ring_next {Z : State} {a0 : Array Value} (hw : ∀ d ∈ tables_1, d.before a0 Z = true) : Jvm.RoadKit.slotOf Z "com/example/wirefram/wirefram/sequence/BeginOrder" "ring" "[I" ≠ Jvm.RoadKit.slotOf Z "com/example/wirefram/wirefram/sequence/BeginOrder" "next" "J" := slot_ne (a0 := a0) (C := "com/example/wirefram/wirefram/sequence/BeginOrder") (Or.inl (w12 hw)) (Or.inl (w21 hw)) (by decide) (t := (.array .int)) (t' := .long) (by decide) (by decide)
theorem sn_BeginOrder_first_next {Z : State} {a0 : Array Value} (hw : ∀ d ∈ tables_1, d.before a0 Z = true) : Jvm.RoadKit.slotOf Z "com/example/wirefram/wirefram/sequence/BeginOrder" "first" "J" ≠ Jvm.RoadKit.slotOf Z "com/example/wirefram/wirefram/sequence/BeginOrder" "next" "J" := slot_ne (a0 := a0) (C := "com/example/wirefram/wirefram/sequence/BeginOrder") (Or.inl (w19 hw)) (Or.inl (w21 hw)) (by decide) (t := .long) (t' := .long) (by decide) (by decide)
abbrev y4_add : MethodName := ⟨"com/example/wirefram/wirefram/sequence/BeginOrder", "add", "(I)J"⟩
theorem pd__I_J : parseMethodDescriptor "(I)J" = some ⟨[.int], some .long⟩ := by decide +kernel
theorem w26 {Z : State} {a0 : Array Value} (hw : ∀ d ∈ tables_1, d.before a0 Z = true) : (Jvm.Cond.code ({ cls := "com/example/wirefram/wirefram/sequence/BeginOrder", name := "add", desc := "(I)J" } : Jvm.MethodName) prog_63_method_2_code (2 : Nat) (Option.some Jvm.ClassFile.FieldType.long)).before a0 Z = true := hw _ (List.mem_of_getElem? (i := 26) rfl)
theorem w25 {Z : State} {a0 : Array Value} (hw : ∀ d ∈ tables_1, d.before a0 Z = true) : (Jvm.Cond.selects "com/example/wirefram/wirefram/sequence/BeginOrder" ({ cls := "com/example/wirefram/wirefram/sequence/BeginOrder", name := "add", desc := "(I)J" } : Jvm.MethodName) ({ cls := "com/example/wirefram/wirefram/sequence/BeginOrder", name := "add", desc := "(I)J" } : Jvm.MethodName)).before a0 Z = true := hw _ (List.mem_of_getElem? (i := 25) rfl)
theorem w23 {Z : State} {a0 : Array Value} (hw : ∀ d ∈ tables_1, d.before a0 Z = true) : (Jvm.Cond.declares ({ cls := "com/example/wirefram/wirefram/sequence/BeginOrder", name := "add", desc := "(I)J" } : Jvm.MethodName)).before a0 Z = true := hw _ (List.mem_of_getElem? (i := 23) rfl)
theorem w24 {Z : State} {a0 : Array Value} (hw : ∀ d ∈ tables_1, d.before a0 Z = true) : (Jvm.Cond.instanceMethod ({ cls := "com/example/wirefram/wirefram/sequence/BeginOrder", name := "add", desc := "(I)J" } : Jvm.MethodName)).before a0 Z = true := hw _ (List.mem_of_getElem? (i := 24) rfl)
theorem w27 {Z : State} {a0 : Array Value} (hw : ∀ d ∈ tables_1, d.before a0 Z = true) : (Jvm.Cond.constantLong "com/example/wirefram/wirefram/sequence/BeginOrderRemovePinLaw" (29 : Nat) (2 : Int64)).before a0 Z = true := hw _ (List.mem_of_getElem? (i := 27) rfl)
theorem w37 {Z : State} {a0 : Array Value} (hw : ∀ d ∈ tables_1, d.before a0 Z = true) : (Jvm.Cond.methodLink "com/example/wirefram/wirefram/sequence/BeginOrderRemovePinLaw" (31 : Nat) ({ cls := "com/example/wirefram/wirefram/sequence/BeginOrderRemovePinLaw", name := "removed", desc := "(III)Z" } : Jvm.MethodName)).before a0 Z = true := hw _ (List.mem_of_getElem? (i := 37) rfl)
theorem pd__III_Z : parseMethodDescriptor "(III)Z" = some ⟨[.int, .int, .int], some .boolean⟩ := by decide +kernel
theorem w39 {Z : State} {a0 : Array Value} (hw : ∀ d ∈ tables_1, d.before a0 Z = true) : (Jvm.Cond.code ({ cls := "com/example/wirefram/wirefram/sequence/BeginOrderRemovePinLaw", name := "removed", desc := "(III)Z" } : Jvm.MethodName) method_3_code (3 : Nat) (Option.some Jvm.ClassFile.FieldType.boolean)).before a0 Z = true := hw _ (List.mem_of_getElem? (i := 39) rfl)
theorem w38 {Z : State} {a0 : Array Value} (hw : ∀ d ∈ tables_1, d.before a0 Z = true) : (Jvm.Cond.static ({ cls := "com/example/wirefram/wirefram/sequence/BeginOrderRemovePinLaw", name := "removed", desc := "(III)Z" } : Jvm.MethodName)).before a0 Z = true := hw _ (List.mem_of_getElem? (i := 38) rfl)
theorem d3_16 : decode prog_63_method_4_code 16 = .ok (.iconst 0, 1) := by decide +kernel
theorem w40 {Z : State} {a0 : Array Value} (hw : ∀ d ∈ tables_1, d.before a0 Z = true) : (Jvm.Cond.methodLink "com/example/wirefram/wirefram/sequence/BeginOrderRemovePinLaw" (35 : Nat) ({ cls := "com/example/wirefram/wirefram/sequence/BeginOrder", name := "first", desc := "()I" } : Jvm.MethodName)).before a0 Z = true := hw _ (List.mem_of_getElem? (i := 40) rfl)
theorem d8_0 : decode prog_63_method_5_code 0 = .ok (.aload_n 0, 1) := by decide +kernel
theorem d8_1 : decode prog_63_method_5_code 1 = .ok (.getfield 7, 3) := by decide +kernel
theorem d8_4 : decode prog_63_method_5_code 4 = .ok (.aload_n 0, 1) := by decide +kernel
theorem d8_5 : decode prog_63_method_5_code 5 = .ok (.getfield 17, 3) := by decide +kernel
theorem d8_8 : decode prog_63_method_5_code 8 = .ok (.l2i, 1) := by decide +kernel
theorem d8_9 : decode prog_63_method_5_code 9 = .ok (.aload_n 0, 1) := by decide +kernel
theorem d8_10 : decode prog_63_method_5_code 10 = .ok (.getfield 7, 3) := by decide +kernel
theorem d8_13 : decode prog_63_method_5_code 13 = .ok (.arraylength, 1) := by decide +kernel
theorem d8_14 : decode prog_63_method_5_code 14 = .ok (.iconst 1, 1) := by decide +kernel
theorem d8_15 : decode prog_63_method_5_code 15 = .ok (.isub, 1) := by decide +kernel
theorem d8_16 : decode prog_63_method_5_code 16 = .ok (.iand, 1) := by decide +kernel
theorem d8_17 : decode prog_63_method_5_code 17 = .ok (.iaload, 1) := by decide +kernel
theorem d8_18 : decode prog_63_method_5_code 18 = .ok (.iconst 1, 1) := by decide +kernel
theorem d8_19 : decode prog_63_method_5_code 19 = .ok (.isub, 1) := by decide +kernel
theorem d8_20 : decode prog_63_method_5_code 20 = .ok (.ireturn, 1) := by decide +kernel
abbrev y5_first : MethodName := ⟨"com/example/wirefram/wirefram/sequence/BeginOrder", "first", "()I"⟩
theorem pd___I : parseMethodDescriptor "()I" = some ⟨[], some .int⟩ := by decide +kernel
theorem w44 {Z : State} {a0 : Array Value} (hw : ∀ d ∈ tables_1, d.before a0 Z = true) : (Jvm.Cond.code ({ cls := "com/example/wirefram/wirefram/sequence/BeginOrder", name := "first", desc := "()I" } : Jvm.MethodName) prog_63_method_5_code (1 : Nat) (Option.some Jvm.ClassFile.FieldType.int)).before a0 Z = true := hw _ (List.mem_of_getElem? (i := 44) rfl)
theorem w43 {Z : State} {a0 : Array Value} (hw : ∀ d ∈ tables_1, d.before a0 Z = true) : (Jvm.Cond.selects "com/example/wirefram/wirefram/sequence/BeginOrder" ({ cls := "com/example/wirefram/wirefram/sequence/BeginOrder", name := "first", desc := "()I" } : Jvm.MethodName) ({ cls := "com/example/wirefram/wirefram/sequence/BeginOrder", name := "first", desc := "()I" } : Jvm.MethodName)).before a0 Z = true := hw _ (List.mem_of_getElem? (i := 43) rfl)
theorem w41 {Z : State} {a0 : Array Value} (hw : ∀ d ∈ tables_1, d.before a0 Z = true) : (Jvm.Cond.declares ({ cls := "com/example/wirefram/wirefram/sequence/BeginOrder", name := "first", desc := "()I" } : Jvm.MethodName)).before a0 Z = true := hw _ (List.mem_of_getElem? (i := 41) rfl)
theorem w42 {Z : State} {a0 : Array Value} (hw : ∀ d ∈ tables_1, d.before a0 Z = true) : (Jvm.Cond.instanceMethod ({ cls := "com/example/wirefram/wirefram/sequence/BeginOrder", name := "first", desc := "()I" } : Jvm.MethodName)).before a0 Z = true := hw _ (List.mem_of_getElem? (i := 42) rfl)
theorem w32 {Z : State} {a0 : Array Value} (hw : ∀ d ∈ tables_1, d.before a0 Z = true) : (Jvm.Cond.methodLink "com/example/wirefram/wirefram/sequence/BeginOrderRemovePinLaw" (21 : Nat) ({ cls := "com/example/wirefram/wirefram/sequence/BeginOrder", name := "remove", desc := "(J)V" } : Jvm.MethodName)).before a0 Z = true := hw _ (List.mem_of_getElem? (i := 32) rfl)
theorem d6_0 : decode prog_63_method_3_code 0 = .ok (.aload_n 0, 1) := by decide +kernel
theorem d6_1 : decode prog_63_method_3_code 1 = .ok (.getfield 7, 3) := by decide +kernel
theorem d6_4 : decode prog_63_method_3_code 4 = .ok (.arraylength, 1) := by decide +kernel
theorem d6_5 : decode prog_63_method_3_code 5 = .ok (.iconst 1, 1) := by decide +kernel
theorem d6_6 : decode prog_63_method_3_code 6 = .ok (.isub, 1) := by decide +kernel
theorem d6_7 : decode prog_63_method_3_code 7 = .ok (.istore_n 3, 1) := by decide +kernel
theorem d6_8 : decode prog_63_method_3_code 8 = .ok (.aload_n 0, 1) := by decide +kernel
theorem d6_9 : decode prog_63_method_3_code 9 = .ok (.getfield 7, 3) := by decide +kernel
theorem d6_12 : decode prog_63_method_3_code 12 = .ok (.lload_n 1, 1) := by decide +kernel
theorem d6_13 : decode prog_63_method_3_code 13 = .ok (.l2i, 1) := by decide +kernel
theorem d6_14 : decode prog_63_method_3_code 14 = .ok (.iload_n 3, 1) := by decide +kernel
theorem d6_15 : decode prog_63_method_3_code 15 = .ok (.iand, 1) := by decide +kernel
theorem d6_16 : decode prog_63_method_3_code 16 = .ok (.iconst 0, 1) := by decide +kernel
theorem d6_17 : decode prog_63_method_3_code 17 = .ok (.iastore, 1) := by decide +kernel
theorem d6_18 : decode prog_63_method_3_code 18 = .ok (.aload_n 0, 1) := by decide +kernel
theorem d6_19 : decode prog_63_method_3_code 19 = .ok (.getfield 17, 3) := by decide +kernel
theorem d6_22 : decode prog_63_method_3_code 22 = .ok (.aload_n 0, 1) := by decide +kernel
theorem d6_23 : decode prog_63_method_3_code 23 = .ok (.getfield 13, 3) := by decide +kernel
theorem d6_26 : decode prog_63_method_3_code 26 = .ok (.lcmp, 1) := by decide +kernel
theorem d6_27 : decode prog_63_method_3_code 27 = .ok (.ifCond .ge 31, 3) := by decide +kernel
theorem d6_30 : decode prog_63_method_3_code 30 = .ok (.aload_n 0, 1) := by decide +kernel
theorem d6_31 : decode prog_63_method_3_code 31 = .ok (.getfield 7, 3) := by decide +kernel
theorem d6_34 : decode prog_63_method_3_code 34 = .ok (.aload_n 0, 1) := by decide +kernel
theorem d6_35 : decode prog_63_method_3_code 35 = .ok (.getfield 17, 3) := by decide +kernel
theorem d6_38 : decode prog_63_method_3_code 38 = .ok (.l2i, 1) := by decide +kernel
theorem d6_39 : decode prog_63_method_3_code 39 = .ok (.iload_n 3, 1) := by decide +kernel
theorem d6_40 : decode prog_63_method_3_code 40 = .ok (.iand, 1) := by decide +kernel
theorem d6_41 : decode prog_63_method_3_code 41 = .ok (.iaload, 1) := by decide +kernel
theorem d6_42 : decode prog_63_method_3_code 42 = .ok (.ifCond .ne 16, 3) := by decide +kernel
theorem d6_45 : decode prog_63_method_3_code 45 = .ok (.aload_n 0, 1) := by decide +kernel
theorem d6_46 : decode prog_63_method_3_code 46 = .ok (.dup, 1) := by decide +kernel
theorem d6_47 : decode prog_63_method_3_code 47 = .ok (.getfield 17, 3) := by decide +kernel
theorem d6_50 : decode prog_63_method_3_code 50 = .ok (.lconst 1, 1) := by decide +kernel
theorem d6_51 : decode prog_63_method_3_code 51 = .ok (.ladd, 1) := by decide +kernel
theorem d6_52 : decode prog_63_method_3_code 52 = .ok (.putfield 17, 3) := by decide +kernel
theorem d6_55 : decode prog_63_method_3_code 55 = .ok (.goto (-37), 3) := by decide +kernel
theorem sn_BeginOrder_next_first {Z : State} {a0 : Array Value} (hw : ∀ d ∈ tables_1, d.before a0 Z = true) : Jvm.RoadKit.slotOf Z "com/example/wirefram/wirefram/sequence/BeginOrder" "next" "J" ≠ Jvm.RoadKit.slotOf Z "com/example/wirefram/wirefram/sequence/BeginOrder" "first" "J" := slot_ne (a0 := a0) (C := "com/example/wirefram/wirefram/sequence/BeginOrder") (Or.inl (w21 hw)) (Or.inl (w19 hw)) (by decide) (t := .long) (t' := .long) (by decide) (by decide)
theorem sn_BeginOrder_ring_first {Z : State} {a0 : Array Value} (hw : ∀ d ∈ tables_1, d.before a0 Z = true) : Jvm.RoadKit.slotOf Z "com/example/wirefram/wirefram/sequence/BeginOrder" "ring" "[I" ≠ Jvm.RoadKit.slotOf Z "com/example/wirefram/wirefram/sequence/BeginOrder" "first" "J" := slot_ne (a0 := a0) (C := "com/example/wirefram/wirefram/sequence/BeginOrder") (Or.inl (w12 hw)) (Or.inl (w19 hw)) (by decide) (t := (.array .int)) (t' := .long) (by decide) (by decide)
theorem d6_58 : decode prog_63_method_3_code 58 = .ok (.return_, 1) := by decide +kernel
abbrev y6_remove : MethodName := ⟨"com/example/wirefram/wirefram/sequence/BeginOrder", "remove", "(J)V"⟩
theorem pd__J_V : parseMethodDescriptor "(J)V" = some ⟨[.long], none⟩ := by decide +kernel
theorem w36 {Z : State} {a0 : Array Value} (hw : ∀ d ∈ tables_1, d.before a0 Z = true) : (Jvm.Cond.code ({ cls := "com/example/wirefram/wirefram/sequence/BeginOrder", name := "remove", desc := "(J)V" } : Jvm.MethodName) prog_63_method_3_code (4 : Nat) (Option.none : Option Jvm.ClassFile.FieldType)).before a0 Z = true := hw _ (List.mem_of_getElem? (i := 36) rfl)
theorem w35 {Z : State} {a0 : Array Value} (hw : ∀ d ∈ tables_1, d.before a0 Z = true) : (Jvm.Cond.selects "com/example/wirefram/wirefram/sequence/BeginOrder" ({ cls := "com/example/wirefram/wirefram/sequence/BeginOrder", name := "remove", desc := "(J)V" } : Jvm.MethodName) ({ cls := "com/example/wirefram/wirefram/sequence/BeginOrder", name := "remove", desc := "(J)V" } : Jvm.MethodName)).before a0 Z = true := hw _ (List.mem_of_getElem? (i := 35) rfl)
theorem w33 {Z : State} {a0 : Array Value} (hw : ∀ d ∈ tables_1, d.before a0 Z = true) : (Jvm.Cond.declares ({ cls := "com/example/wirefram/wirefram/sequence/BeginOrder", name := "remove", desc := "(J)V" } : Jvm.MethodName)).before a0 Z = true := hw _ (List.mem_of_getElem? (i := 33) rfl)
theorem w34 {Z : State} {a0 : Array Value} (hw : ∀ d ∈ tables_1, d.before a0 Z = true) : (Jvm.Cond.instanceMethod ({ cls := "com/example/wirefram/wirefram/sequence/BeginOrder", name := "remove", desc := "(J)V" } : Jvm.MethodName)).before a0 Z = true := hw _ (List.mem_of_getElem? (i := 34) rfl)
def BO (Z : State) (n0 : Nat) (h : Heap) (a : Addr) (r_ring : Addr) (v_first : Int64) (v_next : Int64) (l_ring : List Value) : Prop :=
  Exa Z h a "com/example/wirefram/wirefram/sequence/BeginOrder" ∧ Fld Z h a "com/example/wirefram/wirefram/sequence/BeginOrder" "ring" "[I" (.ref r_ring) ∧ Fld Z h a "com/example/wirefram/wirefram/sequence/BeginOrder" "first" "J" (.long v_first) ∧ Fld Z h a "com/example/wirefram/wirefram/sequence/BeginOrder" "next" "J" (.long v_next) ∧ AA Z h r_ring .int l_ring ∧ a ≠ r_ring ∧ n0 ≤ a ∧ n0 ≤ r_ring
def idxf (pp jj : Int32) : Int32 :=
  if jj = 0 then pp / 2 else if jj = 1 then (if pp % 2 = 0 then (if pp / 2 = 0 then 1 else 0) else (if pp / 2 = 2 then 1 else 2)) else (if pp % 2 = 0 then (if pp / 2 = 2 then 1 else 2) else (if pp / 2 = 0 then 1 else 0))
def rmf (pp kk i : Int32) : Int32 := if (0 < kk ∧ idxf pp 0 = i) ∨ (1 < kk ∧ idxf pp 1 = i) ∨ (2 < kk ∧ idxf pp 2 = i) then 1 else 0
set_option maxRecDepth 65536 in
set_option maxHeartbeats 40000000 in
theorem idx (l : Launch) (Z : State) (a0 : Array Value) (hw : ∀ d ∈ tables_1, d.before a0 Z = true) (n0 : Nat) (h0 : Heap) (Z0 : n0 ≤ h0.size) (pp jj zz : Int32) (hz : idxf pp jj = zz) :
    Met l Z n0 y0_idx method_2_code 5 (Option.some Jvm.ClassFile.FieldType.int) ({ frames := 0, cells := 0, slots := 0, locals := 0 } : Room) #[(.int pp), (.int jj)] h0 (fun v h => v = some (.int zz) ∧ h = h0) := by
  refine met_intro (own := c0_BeginOrderRemovePinLaw) (plainFor_of_name pn_com_example_wirefram_wirefram_sequence_BeginOrderRemovePinLaw) rfl Z0 ?_
  intro p e s m below meth c T A hnm
  refine Wp.cast (g' := mkF m 0 #[iv pp, iv jj, U0, U0, U0] []) (by first | (simp [entryFrame, mkF, argsToLocals, Value.category, maxLocals, jv, S2, U0, iv, rv]; done) | rfl) ?_
  refine s_iloadN (pc' := 1) A d5_0 rfl rfl ?_
  refine s_iconst (pc' := 2) (z := (2 : Int32)) A d5_1 rfl (by decide) ?_
  refine s_idiv (pc' := 3) (z := (pp / (2 : Int32))) A d5_2 rfl (by decide) rfl ?_
  refine s_istoreN (pc' := 4) (Ls' := #[iv pp, iv jj, iv (pp / (2 : Int32)), U0, U0]) A d5_3 rfl rfl ?_
  refine s_iloadN (pc' := 5) A d5_4 rfl rfl ?_
  by_cases hc5_1 : jj = (0 : Int32)
  ·
   refine s_ifN (pc' := 8) A d5_5 rfl ((if0 _ _).trans (teq hc5_1).2) ?_
   refine s_iloadN (pc' := 9) A d5_8 rfl rfl ?_
   exact r_int A rfl d5_9 (by decide) (by decide) (⟨by first | (rw [← hz]; simp [idxf, hc5_1]; done) | exact absurd (hc11_1.symm.trans hc22_1) (by decide), rfl⟩)
  ·
   refine s_ifY (pc' := 10) A d5_5 ((if0 _ _).trans (feq hc5_1).2) (by decide) (by decide) ?_
   refine s_iloadN (pc' := 11) A d5_10 rfl rfl ?_
   by_cases hc11_1 : (pp / (2 : Int32)) = (0 : Int32)
   ·
    refine s_ifN (pc' := 14) A d5_11 rfl ((if0 _ _).trans (teq hc11_1).2) ?_
    refine s_iconst (pc' := 15) (z := (1 : Int32)) A d5_14 rfl (by decide) ?_
    refine s_goto (pc' := 19) A d5_15 (by decide) (by decide) ?_
    refine s_istoreN (pc' := 20) (Ls' := #[iv pp, iv jj, iv (pp / (2 : Int32)), iv 1, U0]) A d5_19 rfl rfl ?_
    refine s_iloadN (pc' := 21) A d5_20 rfl rfl ?_
    refine s_iconst (pc' := 22) (z := (2 : Int32)) A d5_21 rfl (by decide) ?_
    by_cases hc22_1 : (pp / (2 : Int32)) = (2 : Int32)
    ·
     refine s_icmpN (pc' := 25) A d5_22 rfl (teq hc22_1).2 ?_
     refine s_iconst (pc' := 26) (z := (1 : Int32)) A d5_25 rfl (by decide) ?_
     refine s_goto (pc' := 30) A d5_26 (by decide) (by decide) ?_
     refine s_istore (pc' := 32) (Ls' := #[iv pp, iv jj, iv (pp / (2 : Int32)), iv 1, iv 1]) A d5_30 rfl rfl ?_
     refine s_iloadN (pc' := 33) A d5_32 rfl rfl ?_
     refine s_iconst (pc' := 34) (z := (1 : Int32)) A d5_33 rfl (by decide) ?_
     by_cases hc34_1 : jj = (1 : Int32)
     ·
      refine s_icmpN (pc' := 37) A d5_34 rfl (teq hc34_1).2 ?_
      refine s_iloadN (pc' := 38) A d5_37 rfl rfl ?_
      refine s_iconst (pc' := 39) (z := (2 : Int32)) A d5_38 rfl (by decide) ?_
      refine s_irem (pc' := 40) (z := (pp % (2 : Int32))) A d5_39 rfl (by decide) rfl ?_
      by_cases hc40_1 : (pp % (2 : Int32)) = (0 : Int32)
      ·
       refine s_ifN (pc' := 43) A d5_40 rfl ((if0 _ _).trans (teq hc40_1).2) ?_
       refine s_iloadN (pc' := 44) A d5_43 rfl rfl ?_
       refine s_goto (pc' := 49) A d5_44 (by decide) (by decide) ?_
       exact r_int A rfl d5_49 (by decide) (by decide) (⟨by first | (rw [← hz]; simp [idxf, hc5_1, hc11_1, hc22_1, hc34_1, hc40_1]; done) | exact absurd (hc11_1.symm.trans hc22_1) (by decide), rfl⟩)
      ·
       refine s_ifY (pc' := 47) A d5_40 ((if0 _ _).trans (feq hc40_1).2) (by decide) (by decide) ?_
       refine s_iload (pc' := 49) A d5_47 rfl rfl ?_
       exact r_int A rfl d5_49 (by decide) (by decide) (⟨by first | (rw [← hz]; simp [idxf, hc5_1, hc11_1, hc22_1, hc34_1, hc40_1]; done) | exact absurd (hc11_1.symm.trans hc22_1) (by decide), rfl⟩)
     ·
      refine s_icmpY (pc' := 50) A d5_34 (feq hc34_1).2 (by decide) (by decide) ?_
      refine s_iloadN (pc' := 51) A d5_50 rfl rfl ?_
      refine s_iconst (pc' := 52) (z := (2 : Int32)) A d5_51 rfl (by decide) ?_
      refine s_irem (pc' := 53) (z := (pp % (2 : Int32))) A d5_52 rfl (by decide) rfl ?_
      by_cases hc53_1 : (pp % (2 : Int32)) = (0 : Int32)
      ·
       refine s_ifN (pc' := 56) A d5_53 rfl ((if0 _ _).trans (teq hc53_1).2) ?_
       refine s_iload (pc' := 58) A d5_56 rfl rfl ?_
       refine s_goto (pc' := 62) A d5_58 (by decide) (by decide) ?_
       exact r_int A rfl d5_62 (by decide) (by decide) (⟨by first | (rw [← hz]; simp [idxf, hc5_1, hc11_1, hc22_1, hc34_1, hc53_1]; done) | exact absurd (hc11_1.symm.trans hc22_1) (by decide), rfl⟩)
      ·
       refine s_ifY (pc' := 61) A d5_53 ((if0 _ _).trans (feq hc53_1).2) (by decide) (by decide) ?_
       refine s_iloadN (pc' := 62) A d5_61 rfl rfl ?_
       exact r_int A rfl d5_62 (by decide) (by decide) (⟨by first | (rw [← hz]; simp [idxf, hc5_1, hc11_1, hc22_1, hc34_1, hc53_1]; done) | exact absurd (hc11_1.symm.trans hc22_1) (by decide), rfl⟩)
    ·
     refine s_icmpY (pc' := 29) A d5_22 (feq hc22_1).2 (by decide) (by decide) ?_
     refine s_iconst (pc' := 30) (z := (2 : Int32)) A d5_29 rfl (by decide) ?_
     refine s_istore (pc' := 32) (Ls' := #[iv pp, iv jj, iv (pp / (2 : Int32)), iv 1, iv 2]) A d5_30 rfl rfl ?_
     refine s_iloadN (pc' := 33) A d5_32 rfl rfl ?_
     refine s_iconst (pc' := 34) (z := (1 : Int32)) A d5_33 rfl (by decide) ?_
     by_cases hc34_1 : jj = (1 : Int32)
     ·
      refine s_icmpN (pc' := 37) A d5_34 rfl (teq hc34_1).2 ?_
      refine s_iloadN (pc' := 38) A d5_37 rfl rfl ?_
      refine s_iconst (pc' := 39) (z := (2 : Int32)) A d5_38 rfl (by decide) ?_
      refine s_irem (pc' := 40) (z := (pp % (2 : Int32))) A d5_39 rfl (by decide) rfl ?_
      by_cases hc40_1 : (pp % (2 : Int32)) = (0 : Int32)
      ·
       refine s_ifN (pc' := 43) A d5_40 rfl ((if0 _ _).trans (teq hc40_1).2) ?_
       refine s_iloadN (pc' := 44) A d5_43 rfl rfl ?_
       refine s_goto (pc' := 49) A d5_44 (by decide) (by decide) ?_
       exact r_int A rfl d5_49 (by decide) (by decide) (⟨by first | (rw [← hz]; simp [idxf, hc5_1, hc11_1, hc22_1, hc34_1, hc40_1]; done) | exact absurd (hc11_1.symm.trans hc22_1) (by decide), rfl⟩)
      ·
       refine s_ifY (pc' := 47) A d5_40 ((if0 _ _).trans (feq hc40_1).2) (by decide) (by decide) ?_
       refine s_iload (pc' := 49) A d5_47 rfl rfl ?_
       exact r_int A rfl d5_49 (by decide) (by decide) (⟨by first | (rw [← hz]; simp [idxf, hc5_1, hc11_1, hc22_1, hc34_1, hc40_1]; done) | exact absurd (hc11_1.symm.trans hc22_1) (by decide), rfl⟩)
     ·
      refine s_icmpY (pc' := 50) A d5_34 (feq hc34_1).2 (by decide) (by decide) ?_
      refine s_iloadN (pc' := 51) A d5_50 rfl rfl ?_
      refine s_iconst (pc' := 52) (z := (2 : Int32)) A d5_51 rfl (by decide) ?_
      refine s_irem (pc' := 53) (z := (pp % (2 : Int32))) A d5_52 rfl (by decide) rfl ?_
      by_cases hc53_1 : (pp % (2 : Int32)) = (0 : Int32)
      ·
       refine s_ifN (pc' := 56) A d5_53 rfl ((if0 _ _).trans (teq hc53_1).2) ?_
       refine s_iload (pc' := 58) A d5_56 rfl rfl ?_
       refine s_goto (pc' := 62) A d5_58 (by decide) (by decide) ?_
       exact r_int A rfl d5_62 (by decide) (by decide) (⟨by first | (rw [← hz]; simp [idxf, hc5_1, hc11_1, hc22_1, hc34_1, hc53_1]; done) | exact absurd (hc11_1.symm.trans hc22_1) (by decide), rfl⟩)
      ·
       refine s_ifY (pc' := 61) A d5_53 ((if0 _ _).trans (feq hc53_1).2) (by decide) (by decide) ?_
       refine s_iloadN (pc' := 62) A d5_61 rfl rfl ?_
       exact r_int A rfl d5_62 (by decide) (by decide) (⟨by first | (rw [← hz]; simp [idxf, hc5_1, hc11_1, hc22_1, hc34_1, hc53_1]; done) | exact absurd (hc11_1.symm.trans hc22_1) (by decide), rfl⟩)
   ·
    refine s_ifY (pc' := 18) A d5_11 ((if0 _ _).trans (feq hc11_1).2) (by decide) (by decide) ?_
    refine s_iconst (pc' := 19) (z := (0 : Int32)) A d5_18 rfl (by decide) ?_
    refine s_istoreN (pc' := 20) (Ls' := #[iv pp, iv jj, iv (pp / (2 : Int32)), iv 0, U0]) A d5_19 rfl rfl ?_
    refine s_iloadN (pc' := 21) A d5_20 rfl rfl ?_
    refine s_iconst (pc' := 22) (z := (2 : Int32)) A d5_21 rfl (by decide) ?_
    by_cases hc22_1 : (pp / (2 : Int32)) = (2 : Int32)
    ·
     refine s_icmpN (pc' := 25) A d5_22 rfl (teq hc22_1).2 ?_
     refine s_iconst (pc' := 26) (z := (1 : Int32)) A d5_25 rfl (by decide) ?_
     refine s_goto (pc' := 30) A d5_26 (by decide) (by decide) ?_
     refine s_istore (pc' := 32) (Ls' := #[iv pp, iv jj, iv (pp / (2 : Int32)), iv 0, iv 1]) A d5_30 rfl rfl ?_
     refine s_iloadN (pc' := 33) A d5_32 rfl rfl ?_
     refine s_iconst (pc' := 34) (z := (1 : Int32)) A d5_33 rfl (by decide) ?_
     by_cases hc34_1 : jj = (1 : Int32)
     ·
      refine s_icmpN (pc' := 37) A d5_34 rfl (teq hc34_1).2 ?_
      refine s_iloadN (pc' := 38) A d5_37 rfl rfl ?_
      refine s_iconst (pc' := 39) (z := (2 : Int32)) A d5_38 rfl (by decide) ?_
      refine s_irem (pc' := 40) (z := (pp % (2 : Int32))) A d5_39 rfl (by decide) rfl ?_
      by_cases hc40_1 : (pp % (2 : Int32)) = (0 : Int32)
      ·
       refine s_ifN (pc' := 43) A d5_40 rfl ((if0 _ _).trans (teq hc40_1).2) ?_
       refine s_iloadN (pc' := 44) A d5_43 rfl rfl ?_
       refine s_goto (pc' := 49) A d5_44 (by decide) (by decide) ?_
       exact r_int A rfl d5_49 (by decide) (by decide) (⟨by first | (rw [← hz]; simp [idxf, hc5_1, hc11_1, hc22_1, hc34_1, hc40_1]; done) | exact absurd (hc11_1.symm.trans hc22_1) (by decide), rfl⟩)
      ·
       refine s_ifY (pc' := 47) A d5_40 ((if0 _ _).trans (feq hc40_1).2) (by decide) (by decide) ?_
       refine s_iload (pc' := 49) A d5_47 rfl rfl ?_
       exact r_int A rfl d5_49 (by decide) (by decide) (⟨by first | (rw [← hz]; simp [idxf, hc5_1, hc11_1, hc22_1, hc34_1, hc40_1]; done) | exact absurd (hc11_1.symm.trans hc22_1) (by decide), rfl⟩)
     ·
      refine s_icmpY (pc' := 50) A d5_34 (feq hc34_1).2 (by decide) (by decide) ?_
      refine s_iloadN (pc' := 51) A d5_50 rfl rfl ?_
      refine s_iconst (pc' := 52) (z := (2 : Int32)) A d5_51 rfl (by decide) ?_
      refine s_irem (pc' := 53) (z := (pp % (2 : Int32))) A d5_52 rfl (by decide) rfl ?_
      by_cases hc53_1 : (pp % (2 : Int32)) = (0 : Int32)
      ·
       refine s_ifN (pc' := 56) A d5_53 rfl ((if0 _ _).trans (teq hc53_1).2) ?_
       refine s_iload (pc' := 58) A d5_56 rfl rfl ?_
       refine s_goto (pc' := 62) A d5_58 (by decide) (by decide) ?_
       exact r_int A rfl d5_62 (by decide) (by decide) (⟨by first | (rw [← hz]; simp [idxf, hc5_1, hc11_1, hc22_1, hc34_1, hc53_1]; done) | exact absurd (hc11_1.symm.trans hc22_1) (by decide), rfl⟩)
      ·
       refine s_ifY (pc' := 61) A d5_53 ((if0 _ _).trans (feq hc53_1).2) (by decide) (by decide) ?_
       refine s_iloadN (pc' := 62) A d5_61 rfl rfl ?_
       exact r_int A rfl d5_62 (by decide) (by decide) (⟨by first | (rw [← hz]; simp [idxf, hc5_1, hc11_1, hc22_1, hc34_1, hc53_1]; done) | exact absurd (hc11_1.symm.trans hc22_1) (by decide), rfl⟩)
    ·
     refine s_icmpY (pc' := 29) A d5_22 (feq hc22_1).2 (by decide) (by decide) ?_
     refine s_iconst (pc' := 30) (z := (2 : Int32)) A d5_29 rfl (by decide) ?_
     refine s_istore (pc' := 32) (Ls' := #[iv pp, iv jj, iv (pp / (2 : Int32)), iv 0, iv 2]) A d5_30 rfl rfl ?_
     refine s_iloadN (pc' := 33) A d5_32 rfl rfl ?_
     refine s_iconst (pc' := 34) (z := (1 : Int32)) A d5_33 rfl (by decide) ?_
     by_cases hc34_1 : jj = (1 : Int32)
     ·
      refine s_icmpN (pc' := 37) A d5_34 rfl (teq hc34_1).2 ?_
      refine s_iloadN (pc' := 38) A d5_37 rfl rfl ?_
      refine s_iconst (pc' := 39) (z := (2 : Int32)) A d5_38 rfl (by decide) ?_
      refine s_irem (pc' := 40) (z := (pp % (2 : Int32))) A d5_39 rfl (by decide) rfl ?_
      by_cases hc40_1 : (pp % (2 : Int32)) = (0 : Int32)
      ·
       refine s_ifN (pc' := 43) A d5_40 rfl ((if0 _ _).trans (teq hc40_1).2) ?_
       refine s_iloadN (pc' := 44) A d5_43 rfl rfl ?_
       refine s_goto (pc' := 49) A d5_44 (by decide) (by decide) ?_
       exact r_int A rfl d5_49 (by decide) (by decide) (⟨by first | (rw [← hz]; simp [idxf, hc5_1, hc11_1, hc22_1, hc34_1, hc40_1]; done) | exact absurd (hc11_1.symm.trans hc22_1) (by decide), rfl⟩)
      ·
       refine s_ifY (pc' := 47) A d5_40 ((if0 _ _).trans (feq hc40_1).2) (by decide) (by decide) ?_
       refine s_iload (pc' := 49) A d5_47 rfl rfl ?_
       exact r_int A rfl d5_49 (by decide) (by decide) (⟨by first | (rw [← hz]; simp [idxf, hc5_1, hc11_1, hc22_1, hc34_1, hc40_1]; done) | exact absurd (hc11_1.symm.trans hc22_1) (by decide), rfl⟩)
     ·
      refine s_icmpY (pc' := 50) A d5_34 (feq hc34_1).2 (by decide) (by decide) ?_
      refine s_iloadN (pc' := 51) A d5_50 rfl rfl ?_
      refine s_iconst (pc' := 52) (z := (2 : Int32)) A d5_51 rfl (by decide) ?_
      refine s_irem (pc' := 53) (z := (pp % (2 : Int32))) A d5_52 rfl (by decide) rfl ?_
      by_cases hc53_1 : (pp % (2 : Int32)) = (0 : Int32)
      ·
       refine s_ifN (pc' := 56) A d5_53 rfl ((if0 _ _).trans (teq hc53_1).2) ?_
       refine s_iload (pc' := 58) A d5_56 rfl rfl ?_
       refine s_goto (pc' := 62) A d5_58 (by decide) (by decide) ?_
       exact r_int A rfl d5_62 (by decide) (by decide) (⟨by first | (rw [← hz]; simp [idxf, hc5_1, hc11_1, hc22_1, hc34_1, hc53_1]; done) | exact absurd (hc11_1.symm.trans hc22_1) (by decide), rfl⟩)
      ·
       refine s_ifY (pc' := 61) A d5_53 ((if0 _ _).trans (feq hc53_1).2) (by decide) (by decide) ?_
       refine s_iloadN (pc' := 62) A d5_61 rfl rfl ?_
       exact r_int A rfl d5_62 (by decide) (by decide) (⟨by first | (rw [← hz]; simp [idxf, hc5_1, hc11_1, hc22_1, hc34_1, hc53_1]; done) | exact absurd (hc11_1.symm.trans hc22_1) (by decide), rfl⟩)
set_option maxRecDepth 65536 in
set_option maxHeartbeats 40000000 in
theorem rmd (l : Launch) (Z : State) (a0 : Array Value) (hw : ∀ d ∈ tables_1, d.before a0 Z = true) (n0 : Nat) (h0 : Heap) (Z0 : n0 ≤ h0.size) (pp kk i zz : Int32) (hz : rmf pp kk i = zz) :
    Met l Z n0 y1_removed method_3_code 3 (Option.some Jvm.ClassFile.FieldType.boolean) ({ frames := 1, cells := 0, slots := 0, locals := 16 } : Room) #[(.int pp), (.int kk), (.int i)] h0 (fun v h => v = some (.int zz) ∧ h = h0) := by
  refine met_intro (own := c0_BeginOrderRemovePinLaw) (plainFor_of_name pn_com_example_wirefram_wirefram_sequence_BeginOrderRemovePinLaw) rfl Z0 ?_
  intro p e s m below meth c T A hnm
  refine Wp.cast (g' := mkF m 0 #[iv pp, iv kk, iv i] []) (by first | (simp [entryFrame, mkF, argsToLocals, Value.category, maxLocals, jv, S2, U0, iv, rv]; done) | rfl) ?_
  refine s_iloadN (pc' := 1) A d7_0 rfl rfl ?_
  by_cases hc1_1 : (0 : Int32) < kk
  ·
   refine s_ifN (pc' := 4) A d7_1 rfl ((if0 _ _).trans (tlt hc1_1).2.2.2) ?_
   refine s_iloadN (pc' := 5) A d7_4 rfl rfl ?_
   refine s_iconst (pc' := 6) (z := (0 : Int32)) A d7_5 rfl (by decide) ?_
   refine s_static (pc' := 9) (y := y0_idx) (argsL := [(.int pp), (.int (0 : Int32))]) (rest := []) A (idx l Z a0 hw n0 h0 A.size pp (0 : Int32) (idxf pp (0 : Int32)) rfl) (w28 hw) (w29 hw) (w30 hw) (w31 hw) (by decide) pd__II_I rfl (W := 0) (by decide) (by decide) (Nat.le_of_eq rfl) (by decide) (by decide) rfl rfl d7_6 rfl fun T h1 v2 A Q3 => ?_
   obtain ⟨rfl, eh⟩ := Q3
   rw [eh] at A
   refine Wp.stk (st' := [(.int (idxf pp (0 : Int32)))]) rfl ?_
   refine s_iloadN (pc' := 10) A d7_9 rfl rfl ?_
   by_cases hc10_1 : (idxf pp (0 : Int32)) = i
   ·
    refine s_icmpY (pc' := 41) A d7_10 (teq hc10_1).1 (by decide) (by decide) ?_
    refine s_iconst (pc' := 42) (z := (1 : Int32)) A d7_41 rfl (by decide) ?_
    refine s_goto (pc' := 46) A d7_42 (by decide) (by decide) ?_
    exact r_bool A rfl (by decide) d7_46 (by decide) (by decide) (⟨by rw [← hz]; simp [rmf, hc1_1, hc10_1], rfl⟩)
   ·
    refine s_icmpN (pc' := 13) A d7_10 rfl (feq hc10_1).1 ?_
    refine s_iloadN (pc' := 14) A d7_13 rfl rfl ?_
    refine s_iconst (pc' := 15) (z := (1 : Int32)) A d7_14 rfl (by decide) ?_
    by_cases hc15_1 : (1 : Int32) < kk
    ·
     refine s_icmpN (pc' := 18) A d7_15 rfl (tlt hc15_1).2.2.2 ?_
     refine s_iloadN (pc' := 19) A d7_18 rfl rfl ?_
     refine s_iconst (pc' := 20) (z := (1 : Int32)) A d7_19 rfl (by decide) ?_
     refine s_static (pc' := 23) (y := y0_idx) (argsL := [(.int pp), (.int (1 : Int32))]) (rest := []) A (idx l Z a0 hw n0 h0 A.size pp (1 : Int32) (idxf pp (1 : Int32)) rfl) (w28 hw) (w29 hw) (w30 hw) (w31 hw) (by decide) pd__II_I rfl (W := 0) (by decide) (by decide) (Nat.le_of_eq rfl) (by decide) (by decide) rfl rfl d7_20 rfl fun T h4 v5 A Q6 => ?_
     obtain ⟨rfl, eh⟩ := Q6
     rw [eh] at A
     refine Wp.stk (st' := [(.int (idxf pp (1 : Int32)))]) rfl ?_
     refine s_iloadN (pc' := 24) A d7_23 rfl rfl ?_
     by_cases hc24_1 : (idxf pp (1 : Int32)) = i
     ·
      refine s_icmpY (pc' := 41) A d7_24 (teq hc24_1).1 (by decide) (by decide) ?_
      refine s_iconst (pc' := 42) (z := (1 : Int32)) A d7_41 rfl (by decide) ?_
      refine s_goto (pc' := 46) A d7_42 (by decide) (by decide) ?_
      exact r_bool A rfl (by decide) d7_46 (by decide) (by decide) (⟨by rw [← hz]; simp [rmf, hc1_1, hc10_1, hc15_1, hc24_1], rfl⟩)
     ·
      refine s_icmpN (pc' := 27) A d7_24 rfl (feq hc24_1).1 ?_
      refine s_iloadN (pc' := 28) A d7_27 rfl rfl ?_
      refine s_iconst (pc' := 29) (z := (2 : Int32)) A d7_28 rfl (by decide) ?_
      by_cases hc29_1 : (2 : Int32) < kk
      ·
       refine s_icmpN (pc' := 32) A d7_29 rfl (tlt hc29_1).2.2.2 ?_
       refine s_iloadN (pc' := 33) A d7_32 rfl rfl ?_
       refine s_iconst (pc' := 34) (z := (2 : Int32)) A d7_33 rfl (by decide) ?_
       refine s_static (pc' := 37) (y := y0_idx) (argsL := [(.int pp), (.int (2 : Int32))]) (rest := []) A (idx l Z a0 hw n0 h0 A.size pp (2 : Int32) (idxf pp (2 : Int32)) rfl) (w28 hw) (w29 hw) (w30 hw) (w31 hw) (by decide) pd__II_I rfl (W := 0) (by decide) (by decide) (Nat.le_of_eq rfl) (by decide) (by decide) rfl rfl d7_34 rfl fun T h7 v8 A Q9 => ?_
       obtain ⟨rfl, eh⟩ := Q9
       rw [eh] at A
       refine Wp.stk (st' := [(.int (idxf pp (2 : Int32)))]) rfl ?_
       refine s_iloadN (pc' := 38) A d7_37 rfl rfl ?_
       by_cases hc38_1 : (idxf pp (2 : Int32)) = i
       ·
        refine s_icmpN (pc' := 41) A d7_38 rfl (teq hc38_1).2 ?_
        refine s_iconst (pc' := 42) (z := (1 : Int32)) A d7_41 rfl (by decide) ?_
        refine s_goto (pc' := 46) A d7_42 (by decide) (by decide) ?_
        exact r_bool A rfl (by decide) d7_46 (by decide) (by decide) (⟨by rw [← hz]; simp [rmf, hc1_1, hc10_1, hc15_1, hc24_1, hc29_1, hc38_1], rfl⟩)
       ·
        refine s_icmpY (pc' := 45) A d7_38 (feq hc38_1).2 (by decide) (by decide) ?_
        refine s_iconst (pc' := 46) (z := (0 : Int32)) A d7_45 rfl (by decide) ?_
        exact r_bool A rfl (by decide) d7_46 (by decide) (by decide) (⟨by rw [← hz]; simp [rmf, hc1_1, hc10_1, hc15_1, hc24_1, hc29_1, hc38_1], rfl⟩)
      ·
       refine s_icmpY (pc' := 45) A d7_29 (flt hc29_1).2.2.2 (by decide) (by decide) ?_
       refine s_iconst (pc' := 46) (z := (0 : Int32)) A d7_45 rfl (by decide) ?_
       exact r_bool A rfl (by decide) d7_46 (by decide) (by decide) (⟨by rw [← hz]; simp [rmf, hc1_1, hc10_1, hc15_1, hc24_1, hc29_1], rfl⟩)
    ·
     refine s_icmpY (pc' := 27) A d7_15 (flt hc15_1).2.2.2 (by decide) (by decide) ?_
     refine s_iloadN (pc' := 28) A d7_27 rfl rfl ?_
     refine s_iconst (pc' := 29) (z := (2 : Int32)) A d7_28 rfl (by decide) ?_
     by_cases hc29_1 : (2 : Int32) < kk
     ·
      refine s_icmpN (pc' := 32) A d7_29 rfl (tlt hc29_1).2.2.2 ?_
      refine s_iloadN (pc' := 33) A d7_32 rfl rfl ?_
      refine s_iconst (pc' := 34) (z := (2 : Int32)) A d7_33 rfl (by decide) ?_
      refine s_static (pc' := 37) (y := y0_idx) (argsL := [(.int pp), (.int (2 : Int32))]) (rest := []) A (idx l Z a0 hw n0 h0 A.size pp (2 : Int32) (idxf pp (2 : Int32)) rfl) (w28 hw) (w29 hw) (w30 hw) (w31 hw) (by decide) pd__II_I rfl (W := 0) (by decide) (by decide) (Nat.le_of_eq rfl) (by decide) (by decide) rfl rfl d7_34 rfl fun T h10 v11 A Q12 => ?_
      obtain ⟨rfl, eh⟩ := Q12
      rw [eh] at A
      refine Wp.stk (st' := [(.int (idxf pp (2 : Int32)))]) rfl ?_
      refine s_iloadN (pc' := 38) A d7_37 rfl rfl ?_
      by_cases hc38_1 : (idxf pp (2 : Int32)) = i
      ·
       refine s_icmpN (pc' := 41) A d7_38 rfl (teq hc38_1).2 ?_
       refine s_iconst (pc' := 42) (z := (1 : Int32)) A d7_41 rfl (by decide) ?_
       refine s_goto (pc' := 46) A d7_42 (by decide) (by decide) ?_
       exact r_bool A rfl (by decide) d7_46 (by decide) (by decide) (⟨by rw [← hz]; simp [rmf, hc1_1, hc10_1, hc15_1, hc29_1, hc38_1], rfl⟩)
      ·
       refine s_icmpY (pc' := 45) A d7_38 (feq hc38_1).2 (by decide) (by decide) ?_
       refine s_iconst (pc' := 46) (z := (0 : Int32)) A d7_45 rfl (by decide) ?_
       exact r_bool A rfl (by decide) d7_46 (by decide) (by decide) (⟨by rw [← hz]; simp [rmf, hc1_1, hc10_1, hc15_1, hc29_1, hc38_1], rfl⟩)
     ·
      refine s_icmpY (pc' := 45) A d7_29 (flt hc29_1).2.2.2 (by decide) (by decide) ?_
      refine s_iconst (pc' := 46) (z := (0 : Int32)) A d7_45 rfl (by decide) ?_
      exact r_bool A rfl (by decide) d7_46 (by decide) (by decide) (⟨by rw [← hz]; simp [rmf, hc1_1, hc10_1, hc15_1, hc29_1], rfl⟩)
  ·
   refine s_ifY (pc' := 13) A d7_1 ((if0 _ _).trans (flt hc1_1).2.2.2) (by decide) (by decide) ?_
   refine s_iloadN (pc' := 14) A d7_13 rfl rfl ?_
   refine s_iconst (pc' := 15) (z := (1 : Int32)) A d7_14 rfl (by decide) ?_
   by_cases hc15_1 : (1 : Int32) < kk
   ·
    refine s_icmpN (pc' := 18) A d7_15 rfl (tlt hc15_1).2.2.2 ?_
    refine s_iloadN (pc' := 19) A d7_18 rfl rfl ?_
    refine s_iconst (pc' := 20) (z := (1 : Int32)) A d7_19 rfl (by decide) ?_
    refine s_static (pc' := 23) (y := y0_idx) (argsL := [(.int pp), (.int (1 : Int32))]) (rest := []) A (idx l Z a0 hw n0 h0 A.size pp (1 : Int32) (idxf pp (1 : Int32)) rfl) (w28 hw) (w29 hw) (w30 hw) (w31 hw) (by decide) pd__II_I rfl (W := 0) (by decide) (by decide) (Nat.le_of_eq rfl) (by decide) (by decide) rfl rfl d7_20 rfl fun T h13 v14 A Q15 => ?_
    obtain ⟨rfl, eh⟩ := Q15
    rw [eh] at A
    refine Wp.stk (st' := [(.int (idxf pp (1 : Int32)))]) rfl ?_
    refine s_iloadN (pc' := 24) A d7_23 rfl rfl ?_
    by_cases hc24_1 : (idxf pp (1 : Int32)) = i
    ·
     refine s_icmpY (pc' := 41) A d7_24 (teq hc24_1).1 (by decide) (by decide) ?_
     refine s_iconst (pc' := 42) (z := (1 : Int32)) A d7_41 rfl (by decide) ?_
     refine s_goto (pc' := 46) A d7_42 (by decide) (by decide) ?_
     exact r_bool A rfl (by decide) d7_46 (by decide) (by decide) (⟨by rw [← hz]; simp [rmf, hc1_1, hc15_1, hc24_1], rfl⟩)
    ·
     refine s_icmpN (pc' := 27) A d7_24 rfl (feq hc24_1).1 ?_
     refine s_iloadN (pc' := 28) A d7_27 rfl rfl ?_
     refine s_iconst (pc' := 29) (z := (2 : Int32)) A d7_28 rfl (by decide) ?_
     by_cases hc29_1 : (2 : Int32) < kk
     ·
      refine s_icmpN (pc' := 32) A d7_29 rfl (tlt hc29_1).2.2.2 ?_
      refine s_iloadN (pc' := 33) A d7_32 rfl rfl ?_
      refine s_iconst (pc' := 34) (z := (2 : Int32)) A d7_33 rfl (by decide) ?_
      refine s_static (pc' := 37) (y := y0_idx) (argsL := [(.int pp), (.int (2 : Int32))]) (rest := []) A (idx l Z a0 hw n0 h0 A.size pp (2 : Int32) (idxf pp (2 : Int32)) rfl) (w28 hw) (w29 hw) (w30 hw) (w31 hw) (by decide) pd__II_I rfl (W := 0) (by decide) (by decide) (Nat.le_of_eq rfl) (by decide) (by decide) rfl rfl d7_34 rfl fun T h16 v17 A Q18 => ?_
      obtain ⟨rfl, eh⟩ := Q18
      rw [eh] at A
      refine Wp.stk (st' := [(.int (idxf pp (2 : Int32)))]) rfl ?_
      refine s_iloadN (pc' := 38) A d7_37 rfl rfl ?_
      by_cases hc38_1 : (idxf pp (2 : Int32)) = i
      ·
       refine s_icmpN (pc' := 41) A d7_38 rfl (teq hc38_1).2 ?_
       refine s_iconst (pc' := 42) (z := (1 : Int32)) A d7_41 rfl (by decide) ?_
       refine s_goto (pc' := 46) A d7_42 (by decide) (by decide) ?_
       exact r_bool A rfl (by decide) d7_46 (by decide) (by decide) (⟨by rw [← hz]; simp [rmf, hc1_1, hc15_1, hc24_1, hc29_1, hc38_1], rfl⟩)
      ·
       refine s_icmpY (pc' := 45) A d7_38 (feq hc38_1).2 (by decide) (by decide) ?_
       refine s_iconst (pc' := 46) (z := (0 : Int32)) A d7_45 rfl (by decide) ?_
       exact r_bool A rfl (by decide) d7_46 (by decide) (by decide) (⟨by rw [← hz]; simp [rmf, hc1_1, hc15_1, hc24_1, hc29_1, hc38_1], rfl⟩)
     ·
      refine s_icmpY (pc' := 45) A d7_29 (flt hc29_1).2.2.2 (by decide) (by decide) ?_
      refine s_iconst (pc' := 46) (z := (0 : Int32)) A d7_45 rfl (by decide) ?_
      exact r_bool A rfl (by decide) d7_46 (by decide) (by decide) (⟨by rw [← hz]; simp [rmf, hc1_1, hc15_1, hc24_1, hc29_1], rfl⟩)
   ·
    refine s_icmpY (pc' := 27) A d7_15 (flt hc15_1).2.2.2 (by decide) (by decide) ?_
    refine s_iloadN (pc' := 28) A d7_27 rfl rfl ?_
    refine s_iconst (pc' := 29) (z := (2 : Int32)) A d7_28 rfl (by decide) ?_
    by_cases hc29_1 : (2 : Int32) < kk
    ·
     refine s_icmpN (pc' := 32) A d7_29 rfl (tlt hc29_1).2.2.2 ?_
     refine s_iloadN (pc' := 33) A d7_32 rfl rfl ?_
     refine s_iconst (pc' := 34) (z := (2 : Int32)) A d7_33 rfl (by decide) ?_
     refine s_static (pc' := 37) (y := y0_idx) (argsL := [(.int pp), (.int (2 : Int32))]) (rest := []) A (idx l Z a0 hw n0 h0 A.size pp (2 : Int32) (idxf pp (2 : Int32)) rfl) (w28 hw) (w29 hw) (w30 hw) (w31 hw) (by decide) pd__II_I rfl (W := 0) (by decide) (by decide) (Nat.le_of_eq rfl) (by decide) (by decide) rfl rfl d7_34 rfl fun T h19 v20 A Q21 => ?_
     obtain ⟨rfl, eh⟩ := Q21
     rw [eh] at A
     refine Wp.stk (st' := [(.int (idxf pp (2 : Int32)))]) rfl ?_
     refine s_iloadN (pc' := 38) A d7_37 rfl rfl ?_
     by_cases hc38_1 : (idxf pp (2 : Int32)) = i
     ·
      refine s_icmpN (pc' := 41) A d7_38 rfl (teq hc38_1).2 ?_
      refine s_iconst (pc' := 42) (z := (1 : Int32)) A d7_41 rfl (by decide) ?_
      refine s_goto (pc' := 46) A d7_42 (by decide) (by decide) ?_
      exact r_bool A rfl (by decide) d7_46 (by decide) (by decide) (⟨by rw [← hz]; simp [rmf, hc1_1, hc15_1, hc29_1, hc38_1], rfl⟩)
     ·
      refine s_icmpY (pc' := 45) A d7_38 (feq hc38_1).2 (by decide) (by decide) ?_
      refine s_iconst (pc' := 46) (z := (0 : Int32)) A d7_45 rfl (by decide) ?_
      exact r_bool A rfl (by decide) d7_46 (by decide) (by decide) (⟨by rw [← hz]; simp [rmf, hc1_1, hc15_1, hc29_1, hc38_1], rfl⟩)
    ·
     refine s_icmpY (pc' := 45) A d7_29 (flt hc29_1).2.2.2 (by decide) (by decide) ?_
     refine s_iconst (pc' := 46) (z := (0 : Int32)) A d7_45 rfl (by decide) ?_
     exact r_bool A rfl (by decide) d7_46 (by decide) (by decide) (⟨by rw [← hz]; simp [rmf, hc1_1, hc15_1, hc29_1], rfl⟩)
theorem own_k (x : Int32) : (x &&& (3 : Int32)) = 0 ∨ (x &&& (3 : Int32)) = 1 ∨ (x &&& (3 : Int32)) = 2 ∨ (x &&& (3 : Int32)) = 3 := by
  have e := c_mask x (3 : Int32) 2 (by decide) (by decide)
  have q : (x &&& (3 : Int32)).toInt = 0 ∨ (x &&& (3 : Int32)).toInt = 1 ∨ (x &&& (3 : Int32)).toInt = 2 ∨ (x &&& (3 : Int32)).toInt = 3 := by omega
  rcases q with q | q | q | q
  · exact Or.inl (Int32.toInt_inj.mp (q.trans (by decide)))
  · exact Or.inr (Or.inl (Int32.toInt_inj.mp (q.trans (by decide))))
  · exact Or.inr (Or.inr (Or.inl (Int32.toInt_inj.mp (q.trans (by decide)))))
  · exact Or.inr (Or.inr (Or.inr (Int32.toInt_inj.mp (q.trans (by decide)))))
theorem own_w (x : Int32) : ((ush x (2 : Int32)) % (3 : Int32)) = 0 ∨ ((ush x (2 : Int32)) % (3 : Int32)) = 1 ∨ ((ush x (2 : Int32)) % (3 : Int32)) = 2 := by
  have _ := rng32 x
  have _ : (2 : Int32).toInt = 2 := (by decide)
  have _ := rng32 (ush x (2 : Int32))
  have _ : (ush x (2 : Int32)).toInt = (x.toInt % 4294967296) / 4 := c_iushr x (2 : Int32) 2 (by decide) (by decide)
  have _ : (3 : Int32).toInt = 3 := (by decide)
  have _ := rng32 ((ush x (2 : Int32)) % (3 : Int32))
  have _ := c_irem (ush x (2 : Int32)) (3 : Int32) 3 (by decide)
  have q : ((ush x (2 : Int32)) % (3 : Int32)).toInt = 0 ∨ ((ush x (2 : Int32)) % (3 : Int32)).toInt = 1 ∨ ((ush x (2 : Int32)) % (3 : Int32)).toInt = 2 := by omega
  rcases q with q | q | q
  · exact Or.inl (Int32.toInt_inj.mp (q.trans (by decide)))
  · exact Or.inr (Or.inl (Int32.toInt_inj.mp (q.trans (by decide))))
  · exact Or.inr (Or.inr (Int32.toInt_inj.mp (q.trans (by decide))))
theorem own_p (x : Int32) : ((x &&& (2147483647 : Int32)) % (6 : Int32)) = 0 ∨ ((x &&& (2147483647 : Int32)) % (6 : Int32)) = 1 ∨ ((x &&& (2147483647 : Int32)) % (6 : Int32)) = 2 ∨ ((x &&& (2147483647 : Int32)) % (6 : Int32)) = 3 ∨ ((x &&& (2147483647 : Int32)) % (6 : Int32)) = 4 ∨ ((x &&& (2147483647 : Int32)) % (6 : Int32)) = 5 := by
  have _ := rng32 x
  have _ : (2147483647 : Int32).toInt = 2147483647 := (by decide)
  have _ := rng32 (x &&& (2147483647 : Int32))
  have _ : (x &&& (2147483647 : Int32)).toInt = x.toInt % 2147483648 := c_mask x (2147483647 : Int32) 31 (by decide) (by decide)
  have _ : (6 : Int32).toInt = 6 := (by decide)
  have _ := rng32 ((x &&& (2147483647 : Int32)) % (6 : Int32))
  have _ := c_irem (x &&& (2147483647 : Int32)) (6 : Int32) 6 (by decide)
  have q : ((x &&& (2147483647 : Int32)) % (6 : Int32)).toInt = 0 ∨ ((x &&& (2147483647 : Int32)) % (6 : Int32)).toInt = 1 ∨ ((x &&& (2147483647 : Int32)) % (6 : Int32)).toInt = 2 ∨ ((x &&& (2147483647 : Int32)) % (6 : Int32)).toInt = 3 ∨ ((x &&& (2147483647 : Int32)) % (6 : Int32)).toInt = 4 ∨ ((x &&& (2147483647 : Int32)) % (6 : Int32)).toInt = 5 := by omega
  rcases q with q | q | q | q | q | q
  · exact Or.inl (Int32.toInt_inj.mp (q.trans (by decide)))
  · exact Or.inr (Or.inl (Int32.toInt_inj.mp (q.trans (by decide))))
  · exact Or.inr (Or.inr (Or.inl (Int32.toInt_inj.mp (q.trans (by decide)))))
  · exact Or.inr (Or.inr (Or.inr (Or.inl (Int32.toInt_inj.mp (q.trans (by decide))))))
  · exact Or.inr (Or.inr (Or.inr (Or.inr (Or.inl (Int32.toInt_inj.mp (q.trans (by decide)))))))
  · exact Or.inr (Or.inr (Or.inr (Or.inr (Or.inr (Int32.toInt_inj.mp (q.trans (by decide)))))))
set_option maxRecDepth 65536 in
set_option maxHeartbeats 40000000 in
theorem bo_new1 (l : Launch) (Z : State) (a0 : Array Value) (hw : ∀ d ∈ tables_1, d.before a0 Z = true) (n0 : Nat) (h0 : Heap) (Z0 : n0 ≤ h0.size) (a : Addr) (E : Exa Z h0 a "com/example/wirefram/wirefram/sequence/BeginOrder") (F_ring : Fld Z h0 a "com/example/wirefram/wirefram/sequence/BeginOrder" "ring" "[I" .null) (F_first : Fld Z h0 a "com/example/wirefram/wirefram/sequence/BeginOrder" "first" "J" (.long (0 : Int64))) (F_next : Fld Z h0 a "com/example/wirefram/wirefram/sequence/BeginOrder" "next" "J" (.long (0 : Int64))) (ga : n0 ≤ a) :
    Met l Z n0 y2_init prog_63_method_1_code 1 (Option.none : Option Jvm.ClassFile.FieldType) ({ frames := 1, cells := 1, slots := 4, locals := 12 } : Room) #[(.ref a)] h0 (fun v h => v = none ∧ Keep h0 h [a] ∧ ∃ r_ring, BO Z n0 h a r_ring (0 : Int64) (0 : Int64) [.int (0 : Int32), .int (0 : Int32), .int (0 : Int32), .int (0 : Int32)] ∧ h0.size ≤ r_ring) := by
  refine met_intro (own := c1_BeginOrder) (plainFor_of_name pn_com_example_wirefram_wirefram_sequence_BeginOrder) rfl Z0 ?_
  intro p e s m below meth c T A hnm
  refine Wp.cast (g' := mkF m 0 #[rv a] []) (by first | (simp [entryFrame, mkF, argsToLocals, Value.category, maxLocals, jv, S2, U0, iv, rv]; done) | rfl) ?_
  refine s_aloadN (pc' := 1) A d1_0 rfl rfl rfl ?_
  refine s_initO (pc' := 4) (W := 0) A (w7 hw) (w8 hw) (w9 hw) (by decide) (Nat.le_of_eq rfl) (by decide) rfl d1_1 rfl fun T A => ?_
  refine s_aloadN (pc' := 5) A d1_4 rfl rfl rfl ?_
  refine s_iconst (pc' := 6) (z := (4 : Int32)) A d1_5 rfl (by decide) ?_
  refine s_newarray (pc' := 8) (aty := .int) (ty := .int) (dv := (.int (0 : Int32))) (i := 4) (cap := 4) A rfl rfl (w10 hw) (by decide) (by decide) (by decide) (by decide) (by decide) d1_6 rfl fun T h1 b2 A g3 ge4 X5 V6 => ?_
  have ne7 : a ≠ b2 := lt_ne E.lt g3
  have bo8 : h0.size ≤ b2 := le_eq (Keep.refl h0 [a]).1 g3
  have V6 : AA Z h1 b2 .int [.int (0 : Int32), .int (0 : Int32), .int (0 : Int32), .int (0 : Int32)] := V6
  have F9 := (F_ring.ext X5)
  have E10 := (E.ext X5)
  refine s_putfield (pc' := 11) (host := "") A (Or.inl (w11 hw)) Via.refl F9 E10 (Or.inl (w12 hw)) (w2 hw) (ty := (.array .int)) (by decide) rfl rfl ga d1_8 rfl fun T h11 A W12 => ?_
  have F13 := F9.same W12
  have K14 := (((Keep.refl h0 [a]).ext X5).wr W12 (Or.inl (List.mem_of_getElem? (i := 0) rfl)))
  have E15 := (E10.wr W12)
  have F16 := ((F_first.ext X5).other W12 (Or.inr (sn_BeginOrder_first_ring hw)))
  have F17 := ((F_next.ext X5).other W12 (Or.inr (sn_BeginOrder_next_ring hw)))
  have V18 := (V6.other W12 (Ne.symm ne7))
  exact r_void A rfl d1_11 (by decide) (by decide) (⟨rfl, K14, b2, ⟨E15, F13, F16, F17, V18, ne7, ga, ge4⟩, bo8⟩)
set_option maxRecDepth 65536 in
set_option maxHeartbeats 40000000 in
theorem bo_isEmpty2 (l : Launch) (Z : State) (a0 : Array Value) (hw : ∀ d ∈ tables_1, d.before a0 Z = true) (n0 : Nat) (h0 : Heap) (Z0 : n0 ≤ h0.size) (a r_ring : Addr)  (l_ring : List Value) (H : BO Z n0 h0 a r_ring (0 : Int64) (0 : Int64) l_ring) :
    Met l Z n0 y3_isEmpty prog_63_method_4_code 1 (Option.some Jvm.ClassFile.FieldType.boolean) ({ frames := 0, cells := 0, slots := 0, locals := 0 } : Room) #[(.ref a)] h0 (fun v h => v = some (.int (1 : Int32)) ∧ Keep h0 h [a, r_ring] ∧ BO Z n0 h a r_ring (0 : Int64) (0 : Int64) l_ring) := by
  refine met_intro (own := c1_BeginOrder) (plainFor_of_name pn_com_example_wirefram_wirefram_sequence_BeginOrder) rfl Z0 ?_
  intro p e s m below meth c T A hnm
  refine Wp.cast (g' := mkF m 0 #[rv a] []) (by first | (simp [entryFrame, mkF, argsToLocals, Value.category, maxLocals, jv, S2, U0, iv, rv]; done) | rfl) ?_
  obtain ⟨E1, F2, F3, F4, V5, ne6, ge7, ge8⟩ := H
  refine s_aloadN (pc' := 1) A d3_0 rfl rfl rfl ?_
  refine s_getfield (pc' := 4) (host := "") A (Or.inl (w18 hw)) Via.refl F3 d3_1 rfl fun T A => ?_
  refine s_aloadN (pc' := 5) A d3_4 rfl rfl rfl ?_
  refine s_getfield (pc' := 8) (host := "") A (Or.inl (w20 hw)) Via.refl F4 d3_5 rfl fun T A => ?_
  refine s_lcmp (pc' := 9) A d3_8 rfl ?_
  refine s_ifN (pc' := 12) A d3_9 rfl (by decide) ?_
  refine s_iconst (pc' := 13) (z := (1 : Int32)) A d3_12 rfl (by decide) ?_
  refine s_goto (pc' := 17) A d3_13 (by decide) (by decide) ?_
  exact r_bool A rfl (by decide) d3_17 (by decide) (by decide) (⟨rfl, (Keep.refl h0 [a, r_ring]), ⟨E1, F2, F3, F4, V5, ne6, ge7, ge8⟩⟩)
set_option maxRecDepth 65536 in
set_option maxHeartbeats 40000000 in
theorem bo_add3 (l : Launch) (Z : State) (a0 : Array Value) (hw : ∀ d ∈ tables_1, d.before a0 Z = true) (n0 : Nat) (h0 : Heap) (Z0 : n0 ≤ h0.size) (a r_ring : Addr) (x0 : Int32) (x1 : Int32) (x2 : Int32) (x3 : Int32) (x4 : Int32) (H : BO Z n0 h0 a r_ring (0 : Int64) (0 : Int64) [.int x0, .int x1, .int x2, .int x3]) :
    Met l Z n0 y4_add prog_63_method_2_code 2 (Option.some Jvm.ClassFile.FieldType.long) ({ frames := 0, cells := 0, slots := 0, locals := 0 } : Room) #[(.ref a), (.int x4)] h0 (fun v h => v = some (.long (0 : Int64)) ∧ Keep h0 h [a, r_ring] ∧ BO Z n0 h a r_ring (0 : Int64) (1 : Int64) [.int (x4 + (1 : Int32)), .int x1, .int x2, .int x3]) := by
  refine met_intro (own := c1_BeginOrder) (plainFor_of_name pn_com_example_wirefram_wirefram_sequence_BeginOrder) rfl Z0 ?_
  intro p e s m below meth c T A hnm
  refine Wp.cast (g' := mkF m 0 #[rv a, iv x4] []) (by first | (simp [entryFrame, mkF, argsToLocals, Value.category, maxLocals, jv, S2, U0, iv, rv]; done) | rfl) ?_
  obtain ⟨E1, F2, F3, F4, V5, ne6, ge7, ge8⟩ := H
  refine s_aloadN (pc' := 1) A d4_0 rfl rfl rfl ?_
  refine s_getfield (pc' := 4) (host := "") A (Or.inl (w20 hw)) Via.refl F4 d4_1 rfl fun T A => ?_
  refine s_aloadN (pc' := 5) A d4_4 rfl rfl rfl ?_
  refine s_getfield (pc' := 8) (host := "") A (Or.inl (w18 hw)) Via.refl F3 d4_5 rfl fun T A => ?_
  refine s_lsub (pc' := 9) (z := (0 : Int64)) A d4_8 rfl (by decide) ?_
  refine s_aloadN (pc' := 10) A d4_9 rfl rfl rfl ?_
  refine s_getfield (pc' := 13) (host := "") A (Or.inl (w11 hw)) Via.refl F2 d4_10 rfl fun T A => ?_
  refine s_arraylength (pc' := 14) (z := (4 : Int32)) A V5 (by show _ = ((4 : Nat) : Int); decide) d4_13 rfl ?_
  refine s_i2l (pc' := 15) (z := (4 : Int64)) A d4_14 rfl (by decide) ?_
  refine s_lcmp (pc' := 16) A d4_15 rfl ?_
  refine s_ifY (pc' := 23) A d4_16 (by decide) (by decide) (by decide) ?_
  refine s_aloadN (pc' := 24) A d4_23 rfl rfl rfl ?_
  refine s_getfield (pc' := 27) (host := "") A (Or.inl (w11 hw)) Via.refl F2 d4_24 rfl fun T A => ?_
  refine s_aloadN (pc' := 28) A d4_27 rfl rfl rfl ?_
  refine s_getfield (pc' := 31) (host := "") A (Or.inl (w20 hw)) Via.refl F4 d4_28 rfl fun T A => ?_
  refine s_l2i (pc' := 32) (z := (0 : Int32)) A d4_31 rfl (by decide) ?_
  refine s_aloadN (pc' := 33) A d4_32 rfl rfl rfl ?_
  refine s_getfield (pc' := 36) (host := "") A (Or.inl (w11 hw)) Via.refl F2 d4_33 rfl fun T A => ?_
  refine s_arraylength (pc' := 37) (z := (4 : Int32)) A V5 (by show _ = ((4 : Nat) : Int); decide) d4_36 rfl ?_
  refine s_iconst (pc' := 38) (z := (1 : Int32)) A d4_37 rfl (by decide) ?_
  refine s_isub (pc' := 39) (z := (3 : Int32)) A d4_38 rfl (by decide) ?_
  refine s_iand (pc' := 40) (z := (0 : Int32)) A d4_39 rfl (by decide) ?_
  refine s_iloadN (pc' := 41) A d4_40 rfl rfl ?_
  refine s_iconst (pc' := 42) (z := (1 : Int32)) A d4_41 rfl (by decide) ?_
  refine s_iadd (pc' := 43) (z := (x4 + (1 : Int32))) A d4_42 rfl rfl ?_
  refine s_iastore (pc' := 44) (i := 0) A V5 (by decide) (Nat.le_of_ble_eq_true rfl) ge8 d4_43 rfl fun T h9 A W10 V11 => ?_
  have V11 : AA Z h9 r_ring .int [.int (x4 + (1 : Int32)), .int x1, .int x2, .int x3] := V11
  refine s_aloadN (pc' := 45) A d4_44 rfl rfl rfl ?_
  refine s_dup (pc' := 46) A d4_45 rfl rfl ?_
  have F12 := (F4.other W10 (Or.inl ne6))
  refine s_getfield (pc' := 49) (host := "") A (Or.inl (w20 hw)) Via.refl F12 d4_46 rfl fun T A => ?_
  refine s_dup2X1L (pc' := 50) A d4_49 rfl rfl ?_
  refine s_lconst (pc' := 51) (z := (1 : Int64)) A d4_50 rfl (by decide) ?_
  refine s_ladd (pc' := 52) (z := (1 : Int64)) A d4_51 rfl (by decide) ?_
  have E13 := (E1.wr W10)
  refine s_putfield (pc' := 55) (host := "") A (Or.inl (w20 hw)) Via.refl F12 E13 (Or.inl (w21 hw)) (w2 hw) (ty := .long) (by decide) rfl rfl ge7 d4_52 rfl fun T h14 A W15 => ?_
  have F16 := F12.same W15
  have K17 := (((Keep.refl h0 [a, r_ring]).wr W10 (Or.inl (List.mem_of_getElem? (i := 1) rfl))).wr W15 (Or.inl (List.mem_of_getElem? (i := 0) rfl)))
  have E18 := (E13.wr W15)
  have F19 := ((F2.other W10 (Or.inl ne6)).other W15 (Or.inr (sn_BeginOrder_ring_next hw)))
  have F20 := ((F3.other W10 (Or.inl ne6)).other W15 (Or.inr (sn_BeginOrder_first_next hw)))
  have V21 := (V11.other W15 (Ne.symm ne6))
  exact r_long A rfl d4_55 (by decide) (by decide) (⟨rfl, K17, ⟨E18, F19, F20, F16, V21, ne6, ge7, ge8⟩⟩)
set_option maxRecDepth 65536 in
set_option maxHeartbeats 40000000 in
theorem bo_add4 (l : Launch) (Z : State) (a0 : Array Value) (hw : ∀ d ∈ tables_1, d.before a0 Z = true) (n0 : Nat) (h0 : Heap) (Z0 : n0 ≤ h0.size) (a r_ring : Addr) (x0 : Int32) (x1 : Int32) (x2 : Int32) (x3 : Int32) (x4 : Int32) (H : BO Z n0 h0 a r_ring (0 : Int64) (1 : Int64) [.int x0, .int x1, .int x2, .int x3]) :
    Met l Z n0 y4_add prog_63_method_2_code 2 (Option.some Jvm.ClassFile.FieldType.long) ({ frames := 0, cells := 0, slots := 0, locals := 0 } : Room) #[(.ref a), (.int x4)] h0 (fun v h => v = some (.long (1 : Int64)) ∧ Keep h0 h [a, r_ring] ∧ BO Z n0 h a r_ring (0 : Int64) (2 : Int64) [.int x0, .int (x4 + (1 : Int32)), .int x2, .int x3]) := by
  refine met_intro (own := c1_BeginOrder) (plainFor_of_name pn_com_example_wirefram_wirefram_sequence_BeginOrder) rfl Z0 ?_
  intro p e s m below meth c T A hnm
  refine Wp.cast (g' := mkF m 0 #[rv a, iv x4] []) (by first | (simp [entryFrame, mkF, argsToLocals, Value.category, maxLocals, jv, S2, U0, iv, rv]; done) | rfl) ?_
  obtain ⟨E1, F2, F3, F4, V5, ne6, ge7, ge8⟩ := H
  refine s_aloadN (pc' := 1) A d4_0 rfl rfl rfl ?_
  refine s_getfield (pc' := 4) (host := "") A (Or.inl (w20 hw)) Via.refl F4 d4_1 rfl fun T A => ?_
  refine s_aloadN (pc' := 5) A d4_4 rfl rfl rfl ?_
  refine s_getfield (pc' := 8) (host := "") A (Or.inl (w18 hw)) Via.refl F3 d4_5 rfl fun T A => ?_
  refine s_lsub (pc' := 9) (z := (1 : Int64)) A d4_8 rfl (by decide) ?_
  refine s_aloadN (pc' := 10) A d4_9 rfl rfl rfl ?_
  refine s_getfield (pc' := 13) (host := "") A (Or.inl (w11 hw)) Via.refl F2 d4_10 rfl fun T A => ?_
  refine s_arraylength (pc' := 14) (z := (4 : Int32)) A V5 (by show _ = ((4 : Nat) : Int); decide) d4_13 rfl ?_
  refine s_i2l (pc' := 15) (z := (4 : Int64)) A d4_14 rfl (by decide) ?_
  refine s_lcmp (pc' := 16) A d4_15 rfl ?_
  refine s_ifY (pc' := 23) A d4_16 (by decide) (by decide) (by decide) ?_
  refine s_aloadN (pc' := 24) A d4_23 rfl rfl rfl ?_
  refine s_getfield (pc' := 27) (host := "") A (Or.inl (w11 hw)) Via.refl F2 d4_24 rfl fun T A => ?_
  refine s_aloadN (pc' := 28) A d4_27 rfl rfl rfl ?_
  refine s_getfield (pc' := 31) (host := "") A (Or.inl (w20 hw)) Via.refl F4 d4_28 rfl fun T A => ?_
  refine s_l2i (pc' := 32) (z := (1 : Int32)) A d4_31 rfl (by decide) ?_
  refine s_aloadN (pc' := 33) A d4_32 rfl rfl rfl ?_
  refine s_getfield (pc' := 36) (host := "") A (Or.inl (w11 hw)) Via.refl F2 d4_33 rfl fun T A => ?_
  refine s_arraylength (pc' := 37) (z := (4 : Int32)) A V5 (by show _ = ((4 : Nat) : Int); decide) d4_36 rfl ?_
  refine s_iconst (pc' := 38) (z := (1 : Int32)) A d4_37 rfl (by decide) ?_
  refine s_isub (pc' := 39) (z := (3 : Int32)) A d4_38 rfl (by decide) ?_
  refine s_iand (pc' := 40) (z := (1 : Int32)) A d4_39 rfl (by decide) ?_
  refine s_iloadN (pc' := 41) A d4_40 rfl rfl ?_
  refine s_iconst (pc' := 42) (z := (1 : Int32)) A d4_41 rfl (by decide) ?_
  refine s_iadd (pc' := 43) (z := (x4 + (1 : Int32))) A d4_42 rfl rfl ?_
  refine s_iastore (pc' := 44) (i := 1) A V5 (by decide) (Nat.le_of_ble_eq_true rfl) ge8 d4_43 rfl fun T h9 A W10 V11 => ?_
  have V11 : AA Z h9 r_ring .int [.int x0, .int (x4 + (1 : Int32)), .int x2, .int x3] := V11
  refine s_aloadN (pc' := 45) A d4_44 rfl rfl rfl ?_
  refine s_dup (pc' := 46) A d4_45 rfl rfl ?_
  have F12 := (F4.other W10 (Or.inl ne6))
  refine s_getfield (pc' := 49) (host := "") A (Or.inl (w20 hw)) Via.refl F12 d4_46 rfl fun T A => ?_
  refine s_dup2X1L (pc' := 50) A d4_49 rfl rfl ?_
  refine s_lconst (pc' := 51) (z := (1 : Int64)) A d4_50 rfl (by decide) ?_
  refine s_ladd (pc' := 52) (z := (2 : Int64)) A d4_51 rfl (by decide) ?_
  have E13 := (E1.wr W10)
  refine s_putfield (pc' := 55) (host := "") A (Or.inl (w20 hw)) Via.refl F12 E13 (Or.inl (w21 hw)) (w2 hw) (ty := .long) (by decide) rfl rfl ge7 d4_52 rfl fun T h14 A W15 => ?_
  have F16 := F12.same W15
  have K17 := (((Keep.refl h0 [a, r_ring]).wr W10 (Or.inl (List.mem_of_getElem? (i := 1) rfl))).wr W15 (Or.inl (List.mem_of_getElem? (i := 0) rfl)))
  have E18 := (E13.wr W15)
  have F19 := ((F2.other W10 (Or.inl ne6)).other W15 (Or.inr (sn_BeginOrder_ring_next hw)))
  have F20 := ((F3.other W10 (Or.inl ne6)).other W15 (Or.inr (sn_BeginOrder_first_next hw)))
  have V21 := (V11.other W15 (Ne.symm ne6))
  exact r_long A rfl d4_55 (by decide) (by decide) (⟨rfl, K17, ⟨E18, F19, F20, F16, V21, ne6, ge7, ge8⟩⟩)
set_option maxRecDepth 65536 in
set_option maxHeartbeats 40000000 in
theorem bo_add5 (l : Launch) (Z : State) (a0 : Array Value) (hw : ∀ d ∈ tables_1, d.before a0 Z = true) (n0 : Nat) (h0 : Heap) (Z0 : n0 ≤ h0.size) (a r_ring : Addr) (x0 : Int32) (x1 : Int32) (x2 : Int32) (x3 : Int32) (x4 : Int32) (H : BO Z n0 h0 a r_ring (0 : Int64) (2 : Int64) [.int x0, .int x1, .int x2, .int x3]) :
    Met l Z n0 y4_add prog_63_method_2_code 2 (Option.some Jvm.ClassFile.FieldType.long) ({ frames := 0, cells := 0, slots := 0, locals := 0 } : Room) #[(.ref a), (.int x4)] h0 (fun v h => v = some (.long (2 : Int64)) ∧ Keep h0 h [a, r_ring] ∧ BO Z n0 h a r_ring (0 : Int64) (3 : Int64) [.int x0, .int x1, .int (x4 + (1 : Int32)), .int x3]) := by
  refine met_intro (own := c1_BeginOrder) (plainFor_of_name pn_com_example_wirefram_wirefram_sequence_BeginOrder) rfl Z0 ?_
  intro p e s m below meth c T A hnm
  refine Wp.cast (g' := mkF m 0 #[rv a, iv x4] []) (by first | (simp [entryFrame, mkF, argsToLocals, Value.category, maxLocals, jv, S2, U0, iv, rv]; done) | rfl) ?_
  obtain ⟨E1, F2, F3, F4, V5, ne6, ge7, ge8⟩ := H
  refine s_aloadN (pc' := 1) A d4_0 rfl rfl rfl ?_
  refine s_getfield (pc' := 4) (host := "") A (Or.inl (w20 hw)) Via.refl F4 d4_1 rfl fun T A => ?_
  refine s_aloadN (pc' := 5) A d4_4 rfl rfl rfl ?_
  refine s_getfield (pc' := 8) (host := "") A (Or.inl (w18 hw)) Via.refl F3 d4_5 rfl fun T A => ?_
  refine s_lsub (pc' := 9) (z := (2 : Int64)) A d4_8 rfl (by decide) ?_
  refine s_aloadN (pc' := 10) A d4_9 rfl rfl rfl ?_
  refine s_getfield (pc' := 13) (host := "") A (Or.inl (w11 hw)) Via.refl F2 d4_10 rfl fun T A => ?_
  refine s_arraylength (pc' := 14) (z := (4 : Int32)) A V5 (by show _ = ((4 : Nat) : Int); decide) d4_13 rfl ?_
  refine s_i2l (pc' := 15) (z := (4 : Int64)) A d4_14 rfl (by decide) ?_
  refine s_lcmp (pc' := 16) A d4_15 rfl ?_
  refine s_ifY (pc' := 23) A d4_16 (by decide) (by decide) (by decide) ?_
  refine s_aloadN (pc' := 24) A d4_23 rfl rfl rfl ?_
  refine s_getfield (pc' := 27) (host := "") A (Or.inl (w11 hw)) Via.refl F2 d4_24 rfl fun T A => ?_
  refine s_aloadN (pc' := 28) A d4_27 rfl rfl rfl ?_
  refine s_getfield (pc' := 31) (host := "") A (Or.inl (w20 hw)) Via.refl F4 d4_28 rfl fun T A => ?_
  refine s_l2i (pc' := 32) (z := (2 : Int32)) A d4_31 rfl (by decide) ?_
  refine s_aloadN (pc' := 33) A d4_32 rfl rfl rfl ?_
  refine s_getfield (pc' := 36) (host := "") A (Or.inl (w11 hw)) Via.refl F2 d4_33 rfl fun T A => ?_
  refine s_arraylength (pc' := 37) (z := (4 : Int32)) A V5 (by show _ = ((4 : Nat) : Int); decide) d4_36 rfl ?_
  refine s_iconst (pc' := 38) (z := (1 : Int32)) A d4_37 rfl (by decide) ?_
  refine s_isub (pc' := 39) (z := (3 : Int32)) A d4_38 rfl (by decide) ?_
  refine s_iand (pc' := 40) (z := (2 : Int32)) A d4_39 rfl (by decide) ?_
  refine s_iloadN (pc' := 41) A d4_40 rfl rfl ?_
  refine s_iconst (pc' := 42) (z := (1 : Int32)) A d4_41 rfl (by decide) ?_
  refine s_iadd (pc' := 43) (z := (x4 + (1 : Int32))) A d4_42 rfl rfl ?_
  refine s_iastore (pc' := 44) (i := 2) A V5 (by decide) (Nat.le_of_ble_eq_true rfl) ge8 d4_43 rfl fun T h9 A W10 V11 => ?_
  have V11 : AA Z h9 r_ring .int [.int x0, .int x1, .int (x4 + (1 : Int32)), .int x3] := V11
  refine s_aloadN (pc' := 45) A d4_44 rfl rfl rfl ?_
  refine s_dup (pc' := 46) A d4_45 rfl rfl ?_
  have F12 := (F4.other W10 (Or.inl ne6))
  refine s_getfield (pc' := 49) (host := "") A (Or.inl (w20 hw)) Via.refl F12 d4_46 rfl fun T A => ?_
  refine s_dup2X1L (pc' := 50) A d4_49 rfl rfl ?_
  refine s_lconst (pc' := 51) (z := (1 : Int64)) A d4_50 rfl (by decide) ?_
  refine s_ladd (pc' := 52) (z := (3 : Int64)) A d4_51 rfl (by decide) ?_
  have E13 := (E1.wr W10)
  refine s_putfield (pc' := 55) (host := "") A (Or.inl (w20 hw)) Via.refl F12 E13 (Or.inl (w21 hw)) (w2 hw) (ty := .long) (by decide) rfl rfl ge7 d4_52 rfl fun T h14 A W15 => ?_
  have F16 := F12.same W15
  have K17 := (((Keep.refl h0 [a, r_ring]).wr W10 (Or.inl (List.mem_of_getElem? (i := 1) rfl))).wr W15 (Or.inl (List.mem_of_getElem? (i := 0) rfl)))
  have E18 := (E13.wr W15)
  have F19 := ((F2.other W10 (Or.inl ne6)).other W15 (Or.inr (sn_BeginOrder_ring_next hw)))
  have F20 := ((F3.other W10 (Or.inl ne6)).other W15 (Or.inr (sn_BeginOrder_first_next hw)))
  have V21 := (V11.other W15 (Ne.symm ne6))
  exact r_long A rfl d4_55 (by decide) (by decide) (⟨rfl, K17, ⟨E18, F19, F20, F16, V21, ne6, ge7, ge8⟩⟩)
set_option maxRecDepth 65536 in
set_option maxHeartbeats 40000000 in
theorem bo_isEmpty6 (l : Launch) (Z : State) (a0 : Array Value) (hw : ∀ d ∈ tables_1, d.before a0 Z = true) (n0 : Nat) (h0 : Heap) (Z0 : n0 ≤ h0.size) (a r_ring : Addr)  (l_ring : List Value) (H : BO Z n0 h0 a r_ring (0 : Int64) (3 : Int64) l_ring) :
    Met l Z n0 y3_isEmpty prog_63_method_4_code 1 (Option.some Jvm.ClassFile.FieldType.boolean) ({ frames := 0, cells := 0, slots := 0, locals := 0 } : Room) #[(.ref a)] h0 (fun v h => v = some (.int (0 : Int32)) ∧ Keep h0 h [a, r_ring] ∧ BO Z n0 h a r_ring (0 : Int64) (3 : Int64) l_ring) := by
  refine met_intro (own := c1_BeginOrder) (plainFor_of_name pn_com_example_wirefram_wirefram_sequence_BeginOrder) rfl Z0 ?_
  intro p e s m below meth c T A hnm
  refine Wp.cast (g' := mkF m 0 #[rv a] []) (by first | (simp [entryFrame, mkF, argsToLocals, Value.category, maxLocals, jv, S2, U0, iv, rv]; done) | rfl) ?_
  obtain ⟨E1, F2, F3, F4, V5, ne6, ge7, ge8⟩ := H
  refine s_aloadN (pc' := 1) A d3_0 rfl rfl rfl ?_
  refine s_getfield (pc' := 4) (host := "") A (Or.inl (w18 hw)) Via.refl F3 d3_1 rfl fun T A => ?_
  refine s_aloadN (pc' := 5) A d3_4 rfl rfl rfl ?_
  refine s_getfield (pc' := 8) (host := "") A (Or.inl (w20 hw)) Via.refl F4 d3_5 rfl fun T A => ?_
  refine s_lcmp (pc' := 9) A d3_8 rfl ?_
  refine s_ifY (pc' := 16) A d3_9 (by decide) (by decide) (by decide) ?_
  refine s_iconst (pc' := 17) (z := (0 : Int32)) A d3_16 rfl (by decide) ?_
  exact r_bool A rfl (by decide) d3_17 (by decide) (by decide) (⟨rfl, (Keep.refl h0 [a, r_ring]), ⟨E1, F2, F3, F4, V5, ne6, ge7, ge8⟩⟩)
set_option maxRecDepth 65536 in
set_option maxHeartbeats 40000000 in
theorem bo_first7 (l : Launch) (Z : State) (a0 : Array Value) (hw : ∀ d ∈ tables_1, d.before a0 Z = true) (n0 : Nat) (h0 : Heap) (Z0 : n0 ≤ h0.size) (a r_ring : Addr) (x0 : Int32) (x1 : Int32) (x2 : Int32) (x3 : Int32) (H : BO Z n0 h0 a r_ring (0 : Int64) (3 : Int64) [.int x0, .int x1, .int x2, .int x3]) :
    Met l Z n0 y5_first prog_63_method_5_code 1 (Option.some Jvm.ClassFile.FieldType.int) ({ frames := 0, cells := 0, slots := 0, locals := 0 } : Room) #[(.ref a)] h0 (fun v h => v = some (.int (x0 - (1 : Int32))) ∧ Keep h0 h [a, r_ring] ∧ BO Z n0 h a r_ring (0 : Int64) (3 : Int64) [.int x0, .int x1, .int x2, .int x3]) := by
  refine met_intro (own := c1_BeginOrder) (plainFor_of_name pn_com_example_wirefram_wirefram_sequence_BeginOrder) rfl Z0 ?_
  intro p e s m below meth c T A hnm
  refine Wp.cast (g' := mkF m 0 #[rv a] []) (by first | (simp [entryFrame, mkF, argsToLocals, Value.category, maxLocals, jv, S2, U0, iv, rv]; done) | rfl) ?_
  obtain ⟨E1, F2, F3, F4, V5, ne6, ge7, ge8⟩ := H
  refine s_aloadN (pc' := 1) A d8_0 rfl rfl rfl ?_
  refine s_getfield (pc' := 4) (host := "") A (Or.inl (w11 hw)) Via.refl F2 d8_1 rfl fun T A => ?_
  refine s_aloadN (pc' := 5) A d8_4 rfl rfl rfl ?_
  refine s_getfield (pc' := 8) (host := "") A (Or.inl (w18 hw)) Via.refl F3 d8_5 rfl fun T A => ?_
  refine s_l2i (pc' := 9) (z := (0 : Int32)) A d8_8 rfl (by decide) ?_
  refine s_aloadN (pc' := 10) A d8_9 rfl rfl rfl ?_
  refine s_getfield (pc' := 13) (host := "") A (Or.inl (w11 hw)) Via.refl F2 d8_10 rfl fun T A => ?_
  refine s_arraylength (pc' := 14) (z := (4 : Int32)) A V5 (by show _ = ((4 : Nat) : Int); decide) d8_13 rfl ?_
  refine s_iconst (pc' := 15) (z := (1 : Int32)) A d8_14 rfl (by decide) ?_
  refine s_isub (pc' := 16) (z := (3 : Int32)) A d8_15 rfl (by decide) ?_
  refine s_iand (pc' := 17) (z := (0 : Int32)) A d8_16 rfl (by decide) ?_
  refine s_iaload (pc' := 18) (i := 0) (v := (.int x0)) A V5 (by decide) rfl d8_17 rfl ?_
  refine s_iconst (pc' := 19) (z := (1 : Int32)) A d8_18 rfl (by decide) ?_
  refine s_isub (pc' := 20) (z := (x0 - (1 : Int32))) A d8_19 rfl rfl ?_
  exact r_int A rfl d8_20 (by decide) (by decide) (⟨rfl, (Keep.refl h0 [a, r_ring]), ⟨E1, F2, F3, F4, V5, ne6, ge7, ge8⟩⟩)
set_option maxRecDepth 65536 in
set_option maxHeartbeats 40000000 in
theorem bo_remove8 (l : Launch) (Z : State) (a0 : Array Value) (hw : ∀ d ∈ tables_1, d.before a0 Z = true) (n0 : Nat) (h0 : Heap) (Z0 : n0 ≤ h0.size) (a r_ring : Addr) (x0 : Int32) (x1 : Int32) (x2 : Int32) (H : BO Z n0 h0 a r_ring (0 : Int64) (3 : Int64) [.int x0, .int x1, .int x2, .int (0 : Int32)]) (nz0 : ¬ x0 = (0 : Int32)) (nz1 : ¬ x1 = (0 : Int32)) (nz2 : ¬ x2 = (0 : Int32)) :
    Met l Z n0 y6_remove prog_63_method_3_code 4 (Option.none : Option Jvm.ClassFile.FieldType) ({ frames := 0, cells := 0, slots := 0, locals := 0 } : Room) #[(.ref a), (.long (0 : Int64))] h0 (fun v h => v = none ∧ Keep h0 h [a, r_ring] ∧ BO Z n0 h a r_ring (1 : Int64) (3 : Int64) [.int (0 : Int32), .int x1, .int x2, .int (0 : Int32)]) := by
  refine met_intro (own := c1_BeginOrder) (plainFor_of_name pn_com_example_wirefram_wirefram_sequence_BeginOrder) rfl Z0 ?_
  intro p e s m below meth c T A hnm
  refine Wp.cast (g' := mkF m 0 #[rv a, jv 0, S2, U0] []) (by first | (simp [entryFrame, mkF, argsToLocals, Value.category, maxLocals, jv, S2, U0, iv, rv]; done) | rfl) ?_
  obtain ⟨E1, F2, F3, F4, V5, ne6, ge7, ge8⟩ := H
  refine s_aloadN (pc' := 1) A d6_0 rfl rfl rfl ?_
  refine s_getfield (pc' := 4) (host := "") A (Or.inl (w11 hw)) Via.refl F2 d6_1 rfl fun T A => ?_
  refine s_arraylength (pc' := 5) (z := (4 : Int32)) A V5 (by show _ = ((4 : Nat) : Int); decide) d6_4 rfl ?_
  refine s_iconst (pc' := 6) (z := (1 : Int32)) A d6_5 rfl (by decide) ?_
  refine s_isub (pc' := 7) (z := (3 : Int32)) A d6_6 rfl (by decide) ?_
  refine s_istoreN (pc' := 8) (Ls' := #[rv a, jv 0, S2, iv 3]) A d6_7 rfl rfl ?_
  refine s_aloadN (pc' := 9) A d6_8 rfl rfl rfl ?_
  refine s_getfield (pc' := 12) (host := "") A (Or.inl (w11 hw)) Via.refl F2 d6_9 rfl fun T A => ?_
  refine s_lloadN (pc' := 13) A d6_12 rfl rfl ?_
  refine s_l2i (pc' := 14) (z := (0 : Int32)) A d6_13 rfl (by decide) ?_
  refine s_iloadN (pc' := 15) A d6_14 rfl rfl ?_
  refine s_iand (pc' := 16) (z := (0 : Int32)) A d6_15 rfl (by decide) ?_
  refine s_iconst (pc' := 17) (z := (0 : Int32)) A d6_16 rfl (by decide) ?_
  refine s_iastore (pc' := 18) (i := 0) A V5 (by decide) (Nat.le_of_ble_eq_true rfl) ge8 d6_17 rfl fun T h9 A W10 V11 => ?_
  have V11 : AA Z h9 r_ring .int [.int (0 : Int32), .int x1, .int x2, .int (0 : Int32)] := V11
  refine s_aloadN (pc' := 19) A d6_18 rfl rfl rfl ?_
  have F12 := (F3.other W10 (Or.inl ne6))
  refine s_getfield (pc' := 22) (host := "") A (Or.inl (w18 hw)) Via.refl F12 d6_19 rfl fun T A => ?_
  refine s_aloadN (pc' := 23) A d6_22 rfl rfl rfl ?_
  have F13 := (F4.other W10 (Or.inl ne6))
  refine s_getfield (pc' := 26) (host := "") A (Or.inl (w20 hw)) Via.refl F13 d6_23 rfl fun T A => ?_
  refine s_lcmp (pc' := 27) A d6_26 rfl ?_
  refine s_ifN (pc' := 30) A d6_27 rfl (by decide) ?_
  refine s_aloadN (pc' := 31) A d6_30 rfl rfl rfl ?_
  have F14 := (F2.other W10 (Or.inl ne6))
  refine s_getfield (pc' := 34) (host := "") A (Or.inl (w11 hw)) Via.refl F14 d6_31 rfl fun T A => ?_
  refine s_aloadN (pc' := 35) A d6_34 rfl rfl rfl ?_
  refine s_getfield (pc' := 38) (host := "") A (Or.inl (w18 hw)) Via.refl F12 d6_35 rfl fun T A => ?_
  refine s_l2i (pc' := 39) (z := (0 : Int32)) A d6_38 rfl (by decide) ?_
  refine s_iloadN (pc' := 40) A d6_39 rfl rfl ?_
  refine s_iand (pc' := 41) (z := (0 : Int32)) A d6_40 rfl (by decide) ?_
  refine s_iaload (pc' := 42) (i := 0) (v := (.int (0 : Int32))) A V11 (by decide) rfl d6_41 rfl ?_
  refine s_ifN (pc' := 45) A d6_42 rfl (by decide) ?_
  refine s_aloadN (pc' := 46) A d6_45 rfl rfl rfl ?_
  refine s_dup (pc' := 47) A d6_46 rfl rfl ?_
  refine s_getfield (pc' := 50) (host := "") A (Or.inl (w18 hw)) Via.refl F12 d6_47 rfl fun T A => ?_
  refine s_lconst (pc' := 51) (z := (1 : Int64)) A d6_50 rfl (by decide) ?_
  refine s_ladd (pc' := 52) (z := (1 : Int64)) A d6_51 rfl (by decide) ?_
  have E15 := (E1.wr W10)
  refine s_putfield (pc' := 55) (host := "") A (Or.inl (w18 hw)) Via.refl F12 E15 (Or.inl (w19 hw)) (w2 hw) (ty := .long) (by decide) rfl rfl ge7 d6_52 rfl fun T h16 A W17 => ?_
  have F18 := F12.same W17
  refine s_goto (pc' := 18) A d6_55 (by decide) (by decide) ?_
  refine s_aloadN (pc' := 19) A d6_18 rfl rfl rfl ?_
  refine s_getfield (pc' := 22) (host := "") A (Or.inl (w18 hw)) Via.refl F18 d6_19 rfl fun T A => ?_
  refine s_aloadN (pc' := 23) A d6_22 rfl rfl rfl ?_
  have F19 := (F13.other W17 (Or.inr (sn_BeginOrder_next_first hw)))
  refine s_getfield (pc' := 26) (host := "") A (Or.inl (w20 hw)) Via.refl F19 d6_23 rfl fun T A => ?_
  refine s_lcmp (pc' := 27) A d6_26 rfl ?_
  refine s_ifN (pc' := 30) A d6_27 rfl (by decide) ?_
  refine s_aloadN (pc' := 31) A d6_30 rfl rfl rfl ?_
  have F20 := (F14.other W17 (Or.inr (sn_BeginOrder_ring_first hw)))
  refine s_getfield (pc' := 34) (host := "") A (Or.inl (w11 hw)) Via.refl F20 d6_31 rfl fun T A => ?_
  refine s_aloadN (pc' := 35) A d6_34 rfl rfl rfl ?_
  refine s_getfield (pc' := 38) (host := "") A (Or.inl (w18 hw)) Via.refl F18 d6_35 rfl fun T A => ?_
  refine s_l2i (pc' := 39) (z := (1 : Int32)) A d6_38 rfl (by decide) ?_
  refine s_iloadN (pc' := 40) A d6_39 rfl rfl ?_
  refine s_iand (pc' := 41) (z := (1 : Int32)) A d6_40 rfl (by decide) ?_
  have V21 := (V11.other W17 (Ne.symm ne6))
  refine s_iaload (pc' := 42) (i := 1) (v := (.int x1)) A V21 (by decide) rfl d6_41 rfl ?_
  refine s_ifY (pc' := 58) A d6_42 ((if0 _ _).trans (feq nz1).2) (by decide) (by decide) ?_
  have K22 := (((Keep.refl h0 [a, r_ring]).wr W10 (Or.inl (List.mem_of_getElem? (i := 1) rfl))).wr W17 (Or.inl (List.mem_of_getElem? (i := 0) rfl)))
  have E23 := (E15.wr W17)
  exact r_void A rfl d6_58 (by decide) (by decide) (⟨rfl, K22, ⟨E23, F20, F18, F19, V21, ne6, ge7, ge8⟩⟩)
set_option maxRecDepth 65536 in
set_option maxHeartbeats 40000000 in
theorem bo_isEmpty9 (l : Launch) (Z : State) (a0 : Array Value) (hw : ∀ d ∈ tables_1, d.before a0 Z = true) (n0 : Nat) (h0 : Heap) (Z0 : n0 ≤ h0.size) (a r_ring : Addr)  (l_ring : List Value) (H : BO Z n0 h0 a r_ring (1 : Int64) (3 : Int64) l_ring) :
    Met l Z n0 y3_isEmpty prog_63_method_4_code 1 (Option.some Jvm.ClassFile.FieldType.boolean) ({ frames := 0, cells := 0, slots := 0, locals := 0 } : Room) #[(.ref a)] h0 (fun v h => v = some (.int (0 : Int32)) ∧ Keep h0 h [a, r_ring] ∧ BO Z n0 h a r_ring (1 : Int64) (3 : Int64) l_ring) := by
  refine met_intro (own := c1_BeginOrder) (plainFor_of_name pn_com_example_wirefram_wirefram_sequence_BeginOrder) rfl Z0 ?_
  intro p e s m below meth c T A hnm
  refine Wp.cast (g' := mkF m 0 #[rv a] []) (by first | (simp [entryFrame, mkF, argsToLocals, Value.category, maxLocals, jv, S2, U0, iv, rv]; done) | rfl) ?_
  obtain ⟨E1, F2, F3, F4, V5, ne6, ge7, ge8⟩ := H
  refine s_aloadN (pc' := 1) A d3_0 rfl rfl rfl ?_
  refine s_getfield (pc' := 4) (host := "") A (Or.inl (w18 hw)) Via.refl F3 d3_1 rfl fun T A => ?_
  refine s_aloadN (pc' := 5) A d3_4 rfl rfl rfl ?_
  refine s_getfield (pc' := 8) (host := "") A (Or.inl (w20 hw)) Via.refl F4 d3_5 rfl fun T A => ?_
  refine s_lcmp (pc' := 9) A d3_8 rfl ?_
  refine s_ifY (pc' := 16) A d3_9 (by decide) (by decide) (by decide) ?_
  refine s_iconst (pc' := 17) (z := (0 : Int32)) A d3_16 rfl (by decide) ?_
  exact r_bool A rfl (by decide) d3_17 (by decide) (by decide) (⟨rfl, (Keep.refl h0 [a, r_ring]), ⟨E1, F2, F3, F4, V5, ne6, ge7, ge8⟩⟩)
set_option maxRecDepth 65536 in
set_option maxHeartbeats 40000000 in
theorem bo_first10 (l : Launch) (Z : State) (a0 : Array Value) (hw : ∀ d ∈ tables_1, d.before a0 Z = true) (n0 : Nat) (h0 : Heap) (Z0 : n0 ≤ h0.size) (a r_ring : Addr) (x0 : Int32) (x1 : Int32) (x2 : Int32) (x3 : Int32) (H : BO Z n0 h0 a r_ring (1 : Int64) (3 : Int64) [.int x0, .int x1, .int x2, .int x3]) :
    Met l Z n0 y5_first prog_63_method_5_code 1 (Option.some Jvm.ClassFile.FieldType.int) ({ frames := 0, cells := 0, slots := 0, locals := 0 } : Room) #[(.ref a)] h0 (fun v h => v = some (.int (x1 - (1 : Int32))) ∧ Keep h0 h [a, r_ring] ∧ BO Z n0 h a r_ring (1 : Int64) (3 : Int64) [.int x0, .int x1, .int x2, .int x3]) := by
  refine met_intro (own := c1_BeginOrder) (plainFor_of_name pn_com_example_wirefram_wirefram_sequence_BeginOrder) rfl Z0 ?_
  intro p e s m below meth c T A hnm
  refine Wp.cast (g' := mkF m 0 #[rv a] []) (by first | (simp [entryFrame, mkF, argsToLocals, Value.category, maxLocals, jv, S2, U0, iv, rv]; done) | rfl) ?_
  obtain ⟨E1, F2, F3, F4, V5, ne6, ge7, ge8⟩ := H
  refine s_aloadN (pc' := 1) A d8_0 rfl rfl rfl ?_
  refine s_getfield (pc' := 4) (host := "") A (Or.inl (w11 hw)) Via.refl F2 d8_1 rfl fun T A => ?_
  refine s_aloadN (pc' := 5) A d8_4 rfl rfl rfl ?_
  refine s_getfield (pc' := 8) (host := "") A (Or.inl (w18 hw)) Via.refl F3 d8_5 rfl fun T A => ?_
  refine s_l2i (pc' := 9) (z := (1 : Int32)) A d8_8 rfl (by decide) ?_
  refine s_aloadN (pc' := 10) A d8_9 rfl rfl rfl ?_
  refine s_getfield (pc' := 13) (host := "") A (Or.inl (w11 hw)) Via.refl F2 d8_10 rfl fun T A => ?_
  refine s_arraylength (pc' := 14) (z := (4 : Int32)) A V5 (by show _ = ((4 : Nat) : Int); decide) d8_13 rfl ?_
  refine s_iconst (pc' := 15) (z := (1 : Int32)) A d8_14 rfl (by decide) ?_
  refine s_isub (pc' := 16) (z := (3 : Int32)) A d8_15 rfl (by decide) ?_
  refine s_iand (pc' := 17) (z := (1 : Int32)) A d8_16 rfl (by decide) ?_
  refine s_iaload (pc' := 18) (i := 1) (v := (.int x1)) A V5 (by decide) rfl d8_17 rfl ?_
  refine s_iconst (pc' := 19) (z := (1 : Int32)) A d8_18 rfl (by decide) ?_
  refine s_isub (pc' := 20) (z := (x1 - (1 : Int32))) A d8_19 rfl rfl ?_
  exact r_int A rfl d8_20 (by decide) (by decide) (⟨rfl, (Keep.refl h0 [a, r_ring]), ⟨E1, F2, F3, F4, V5, ne6, ge7, ge8⟩⟩)
set_option maxRecDepth 65536 in
set_option maxHeartbeats 40000000 in
theorem bo_remove11 (l : Launch) (Z : State) (a0 : Array Value) (hw : ∀ d ∈ tables_1, d.before a0 Z = true) (n0 : Nat) (h0 : Heap) (Z0 : n0 ≤ h0.size) (a r_ring : Addr) (x0 : Int32) (x1 : Int32) (x2 : Int32) (H : BO Z n0 h0 a r_ring (0 : Int64) (3 : Int64) [.int x0, .int x1, .int x2, .int (0 : Int32)]) (nz0 : ¬ x0 = (0 : Int32)) (nz1 : ¬ x1 = (0 : Int32)) (nz2 : ¬ x2 = (0 : Int32)) :
    Met l Z n0 y6_remove prog_63_method_3_code 4 (Option.none : Option Jvm.ClassFile.FieldType) ({ frames := 0, cells := 0, slots := 0, locals := 0 } : Room) #[(.ref a), (.long (1 : Int64))] h0 (fun v h => v = none ∧ Keep h0 h [a, r_ring] ∧ BO Z n0 h a r_ring (0 : Int64) (3 : Int64) [.int x0, .int (0 : Int32), .int x2, .int (0 : Int32)]) := by
  refine met_intro (own := c1_BeginOrder) (plainFor_of_name pn_com_example_wirefram_wirefram_sequence_BeginOrder) rfl Z0 ?_
  intro p e s m below meth c T A hnm
  refine Wp.cast (g' := mkF m 0 #[rv a, jv 1, S2, U0] []) (by first | (simp [entryFrame, mkF, argsToLocals, Value.category, maxLocals, jv, S2, U0, iv, rv]; done) | rfl) ?_
  obtain ⟨E1, F2, F3, F4, V5, ne6, ge7, ge8⟩ := H
  refine s_aloadN (pc' := 1) A d6_0 rfl rfl rfl ?_
  refine s_getfield (pc' := 4) (host := "") A (Or.inl (w11 hw)) Via.refl F2 d6_1 rfl fun T A => ?_
  refine s_arraylength (pc' := 5) (z := (4 : Int32)) A V5 (by show _ = ((4 : Nat) : Int); decide) d6_4 rfl ?_
  refine s_iconst (pc' := 6) (z := (1 : Int32)) A d6_5 rfl (by decide) ?_
  refine s_isub (pc' := 7) (z := (3 : Int32)) A d6_6 rfl (by decide) ?_
  refine s_istoreN (pc' := 8) (Ls' := #[rv a, jv 1, S2, iv 3]) A d6_7 rfl rfl ?_
  refine s_aloadN (pc' := 9) A d6_8 rfl rfl rfl ?_
  refine s_getfield (pc' := 12) (host := "") A (Or.inl (w11 hw)) Via.refl F2 d6_9 rfl fun T A => ?_
  refine s_lloadN (pc' := 13) A d6_12 rfl rfl ?_
  refine s_l2i (pc' := 14) (z := (1 : Int32)) A d6_13 rfl (by decide) ?_
  refine s_iloadN (pc' := 15) A d6_14 rfl rfl ?_
  refine s_iand (pc' := 16) (z := (1 : Int32)) A d6_15 rfl (by decide) ?_
  refine s_iconst (pc' := 17) (z := (0 : Int32)) A d6_16 rfl (by decide) ?_
  refine s_iastore (pc' := 18) (i := 1) A V5 (by decide) (Nat.le_of_ble_eq_true rfl) ge8 d6_17 rfl fun T h9 A W10 V11 => ?_
  have V11 : AA Z h9 r_ring .int [.int x0, .int (0 : Int32), .int x2, .int (0 : Int32)] := V11
  refine s_aloadN (pc' := 19) A d6_18 rfl rfl rfl ?_
  have F12 := (F3.other W10 (Or.inl ne6))
  refine s_getfield (pc' := 22) (host := "") A (Or.inl (w18 hw)) Via.refl F12 d6_19 rfl fun T A => ?_
  refine s_aloadN (pc' := 23) A d6_22 rfl rfl rfl ?_
  have F13 := (F4.other W10 (Or.inl ne6))
  refine s_getfield (pc' := 26) (host := "") A (Or.inl (w20 hw)) Via.refl F13 d6_23 rfl fun T A => ?_
  refine s_lcmp (pc' := 27) A d6_26 rfl ?_
  refine s_ifN (pc' := 30) A d6_27 rfl (by decide) ?_
  refine s_aloadN (pc' := 31) A d6_30 rfl rfl rfl ?_
  have F14 := (F2.other W10 (Or.inl ne6))
  refine s_getfield (pc' := 34) (host := "") A (Or.inl (w11 hw)) Via.refl F14 d6_31 rfl fun T A => ?_
  refine s_aloadN (pc' := 35) A d6_34 rfl rfl rfl ?_
  refine s_getfield (pc' := 38) (host := "") A (Or.inl (w18 hw)) Via.refl F12 d6_35 rfl fun T A => ?_
  refine s_l2i (pc' := 39) (z := (0 : Int32)) A d6_38 rfl (by decide) ?_
  refine s_iloadN (pc' := 40) A d6_39 rfl rfl ?_
  refine s_iand (pc' := 41) (z := (0 : Int32)) A d6_40 rfl (by decide) ?_
  refine s_iaload (pc' := 42) (i := 0) (v := (.int x0)) A V11 (by decide) rfl d6_41 rfl ?_
  refine s_ifY (pc' := 58) A d6_42 ((if0 _ _).trans (feq nz0).2) (by decide) (by decide) ?_
  have K15 := ((Keep.refl h0 [a, r_ring]).wr W10 (Or.inl (List.mem_of_getElem? (i := 1) rfl)))
  have E16 := (E1.wr W10)
  exact r_void A rfl d6_58 (by decide) (by decide) (⟨rfl, K15, ⟨E16, F14, F12, F13, V11, ne6, ge7, ge8⟩⟩)
set_option maxRecDepth 65536 in
set_option maxHeartbeats 40000000 in
theorem bo_remove12 (l : Launch) (Z : State) (a0 : Array Value) (hw : ∀ d ∈ tables_1, d.before a0 Z = true) (n0 : Nat) (h0 : Heap) (Z0 : n0 ≤ h0.size) (a r_ring : Addr) (x0 : Int32) (x1 : Int32) (x2 : Int32) (H : BO Z n0 h0 a r_ring (0 : Int64) (3 : Int64) [.int x0, .int x1, .int x2, .int (0 : Int32)]) (nz0 : ¬ x0 = (0 : Int32)) (nz1 : ¬ x1 = (0 : Int32)) (nz2 : ¬ x2 = (0 : Int32)) :
    Met l Z n0 y6_remove prog_63_method_3_code 4 (Option.none : Option Jvm.ClassFile.FieldType) ({ frames := 0, cells := 0, slots := 0, locals := 0 } : Room) #[(.ref a), (.long (2 : Int64))] h0 (fun v h => v = none ∧ Keep h0 h [a, r_ring] ∧ BO Z n0 h a r_ring (0 : Int64) (3 : Int64) [.int x0, .int x1, .int (0 : Int32), .int (0 : Int32)]) := by
  refine met_intro (own := c1_BeginOrder) (plainFor_of_name pn_com_example_wirefram_wirefram_sequence_BeginOrder) rfl Z0 ?_
  intro p e s m below meth c T A hnm
  refine Wp.cast (g' := mkF m 0 #[rv a, jv 2, S2, U0] []) (by first | (simp [entryFrame, mkF, argsToLocals, Value.category, maxLocals, jv, S2, U0, iv, rv]; done) | rfl) ?_
  obtain ⟨E1, F2, F3, F4, V5, ne6, ge7, ge8⟩ := H
  refine s_aloadN (pc' := 1) A d6_0 rfl rfl rfl ?_
  refine s_getfield (pc' := 4) (host := "") A (Or.inl (w11 hw)) Via.refl F2 d6_1 rfl fun T A => ?_
  refine s_arraylength (pc' := 5) (z := (4 : Int32)) A V5 (by show _ = ((4 : Nat) : Int); decide) d6_4 rfl ?_
  refine s_iconst (pc' := 6) (z := (1 : Int32)) A d6_5 rfl (by decide) ?_
  refine s_isub (pc' := 7) (z := (3 : Int32)) A d6_6 rfl (by decide) ?_
  refine s_istoreN (pc' := 8) (Ls' := #[rv a, jv 2, S2, iv 3]) A d6_7 rfl rfl ?_
  refine s_aloadN (pc' := 9) A d6_8 rfl rfl rfl ?_
  refine s_getfield (pc' := 12) (host := "") A (Or.inl (w11 hw)) Via.refl F2 d6_9 rfl fun T A => ?_
  refine s_lloadN (pc' := 13) A d6_12 rfl rfl ?_
  refine s_l2i (pc' := 14) (z := (2 : Int32)) A d6_13 rfl (by decide) ?_
  refine s_iloadN (pc' := 15) A d6_14 rfl rfl ?_
  refine s_iand (pc' := 16) (z := (2 : Int32)) A d6_15 rfl (by decide) ?_
  refine s_iconst (pc' := 17) (z := (0 : Int32)) A d6_16 rfl (by decide) ?_
  refine s_iastore (pc' := 18) (i := 2) A V5 (by decide) (Nat.le_of_ble_eq_true rfl) ge8 d6_17 rfl fun T h9 A W10 V11 => ?_
  have V11 : AA Z h9 r_ring .int [.int x0, .int x1, .int (0 : Int32), .int (0 : Int32)] := V11
  refine s_aloadN (pc' := 19) A d6_18 rfl rfl rfl ?_
  have F12 := (F3.other W10 (Or.inl ne6))
  refine s_getfield (pc' := 22) (host := "") A (Or.inl (w18 hw)) Via.refl F12 d6_19 rfl fun T A => ?_
  refine s_aloadN (pc' := 23) A d6_22 rfl rfl rfl ?_
  have F13 := (F4.other W10 (Or.inl ne6))
  refine s_getfield (pc' := 26) (host := "") A (Or.inl (w20 hw)) Via.refl F13 d6_23 rfl fun T A => ?_
  refine s_lcmp (pc' := 27) A d6_26 rfl ?_
  refine s_ifN (pc' := 30) A d6_27 rfl (by decide) ?_
  refine s_aloadN (pc' := 31) A d6_30 rfl rfl rfl ?_
  have F14 := (F2.other W10 (Or.inl ne6))
  refine s_getfield (pc' := 34) (host := "") A (Or.inl (w11 hw)) Via.refl F14 d6_31 rfl fun T A => ?_
  refine s_aloadN (pc' := 35) A d6_34 rfl rfl rfl ?_
  refine s_getfield (pc' := 38) (host := "") A (Or.inl (w18 hw)) Via.refl F12 d6_35 rfl fun T A => ?_
  refine s_l2i (pc' := 39) (z := (0 : Int32)) A d6_38 rfl (by decide) ?_
  refine s_iloadN (pc' := 40) A d6_39 rfl rfl ?_
  refine s_iand (pc' := 41) (z := (0 : Int32)) A d6_40 rfl (by decide) ?_
  refine s_iaload (pc' := 42) (i := 0) (v := (.int x0)) A V11 (by decide) rfl d6_41 rfl ?_
  refine s_ifY (pc' := 58) A d6_42 ((if0 _ _).trans (feq nz0).2) (by decide) (by decide) ?_
  have K15 := ((Keep.refl h0 [a, r_ring]).wr W10 (Or.inl (List.mem_of_getElem? (i := 1) rfl)))
  have E16 := (E1.wr W10)
  exact r_void A rfl d6_58 (by decide) (by decide) (⟨rfl, K15, ⟨E16, F14, F12, F13, V11, ne6, ge7, ge8⟩⟩)
set_option maxRecDepth 65536 in
set_option maxHeartbeats 40000000 in
theorem bo_remove13 (l : Launch) (Z : State) (a0 : Array Value) (hw : ∀ d ∈ tables_1, d.before a0 Z = true) (n0 : Nat) (h0 : Heap) (Z0 : n0 ≤ h0.size) (a r_ring : Addr) (x0 : Int32) (x1 : Int32) (H : BO Z n0 h0 a r_ring (1 : Int64) (3 : Int64) [.int (0 : Int32), .int x0, .int x1, .int (0 : Int32)]) (nz1 : ¬ x0 = (0 : Int32)) (nz2 : ¬ x1 = (0 : Int32)) :
    Met l Z n0 y6_remove prog_63_method_3_code 4 (Option.none : Option Jvm.ClassFile.FieldType) ({ frames := 0, cells := 0, slots := 0, locals := 0 } : Room) #[(.ref a), (.long (1 : Int64))] h0 (fun v h => v = none ∧ Keep h0 h [a, r_ring] ∧ BO Z n0 h a r_ring (2 : Int64) (3 : Int64) [.int (0 : Int32), .int (0 : Int32), .int x1, .int (0 : Int32)]) := by
  refine met_intro (own := c1_BeginOrder) (plainFor_of_name pn_com_example_wirefram_wirefram_sequence_BeginOrder) rfl Z0 ?_
  intro p e s m below meth c T A hnm
  refine Wp.cast (g' := mkF m 0 #[rv a, jv 1, S2, U0] []) (by first | (simp [entryFrame, mkF, argsToLocals, Value.category, maxLocals, jv, S2, U0, iv, rv]; done) | rfl) ?_
  obtain ⟨E1, F2, F3, F4, V5, ne6, ge7, ge8⟩ := H
  refine s_aloadN (pc' := 1) A d6_0 rfl rfl rfl ?_
  refine s_getfield (pc' := 4) (host := "") A (Or.inl (w11 hw)) Via.refl F2 d6_1 rfl fun T A => ?_
  refine s_arraylength (pc' := 5) (z := (4 : Int32)) A V5 (by show _ = ((4 : Nat) : Int); decide) d6_4 rfl ?_
  refine s_iconst (pc' := 6) (z := (1 : Int32)) A d6_5 rfl (by decide) ?_
  refine s_isub (pc' := 7) (z := (3 : Int32)) A d6_6 rfl (by decide) ?_
  refine s_istoreN (pc' := 8) (Ls' := #[rv a, jv 1, S2, iv 3]) A d6_7 rfl rfl ?_
  refine s_aloadN (pc' := 9) A d6_8 rfl rfl rfl ?_
  refine s_getfield (pc' := 12) (host := "") A (Or.inl (w11 hw)) Via.refl F2 d6_9 rfl fun T A => ?_
  refine s_lloadN (pc' := 13) A d6_12 rfl rfl ?_
  refine s_l2i (pc' := 14) (z := (1 : Int32)) A d6_13 rfl (by decide) ?_
  refine s_iloadN (pc' := 15) A d6_14 rfl rfl ?_
  refine s_iand (pc' := 16) (z := (1 : Int32)) A d6_15 rfl (by decide) ?_
  refine s_iconst (pc' := 17) (z := (0 : Int32)) A d6_16 rfl (by decide) ?_
  refine s_iastore (pc' := 18) (i := 1) A V5 (by decide) (Nat.le_of_ble_eq_true rfl) ge8 d6_17 rfl fun T h9 A W10 V11 => ?_
  have V11 : AA Z h9 r_ring .int [.int (0 : Int32), .int (0 : Int32), .int x1, .int (0 : Int32)] := V11
  refine s_aloadN (pc' := 19) A d6_18 rfl rfl rfl ?_
  have F12 := (F3.other W10 (Or.inl ne6))
  refine s_getfield (pc' := 22) (host := "") A (Or.inl (w18 hw)) Via.refl F12 d6_19 rfl fun T A => ?_
  refine s_aloadN (pc' := 23) A d6_22 rfl rfl rfl ?_
  have F13 := (F4.other W10 (Or.inl ne6))
  refine s_getfield (pc' := 26) (host := "") A (Or.inl (w20 hw)) Via.refl F13 d6_23 rfl fun T A => ?_
  refine s_lcmp (pc' := 27) A d6_26 rfl ?_
  refine s_ifN (pc' := 30) A d6_27 rfl (by decide) ?_
  refine s_aloadN (pc' := 31) A d6_30 rfl rfl rfl ?_
  have F14 := (F2.other W10 (Or.inl ne6))
  refine s_getfield (pc' := 34) (host := "") A (Or.inl (w11 hw)) Via.refl F14 d6_31 rfl fun T A => ?_
  refine s_aloadN (pc' := 35) A d6_34 rfl rfl rfl ?_
  refine s_getfield (pc' := 38) (host := "") A (Or.inl (w18 hw)) Via.refl F12 d6_35 rfl fun T A => ?_
  refine s_l2i (pc' := 39) (z := (1 : Int32)) A d6_38 rfl (by decide) ?_
  refine s_iloadN (pc' := 40) A d6_39 rfl rfl ?_
  refine s_iand (pc' := 41) (z := (1 : Int32)) A d6_40 rfl (by decide) ?_
  refine s_iaload (pc' := 42) (i := 1) (v := (.int (0 : Int32))) A V11 (by decide) rfl d6_41 rfl ?_
  refine s_ifN (pc' := 45) A d6_42 rfl (by decide) ?_
  refine s_aloadN (pc' := 46) A d6_45 rfl rfl rfl ?_
  refine s_dup (pc' := 47) A d6_46 rfl rfl ?_
  refine s_getfield (pc' := 50) (host := "") A (Or.inl (w18 hw)) Via.refl F12 d6_47 rfl fun T A => ?_
  refine s_lconst (pc' := 51) (z := (1 : Int64)) A d6_50 rfl (by decide) ?_
  refine s_ladd (pc' := 52) (z := (2 : Int64)) A d6_51 rfl (by decide) ?_
  have E15 := (E1.wr W10)
  refine s_putfield (pc' := 55) (host := "") A (Or.inl (w18 hw)) Via.refl F12 E15 (Or.inl (w19 hw)) (w2 hw) (ty := .long) (by decide) rfl rfl ge7 d6_52 rfl fun T h16 A W17 => ?_
  have F18 := F12.same W17
  refine s_goto (pc' := 18) A d6_55 (by decide) (by decide) ?_
  refine s_aloadN (pc' := 19) A d6_18 rfl rfl rfl ?_
  refine s_getfield (pc' := 22) (host := "") A (Or.inl (w18 hw)) Via.refl F18 d6_19 rfl fun T A => ?_
  refine s_aloadN (pc' := 23) A d6_22 rfl rfl rfl ?_
  have F19 := (F13.other W17 (Or.inr (sn_BeginOrder_next_first hw)))
  refine s_getfield (pc' := 26) (host := "") A (Or.inl (w20 hw)) Via.refl F19 d6_23 rfl fun T A => ?_
  refine s_lcmp (pc' := 27) A d6_26 rfl ?_
  refine s_ifN (pc' := 30) A d6_27 rfl (by decide) ?_
  refine s_aloadN (pc' := 31) A d6_30 rfl rfl rfl ?_
  have F20 := (F14.other W17 (Or.inr (sn_BeginOrder_ring_first hw)))
  refine s_getfield (pc' := 34) (host := "") A (Or.inl (w11 hw)) Via.refl F20 d6_31 rfl fun T A => ?_
  refine s_aloadN (pc' := 35) A d6_34 rfl rfl rfl ?_
  refine s_getfield (pc' := 38) (host := "") A (Or.inl (w18 hw)) Via.refl F18 d6_35 rfl fun T A => ?_
  refine s_l2i (pc' := 39) (z := (2 : Int32)) A d6_38 rfl (by decide) ?_
  refine s_iloadN (pc' := 40) A d6_39 rfl rfl ?_
  refine s_iand (pc' := 41) (z := (2 : Int32)) A d6_40 rfl (by decide) ?_
  have V21 := (V11.other W17 (Ne.symm ne6))
  refine s_iaload (pc' := 42) (i := 2) (v := (.int x1)) A V21 (by decide) rfl d6_41 rfl ?_
  refine s_ifY (pc' := 58) A d6_42 ((if0 _ _).trans (feq nz2).2) (by decide) (by decide) ?_
  have K22 := (((Keep.refl h0 [a, r_ring]).wr W10 (Or.inl (List.mem_of_getElem? (i := 1) rfl))).wr W17 (Or.inl (List.mem_of_getElem? (i := 0) rfl)))
  have E23 := (E15.wr W17)
  exact r_void A rfl d6_58 (by decide) (by decide) (⟨rfl, K22, ⟨E23, F20, F18, F19, V21, ne6, ge7, ge8⟩⟩)
set_option maxRecDepth 65536 in
set_option maxHeartbeats 40000000 in
theorem bo_isEmpty14 (l : Launch) (Z : State) (a0 : Array Value) (hw : ∀ d ∈ tables_1, d.before a0 Z = true) (n0 : Nat) (h0 : Heap) (Z0 : n0 ≤ h0.size) (a r_ring : Addr)  (l_ring : List Value) (H : BO Z n0 h0 a r_ring (2 : Int64) (3 : Int64) l_ring) :
    Met l Z n0 y3_isEmpty prog_63_method_4_code 1 (Option.some Jvm.ClassFile.FieldType.boolean) ({ frames := 0, cells := 0, slots := 0, locals := 0 } : Room) #[(.ref a)] h0 (fun v h => v = some (.int (0 : Int32)) ∧ Keep h0 h [a, r_ring] ∧ BO Z n0 h a r_ring (2 : Int64) (3 : Int64) l_ring) := by
  refine met_intro (own := c1_BeginOrder) (plainFor_of_name pn_com_example_wirefram_wirefram_sequence_BeginOrder) rfl Z0 ?_
  intro p e s m below meth c T A hnm
  refine Wp.cast (g' := mkF m 0 #[rv a] []) (by first | (simp [entryFrame, mkF, argsToLocals, Value.category, maxLocals, jv, S2, U0, iv, rv]; done) | rfl) ?_
  obtain ⟨E1, F2, F3, F4, V5, ne6, ge7, ge8⟩ := H
  refine s_aloadN (pc' := 1) A d3_0 rfl rfl rfl ?_
  refine s_getfield (pc' := 4) (host := "") A (Or.inl (w18 hw)) Via.refl F3 d3_1 rfl fun T A => ?_
  refine s_aloadN (pc' := 5) A d3_4 rfl rfl rfl ?_
  refine s_getfield (pc' := 8) (host := "") A (Or.inl (w20 hw)) Via.refl F4 d3_5 rfl fun T A => ?_
  refine s_lcmp (pc' := 9) A d3_8 rfl ?_
  refine s_ifY (pc' := 16) A d3_9 (by decide) (by decide) (by decide) ?_
  refine s_iconst (pc' := 17) (z := (0 : Int32)) A d3_16 rfl (by decide) ?_
  exact r_bool A rfl (by decide) d3_17 (by decide) (by decide) (⟨rfl, (Keep.refl h0 [a, r_ring]), ⟨E1, F2, F3, F4, V5, ne6, ge7, ge8⟩⟩)
set_option maxRecDepth 65536 in
set_option maxHeartbeats 40000000 in
theorem bo_first15 (l : Launch) (Z : State) (a0 : Array Value) (hw : ∀ d ∈ tables_1, d.before a0 Z = true) (n0 : Nat) (h0 : Heap) (Z0 : n0 ≤ h0.size) (a r_ring : Addr) (x0 : Int32) (x1 : Int32) (x2 : Int32) (x3 : Int32) (H : BO Z n0 h0 a r_ring (2 : Int64) (3 : Int64) [.int x0, .int x1, .int x2, .int x3]) :
    Met l Z n0 y5_first prog_63_method_5_code 1 (Option.some Jvm.ClassFile.FieldType.int) ({ frames := 0, cells := 0, slots := 0, locals := 0 } : Room) #[(.ref a)] h0 (fun v h => v = some (.int (x2 - (1 : Int32))) ∧ Keep h0 h [a, r_ring] ∧ BO Z n0 h a r_ring (2 : Int64) (3 : Int64) [.int x0, .int x1, .int x2, .int x3]) := by
  refine met_intro (own := c1_BeginOrder) (plainFor_of_name pn_com_example_wirefram_wirefram_sequence_BeginOrder) rfl Z0 ?_
  intro p e s m below meth c T A hnm
  refine Wp.cast (g' := mkF m 0 #[rv a] []) (by first | (simp [entryFrame, mkF, argsToLocals, Value.category, maxLocals, jv, S2, U0, iv, rv]; done) | rfl) ?_
  obtain ⟨E1, F2, F3, F4, V5, ne6, ge7, ge8⟩ := H
  refine s_aloadN (pc' := 1) A d8_0 rfl rfl rfl ?_
  refine s_getfield (pc' := 4) (host := "") A (Or.inl (w11 hw)) Via.refl F2 d8_1 rfl fun T A => ?_
  refine s_aloadN (pc' := 5) A d8_4 rfl rfl rfl ?_
  refine s_getfield (pc' := 8) (host := "") A (Or.inl (w18 hw)) Via.refl F3 d8_5 rfl fun T A => ?_
  refine s_l2i (pc' := 9) (z := (2 : Int32)) A d8_8 rfl (by decide) ?_
  refine s_aloadN (pc' := 10) A d8_9 rfl rfl rfl ?_
  refine s_getfield (pc' := 13) (host := "") A (Or.inl (w11 hw)) Via.refl F2 d8_10 rfl fun T A => ?_
  refine s_arraylength (pc' := 14) (z := (4 : Int32)) A V5 (by show _ = ((4 : Nat) : Int); decide) d8_13 rfl ?_
  refine s_iconst (pc' := 15) (z := (1 : Int32)) A d8_14 rfl (by decide) ?_
  refine s_isub (pc' := 16) (z := (3 : Int32)) A d8_15 rfl (by decide) ?_
  refine s_iand (pc' := 17) (z := (2 : Int32)) A d8_16 rfl (by decide) ?_
  refine s_iaload (pc' := 18) (i := 2) (v := (.int x2)) A V5 (by decide) rfl d8_17 rfl ?_
  refine s_iconst (pc' := 19) (z := (1 : Int32)) A d8_18 rfl (by decide) ?_
  refine s_isub (pc' := 20) (z := (x2 - (1 : Int32))) A d8_19 rfl rfl ?_
  exact r_int A rfl d8_20 (by decide) (by decide) (⟨rfl, (Keep.refl h0 [a, r_ring]), ⟨E1, F2, F3, F4, V5, ne6, ge7, ge8⟩⟩)
set_option maxRecDepth 65536 in
set_option maxHeartbeats 40000000 in
theorem bo_remove16 (l : Launch) (Z : State) (a0 : Array Value) (hw : ∀ d ∈ tables_1, d.before a0 Z = true) (n0 : Nat) (h0 : Heap) (Z0 : n0 ≤ h0.size) (a r_ring : Addr) (x0 : Int32) (x1 : Int32) (H : BO Z n0 h0 a r_ring (1 : Int64) (3 : Int64) [.int (0 : Int32), .int x0, .int x1, .int (0 : Int32)]) (nz1 : ¬ x0 = (0 : Int32)) (nz2 : ¬ x1 = (0 : Int32)) :
    Met l Z n0 y6_remove prog_63_method_3_code 4 (Option.none : Option Jvm.ClassFile.FieldType) ({ frames := 0, cells := 0, slots := 0, locals := 0 } : Room) #[(.ref a), (.long (2 : Int64))] h0 (fun v h => v = none ∧ Keep h0 h [a, r_ring] ∧ BO Z n0 h a r_ring (1 : Int64) (3 : Int64) [.int (0 : Int32), .int x0, .int (0 : Int32), .int (0 : Int32)]) := by
  refine met_intro (own := c1_BeginOrder) (plainFor_of_name pn_com_example_wirefram_wirefram_sequence_BeginOrder) rfl Z0 ?_
  intro p e s m below meth c T A hnm
  refine Wp.cast (g' := mkF m 0 #[rv a, jv 2, S2, U0] []) (by first | (simp [entryFrame, mkF, argsToLocals, Value.category, maxLocals, jv, S2, U0, iv, rv]; done) | rfl) ?_
  obtain ⟨E1, F2, F3, F4, V5, ne6, ge7, ge8⟩ := H
  refine s_aloadN (pc' := 1) A d6_0 rfl rfl rfl ?_
  refine s_getfield (pc' := 4) (host := "") A (Or.inl (w11 hw)) Via.refl F2 d6_1 rfl fun T A => ?_
  refine s_arraylength (pc' := 5) (z := (4 : Int32)) A V5 (by show _ = ((4 : Nat) : Int); decide) d6_4 rfl ?_
  refine s_iconst (pc' := 6) (z := (1 : Int32)) A d6_5 rfl (by decide) ?_
  refine s_isub (pc' := 7) (z := (3 : Int32)) A d6_6 rfl (by decide) ?_
  refine s_istoreN (pc' := 8) (Ls' := #[rv a, jv 2, S2, iv 3]) A d6_7 rfl rfl ?_
  refine s_aloadN (pc' := 9) A d6_8 rfl rfl rfl ?_
  refine s_getfield (pc' := 12) (host := "") A (Or.inl (w11 hw)) Via.refl F2 d6_9 rfl fun T A => ?_
  refine s_lloadN (pc' := 13) A d6_12 rfl rfl ?_
  refine s_l2i (pc' := 14) (z := (2 : Int32)) A d6_13 rfl (by decide) ?_
  refine s_iloadN (pc' := 15) A d6_14 rfl rfl ?_
  refine s_iand (pc' := 16) (z := (2 : Int32)) A d6_15 rfl (by decide) ?_
  refine s_iconst (pc' := 17) (z := (0 : Int32)) A d6_16 rfl (by decide) ?_
  refine s_iastore (pc' := 18) (i := 2) A V5 (by decide) (Nat.le_of_ble_eq_true rfl) ge8 d6_17 rfl fun T h9 A W10 V11 => ?_
  have V11 : AA Z h9 r_ring .int [.int (0 : Int32), .int x0, .int (0 : Int32), .int (0 : Int32)] := V11
  refine s_aloadN (pc' := 19) A d6_18 rfl rfl rfl ?_
  have F12 := (F3.other W10 (Or.inl ne6))
  refine s_getfield (pc' := 22) (host := "") A (Or.inl (w18 hw)) Via.refl F12 d6_19 rfl fun T A => ?_
  refine s_aloadN (pc' := 23) A d6_22 rfl rfl rfl ?_
  have F13 := (F4.other W10 (Or.inl ne6))
  refine s_getfield (pc' := 26) (host := "") A (Or.inl (w20 hw)) Via.refl F13 d6_23 rfl fun T A => ?_
  refine s_lcmp (pc' := 27) A d6_26 rfl ?_
  refine s_ifN (pc' := 30) A d6_27 rfl (by decide) ?_
  refine s_aloadN (pc' := 31) A d6_30 rfl rfl rfl ?_
  have F14 := (F2.other W10 (Or.inl ne6))
  refine s_getfield (pc' := 34) (host := "") A (Or.inl (w11 hw)) Via.refl F14 d6_31 rfl fun T A => ?_
  refine s_aloadN (pc' := 35) A d6_34 rfl rfl rfl ?_
  refine s_getfield (pc' := 38) (host := "") A (Or.inl (w18 hw)) Via.refl F12 d6_35 rfl fun T A => ?_
  refine s_l2i (pc' := 39) (z := (1 : Int32)) A d6_38 rfl (by decide) ?_
  refine s_iloadN (pc' := 40) A d6_39 rfl rfl ?_
  refine s_iand (pc' := 41) (z := (1 : Int32)) A d6_40 rfl (by decide) ?_
  refine s_iaload (pc' := 42) (i := 1) (v := (.int x0)) A V11 (by decide) rfl d6_41 rfl ?_
  refine s_ifY (pc' := 58) A d6_42 ((if0 _ _).trans (feq nz1).2) (by decide) (by decide) ?_
  have K15 := ((Keep.refl h0 [a, r_ring]).wr W10 (Or.inl (List.mem_of_getElem? (i := 1) rfl)))
  have E16 := (E1.wr W10)
  exact r_void A rfl d6_58 (by decide) (by decide) (⟨rfl, K15, ⟨E16, F14, F12, F13, V11, ne6, ge7, ge8⟩⟩)
set_option maxRecDepth 65536 in
set_option maxHeartbeats 40000000 in
theorem bo_remove17 (l : Launch) (Z : State) (a0 : Array Value) (hw : ∀ d ∈ tables_1, d.before a0 Z = true) (n0 : Nat) (h0 : Heap) (Z0 : n0 ≤ h0.size) (a r_ring : Addr) (x0 : Int32) (x1 : Int32) (H : BO Z n0 h0 a r_ring (0 : Int64) (3 : Int64) [.int x0, .int (0 : Int32), .int x1, .int (0 : Int32)]) (nz0 : ¬ x0 = (0 : Int32)) (nz2 : ¬ x1 = (0 : Int32)) :
    Met l Z n0 y6_remove prog_63_method_3_code 4 (Option.none : Option Jvm.ClassFile.FieldType) ({ frames := 0, cells := 0, slots := 0, locals := 0 } : Room) #[(.ref a), (.long (0 : Int64))] h0 (fun v h => v = none ∧ Keep h0 h [a, r_ring] ∧ BO Z n0 h a r_ring (2 : Int64) (3 : Int64) [.int (0 : Int32), .int (0 : Int32), .int x1, .int (0 : Int32)]) := by
  refine met_intro (own := c1_BeginOrder) (plainFor_of_name pn_com_example_wirefram_wirefram_sequence_BeginOrder) rfl Z0 ?_
  intro p e s m below meth c T A hnm
  refine Wp.cast (g' := mkF m 0 #[rv a, jv 0, S2, U0] []) (by first | (simp [entryFrame, mkF, argsToLocals, Value.category, maxLocals, jv, S2, U0, iv, rv]; done) | rfl) ?_
  obtain ⟨E1, F2, F3, F4, V5, ne6, ge7, ge8⟩ := H
  refine s_aloadN (pc' := 1) A d6_0 rfl rfl rfl ?_
  refine s_getfield (pc' := 4) (host := "") A (Or.inl (w11 hw)) Via.refl F2 d6_1 rfl fun T A => ?_
  refine s_arraylength (pc' := 5) (z := (4 : Int32)) A V5 (by show _ = ((4 : Nat) : Int); decide) d6_4 rfl ?_
  refine s_iconst (pc' := 6) (z := (1 : Int32)) A d6_5 rfl (by decide) ?_
  refine s_isub (pc' := 7) (z := (3 : Int32)) A d6_6 rfl (by decide) ?_
  refine s_istoreN (pc' := 8) (Ls' := #[rv a, jv 0, S2, iv 3]) A d6_7 rfl rfl ?_
  refine s_aloadN (pc' := 9) A d6_8 rfl rfl rfl ?_
  refine s_getfield (pc' := 12) (host := "") A (Or.inl (w11 hw)) Via.refl F2 d6_9 rfl fun T A => ?_
  refine s_lloadN (pc' := 13) A d6_12 rfl rfl ?_
  refine s_l2i (pc' := 14) (z := (0 : Int32)) A d6_13 rfl (by decide) ?_
  refine s_iloadN (pc' := 15) A d6_14 rfl rfl ?_
  refine s_iand (pc' := 16) (z := (0 : Int32)) A d6_15 rfl (by decide) ?_
  refine s_iconst (pc' := 17) (z := (0 : Int32)) A d6_16 rfl (by decide) ?_
  refine s_iastore (pc' := 18) (i := 0) A V5 (by decide) (Nat.le_of_ble_eq_true rfl) ge8 d6_17 rfl fun T h9 A W10 V11 => ?_
  have V11 : AA Z h9 r_ring .int [.int (0 : Int32), .int (0 : Int32), .int x1, .int (0 : Int32)] := V11
  refine s_aloadN (pc' := 19) A d6_18 rfl rfl rfl ?_
  have F12 := (F3.other W10 (Or.inl ne6))
  refine s_getfield (pc' := 22) (host := "") A (Or.inl (w18 hw)) Via.refl F12 d6_19 rfl fun T A => ?_
  refine s_aloadN (pc' := 23) A d6_22 rfl rfl rfl ?_
  have F13 := (F4.other W10 (Or.inl ne6))
  refine s_getfield (pc' := 26) (host := "") A (Or.inl (w20 hw)) Via.refl F13 d6_23 rfl fun T A => ?_
  refine s_lcmp (pc' := 27) A d6_26 rfl ?_
  refine s_ifN (pc' := 30) A d6_27 rfl (by decide) ?_
  refine s_aloadN (pc' := 31) A d6_30 rfl rfl rfl ?_
  have F14 := (F2.other W10 (Or.inl ne6))
  refine s_getfield (pc' := 34) (host := "") A (Or.inl (w11 hw)) Via.refl F14 d6_31 rfl fun T A => ?_
  refine s_aloadN (pc' := 35) A d6_34 rfl rfl rfl ?_
  refine s_getfield (pc' := 38) (host := "") A (Or.inl (w18 hw)) Via.refl F12 d6_35 rfl fun T A => ?_
  refine s_l2i (pc' := 39) (z := (0 : Int32)) A d6_38 rfl (by decide) ?_
  refine s_iloadN (pc' := 40) A d6_39 rfl rfl ?_
  refine s_iand (pc' := 41) (z := (0 : Int32)) A d6_40 rfl (by decide) ?_
  refine s_iaload (pc' := 42) (i := 0) (v := (.int (0 : Int32))) A V11 (by decide) rfl d6_41 rfl ?_
  refine s_ifN (pc' := 45) A d6_42 rfl (by decide) ?_
  refine s_aloadN (pc' := 46) A d6_45 rfl rfl rfl ?_
  refine s_dup (pc' := 47) A d6_46 rfl rfl ?_
  refine s_getfield (pc' := 50) (host := "") A (Or.inl (w18 hw)) Via.refl F12 d6_47 rfl fun T A => ?_
  refine s_lconst (pc' := 51) (z := (1 : Int64)) A d6_50 rfl (by decide) ?_
  refine s_ladd (pc' := 52) (z := (1 : Int64)) A d6_51 rfl (by decide) ?_
  have E15 := (E1.wr W10)
  refine s_putfield (pc' := 55) (host := "") A (Or.inl (w18 hw)) Via.refl F12 E15 (Or.inl (w19 hw)) (w2 hw) (ty := .long) (by decide) rfl rfl ge7 d6_52 rfl fun T h16 A W17 => ?_
  have F18 := F12.same W17
  refine s_goto (pc' := 18) A d6_55 (by decide) (by decide) ?_
  refine s_aloadN (pc' := 19) A d6_18 rfl rfl rfl ?_
  refine s_getfield (pc' := 22) (host := "") A (Or.inl (w18 hw)) Via.refl F18 d6_19 rfl fun T A => ?_
  refine s_aloadN (pc' := 23) A d6_22 rfl rfl rfl ?_
  have F19 := (F13.other W17 (Or.inr (sn_BeginOrder_next_first hw)))
  refine s_getfield (pc' := 26) (host := "") A (Or.inl (w20 hw)) Via.refl F19 d6_23 rfl fun T A => ?_
  refine s_lcmp (pc' := 27) A d6_26 rfl ?_
  refine s_ifN (pc' := 30) A d6_27 rfl (by decide) ?_
  refine s_aloadN (pc' := 31) A d6_30 rfl rfl rfl ?_
  have F20 := (F14.other W17 (Or.inr (sn_BeginOrder_ring_first hw)))
  refine s_getfield (pc' := 34) (host := "") A (Or.inl (w11 hw)) Via.refl F20 d6_31 rfl fun T A => ?_
  refine s_aloadN (pc' := 35) A d6_34 rfl rfl rfl ?_
  refine s_getfield (pc' := 38) (host := "") A (Or.inl (w18 hw)) Via.refl F18 d6_35 rfl fun T A => ?_
  refine s_l2i (pc' := 39) (z := (1 : Int32)) A d6_38 rfl (by decide) ?_
  refine s_iloadN (pc' := 40) A d6_39 rfl rfl ?_
  refine s_iand (pc' := 41) (z := (1 : Int32)) A d6_40 rfl (by decide) ?_
  have V21 := (V11.other W17 (Ne.symm ne6))
  refine s_iaload (pc' := 42) (i := 1) (v := (.int (0 : Int32))) A V21 (by decide) rfl d6_41 rfl ?_
  refine s_ifN (pc' := 45) A d6_42 rfl (by decide) ?_
  refine s_aloadN (pc' := 46) A d6_45 rfl rfl rfl ?_
  refine s_dup (pc' := 47) A d6_46 rfl rfl ?_
  refine s_getfield (pc' := 50) (host := "") A (Or.inl (w18 hw)) Via.refl F18 d6_47 rfl fun T A => ?_
  refine s_lconst (pc' := 51) (z := (1 : Int64)) A d6_50 rfl (by decide) ?_
  refine s_ladd (pc' := 52) (z := (2 : Int64)) A d6_51 rfl (by decide) ?_
  have E22 := (E15.wr W17)
  refine s_putfield (pc' := 55) (host := "") A (Or.inl (w18 hw)) Via.refl F18 E22 (Or.inl (w19 hw)) (w2 hw) (ty := .long) (by decide) rfl rfl ge7 d6_52 rfl fun T h23 A W24 => ?_
  have F25 := F18.same W24
  refine s_goto (pc' := 18) A d6_55 (by decide) (by decide) ?_
  refine s_aloadN (pc' := 19) A d6_18 rfl rfl rfl ?_
  refine s_getfield (pc' := 22) (host := "") A (Or.inl (w18 hw)) Via.refl F25 d6_19 rfl fun T A => ?_
  refine s_aloadN (pc' := 23) A d6_22 rfl rfl rfl ?_
  have F26 := (F19.other W24 (Or.inr (sn_BeginOrder_next_first hw)))
  refine s_getfield (pc' := 26) (host := "") A (Or.inl (w20 hw)) Via.refl F26 d6_23 rfl fun T A => ?_
  refine s_lcmp (pc' := 27) A d6_26 rfl ?_
  refine s_ifN (pc' := 30) A d6_27 rfl (by decide) ?_
  refine s_aloadN (pc' := 31) A d6_30 rfl rfl rfl ?_
  have F27 := (F20.other W24 (Or.inr (sn_BeginOrder_ring_first hw)))
  refine s_getfield (pc' := 34) (host := "") A (Or.inl (w11 hw)) Via.refl F27 d6_31 rfl fun T A => ?_
  refine s_aloadN (pc' := 35) A d6_34 rfl rfl rfl ?_
  refine s_getfield (pc' := 38) (host := "") A (Or.inl (w18 hw)) Via.refl F25 d6_35 rfl fun T A => ?_
  refine s_l2i (pc' := 39) (z := (2 : Int32)) A d6_38 rfl (by decide) ?_
  refine s_iloadN (pc' := 40) A d6_39 rfl rfl ?_
  refine s_iand (pc' := 41) (z := (2 : Int32)) A d6_40 rfl (by decide) ?_
  have V28 := (V21.other W24 (Ne.symm ne6))
  refine s_iaload (pc' := 42) (i := 2) (v := (.int x1)) A V28 (by decide) rfl d6_41 rfl ?_
  refine s_ifY (pc' := 58) A d6_42 ((if0 _ _).trans (feq nz2).2) (by decide) (by decide) ?_
  have K29 := ((((Keep.refl h0 [a, r_ring]).wr W10 (Or.inl (List.mem_of_getElem? (i := 1) rfl))).wr W17 (Or.inl (List.mem_of_getElem? (i := 0) rfl))).wr W24 (Or.inl (List.mem_of_getElem? (i := 0) rfl)))
  have E30 := (E22.wr W24)
  exact r_void A rfl d6_58 (by decide) (by decide) (⟨rfl, K29, ⟨E30, F27, F25, F26, V28, ne6, ge7, ge8⟩⟩)
set_option maxRecDepth 65536 in
set_option maxHeartbeats 40000000 in
theorem bo_remove18 (l : Launch) (Z : State) (a0 : Array Value) (hw : ∀ d ∈ tables_1, d.before a0 Z = true) (n0 : Nat) (h0 : Heap) (Z0 : n0 ≤ h0.size) (a r_ring : Addr) (x0 : Int32) (x1 : Int32) (H : BO Z n0 h0 a r_ring (0 : Int64) (3 : Int64) [.int x0, .int (0 : Int32), .int x1, .int (0 : Int32)]) (nz0 : ¬ x0 = (0 : Int32)) (nz2 : ¬ x1 = (0 : Int32)) :
    Met l Z n0 y6_remove prog_63_method_3_code 4 (Option.none : Option Jvm.ClassFile.FieldType) ({ frames := 0, cells := 0, slots := 0, locals := 0 } : Room) #[(.ref a), (.long (2 : Int64))] h0 (fun v h => v = none ∧ Keep h0 h [a, r_ring] ∧ BO Z n0 h a r_ring (0 : Int64) (3 : Int64) [.int x0, .int (0 : Int32), .int (0 : Int32), .int (0 : Int32)]) := by
  refine met_intro (own := c1_BeginOrder) (plainFor_of_name pn_com_example_wirefram_wirefram_sequence_BeginOrder) rfl Z0 ?_
  intro p e s m below meth c T A hnm
  refine Wp.cast (g' := mkF m 0 #[rv a, jv 2, S2, U0] []) (by first | (simp [entryFrame, mkF, argsToLocals, Value.category, maxLocals, jv, S2, U0, iv, rv]; done) | rfl) ?_
  obtain ⟨E1, F2, F3, F4, V5, ne6, ge7, ge8⟩ := H
  refine s_aloadN (pc' := 1) A d6_0 rfl rfl rfl ?_
  refine s_getfield (pc' := 4) (host := "") A (Or.inl (w11 hw)) Via.refl F2 d6_1 rfl fun T A => ?_
  refine s_arraylength (pc' := 5) (z := (4 : Int32)) A V5 (by show _ = ((4 : Nat) : Int); decide) d6_4 rfl ?_
  refine s_iconst (pc' := 6) (z := (1 : Int32)) A d6_5 rfl (by decide) ?_
  refine s_isub (pc' := 7) (z := (3 : Int32)) A d6_6 rfl (by decide) ?_
  refine s_istoreN (pc' := 8) (Ls' := #[rv a, jv 2, S2, iv 3]) A d6_7 rfl rfl ?_
  refine s_aloadN (pc' := 9) A d6_8 rfl rfl rfl ?_
  refine s_getfield (pc' := 12) (host := "") A (Or.inl (w11 hw)) Via.refl F2 d6_9 rfl fun T A => ?_
  refine s_lloadN (pc' := 13) A d6_12 rfl rfl ?_
  refine s_l2i (pc' := 14) (z := (2 : Int32)) A d6_13 rfl (by decide) ?_
  refine s_iloadN (pc' := 15) A d6_14 rfl rfl ?_
  refine s_iand (pc' := 16) (z := (2 : Int32)) A d6_15 rfl (by decide) ?_
  refine s_iconst (pc' := 17) (z := (0 : Int32)) A d6_16 rfl (by decide) ?_
  refine s_iastore (pc' := 18) (i := 2) A V5 (by decide) (Nat.le_of_ble_eq_true rfl) ge8 d6_17 rfl fun T h9 A W10 V11 => ?_
  have V11 : AA Z h9 r_ring .int [.int x0, .int (0 : Int32), .int (0 : Int32), .int (0 : Int32)] := V11
  refine s_aloadN (pc' := 19) A d6_18 rfl rfl rfl ?_
  have F12 := (F3.other W10 (Or.inl ne6))
  refine s_getfield (pc' := 22) (host := "") A (Or.inl (w18 hw)) Via.refl F12 d6_19 rfl fun T A => ?_
  refine s_aloadN (pc' := 23) A d6_22 rfl rfl rfl ?_
  have F13 := (F4.other W10 (Or.inl ne6))
  refine s_getfield (pc' := 26) (host := "") A (Or.inl (w20 hw)) Via.refl F13 d6_23 rfl fun T A => ?_
  refine s_lcmp (pc' := 27) A d6_26 rfl ?_
  refine s_ifN (pc' := 30) A d6_27 rfl (by decide) ?_
  refine s_aloadN (pc' := 31) A d6_30 rfl rfl rfl ?_
  have F14 := (F2.other W10 (Or.inl ne6))
  refine s_getfield (pc' := 34) (host := "") A (Or.inl (w11 hw)) Via.refl F14 d6_31 rfl fun T A => ?_
  refine s_aloadN (pc' := 35) A d6_34 rfl rfl rfl ?_
  refine s_getfield (pc' := 38) (host := "") A (Or.inl (w18 hw)) Via.refl F12 d6_35 rfl fun T A => ?_
  refine s_l2i (pc' := 39) (z := (0 : Int32)) A d6_38 rfl (by decide) ?_
  refine s_iloadN (pc' := 40) A d6_39 rfl rfl ?_
  refine s_iand (pc' := 41) (z := (0 : Int32)) A d6_40 rfl (by decide) ?_
  refine s_iaload (pc' := 42) (i := 0) (v := (.int x0)) A V11 (by decide) rfl d6_41 rfl ?_
  refine s_ifY (pc' := 58) A d6_42 ((if0 _ _).trans (feq nz0).2) (by decide) (by decide) ?_
  have K15 := ((Keep.refl h0 [a, r_ring]).wr W10 (Or.inl (List.mem_of_getElem? (i := 1) rfl)))
  have E16 := (E1.wr W10)
  exact r_void A rfl d6_58 (by decide) (by decide) (⟨rfl, K15, ⟨E16, F14, F12, F13, V11, ne6, ge7, ge8⟩⟩)
set_option maxRecDepth 65536 in
set_option maxHeartbeats 40000000 in
theorem bo_remove19 (l : Launch) (Z : State) (a0 : Array Value) (hw : ∀ d ∈ tables_1, d.before a0 Z = true) (n0 : Nat) (h0 : Heap) (Z0 : n0 ≤ h0.size) (a r_ring : Addr) (x0 : Int32) (x1 : Int32) (H : BO Z n0 h0 a r_ring (0 : Int64) (3 : Int64) [.int x0, .int x1, .int (0 : Int32), .int (0 : Int32)]) (nz0 : ¬ x0 = (0 : Int32)) (nz1 : ¬ x1 = (0 : Int32)) :
    Met l Z n0 y6_remove prog_63_method_3_code 4 (Option.none : Option Jvm.ClassFile.FieldType) ({ frames := 0, cells := 0, slots := 0, locals := 0 } : Room) #[(.ref a), (.long (0 : Int64))] h0 (fun v h => v = none ∧ Keep h0 h [a, r_ring] ∧ BO Z n0 h a r_ring (1 : Int64) (3 : Int64) [.int (0 : Int32), .int x1, .int (0 : Int32), .int (0 : Int32)]) := by
  refine met_intro (own := c1_BeginOrder) (plainFor_of_name pn_com_example_wirefram_wirefram_sequence_BeginOrder) rfl Z0 ?_
  intro p e s m below meth c T A hnm
  refine Wp.cast (g' := mkF m 0 #[rv a, jv 0, S2, U0] []) (by first | (simp [entryFrame, mkF, argsToLocals, Value.category, maxLocals, jv, S2, U0, iv, rv]; done) | rfl) ?_
  obtain ⟨E1, F2, F3, F4, V5, ne6, ge7, ge8⟩ := H
  refine s_aloadN (pc' := 1) A d6_0 rfl rfl rfl ?_
  refine s_getfield (pc' := 4) (host := "") A (Or.inl (w11 hw)) Via.refl F2 d6_1 rfl fun T A => ?_
  refine s_arraylength (pc' := 5) (z := (4 : Int32)) A V5 (by show _ = ((4 : Nat) : Int); decide) d6_4 rfl ?_
  refine s_iconst (pc' := 6) (z := (1 : Int32)) A d6_5 rfl (by decide) ?_
  refine s_isub (pc' := 7) (z := (3 : Int32)) A d6_6 rfl (by decide) ?_
  refine s_istoreN (pc' := 8) (Ls' := #[rv a, jv 0, S2, iv 3]) A d6_7 rfl rfl ?_
  refine s_aloadN (pc' := 9) A d6_8 rfl rfl rfl ?_
  refine s_getfield (pc' := 12) (host := "") A (Or.inl (w11 hw)) Via.refl F2 d6_9 rfl fun T A => ?_
  refine s_lloadN (pc' := 13) A d6_12 rfl rfl ?_
  refine s_l2i (pc' := 14) (z := (0 : Int32)) A d6_13 rfl (by decide) ?_
  refine s_iloadN (pc' := 15) A d6_14 rfl rfl ?_
  refine s_iand (pc' := 16) (z := (0 : Int32)) A d6_15 rfl (by decide) ?_
  refine s_iconst (pc' := 17) (z := (0 : Int32)) A d6_16 rfl (by decide) ?_
  refine s_iastore (pc' := 18) (i := 0) A V5 (by decide) (Nat.le_of_ble_eq_true rfl) ge8 d6_17 rfl fun T h9 A W10 V11 => ?_
  have V11 : AA Z h9 r_ring .int [.int (0 : Int32), .int x1, .int (0 : Int32), .int (0 : Int32)] := V11
  refine s_aloadN (pc' := 19) A d6_18 rfl rfl rfl ?_
  have F12 := (F3.other W10 (Or.inl ne6))
  refine s_getfield (pc' := 22) (host := "") A (Or.inl (w18 hw)) Via.refl F12 d6_19 rfl fun T A => ?_
  refine s_aloadN (pc' := 23) A d6_22 rfl rfl rfl ?_
  have F13 := (F4.other W10 (Or.inl ne6))
  refine s_getfield (pc' := 26) (host := "") A (Or.inl (w20 hw)) Via.refl F13 d6_23 rfl fun T A => ?_
  refine s_lcmp (pc' := 27) A d6_26 rfl ?_
  refine s_ifN (pc' := 30) A d6_27 rfl (by decide) ?_
  refine s_aloadN (pc' := 31) A d6_30 rfl rfl rfl ?_
  have F14 := (F2.other W10 (Or.inl ne6))
  refine s_getfield (pc' := 34) (host := "") A (Or.inl (w11 hw)) Via.refl F14 d6_31 rfl fun T A => ?_
  refine s_aloadN (pc' := 35) A d6_34 rfl rfl rfl ?_
  refine s_getfield (pc' := 38) (host := "") A (Or.inl (w18 hw)) Via.refl F12 d6_35 rfl fun T A => ?_
  refine s_l2i (pc' := 39) (z := (0 : Int32)) A d6_38 rfl (by decide) ?_
  refine s_iloadN (pc' := 40) A d6_39 rfl rfl ?_
  refine s_iand (pc' := 41) (z := (0 : Int32)) A d6_40 rfl (by decide) ?_
  refine s_iaload (pc' := 42) (i := 0) (v := (.int (0 : Int32))) A V11 (by decide) rfl d6_41 rfl ?_
  refine s_ifN (pc' := 45) A d6_42 rfl (by decide) ?_
  refine s_aloadN (pc' := 46) A d6_45 rfl rfl rfl ?_
  refine s_dup (pc' := 47) A d6_46 rfl rfl ?_
  refine s_getfield (pc' := 50) (host := "") A (Or.inl (w18 hw)) Via.refl F12 d6_47 rfl fun T A => ?_
  refine s_lconst (pc' := 51) (z := (1 : Int64)) A d6_50 rfl (by decide) ?_
  refine s_ladd (pc' := 52) (z := (1 : Int64)) A d6_51 rfl (by decide) ?_
  have E15 := (E1.wr W10)
  refine s_putfield (pc' := 55) (host := "") A (Or.inl (w18 hw)) Via.refl F12 E15 (Or.inl (w19 hw)) (w2 hw) (ty := .long) (by decide) rfl rfl ge7 d6_52 rfl fun T h16 A W17 => ?_
  have F18 := F12.same W17
  refine s_goto (pc' := 18) A d6_55 (by decide) (by decide) ?_
  refine s_aloadN (pc' := 19) A d6_18 rfl rfl rfl ?_
  refine s_getfield (pc' := 22) (host := "") A (Or.inl (w18 hw)) Via.refl F18 d6_19 rfl fun T A => ?_
  refine s_aloadN (pc' := 23) A d6_22 rfl rfl rfl ?_
  have F19 := (F13.other W17 (Or.inr (sn_BeginOrder_next_first hw)))
  refine s_getfield (pc' := 26) (host := "") A (Or.inl (w20 hw)) Via.refl F19 d6_23 rfl fun T A => ?_
  refine s_lcmp (pc' := 27) A d6_26 rfl ?_
  refine s_ifN (pc' := 30) A d6_27 rfl (by decide) ?_
  refine s_aloadN (pc' := 31) A d6_30 rfl rfl rfl ?_
  have F20 := (F14.other W17 (Or.inr (sn_BeginOrder_ring_first hw)))
  refine s_getfield (pc' := 34) (host := "") A (Or.inl (w11 hw)) Via.refl F20 d6_31 rfl fun T A => ?_
  refine s_aloadN (pc' := 35) A d6_34 rfl rfl rfl ?_
  refine s_getfield (pc' := 38) (host := "") A (Or.inl (w18 hw)) Via.refl F18 d6_35 rfl fun T A => ?_
  refine s_l2i (pc' := 39) (z := (1 : Int32)) A d6_38 rfl (by decide) ?_
  refine s_iloadN (pc' := 40) A d6_39 rfl rfl ?_
  refine s_iand (pc' := 41) (z := (1 : Int32)) A d6_40 rfl (by decide) ?_
  have V21 := (V11.other W17 (Ne.symm ne6))
  refine s_iaload (pc' := 42) (i := 1) (v := (.int x1)) A V21 (by decide) rfl d6_41 rfl ?_
  refine s_ifY (pc' := 58) A d6_42 ((if0 _ _).trans (feq nz1).2) (by decide) (by decide) ?_
  have K22 := (((Keep.refl h0 [a, r_ring]).wr W10 (Or.inl (List.mem_of_getElem? (i := 1) rfl))).wr W17 (Or.inl (List.mem_of_getElem? (i := 0) rfl)))
  have E23 := (E15.wr W17)
  exact r_void A rfl d6_58 (by decide) (by decide) (⟨rfl, K22, ⟨E23, F20, F18, F19, V21, ne6, ge7, ge8⟩⟩)
set_option maxRecDepth 65536 in
set_option maxHeartbeats 40000000 in
theorem bo_remove20 (l : Launch) (Z : State) (a0 : Array Value) (hw : ∀ d ∈ tables_1, d.before a0 Z = true) (n0 : Nat) (h0 : Heap) (Z0 : n0 ≤ h0.size) (a r_ring : Addr) (x0 : Int32) (x1 : Int32) (H : BO Z n0 h0 a r_ring (0 : Int64) (3 : Int64) [.int x0, .int x1, .int (0 : Int32), .int (0 : Int32)]) (nz0 : ¬ x0 = (0 : Int32)) (nz1 : ¬ x1 = (0 : Int32)) :
    Met l Z n0 y6_remove prog_63_method_3_code 4 (Option.none : Option Jvm.ClassFile.FieldType) ({ frames := 0, cells := 0, slots := 0, locals := 0 } : Room) #[(.ref a), (.long (1 : Int64))] h0 (fun v h => v = none ∧ Keep h0 h [a, r_ring] ∧ BO Z n0 h a r_ring (0 : Int64) (3 : Int64) [.int x0, .int (0 : Int32), .int (0 : Int32), .int (0 : Int32)]) := by
  refine met_intro (own := c1_BeginOrder) (plainFor_of_name pn_com_example_wirefram_wirefram_sequence_BeginOrder) rfl Z0 ?_
  intro p e s m below meth c T A hnm
  refine Wp.cast (g' := mkF m 0 #[rv a, jv 1, S2, U0] []) (by first | (simp [entryFrame, mkF, argsToLocals, Value.category, maxLocals, jv, S2, U0, iv, rv]; done) | rfl) ?_
  obtain ⟨E1, F2, F3, F4, V5, ne6, ge7, ge8⟩ := H
  refine s_aloadN (pc' := 1) A d6_0 rfl rfl rfl ?_
  refine s_getfield (pc' := 4) (host := "") A (Or.inl (w11 hw)) Via.refl F2 d6_1 rfl fun T A => ?_
  refine s_arraylength (pc' := 5) (z := (4 : Int32)) A V5 (by show _ = ((4 : Nat) : Int); decide) d6_4 rfl ?_
  refine s_iconst (pc' := 6) (z := (1 : Int32)) A d6_5 rfl (by decide) ?_
  refine s_isub (pc' := 7) (z := (3 : Int32)) A d6_6 rfl (by decide) ?_
  refine s_istoreN (pc' := 8) (Ls' := #[rv a, jv 1, S2, iv 3]) A d6_7 rfl rfl ?_
  refine s_aloadN (pc' := 9) A d6_8 rfl rfl rfl ?_
  refine s_getfield (pc' := 12) (host := "") A (Or.inl (w11 hw)) Via.refl F2 d6_9 rfl fun T A => ?_
  refine s_lloadN (pc' := 13) A d6_12 rfl rfl ?_
  refine s_l2i (pc' := 14) (z := (1 : Int32)) A d6_13 rfl (by decide) ?_
  refine s_iloadN (pc' := 15) A d6_14 rfl rfl ?_
  refine s_iand (pc' := 16) (z := (1 : Int32)) A d6_15 rfl (by decide) ?_
  refine s_iconst (pc' := 17) (z := (0 : Int32)) A d6_16 rfl (by decide) ?_
  refine s_iastore (pc' := 18) (i := 1) A V5 (by decide) (Nat.le_of_ble_eq_true rfl) ge8 d6_17 rfl fun T h9 A W10 V11 => ?_
  have V11 : AA Z h9 r_ring .int [.int x0, .int (0 : Int32), .int (0 : Int32), .int (0 : Int32)] := V11
  refine s_aloadN (pc' := 19) A d6_18 rfl rfl rfl ?_
  have F12 := (F3.other W10 (Or.inl ne6))
  refine s_getfield (pc' := 22) (host := "") A (Or.inl (w18 hw)) Via.refl F12 d6_19 rfl fun T A => ?_
  refine s_aloadN (pc' := 23) A d6_22 rfl rfl rfl ?_
  have F13 := (F4.other W10 (Or.inl ne6))
  refine s_getfield (pc' := 26) (host := "") A (Or.inl (w20 hw)) Via.refl F13 d6_23 rfl fun T A => ?_
  refine s_lcmp (pc' := 27) A d6_26 rfl ?_
  refine s_ifN (pc' := 30) A d6_27 rfl (by decide) ?_
  refine s_aloadN (pc' := 31) A d6_30 rfl rfl rfl ?_
  have F14 := (F2.other W10 (Or.inl ne6))
  refine s_getfield (pc' := 34) (host := "") A (Or.inl (w11 hw)) Via.refl F14 d6_31 rfl fun T A => ?_
  refine s_aloadN (pc' := 35) A d6_34 rfl rfl rfl ?_
  refine s_getfield (pc' := 38) (host := "") A (Or.inl (w18 hw)) Via.refl F12 d6_35 rfl fun T A => ?_
  refine s_l2i (pc' := 39) (z := (0 : Int32)) A d6_38 rfl (by decide) ?_
  refine s_iloadN (pc' := 40) A d6_39 rfl rfl ?_
  refine s_iand (pc' := 41) (z := (0 : Int32)) A d6_40 rfl (by decide) ?_
  refine s_iaload (pc' := 42) (i := 0) (v := (.int x0)) A V11 (by decide) rfl d6_41 rfl ?_
  refine s_ifY (pc' := 58) A d6_42 ((if0 _ _).trans (feq nz0).2) (by decide) (by decide) ?_
  have K15 := ((Keep.refl h0 [a, r_ring]).wr W10 (Or.inl (List.mem_of_getElem? (i := 1) rfl)))
  have E16 := (E1.wr W10)
  exact r_void A rfl d6_58 (by decide) (by decide) (⟨rfl, K15, ⟨E16, F14, F12, F13, V11, ne6, ge7, ge8⟩⟩)
set_option maxRecDepth 65536 in
set_option maxHeartbeats 40000000 in
theorem bo_remove21 (l : Launch) (Z : State) (a0 : Array Value) (hw : ∀ d ∈ tables_1, d.before a0 Z = true) (n0 : Nat) (h0 : Heap) (Z0 : n0 ≤ h0.size) (a r_ring : Addr) (x0 : Int32) (H : BO Z n0 h0 a r_ring (2 : Int64) (3 : Int64) [.int (0 : Int32), .int (0 : Int32), .int x0, .int (0 : Int32)]) (nz2 : ¬ x0 = (0 : Int32)) :
    Met l Z n0 y6_remove prog_63_method_3_code 4 (Option.none : Option Jvm.ClassFile.FieldType) ({ frames := 0, cells := 0, slots := 0, locals := 0 } : Room) #[(.ref a), (.long (2 : Int64))] h0 (fun v h => v = none ∧ Keep h0 h [a, r_ring] ∧ BO Z n0 h a r_ring (3 : Int64) (3 : Int64) [.int (0 : Int32), .int (0 : Int32), .int (0 : Int32), .int (0 : Int32)]) := by
  refine met_intro (own := c1_BeginOrder) (plainFor_of_name pn_com_example_wirefram_wirefram_sequence_BeginOrder) rfl Z0 ?_
  intro p e s m below meth c T A hnm
  refine Wp.cast (g' := mkF m 0 #[rv a, jv 2, S2, U0] []) (by first | (simp [entryFrame, mkF, argsToLocals, Value.category, maxLocals, jv, S2, U0, iv, rv]; done) | rfl) ?_
  obtain ⟨E1, F2, F3, F4, V5, ne6, ge7, ge8⟩ := H
  refine s_aloadN (pc' := 1) A d6_0 rfl rfl rfl ?_
  refine s_getfield (pc' := 4) (host := "") A (Or.inl (w11 hw)) Via.refl F2 d6_1 rfl fun T A => ?_
  refine s_arraylength (pc' := 5) (z := (4 : Int32)) A V5 (by show _ = ((4 : Nat) : Int); decide) d6_4 rfl ?_
  refine s_iconst (pc' := 6) (z := (1 : Int32)) A d6_5 rfl (by decide) ?_
  refine s_isub (pc' := 7) (z := (3 : Int32)) A d6_6 rfl (by decide) ?_
  refine s_istoreN (pc' := 8) (Ls' := #[rv a, jv 2, S2, iv 3]) A d6_7 rfl rfl ?_
  refine s_aloadN (pc' := 9) A d6_8 rfl rfl rfl ?_
  refine s_getfield (pc' := 12) (host := "") A (Or.inl (w11 hw)) Via.refl F2 d6_9 rfl fun T A => ?_
  refine s_lloadN (pc' := 13) A d6_12 rfl rfl ?_
  refine s_l2i (pc' := 14) (z := (2 : Int32)) A d6_13 rfl (by decide) ?_
  refine s_iloadN (pc' := 15) A d6_14 rfl rfl ?_
  refine s_iand (pc' := 16) (z := (2 : Int32)) A d6_15 rfl (by decide) ?_
  refine s_iconst (pc' := 17) (z := (0 : Int32)) A d6_16 rfl (by decide) ?_
  refine s_iastore (pc' := 18) (i := 2) A V5 (by decide) (Nat.le_of_ble_eq_true rfl) ge8 d6_17 rfl fun T h9 A W10 V11 => ?_
  have V11 : AA Z h9 r_ring .int [.int (0 : Int32), .int (0 : Int32), .int (0 : Int32), .int (0 : Int32)] := V11
  refine s_aloadN (pc' := 19) A d6_18 rfl rfl rfl ?_
  have F12 := (F3.other W10 (Or.inl ne6))
  refine s_getfield (pc' := 22) (host := "") A (Or.inl (w18 hw)) Via.refl F12 d6_19 rfl fun T A => ?_
  refine s_aloadN (pc' := 23) A d6_22 rfl rfl rfl ?_
  have F13 := (F4.other W10 (Or.inl ne6))
  refine s_getfield (pc' := 26) (host := "") A (Or.inl (w20 hw)) Via.refl F13 d6_23 rfl fun T A => ?_
  refine s_lcmp (pc' := 27) A d6_26 rfl ?_
  refine s_ifN (pc' := 30) A d6_27 rfl (by decide) ?_
  refine s_aloadN (pc' := 31) A d6_30 rfl rfl rfl ?_
  have F14 := (F2.other W10 (Or.inl ne6))
  refine s_getfield (pc' := 34) (host := "") A (Or.inl (w11 hw)) Via.refl F14 d6_31 rfl fun T A => ?_
  refine s_aloadN (pc' := 35) A d6_34 rfl rfl rfl ?_
  refine s_getfield (pc' := 38) (host := "") A (Or.inl (w18 hw)) Via.refl F12 d6_35 rfl fun T A => ?_
  refine s_l2i (pc' := 39) (z := (2 : Int32)) A d6_38 rfl (by decide) ?_
  refine s_iloadN (pc' := 40) A d6_39 rfl rfl ?_
  refine s_iand (pc' := 41) (z := (2 : Int32)) A d6_40 rfl (by decide) ?_
  refine s_iaload (pc' := 42) (i := 2) (v := (.int (0 : Int32))) A V11 (by decide) rfl d6_41 rfl ?_
  refine s_ifN (pc' := 45) A d6_42 rfl (by decide) ?_
  refine s_aloadN (pc' := 46) A d6_45 rfl rfl rfl ?_
  refine s_dup (pc' := 47) A d6_46 rfl rfl ?_
  refine s_getfield (pc' := 50) (host := "") A (Or.inl (w18 hw)) Via.refl F12 d6_47 rfl fun T A => ?_
  refine s_lconst (pc' := 51) (z := (1 : Int64)) A d6_50 rfl (by decide) ?_
  refine s_ladd (pc' := 52) (z := (3 : Int64)) A d6_51 rfl (by decide) ?_
  have E15 := (E1.wr W10)
  refine s_putfield (pc' := 55) (host := "") A (Or.inl (w18 hw)) Via.refl F12 E15 (Or.inl (w19 hw)) (w2 hw) (ty := .long) (by decide) rfl rfl ge7 d6_52 rfl fun T h16 A W17 => ?_
  have F18 := F12.same W17
  refine s_goto (pc' := 18) A d6_55 (by decide) (by decide) ?_
  refine s_aloadN (pc' := 19) A d6_18 rfl rfl rfl ?_
  refine s_getfield (pc' := 22) (host := "") A (Or.inl (w18 hw)) Via.refl F18 d6_19 rfl fun T A => ?_
  refine s_aloadN (pc' := 23) A d6_22 rfl rfl rfl ?_
  have F19 := (F13.other W17 (Or.inr (sn_BeginOrder_next_first hw)))
  refine s_getfield (pc' := 26) (host := "") A (Or.inl (w20 hw)) Via.refl F19 d6_23 rfl fun T A => ?_
  refine s_lcmp (pc' := 27) A d6_26 rfl ?_
  refine s_ifY (pc' := 58) A d6_27 (by decide) (by decide) (by decide) ?_
  have K20 := (((Keep.refl h0 [a, r_ring]).wr W10 (Or.inl (List.mem_of_getElem? (i := 1) rfl))).wr W17 (Or.inl (List.mem_of_getElem? (i := 0) rfl)))
  have E21 := (E15.wr W17)
  have F22 := (F14.other W17 (Or.inr (sn_BeginOrder_ring_first hw)))
  have V23 := (V11.other W17 (Ne.symm ne6))
  exact r_void A rfl d6_58 (by decide) (by decide) (⟨rfl, K20, ⟨E21, F22, F18, F19, V23, ne6, ge7, ge8⟩⟩)
set_option maxRecDepth 65536 in
set_option maxHeartbeats 40000000 in
theorem bo_isEmpty22 (l : Launch) (Z : State) (a0 : Array Value) (hw : ∀ d ∈ tables_1, d.before a0 Z = true) (n0 : Nat) (h0 : Heap) (Z0 : n0 ≤ h0.size) (a r_ring : Addr)  (l_ring : List Value) (H : BO Z n0 h0 a r_ring (3 : Int64) (3 : Int64) l_ring) :
    Met l Z n0 y3_isEmpty prog_63_method_4_code 1 (Option.some Jvm.ClassFile.FieldType.boolean) ({ frames := 0, cells := 0, slots := 0, locals := 0 } : Room) #[(.ref a)] h0 (fun v h => v = some (.int (1 : Int32)) ∧ Keep h0 h [a, r_ring] ∧ BO Z n0 h a r_ring (3 : Int64) (3 : Int64) l_ring) := by
  refine met_intro (own := c1_BeginOrder) (plainFor_of_name pn_com_example_wirefram_wirefram_sequence_BeginOrder) rfl Z0 ?_
  intro p e s m below meth c T A hnm
  refine Wp.cast (g' := mkF m 0 #[rv a] []) (by first | (simp [entryFrame, mkF, argsToLocals, Value.category, maxLocals, jv, S2, U0, iv, rv]; done) | rfl) ?_
  obtain ⟨E1, F2, F3, F4, V5, ne6, ge7, ge8⟩ := H
  refine s_aloadN (pc' := 1) A d3_0 rfl rfl rfl ?_
  refine s_getfield (pc' := 4) (host := "") A (Or.inl (w18 hw)) Via.refl F3 d3_1 rfl fun T A => ?_
  refine s_aloadN (pc' := 5) A d3_4 rfl rfl rfl ?_
  refine s_getfield (pc' := 8) (host := "") A (Or.inl (w20 hw)) Via.refl F4 d3_5 rfl fun T A => ?_
  refine s_lcmp (pc' := 9) A d3_8 rfl ?_
  refine s_ifN (pc' := 12) A d3_9 rfl (by decide) ?_
  refine s_iconst (pc' := 13) (z := (1 : Int32)) A d3_12 rfl (by decide) ?_
  refine s_goto (pc' := 17) A d3_13 (by decide) (by decide) ?_
  exact r_bool A rfl (by decide) d3_17 (by decide) (by decide) (⟨rfl, (Keep.refl h0 [a, r_ring]), ⟨E1, F2, F3, F4, V5, ne6, ge7, ge8⟩⟩)
set_option maxRecDepth 65536 in
set_option maxHeartbeats 40000000 in
theorem bo_remove23 (l : Launch) (Z : State) (a0 : Array Value) (hw : ∀ d ∈ tables_1, d.before a0 Z = true) (n0 : Nat) (h0 : Heap) (Z0 : n0 ≤ h0.size) (a r_ring : Addr) (x0 : Int32) (H : BO Z n0 h0 a r_ring (1 : Int64) (3 : Int64) [.int (0 : Int32), .int x0, .int (0 : Int32), .int (0 : Int32)]) (nz1 : ¬ x0 = (0 : Int32)) :
    Met l Z n0 y6_remove prog_63_method_3_code 4 (Option.none : Option Jvm.ClassFile.FieldType) ({ frames := 0, cells := 0, slots := 0, locals := 0 } : Room) #[(.ref a), (.long (1 : Int64))] h0 (fun v h => v = none ∧ Keep h0 h [a, r_ring] ∧ BO Z n0 h a r_ring (3 : Int64) (3 : Int64) [.int (0 : Int32), .int (0 : Int32), .int (0 : Int32), .int (0 : Int32)]) := by
  refine met_intro (own := c1_BeginOrder) (plainFor_of_name pn_com_example_wirefram_wirefram_sequence_BeginOrder) rfl Z0 ?_
  intro p e s m below meth c T A hnm
  refine Wp.cast (g' := mkF m 0 #[rv a, jv 1, S2, U0] []) (by first | (simp [entryFrame, mkF, argsToLocals, Value.category, maxLocals, jv, S2, U0, iv, rv]; done) | rfl) ?_
  obtain ⟨E1, F2, F3, F4, V5, ne6, ge7, ge8⟩ := H
  refine s_aloadN (pc' := 1) A d6_0 rfl rfl rfl ?_
  refine s_getfield (pc' := 4) (host := "") A (Or.inl (w11 hw)) Via.refl F2 d6_1 rfl fun T A => ?_
  refine s_arraylength (pc' := 5) (z := (4 : Int32)) A V5 (by show _ = ((4 : Nat) : Int); decide) d6_4 rfl ?_
  refine s_iconst (pc' := 6) (z := (1 : Int32)) A d6_5 rfl (by decide) ?_
  refine s_isub (pc' := 7) (z := (3 : Int32)) A d6_6 rfl (by decide) ?_
  refine s_istoreN (pc' := 8) (Ls' := #[rv a, jv 1, S2, iv 3]) A d6_7 rfl rfl ?_
  refine s_aloadN (pc' := 9) A d6_8 rfl rfl rfl ?_
  refine s_getfield (pc' := 12) (host := "") A (Or.inl (w11 hw)) Via.refl F2 d6_9 rfl fun T A => ?_
  refine s_lloadN (pc' := 13) A d6_12 rfl rfl ?_
  refine s_l2i (pc' := 14) (z := (1 : Int32)) A d6_13 rfl (by decide) ?_
  refine s_iloadN (pc' := 15) A d6_14 rfl rfl ?_
  refine s_iand (pc' := 16) (z := (1 : Int32)) A d6_15 rfl (by decide) ?_
  refine s_iconst (pc' := 17) (z := (0 : Int32)) A d6_16 rfl (by decide) ?_
  refine s_iastore (pc' := 18) (i := 1) A V5 (by decide) (Nat.le_of_ble_eq_true rfl) ge8 d6_17 rfl fun T h9 A W10 V11 => ?_
  have V11 : AA Z h9 r_ring .int [.int (0 : Int32), .int (0 : Int32), .int (0 : Int32), .int (0 : Int32)] := V11
  refine s_aloadN (pc' := 19) A d6_18 rfl rfl rfl ?_
  have F12 := (F3.other W10 (Or.inl ne6))
  refine s_getfield (pc' := 22) (host := "") A (Or.inl (w18 hw)) Via.refl F12 d6_19 rfl fun T A => ?_
  refine s_aloadN (pc' := 23) A d6_22 rfl rfl rfl ?_
  have F13 := (F4.other W10 (Or.inl ne6))
  refine s_getfield (pc' := 26) (host := "") A (Or.inl (w20 hw)) Via.refl F13 d6_23 rfl fun T A => ?_
  refine s_lcmp (pc' := 27) A d6_26 rfl ?_
  refine s_ifN (pc' := 30) A d6_27 rfl (by decide) ?_
  refine s_aloadN (pc' := 31) A d6_30 rfl rfl rfl ?_
  have F14 := (F2.other W10 (Or.inl ne6))
  refine s_getfield (pc' := 34) (host := "") A (Or.inl (w11 hw)) Via.refl F14 d6_31 rfl fun T A => ?_
  refine s_aloadN (pc' := 35) A d6_34 rfl rfl rfl ?_
  refine s_getfield (pc' := 38) (host := "") A (Or.inl (w18 hw)) Via.refl F12 d6_35 rfl fun T A => ?_
  refine s_l2i (pc' := 39) (z := (1 : Int32)) A d6_38 rfl (by decide) ?_
  refine s_iloadN (pc' := 40) A d6_39 rfl rfl ?_
  refine s_iand (pc' := 41) (z := (1 : Int32)) A d6_40 rfl (by decide) ?_
  refine s_iaload (pc' := 42) (i := 1) (v := (.int (0 : Int32))) A V11 (by decide) rfl d6_41 rfl ?_
  refine s_ifN (pc' := 45) A d6_42 rfl (by decide) ?_
  refine s_aloadN (pc' := 46) A d6_45 rfl rfl rfl ?_
  refine s_dup (pc' := 47) A d6_46 rfl rfl ?_
  refine s_getfield (pc' := 50) (host := "") A (Or.inl (w18 hw)) Via.refl F12 d6_47 rfl fun T A => ?_
  refine s_lconst (pc' := 51) (z := (1 : Int64)) A d6_50 rfl (by decide) ?_
  refine s_ladd (pc' := 52) (z := (2 : Int64)) A d6_51 rfl (by decide) ?_
  have E15 := (E1.wr W10)
  refine s_putfield (pc' := 55) (host := "") A (Or.inl (w18 hw)) Via.refl F12 E15 (Or.inl (w19 hw)) (w2 hw) (ty := .long) (by decide) rfl rfl ge7 d6_52 rfl fun T h16 A W17 => ?_
  have F18 := F12.same W17
  refine s_goto (pc' := 18) A d6_55 (by decide) (by decide) ?_
  refine s_aloadN (pc' := 19) A d6_18 rfl rfl rfl ?_
  refine s_getfield (pc' := 22) (host := "") A (Or.inl (w18 hw)) Via.refl F18 d6_19 rfl fun T A => ?_
  refine s_aloadN (pc' := 23) A d6_22 rfl rfl rfl ?_
  have F19 := (F13.other W17 (Or.inr (sn_BeginOrder_next_first hw)))
  refine s_getfield (pc' := 26) (host := "") A (Or.inl (w20 hw)) Via.refl F19 d6_23 rfl fun T A => ?_
  refine s_lcmp (pc' := 27) A d6_26 rfl ?_
  refine s_ifN (pc' := 30) A d6_27 rfl (by decide) ?_
  refine s_aloadN (pc' := 31) A d6_30 rfl rfl rfl ?_
  have F20 := (F14.other W17 (Or.inr (sn_BeginOrder_ring_first hw)))
  refine s_getfield (pc' := 34) (host := "") A (Or.inl (w11 hw)) Via.refl F20 d6_31 rfl fun T A => ?_
  refine s_aloadN (pc' := 35) A d6_34 rfl rfl rfl ?_
  refine s_getfield (pc' := 38) (host := "") A (Or.inl (w18 hw)) Via.refl F18 d6_35 rfl fun T A => ?_
  refine s_l2i (pc' := 39) (z := (2 : Int32)) A d6_38 rfl (by decide) ?_
  refine s_iloadN (pc' := 40) A d6_39 rfl rfl ?_
  refine s_iand (pc' := 41) (z := (2 : Int32)) A d6_40 rfl (by decide) ?_
  have V21 := (V11.other W17 (Ne.symm ne6))
  refine s_iaload (pc' := 42) (i := 2) (v := (.int (0 : Int32))) A V21 (by decide) rfl d6_41 rfl ?_
  refine s_ifN (pc' := 45) A d6_42 rfl (by decide) ?_
  refine s_aloadN (pc' := 46) A d6_45 rfl rfl rfl ?_
  refine s_dup (pc' := 47) A d6_46 rfl rfl ?_
  refine s_getfield (pc' := 50) (host := "") A (Or.inl (w18 hw)) Via.refl F18 d6_47 rfl fun T A => ?_
  refine s_lconst (pc' := 51) (z := (1 : Int64)) A d6_50 rfl (by decide) ?_
  refine s_ladd (pc' := 52) (z := (3 : Int64)) A d6_51 rfl (by decide) ?_
  have E22 := (E15.wr W17)
  refine s_putfield (pc' := 55) (host := "") A (Or.inl (w18 hw)) Via.refl F18 E22 (Or.inl (w19 hw)) (w2 hw) (ty := .long) (by decide) rfl rfl ge7 d6_52 rfl fun T h23 A W24 => ?_
  have F25 := F18.same W24
  refine s_goto (pc' := 18) A d6_55 (by decide) (by decide) ?_
  refine s_aloadN (pc' := 19) A d6_18 rfl rfl rfl ?_
  refine s_getfield (pc' := 22) (host := "") A (Or.inl (w18 hw)) Via.refl F25 d6_19 rfl fun T A => ?_
  refine s_aloadN (pc' := 23) A d6_22 rfl rfl rfl ?_
  have F26 := (F19.other W24 (Or.inr (sn_BeginOrder_next_first hw)))
  refine s_getfield (pc' := 26) (host := "") A (Or.inl (w20 hw)) Via.refl F26 d6_23 rfl fun T A => ?_
  refine s_lcmp (pc' := 27) A d6_26 rfl ?_
  refine s_ifY (pc' := 58) A d6_27 (by decide) (by decide) (by decide) ?_
  have K27 := ((((Keep.refl h0 [a, r_ring]).wr W10 (Or.inl (List.mem_of_getElem? (i := 1) rfl))).wr W17 (Or.inl (List.mem_of_getElem? (i := 0) rfl))).wr W24 (Or.inl (List.mem_of_getElem? (i := 0) rfl)))
  have E28 := (E22.wr W24)
  have F29 := (F20.other W24 (Or.inr (sn_BeginOrder_ring_first hw)))
  have V30 := (V21.other W24 (Ne.symm ne6))
  exact r_void A rfl d6_58 (by decide) (by decide) (⟨rfl, K27, ⟨E28, F29, F25, F26, V30, ne6, ge7, ge8⟩⟩)
set_option maxRecDepth 65536 in
set_option maxHeartbeats 40000000 in
theorem bo_remove24 (l : Launch) (Z : State) (a0 : Array Value) (hw : ∀ d ∈ tables_1, d.before a0 Z = true) (n0 : Nat) (h0 : Heap) (Z0 : n0 ≤ h0.size) (a r_ring : Addr) (x0 : Int32) (H : BO Z n0 h0 a r_ring (0 : Int64) (3 : Int64) [.int x0, .int (0 : Int32), .int (0 : Int32), .int (0 : Int32)]) (nz0 : ¬ x0 = (0 : Int32)) :
    Met l Z n0 y6_remove prog_63_method_3_code 4 (Option.none : Option Jvm.ClassFile.FieldType) ({ frames := 0, cells := 0, slots := 0, locals := 0 } : Room) #[(.ref a), (.long (0 : Int64))] h0 (fun v h => v = none ∧ Keep h0 h [a, r_ring] ∧ BO Z n0 h a r_ring (3 : Int64) (3 : Int64) [.int (0 : Int32), .int (0 : Int32), .int (0 : Int32), .int (0 : Int32)]) := by
  refine met_intro (own := c1_BeginOrder) (plainFor_of_name pn_com_example_wirefram_wirefram_sequence_BeginOrder) rfl Z0 ?_
  intro p e s m below meth c T A hnm
  refine Wp.cast (g' := mkF m 0 #[rv a, jv 0, S2, U0] []) (by first | (simp [entryFrame, mkF, argsToLocals, Value.category, maxLocals, jv, S2, U0, iv, rv]; done) | rfl) ?_
  obtain ⟨E1, F2, F3, F4, V5, ne6, ge7, ge8⟩ := H
  refine s_aloadN (pc' := 1) A d6_0 rfl rfl rfl ?_
  refine s_getfield (pc' := 4) (host := "") A (Or.inl (w11 hw)) Via.refl F2 d6_1 rfl fun T A => ?_
  refine s_arraylength (pc' := 5) (z := (4 : Int32)) A V5 (by show _ = ((4 : Nat) : Int); decide) d6_4 rfl ?_
  refine s_iconst (pc' := 6) (z := (1 : Int32)) A d6_5 rfl (by decide) ?_
  refine s_isub (pc' := 7) (z := (3 : Int32)) A d6_6 rfl (by decide) ?_
  refine s_istoreN (pc' := 8) (Ls' := #[rv a, jv 0, S2, iv 3]) A d6_7 rfl rfl ?_
  refine s_aloadN (pc' := 9) A d6_8 rfl rfl rfl ?_
  refine s_getfield (pc' := 12) (host := "") A (Or.inl (w11 hw)) Via.refl F2 d6_9 rfl fun T A => ?_
  refine s_lloadN (pc' := 13) A d6_12 rfl rfl ?_
  refine s_l2i (pc' := 14) (z := (0 : Int32)) A d6_13 rfl (by decide) ?_
  refine s_iloadN (pc' := 15) A d6_14 rfl rfl ?_
  refine s_iand (pc' := 16) (z := (0 : Int32)) A d6_15 rfl (by decide) ?_
  refine s_iconst (pc' := 17) (z := (0 : Int32)) A d6_16 rfl (by decide) ?_
  refine s_iastore (pc' := 18) (i := 0) A V5 (by decide) (Nat.le_of_ble_eq_true rfl) ge8 d6_17 rfl fun T h9 A W10 V11 => ?_
  have V11 : AA Z h9 r_ring .int [.int (0 : Int32), .int (0 : Int32), .int (0 : Int32), .int (0 : Int32)] := V11
  refine s_aloadN (pc' := 19) A d6_18 rfl rfl rfl ?_
  have F12 := (F3.other W10 (Or.inl ne6))
  refine s_getfield (pc' := 22) (host := "") A (Or.inl (w18 hw)) Via.refl F12 d6_19 rfl fun T A => ?_
  refine s_aloadN (pc' := 23) A d6_22 rfl rfl rfl ?_
  have F13 := (F4.other W10 (Or.inl ne6))
  refine s_getfield (pc' := 26) (host := "") A (Or.inl (w20 hw)) Via.refl F13 d6_23 rfl fun T A => ?_
  refine s_lcmp (pc' := 27) A d6_26 rfl ?_
  refine s_ifN (pc' := 30) A d6_27 rfl (by decide) ?_
  refine s_aloadN (pc' := 31) A d6_30 rfl rfl rfl ?_
  have F14 := (F2.other W10 (Or.inl ne6))
  refine s_getfield (pc' := 34) (host := "") A (Or.inl (w11 hw)) Via.refl F14 d6_31 rfl fun T A => ?_
  refine s_aloadN (pc' := 35) A d6_34 rfl rfl rfl ?_
  refine s_getfield (pc' := 38) (host := "") A (Or.inl (w18 hw)) Via.refl F12 d6_35 rfl fun T A => ?_
  refine s_l2i (pc' := 39) (z := (0 : Int32)) A d6_38 rfl (by decide) ?_
  refine s_iloadN (pc' := 40) A d6_39 rfl rfl ?_
  refine s_iand (pc' := 41) (z := (0 : Int32)) A d6_40 rfl (by decide) ?_
  refine s_iaload (pc' := 42) (i := 0) (v := (.int (0 : Int32))) A V11 (by decide) rfl d6_41 rfl ?_
  refine s_ifN (pc' := 45) A d6_42 rfl (by decide) ?_
  refine s_aloadN (pc' := 46) A d6_45 rfl rfl rfl ?_
  refine s_dup (pc' := 47) A d6_46 rfl rfl ?_
  refine s_getfield (pc' := 50) (host := "") A (Or.inl (w18 hw)) Via.refl F12 d6_47 rfl fun T A => ?_
  refine s_lconst (pc' := 51) (z := (1 : Int64)) A d6_50 rfl (by decide) ?_
  refine s_ladd (pc' := 52) (z := (1 : Int64)) A d6_51 rfl (by decide) ?_
  have E15 := (E1.wr W10)
  refine s_putfield (pc' := 55) (host := "") A (Or.inl (w18 hw)) Via.refl F12 E15 (Or.inl (w19 hw)) (w2 hw) (ty := .long) (by decide) rfl rfl ge7 d6_52 rfl fun T h16 A W17 => ?_
  have F18 := F12.same W17
  refine s_goto (pc' := 18) A d6_55 (by decide) (by decide) ?_
  refine s_aloadN (pc' := 19) A d6_18 rfl rfl rfl ?_
  refine s_getfield (pc' := 22) (host := "") A (Or.inl (w18 hw)) Via.refl F18 d6_19 rfl fun T A => ?_
  refine s_aloadN (pc' := 23) A d6_22 rfl rfl rfl ?_
  have F19 := (F13.other W17 (Or.inr (sn_BeginOrder_next_first hw)))
  refine s_getfield (pc' := 26) (host := "") A (Or.inl (w20 hw)) Via.refl F19 d6_23 rfl fun T A => ?_
  refine s_lcmp (pc' := 27) A d6_26 rfl ?_
  refine s_ifN (pc' := 30) A d6_27 rfl (by decide) ?_
  refine s_aloadN (pc' := 31) A d6_30 rfl rfl rfl ?_
  have F20 := (F14.other W17 (Or.inr (sn_BeginOrder_ring_first hw)))
  refine s_getfield (pc' := 34) (host := "") A (Or.inl (w11 hw)) Via.refl F20 d6_31 rfl fun T A => ?_
  refine s_aloadN (pc' := 35) A d6_34 rfl rfl rfl ?_
  refine s_getfield (pc' := 38) (host := "") A (Or.inl (w18 hw)) Via.refl F18 d6_35 rfl fun T A => ?_
  refine s_l2i (pc' := 39) (z := (1 : Int32)) A d6_38 rfl (by decide) ?_
  refine s_iloadN (pc' := 40) A d6_39 rfl rfl ?_
  refine s_iand (pc' := 41) (z := (1 : Int32)) A d6_40 rfl (by decide) ?_
  have V21 := (V11.other W17 (Ne.symm ne6))
  refine s_iaload (pc' := 42) (i := 1) (v := (.int (0 : Int32))) A V21 (by decide) rfl d6_41 rfl ?_
  refine s_ifN (pc' := 45) A d6_42 rfl (by decide) ?_
  refine s_aloadN (pc' := 46) A d6_45 rfl rfl rfl ?_
  refine s_dup (pc' := 47) A d6_46 rfl rfl ?_
  refine s_getfield (pc' := 50) (host := "") A (Or.inl (w18 hw)) Via.refl F18 d6_47 rfl fun T A => ?_
  refine s_lconst (pc' := 51) (z := (1 : Int64)) A d6_50 rfl (by decide) ?_
  refine s_ladd (pc' := 52) (z := (2 : Int64)) A d6_51 rfl (by decide) ?_
  have E22 := (E15.wr W17)
  refine s_putfield (pc' := 55) (host := "") A (Or.inl (w18 hw)) Via.refl F18 E22 (Or.inl (w19 hw)) (w2 hw) (ty := .long) (by decide) rfl rfl ge7 d6_52 rfl fun T h23 A W24 => ?_
  have F25 := F18.same W24
  refine s_goto (pc' := 18) A d6_55 (by decide) (by decide) ?_
  refine s_aloadN (pc' := 19) A d6_18 rfl rfl rfl ?_
  refine s_getfield (pc' := 22) (host := "") A (Or.inl (w18 hw)) Via.refl F25 d6_19 rfl fun T A => ?_
  refine s_aloadN (pc' := 23) A d6_22 rfl rfl rfl ?_
  have F26 := (F19.other W24 (Or.inr (sn_BeginOrder_next_first hw)))
  refine s_getfield (pc' := 26) (host := "") A (Or.inl (w20 hw)) Via.refl F26 d6_23 rfl fun T A => ?_
  refine s_lcmp (pc' := 27) A d6_26 rfl ?_
  refine s_ifN (pc' := 30) A d6_27 rfl (by decide) ?_
  refine s_aloadN (pc' := 31) A d6_30 rfl rfl rfl ?_
  have F27 := (F20.other W24 (Or.inr (sn_BeginOrder_ring_first hw)))
  refine s_getfield (pc' := 34) (host := "") A (Or.inl (w11 hw)) Via.refl F27 d6_31 rfl fun T A => ?_
  refine s_aloadN (pc' := 35) A d6_34 rfl rfl rfl ?_
  refine s_getfield (pc' := 38) (host := "") A (Or.inl (w18 hw)) Via.refl F25 d6_35 rfl fun T A => ?_
  refine s_l2i (pc' := 39) (z := (2 : Int32)) A d6_38 rfl (by decide) ?_
  refine s_iloadN (pc' := 40) A d6_39 rfl rfl ?_
  refine s_iand (pc' := 41) (z := (2 : Int32)) A d6_40 rfl (by decide) ?_
  have V28 := (V21.other W24 (Ne.symm ne6))
  refine s_iaload (pc' := 42) (i := 2) (v := (.int (0 : Int32))) A V28 (by decide) rfl d6_41 rfl ?_
  refine s_ifN (pc' := 45) A d6_42 rfl (by decide) ?_
  refine s_aloadN (pc' := 46) A d6_45 rfl rfl rfl ?_
  refine s_dup (pc' := 47) A d6_46 rfl rfl ?_
  refine s_getfield (pc' := 50) (host := "") A (Or.inl (w18 hw)) Via.refl F25 d6_47 rfl fun T A => ?_
  refine s_lconst (pc' := 51) (z := (1 : Int64)) A d6_50 rfl (by decide) ?_
  refine s_ladd (pc' := 52) (z := (3 : Int64)) A d6_51 rfl (by decide) ?_
  have E29 := (E22.wr W24)
  refine s_putfield (pc' := 55) (host := "") A (Or.inl (w18 hw)) Via.refl F25 E29 (Or.inl (w19 hw)) (w2 hw) (ty := .long) (by decide) rfl rfl ge7 d6_52 rfl fun T h30 A W31 => ?_
  have F32 := F25.same W31
  refine s_goto (pc' := 18) A d6_55 (by decide) (by decide) ?_
  refine s_aloadN (pc' := 19) A d6_18 rfl rfl rfl ?_
  refine s_getfield (pc' := 22) (host := "") A (Or.inl (w18 hw)) Via.refl F32 d6_19 rfl fun T A => ?_
  refine s_aloadN (pc' := 23) A d6_22 rfl rfl rfl ?_
  have F33 := (F26.other W31 (Or.inr (sn_BeginOrder_next_first hw)))
  refine s_getfield (pc' := 26) (host := "") A (Or.inl (w20 hw)) Via.refl F33 d6_23 rfl fun T A => ?_
  refine s_lcmp (pc' := 27) A d6_26 rfl ?_
  refine s_ifY (pc' := 58) A d6_27 (by decide) (by decide) (by decide) ?_
  have K34 := (((((Keep.refl h0 [a, r_ring]).wr W10 (Or.inl (List.mem_of_getElem? (i := 1) rfl))).wr W17 (Or.inl (List.mem_of_getElem? (i := 0) rfl))).wr W24 (Or.inl (List.mem_of_getElem? (i := 0) rfl))).wr W31 (Or.inl (List.mem_of_getElem? (i := 0) rfl)))
  have E35 := (E29.wr W31)
  have F36 := (F27.other W31 (Or.inr (sn_BeginOrder_ring_first hw)))
  have V37 := (V28.other W31 (Ne.symm ne6))
  exact r_void A rfl d6_58 (by decide) (by decide) (⟨rfl, K34, ⟨E35, F36, F32, F33, V37, ne6, ge7, ge8⟩⟩)
set_option maxRecDepth 65536 in
set_option maxHeartbeats 40000000 in
theorem bo_remove25 (l : Launch) (Z : State) (a0 : Array Value) (hw : ∀ d ∈ tables_1, d.before a0 Z = true) (n0 : Nat) (h0 : Heap) (Z0 : n0 ≤ h0.size) (a r_ring : Addr) (x0 : Int32) (H : BO Z n0 h0 a r_ring (0 : Int64) (1 : Int64) [.int x0, .int (0 : Int32), .int (0 : Int32), .int (0 : Int32)]) (nz0 : ¬ x0 = (0 : Int32)) :
    Met l Z n0 y6_remove prog_63_method_3_code 4 (Option.none : Option Jvm.ClassFile.FieldType) ({ frames := 0, cells := 0, slots := 0, locals := 0 } : Room) #[(.ref a), (.long (0 : Int64))] h0 (fun v h => v = none ∧ Keep h0 h [a, r_ring] ∧ BO Z n0 h a r_ring (1 : Int64) (1 : Int64) [.int (0 : Int32), .int (0 : Int32), .int (0 : Int32), .int (0 : Int32)]) := by
  refine met_intro (own := c1_BeginOrder) (plainFor_of_name pn_com_example_wirefram_wirefram_sequence_BeginOrder) rfl Z0 ?_
  intro p e s m below meth c T A hnm
  refine Wp.cast (g' := mkF m 0 #[rv a, jv 0, S2, U0] []) (by first | (simp [entryFrame, mkF, argsToLocals, Value.category, maxLocals, jv, S2, U0, iv, rv]; done) | rfl) ?_
  obtain ⟨E1, F2, F3, F4, V5, ne6, ge7, ge8⟩ := H
  refine s_aloadN (pc' := 1) A d6_0 rfl rfl rfl ?_
  refine s_getfield (pc' := 4) (host := "") A (Or.inl (w11 hw)) Via.refl F2 d6_1 rfl fun T A => ?_
  refine s_arraylength (pc' := 5) (z := (4 : Int32)) A V5 (by show _ = ((4 : Nat) : Int); decide) d6_4 rfl ?_
  refine s_iconst (pc' := 6) (z := (1 : Int32)) A d6_5 rfl (by decide) ?_
  refine s_isub (pc' := 7) (z := (3 : Int32)) A d6_6 rfl (by decide) ?_
  refine s_istoreN (pc' := 8) (Ls' := #[rv a, jv 0, S2, iv 3]) A d6_7 rfl rfl ?_
  refine s_aloadN (pc' := 9) A d6_8 rfl rfl rfl ?_
  refine s_getfield (pc' := 12) (host := "") A (Or.inl (w11 hw)) Via.refl F2 d6_9 rfl fun T A => ?_
  refine s_lloadN (pc' := 13) A d6_12 rfl rfl ?_
  refine s_l2i (pc' := 14) (z := (0 : Int32)) A d6_13 rfl (by decide) ?_
  refine s_iloadN (pc' := 15) A d6_14 rfl rfl ?_
  refine s_iand (pc' := 16) (z := (0 : Int32)) A d6_15 rfl (by decide) ?_
  refine s_iconst (pc' := 17) (z := (0 : Int32)) A d6_16 rfl (by decide) ?_
  refine s_iastore (pc' := 18) (i := 0) A V5 (by decide) (Nat.le_of_ble_eq_true rfl) ge8 d6_17 rfl fun T h9 A W10 V11 => ?_
  have V11 : AA Z h9 r_ring .int [.int (0 : Int32), .int (0 : Int32), .int (0 : Int32), .int (0 : Int32)] := V11
  refine s_aloadN (pc' := 19) A d6_18 rfl rfl rfl ?_
  have F12 := (F3.other W10 (Or.inl ne6))
  refine s_getfield (pc' := 22) (host := "") A (Or.inl (w18 hw)) Via.refl F12 d6_19 rfl fun T A => ?_
  refine s_aloadN (pc' := 23) A d6_22 rfl rfl rfl ?_
  have F13 := (F4.other W10 (Or.inl ne6))
  refine s_getfield (pc' := 26) (host := "") A (Or.inl (w20 hw)) Via.refl F13 d6_23 rfl fun T A => ?_
  refine s_lcmp (pc' := 27) A d6_26 rfl ?_
  refine s_ifN (pc' := 30) A d6_27 rfl (by decide) ?_
  refine s_aloadN (pc' := 31) A d6_30 rfl rfl rfl ?_
  have F14 := (F2.other W10 (Or.inl ne6))
  refine s_getfield (pc' := 34) (host := "") A (Or.inl (w11 hw)) Via.refl F14 d6_31 rfl fun T A => ?_
  refine s_aloadN (pc' := 35) A d6_34 rfl rfl rfl ?_
  refine s_getfield (pc' := 38) (host := "") A (Or.inl (w18 hw)) Via.refl F12 d6_35 rfl fun T A => ?_
  refine s_l2i (pc' := 39) (z := (0 : Int32)) A d6_38 rfl (by decide) ?_
  refine s_iloadN (pc' := 40) A d6_39 rfl rfl ?_
  refine s_iand (pc' := 41) (z := (0 : Int32)) A d6_40 rfl (by decide) ?_
  refine s_iaload (pc' := 42) (i := 0) (v := (.int (0 : Int32))) A V11 (by decide) rfl d6_41 rfl ?_
  refine s_ifN (pc' := 45) A d6_42 rfl (by decide) ?_
  refine s_aloadN (pc' := 46) A d6_45 rfl rfl rfl ?_
  refine s_dup (pc' := 47) A d6_46 rfl rfl ?_
  refine s_getfield (pc' := 50) (host := "") A (Or.inl (w18 hw)) Via.refl F12 d6_47 rfl fun T A => ?_
  refine s_lconst (pc' := 51) (z := (1 : Int64)) A d6_50 rfl (by decide) ?_
  refine s_ladd (pc' := 52) (z := (1 : Int64)) A d6_51 rfl (by decide) ?_
  have E15 := (E1.wr W10)
  refine s_putfield (pc' := 55) (host := "") A (Or.inl (w18 hw)) Via.refl F12 E15 (Or.inl (w19 hw)) (w2 hw) (ty := .long) (by decide) rfl rfl ge7 d6_52 rfl fun T h16 A W17 => ?_
  have F18 := F12.same W17
  refine s_goto (pc' := 18) A d6_55 (by decide) (by decide) ?_
  refine s_aloadN (pc' := 19) A d6_18 rfl rfl rfl ?_
  refine s_getfield (pc' := 22) (host := "") A (Or.inl (w18 hw)) Via.refl F18 d6_19 rfl fun T A => ?_
  refine s_aloadN (pc' := 23) A d6_22 rfl rfl rfl ?_
  have F19 := (F13.other W17 (Or.inr (sn_BeginOrder_next_first hw)))
  refine s_getfield (pc' := 26) (host := "") A (Or.inl (w20 hw)) Via.refl F19 d6_23 rfl fun T A => ?_
  refine s_lcmp (pc' := 27) A d6_26 rfl ?_
  refine s_ifY (pc' := 58) A d6_27 (by decide) (by decide) (by decide) ?_
  have K20 := (((Keep.refl h0 [a, r_ring]).wr W10 (Or.inl (List.mem_of_getElem? (i := 1) rfl))).wr W17 (Or.inl (List.mem_of_getElem? (i := 0) rfl)))
  have E21 := (E15.wr W17)
  have F22 := (F14.other W17 (Or.inr (sn_BeginOrder_ring_first hw)))
  have V23 := (V11.other W17 (Ne.symm ne6))
  exact r_void A rfl d6_58 (by decide) (by decide) (⟨rfl, K20, ⟨E21, F22, F18, F19, V23, ne6, ge7, ge8⟩⟩)
set_option maxRecDepth 65536 in
set_option maxHeartbeats 40000000 in
theorem bo_isEmpty26 (l : Launch) (Z : State) (a0 : Array Value) (hw : ∀ d ∈ tables_1, d.before a0 Z = true) (n0 : Nat) (h0 : Heap) (Z0 : n0 ≤ h0.size) (a r_ring : Addr)  (l_ring : List Value) (H : BO Z n0 h0 a r_ring (1 : Int64) (1 : Int64) l_ring) :
    Met l Z n0 y3_isEmpty prog_63_method_4_code 1 (Option.some Jvm.ClassFile.FieldType.boolean) ({ frames := 0, cells := 0, slots := 0, locals := 0 } : Room) #[(.ref a)] h0 (fun v h => v = some (.int (1 : Int32)) ∧ Keep h0 h [a, r_ring] ∧ BO Z n0 h a r_ring (1 : Int64) (1 : Int64) l_ring) := by
  refine met_intro (own := c1_BeginOrder) (plainFor_of_name pn_com_example_wirefram_wirefram_sequence_BeginOrder) rfl Z0 ?_
  intro p e s m below meth c T A hnm
  refine Wp.cast (g' := mkF m 0 #[rv a] []) (by first | (simp [entryFrame, mkF, argsToLocals, Value.category, maxLocals, jv, S2, U0, iv, rv]; done) | rfl) ?_
  obtain ⟨E1, F2, F3, F4, V5, ne6, ge7, ge8⟩ := H
  refine s_aloadN (pc' := 1) A d3_0 rfl rfl rfl ?_
  refine s_getfield (pc' := 4) (host := "") A (Or.inl (w18 hw)) Via.refl F3 d3_1 rfl fun T A => ?_
  refine s_aloadN (pc' := 5) A d3_4 rfl rfl rfl ?_
  refine s_getfield (pc' := 8) (host := "") A (Or.inl (w20 hw)) Via.refl F4 d3_5 rfl fun T A => ?_
  refine s_lcmp (pc' := 9) A d3_8 rfl ?_
  refine s_ifN (pc' := 12) A d3_9 rfl (by decide) ?_
  refine s_iconst (pc' := 13) (z := (1 : Int32)) A d3_12 rfl (by decide) ?_
  refine s_goto (pc' := 17) A d3_13 (by decide) (by decide) ?_
  exact r_bool A rfl (by decide) d3_17 (by decide) (by decide) (⟨rfl, (Keep.refl h0 [a, r_ring]), ⟨E1, F2, F3, F4, V5, ne6, ge7, ge8⟩⟩)
set_option maxRecDepth 65536 in
set_option maxHeartbeats 40000000 in
theorem bo_add27 (l : Launch) (Z : State) (a0 : Array Value) (hw : ∀ d ∈ tables_1, d.before a0 Z = true) (n0 : Nat) (h0 : Heap) (Z0 : n0 ≤ h0.size) (a r_ring : Addr) (x0 : Int32) (x1 : Int32) (x2 : Int32) (x3 : Int32) (x4 : Int32) (H : BO Z n0 h0 a r_ring (1 : Int64) (1 : Int64) [.int x0, .int x1, .int x2, .int x3]) :
    Met l Z n0 y4_add prog_63_method_2_code 2 (Option.some Jvm.ClassFile.FieldType.long) ({ frames := 0, cells := 0, slots := 0, locals := 0 } : Room) #[(.ref a), (.int x4)] h0 (fun v h => v = some (.long (1 : Int64)) ∧ Keep h0 h [a, r_ring] ∧ BO Z n0 h a r_ring (1 : Int64) (2 : Int64) [.int x0, .int (x4 + (1 : Int32)), .int x2, .int x3]) := by
  refine met_intro (own := c1_BeginOrder) (plainFor_of_name pn_com_example_wirefram_wirefram_sequence_BeginOrder) rfl Z0 ?_
  intro p e s m below meth c T A hnm
  refine Wp.cast (g' := mkF m 0 #[rv a, iv x4] []) (by first | (simp [entryFrame, mkF, argsToLocals, Value.category, maxLocals, jv, S2, U0, iv, rv]; done) | rfl) ?_
  obtain ⟨E1, F2, F3, F4, V5, ne6, ge7, ge8⟩ := H
  refine s_aloadN (pc' := 1) A d4_0 rfl rfl rfl ?_
  refine s_getfield (pc' := 4) (host := "") A (Or.inl (w20 hw)) Via.refl F4 d4_1 rfl fun T A => ?_
  refine s_aloadN (pc' := 5) A d4_4 rfl rfl rfl ?_
  refine s_getfield (pc' := 8) (host := "") A (Or.inl (w18 hw)) Via.refl F3 d4_5 rfl fun T A => ?_
  refine s_lsub (pc' := 9) (z := (0 : Int64)) A d4_8 rfl (by decide) ?_
  refine s_aloadN (pc' := 10) A d4_9 rfl rfl rfl ?_
  refine s_getfield (pc' := 13) (host := "") A (Or.inl (w11 hw)) Via.refl F2 d4_10 rfl fun T A => ?_
  refine s_arraylength (pc' := 14) (z := (4 : Int32)) A V5 (by show _ = ((4 : Nat) : Int); decide) d4_13 rfl ?_
  refine s_i2l (pc' := 15) (z := (4 : Int64)) A d4_14 rfl (by decide) ?_
  refine s_lcmp (pc' := 16) A d4_15 rfl ?_
  refine s_ifY (pc' := 23) A d4_16 (by decide) (by decide) (by decide) ?_
  refine s_aloadN (pc' := 24) A d4_23 rfl rfl rfl ?_
  refine s_getfield (pc' := 27) (host := "") A (Or.inl (w11 hw)) Via.refl F2 d4_24 rfl fun T A => ?_
  refine s_aloadN (pc' := 28) A d4_27 rfl rfl rfl ?_
  refine s_getfield (pc' := 31) (host := "") A (Or.inl (w20 hw)) Via.refl F4 d4_28 rfl fun T A => ?_
  refine s_l2i (pc' := 32) (z := (1 : Int32)) A d4_31 rfl (by decide) ?_
  refine s_aloadN (pc' := 33) A d4_32 rfl rfl rfl ?_
  refine s_getfield (pc' := 36) (host := "") A (Or.inl (w11 hw)) Via.refl F2 d4_33 rfl fun T A => ?_
  refine s_arraylength (pc' := 37) (z := (4 : Int32)) A V5 (by show _ = ((4 : Nat) : Int); decide) d4_36 rfl ?_
  refine s_iconst (pc' := 38) (z := (1 : Int32)) A d4_37 rfl (by decide) ?_
  refine s_isub (pc' := 39) (z := (3 : Int32)) A d4_38 rfl (by decide) ?_
  refine s_iand (pc' := 40) (z := (1 : Int32)) A d4_39 rfl (by decide) ?_
  refine s_iloadN (pc' := 41) A d4_40 rfl rfl ?_
  refine s_iconst (pc' := 42) (z := (1 : Int32)) A d4_41 rfl (by decide) ?_
  refine s_iadd (pc' := 43) (z := (x4 + (1 : Int32))) A d4_42 rfl rfl ?_
  refine s_iastore (pc' := 44) (i := 1) A V5 (by decide) (Nat.le_of_ble_eq_true rfl) ge8 d4_43 rfl fun T h9 A W10 V11 => ?_
  have V11 : AA Z h9 r_ring .int [.int x0, .int (x4 + (1 : Int32)), .int x2, .int x3] := V11
  refine s_aloadN (pc' := 45) A d4_44 rfl rfl rfl ?_
  refine s_dup (pc' := 46) A d4_45 rfl rfl ?_
  have F12 := (F4.other W10 (Or.inl ne6))
  refine s_getfield (pc' := 49) (host := "") A (Or.inl (w20 hw)) Via.refl F12 d4_46 rfl fun T A => ?_
  refine s_dup2X1L (pc' := 50) A d4_49 rfl rfl ?_
  refine s_lconst (pc' := 51) (z := (1 : Int64)) A d4_50 rfl (by decide) ?_
  refine s_ladd (pc' := 52) (z := (2 : Int64)) A d4_51 rfl (by decide) ?_
  have E13 := (E1.wr W10)
  refine s_putfield (pc' := 55) (host := "") A (Or.inl (w20 hw)) Via.refl F12 E13 (Or.inl (w21 hw)) (w2 hw) (ty := .long) (by decide) rfl rfl ge7 d4_52 rfl fun T h14 A W15 => ?_
  have F16 := F12.same W15
  have K17 := (((Keep.refl h0 [a, r_ring]).wr W10 (Or.inl (List.mem_of_getElem? (i := 1) rfl))).wr W15 (Or.inl (List.mem_of_getElem? (i := 0) rfl)))
  have E18 := (E13.wr W15)
  have F19 := ((F2.other W10 (Or.inl ne6)).other W15 (Or.inr (sn_BeginOrder_ring_next hw)))
  have F20 := ((F3.other W10 (Or.inl ne6)).other W15 (Or.inr (sn_BeginOrder_first_next hw)))
  have V21 := (V11.other W15 (Ne.symm ne6))
  exact r_long A rfl d4_55 (by decide) (by decide) (⟨rfl, K17, ⟨E18, F19, F20, F16, V21, ne6, ge7, ge8⟩⟩)
set_option maxRecDepth 65536 in
set_option maxHeartbeats 40000000 in
theorem bo_add28 (l : Launch) (Z : State) (a0 : Array Value) (hw : ∀ d ∈ tables_1, d.before a0 Z = true) (n0 : Nat) (h0 : Heap) (Z0 : n0 ≤ h0.size) (a r_ring : Addr) (x0 : Int32) (x1 : Int32) (x2 : Int32) (x3 : Int32) (x4 : Int32) (H : BO Z n0 h0 a r_ring (1 : Int64) (2 : Int64) [.int x0, .int x1, .int x2, .int x3]) :
    Met l Z n0 y4_add prog_63_method_2_code 2 (Option.some Jvm.ClassFile.FieldType.long) ({ frames := 0, cells := 0, slots := 0, locals := 0 } : Room) #[(.ref a), (.int x4)] h0 (fun v h => v = some (.long (2 : Int64)) ∧ Keep h0 h [a, r_ring] ∧ BO Z n0 h a r_ring (1 : Int64) (3 : Int64) [.int x0, .int x1, .int (x4 + (1 : Int32)), .int x3]) := by
  refine met_intro (own := c1_BeginOrder) (plainFor_of_name pn_com_example_wirefram_wirefram_sequence_BeginOrder) rfl Z0 ?_
  intro p e s m below meth c T A hnm
  refine Wp.cast (g' := mkF m 0 #[rv a, iv x4] []) (by first | (simp [entryFrame, mkF, argsToLocals, Value.category, maxLocals, jv, S2, U0, iv, rv]; done) | rfl) ?_
  obtain ⟨E1, F2, F3, F4, V5, ne6, ge7, ge8⟩ := H
  refine s_aloadN (pc' := 1) A d4_0 rfl rfl rfl ?_
  refine s_getfield (pc' := 4) (host := "") A (Or.inl (w20 hw)) Via.refl F4 d4_1 rfl fun T A => ?_
  refine s_aloadN (pc' := 5) A d4_4 rfl rfl rfl ?_
  refine s_getfield (pc' := 8) (host := "") A (Or.inl (w18 hw)) Via.refl F3 d4_5 rfl fun T A => ?_
  refine s_lsub (pc' := 9) (z := (1 : Int64)) A d4_8 rfl (by decide) ?_
  refine s_aloadN (pc' := 10) A d4_9 rfl rfl rfl ?_
  refine s_getfield (pc' := 13) (host := "") A (Or.inl (w11 hw)) Via.refl F2 d4_10 rfl fun T A => ?_
  refine s_arraylength (pc' := 14) (z := (4 : Int32)) A V5 (by show _ = ((4 : Nat) : Int); decide) d4_13 rfl ?_
  refine s_i2l (pc' := 15) (z := (4 : Int64)) A d4_14 rfl (by decide) ?_
  refine s_lcmp (pc' := 16) A d4_15 rfl ?_
  refine s_ifY (pc' := 23) A d4_16 (by decide) (by decide) (by decide) ?_
  refine s_aloadN (pc' := 24) A d4_23 rfl rfl rfl ?_
  refine s_getfield (pc' := 27) (host := "") A (Or.inl (w11 hw)) Via.refl F2 d4_24 rfl fun T A => ?_
  refine s_aloadN (pc' := 28) A d4_27 rfl rfl rfl ?_
  refine s_getfield (pc' := 31) (host := "") A (Or.inl (w20 hw)) Via.refl F4 d4_28 rfl fun T A => ?_
  refine s_l2i (pc' := 32) (z := (2 : Int32)) A d4_31 rfl (by decide) ?_
  refine s_aloadN (pc' := 33) A d4_32 rfl rfl rfl ?_
  refine s_getfield (pc' := 36) (host := "") A (Or.inl (w11 hw)) Via.refl F2 d4_33 rfl fun T A => ?_
  refine s_arraylength (pc' := 37) (z := (4 : Int32)) A V5 (by show _ = ((4 : Nat) : Int); decide) d4_36 rfl ?_
  refine s_iconst (pc' := 38) (z := (1 : Int32)) A d4_37 rfl (by decide) ?_
  refine s_isub (pc' := 39) (z := (3 : Int32)) A d4_38 rfl (by decide) ?_
  refine s_iand (pc' := 40) (z := (2 : Int32)) A d4_39 rfl (by decide) ?_
  refine s_iloadN (pc' := 41) A d4_40 rfl rfl ?_
  refine s_iconst (pc' := 42) (z := (1 : Int32)) A d4_41 rfl (by decide) ?_
  refine s_iadd (pc' := 43) (z := (x4 + (1 : Int32))) A d4_42 rfl rfl ?_
  refine s_iastore (pc' := 44) (i := 2) A V5 (by decide) (Nat.le_of_ble_eq_true rfl) ge8 d4_43 rfl fun T h9 A W10 V11 => ?_
  have V11 : AA Z h9 r_ring .int [.int x0, .int x1, .int (x4 + (1 : Int32)), .int x3] := V11
  refine s_aloadN (pc' := 45) A d4_44 rfl rfl rfl ?_
  refine s_dup (pc' := 46) A d4_45 rfl rfl ?_
  have F12 := (F4.other W10 (Or.inl ne6))
  refine s_getfield (pc' := 49) (host := "") A (Or.inl (w20 hw)) Via.refl F12 d4_46 rfl fun T A => ?_
  refine s_dup2X1L (pc' := 50) A d4_49 rfl rfl ?_
  refine s_lconst (pc' := 51) (z := (1 : Int64)) A d4_50 rfl (by decide) ?_
  refine s_ladd (pc' := 52) (z := (3 : Int64)) A d4_51 rfl (by decide) ?_
  have E13 := (E1.wr W10)
  refine s_putfield (pc' := 55) (host := "") A (Or.inl (w20 hw)) Via.refl F12 E13 (Or.inl (w21 hw)) (w2 hw) (ty := .long) (by decide) rfl rfl ge7 d4_52 rfl fun T h14 A W15 => ?_
  have F16 := F12.same W15
  have K17 := (((Keep.refl h0 [a, r_ring]).wr W10 (Or.inl (List.mem_of_getElem? (i := 1) rfl))).wr W15 (Or.inl (List.mem_of_getElem? (i := 0) rfl)))
  have E18 := (E13.wr W15)
  have F19 := ((F2.other W10 (Or.inl ne6)).other W15 (Or.inr (sn_BeginOrder_ring_next hw)))
  have F20 := ((F3.other W10 (Or.inl ne6)).other W15 (Or.inr (sn_BeginOrder_first_next hw)))
  have V21 := (V11.other W15 (Ne.symm ne6))
  exact r_long A rfl d4_55 (by decide) (by decide) (⟨rfl, K17, ⟨E18, F19, F20, F16, V21, ne6, ge7, ge8⟩⟩)
set_option maxRecDepth 65536 in
set_option maxHeartbeats 40000000 in
theorem bo_add29 (l : Launch) (Z : State) (a0 : Array Value) (hw : ∀ d ∈ tables_1, d.before a0 Z = true) (n0 : Nat) (h0 : Heap) (Z0 : n0 ≤ h0.size) (a r_ring : Addr) (x0 : Int32) (x1 : Int32) (x2 : Int32) (x3 : Int32) (x4 : Int32) (H : BO Z n0 h0 a r_ring (1 : Int64) (3 : Int64) [.int x0, .int x1, .int x2, .int x3]) :
    Met l Z n0 y4_add prog_63_method_2_code 2 (Option.some Jvm.ClassFile.FieldType.long) ({ frames := 0, cells := 0, slots := 0, locals := 0 } : Room) #[(.ref a), (.int x4)] h0 (fun v h => v = some (.long (3 : Int64)) ∧ Keep h0 h [a, r_ring] ∧ BO Z n0 h a r_ring (1 : Int64) (4 : Int64) [.int x0, .int x1, .int x2, .int (x4 + (1 : Int32))]) := by
  refine met_intro (own := c1_BeginOrder) (plainFor_of_name pn_com_example_wirefram_wirefram_sequence_BeginOrder) rfl Z0 ?_
  intro p e s m below meth c T A hnm
  refine Wp.cast (g' := mkF m 0 #[rv a, iv x4] []) (by first | (simp [entryFrame, mkF, argsToLocals, Value.category, maxLocals, jv, S2, U0, iv, rv]; done) | rfl) ?_
  obtain ⟨E1, F2, F3, F4, V5, ne6, ge7, ge8⟩ := H
  refine s_aloadN (pc' := 1) A d4_0 rfl rfl rfl ?_
  refine s_getfield (pc' := 4) (host := "") A (Or.inl (w20 hw)) Via.refl F4 d4_1 rfl fun T A => ?_
  refine s_aloadN (pc' := 5) A d4_4 rfl rfl rfl ?_
  refine s_getfield (pc' := 8) (host := "") A (Or.inl (w18 hw)) Via.refl F3 d4_5 rfl fun T A => ?_
  refine s_lsub (pc' := 9) (z := (2 : Int64)) A d4_8 rfl (by decide) ?_
  refine s_aloadN (pc' := 10) A d4_9 rfl rfl rfl ?_
  refine s_getfield (pc' := 13) (host := "") A (Or.inl (w11 hw)) Via.refl F2 d4_10 rfl fun T A => ?_
  refine s_arraylength (pc' := 14) (z := (4 : Int32)) A V5 (by show _ = ((4 : Nat) : Int); decide) d4_13 rfl ?_
  refine s_i2l (pc' := 15) (z := (4 : Int64)) A d4_14 rfl (by decide) ?_
  refine s_lcmp (pc' := 16) A d4_15 rfl ?_
  refine s_ifY (pc' := 23) A d4_16 (by decide) (by decide) (by decide) ?_
  refine s_aloadN (pc' := 24) A d4_23 rfl rfl rfl ?_
  refine s_getfield (pc' := 27) (host := "") A (Or.inl (w11 hw)) Via.refl F2 d4_24 rfl fun T A => ?_
  refine s_aloadN (pc' := 28) A d4_27 rfl rfl rfl ?_
  refine s_getfield (pc' := 31) (host := "") A (Or.inl (w20 hw)) Via.refl F4 d4_28 rfl fun T A => ?_
  refine s_l2i (pc' := 32) (z := (3 : Int32)) A d4_31 rfl (by decide) ?_
  refine s_aloadN (pc' := 33) A d4_32 rfl rfl rfl ?_
  refine s_getfield (pc' := 36) (host := "") A (Or.inl (w11 hw)) Via.refl F2 d4_33 rfl fun T A => ?_
  refine s_arraylength (pc' := 37) (z := (4 : Int32)) A V5 (by show _ = ((4 : Nat) : Int); decide) d4_36 rfl ?_
  refine s_iconst (pc' := 38) (z := (1 : Int32)) A d4_37 rfl (by decide) ?_
  refine s_isub (pc' := 39) (z := (3 : Int32)) A d4_38 rfl (by decide) ?_
  refine s_iand (pc' := 40) (z := (3 : Int32)) A d4_39 rfl (by decide) ?_
  refine s_iloadN (pc' := 41) A d4_40 rfl rfl ?_
  refine s_iconst (pc' := 42) (z := (1 : Int32)) A d4_41 rfl (by decide) ?_
  refine s_iadd (pc' := 43) (z := (x4 + (1 : Int32))) A d4_42 rfl rfl ?_
  refine s_iastore (pc' := 44) (i := 3) A V5 (by decide) (Nat.le_of_ble_eq_true rfl) ge8 d4_43 rfl fun T h9 A W10 V11 => ?_
  have V11 : AA Z h9 r_ring .int [.int x0, .int x1, .int x2, .int (x4 + (1 : Int32))] := V11
  refine s_aloadN (pc' := 45) A d4_44 rfl rfl rfl ?_
  refine s_dup (pc' := 46) A d4_45 rfl rfl ?_
  have F12 := (F4.other W10 (Or.inl ne6))
  refine s_getfield (pc' := 49) (host := "") A (Or.inl (w20 hw)) Via.refl F12 d4_46 rfl fun T A => ?_
  refine s_dup2X1L (pc' := 50) A d4_49 rfl rfl ?_
  refine s_lconst (pc' := 51) (z := (1 : Int64)) A d4_50 rfl (by decide) ?_
  refine s_ladd (pc' := 52) (z := (4 : Int64)) A d4_51 rfl (by decide) ?_
  have E13 := (E1.wr W10)
  refine s_putfield (pc' := 55) (host := "") A (Or.inl (w20 hw)) Via.refl F12 E13 (Or.inl (w21 hw)) (w2 hw) (ty := .long) (by decide) rfl rfl ge7 d4_52 rfl fun T h14 A W15 => ?_
  have F16 := F12.same W15
  have K17 := (((Keep.refl h0 [a, r_ring]).wr W10 (Or.inl (List.mem_of_getElem? (i := 1) rfl))).wr W15 (Or.inl (List.mem_of_getElem? (i := 0) rfl)))
  have E18 := (E13.wr W15)
  have F19 := ((F2.other W10 (Or.inl ne6)).other W15 (Or.inr (sn_BeginOrder_ring_next hw)))
  have F20 := ((F3.other W10 (Or.inl ne6)).other W15 (Or.inr (sn_BeginOrder_first_next hw)))
  have V21 := (V11.other W15 (Ne.symm ne6))
  exact r_long A rfl d4_55 (by decide) (by decide) (⟨rfl, K17, ⟨E18, F19, F20, F16, V21, ne6, ge7, ge8⟩⟩)
set_option maxRecDepth 65536 in
set_option maxHeartbeats 40000000 in
theorem bo_isEmpty30 (l : Launch) (Z : State) (a0 : Array Value) (hw : ∀ d ∈ tables_1, d.before a0 Z = true) (n0 : Nat) (h0 : Heap) (Z0 : n0 ≤ h0.size) (a r_ring : Addr)  (l_ring : List Value) (H : BO Z n0 h0 a r_ring (1 : Int64) (4 : Int64) l_ring) :
    Met l Z n0 y3_isEmpty prog_63_method_4_code 1 (Option.some Jvm.ClassFile.FieldType.boolean) ({ frames := 0, cells := 0, slots := 0, locals := 0 } : Room) #[(.ref a)] h0 (fun v h => v = some (.int (0 : Int32)) ∧ Keep h0 h [a, r_ring] ∧ BO Z n0 h a r_ring (1 : Int64) (4 : Int64) l_ring) := by
  refine met_intro (own := c1_BeginOrder) (plainFor_of_name pn_com_example_wirefram_wirefram_sequence_BeginOrder) rfl Z0 ?_
  intro p e s m below meth c T A hnm
  refine Wp.cast (g' := mkF m 0 #[rv a] []) (by first | (simp [entryFrame, mkF, argsToLocals, Value.category, maxLocals, jv, S2, U0, iv, rv]; done) | rfl) ?_
  obtain ⟨E1, F2, F3, F4, V5, ne6, ge7, ge8⟩ := H
  refine s_aloadN (pc' := 1) A d3_0 rfl rfl rfl ?_
  refine s_getfield (pc' := 4) (host := "") A (Or.inl (w18 hw)) Via.refl F3 d3_1 rfl fun T A => ?_
  refine s_aloadN (pc' := 5) A d3_4 rfl rfl rfl ?_
  refine s_getfield (pc' := 8) (host := "") A (Or.inl (w20 hw)) Via.refl F4 d3_5 rfl fun T A => ?_
  refine s_lcmp (pc' := 9) A d3_8 rfl ?_
  refine s_ifY (pc' := 16) A d3_9 (by decide) (by decide) (by decide) ?_
  refine s_iconst (pc' := 17) (z := (0 : Int32)) A d3_16 rfl (by decide) ?_
  exact r_bool A rfl (by decide) d3_17 (by decide) (by decide) (⟨rfl, (Keep.refl h0 [a, r_ring]), ⟨E1, F2, F3, F4, V5, ne6, ge7, ge8⟩⟩)
set_option maxRecDepth 65536 in
set_option maxHeartbeats 40000000 in
theorem bo_first31 (l : Launch) (Z : State) (a0 : Array Value) (hw : ∀ d ∈ tables_1, d.before a0 Z = true) (n0 : Nat) (h0 : Heap) (Z0 : n0 ≤ h0.size) (a r_ring : Addr) (x0 : Int32) (x1 : Int32) (x2 : Int32) (x3 : Int32) (H : BO Z n0 h0 a r_ring (1 : Int64) (4 : Int64) [.int x0, .int x1, .int x2, .int x3]) :
    Met l Z n0 y5_first prog_63_method_5_code 1 (Option.some Jvm.ClassFile.FieldType.int) ({ frames := 0, cells := 0, slots := 0, locals := 0 } : Room) #[(.ref a)] h0 (fun v h => v = some (.int (x1 - (1 : Int32))) ∧ Keep h0 h [a, r_ring] ∧ BO Z n0 h a r_ring (1 : Int64) (4 : Int64) [.int x0, .int x1, .int x2, .int x3]) := by
  refine met_intro (own := c1_BeginOrder) (plainFor_of_name pn_com_example_wirefram_wirefram_sequence_BeginOrder) rfl Z0 ?_
  intro p e s m below meth c T A hnm
  refine Wp.cast (g' := mkF m 0 #[rv a] []) (by first | (simp [entryFrame, mkF, argsToLocals, Value.category, maxLocals, jv, S2, U0, iv, rv]; done) | rfl) ?_
  obtain ⟨E1, F2, F3, F4, V5, ne6, ge7, ge8⟩ := H
  refine s_aloadN (pc' := 1) A d8_0 rfl rfl rfl ?_
  refine s_getfield (pc' := 4) (host := "") A (Or.inl (w11 hw)) Via.refl F2 d8_1 rfl fun T A => ?_
  refine s_aloadN (pc' := 5) A d8_4 rfl rfl rfl ?_
  refine s_getfield (pc' := 8) (host := "") A (Or.inl (w18 hw)) Via.refl F3 d8_5 rfl fun T A => ?_
  refine s_l2i (pc' := 9) (z := (1 : Int32)) A d8_8 rfl (by decide) ?_
  refine s_aloadN (pc' := 10) A d8_9 rfl rfl rfl ?_
  refine s_getfield (pc' := 13) (host := "") A (Or.inl (w11 hw)) Via.refl F2 d8_10 rfl fun T A => ?_
  refine s_arraylength (pc' := 14) (z := (4 : Int32)) A V5 (by show _ = ((4 : Nat) : Int); decide) d8_13 rfl ?_
  refine s_iconst (pc' := 15) (z := (1 : Int32)) A d8_14 rfl (by decide) ?_
  refine s_isub (pc' := 16) (z := (3 : Int32)) A d8_15 rfl (by decide) ?_
  refine s_iand (pc' := 17) (z := (1 : Int32)) A d8_16 rfl (by decide) ?_
  refine s_iaload (pc' := 18) (i := 1) (v := (.int x1)) A V5 (by decide) rfl d8_17 rfl ?_
  refine s_iconst (pc' := 19) (z := (1 : Int32)) A d8_18 rfl (by decide) ?_
  refine s_isub (pc' := 20) (z := (x1 - (1 : Int32))) A d8_19 rfl rfl ?_
  exact r_int A rfl d8_20 (by decide) (by decide) (⟨rfl, (Keep.refl h0 [a, r_ring]), ⟨E1, F2, F3, F4, V5, ne6, ge7, ge8⟩⟩)
set_option maxRecDepth 65536 in
set_option maxHeartbeats 40000000 in
theorem bo_remove32 (l : Launch) (Z : State) (a0 : Array Value) (hw : ∀ d ∈ tables_1, d.before a0 Z = true) (n0 : Nat) (h0 : Heap) (Z0 : n0 ≤ h0.size) (a r_ring : Addr) (x0 : Int32) (x1 : Int32) (x2 : Int32) (H : BO Z n0 h0 a r_ring (1 : Int64) (4 : Int64) [.int (0 : Int32), .int x0, .int x1, .int x2]) (nz1 : ¬ x0 = (0 : Int32)) (nz2 : ¬ x1 = (0 : Int32)) (nz3 : ¬ x2 = (0 : Int32)) :
    Met l Z n0 y6_remove prog_63_method_3_code 4 (Option.none : Option Jvm.ClassFile.FieldType) ({ frames := 0, cells := 0, slots := 0, locals := 0 } : Room) #[(.ref a), (.long (1 : Int64))] h0 (fun v h => v = none ∧ Keep h0 h [a, r_ring] ∧ BO Z n0 h a r_ring (2 : Int64) (4 : Int64) [.int (0 : Int32), .int (0 : Int32), .int x1, .int x2]) := by
  refine met_intro (own := c1_BeginOrder) (plainFor_of_name pn_com_example_wirefram_wirefram_sequence_BeginOrder) rfl Z0 ?_
  intro p e s m below meth c T A hnm
  refine Wp.cast (g' := mkF m 0 #[rv a, jv 1, S2, U0] []) (by first | (simp [entryFrame, mkF, argsToLocals, Value.category, maxLocals, jv, S2, U0, iv, rv]; done) | rfl) ?_
  obtain ⟨E1, F2, F3, F4, V5, ne6, ge7, ge8⟩ := H
  refine s_aloadN (pc' := 1) A d6_0 rfl rfl rfl ?_
  refine s_getfield (pc' := 4) (host := "") A (Or.inl (w11 hw)) Via.refl F2 d6_1 rfl fun T A => ?_
  refine s_arraylength (pc' := 5) (z := (4 : Int32)) A V5 (by show _ = ((4 : Nat) : Int); decide) d6_4 rfl ?_
  refine s_iconst (pc' := 6) (z := (1 : Int32)) A d6_5 rfl (by decide) ?_
  refine s_isub (pc' := 7) (z := (3 : Int32)) A d6_6 rfl (by decide) ?_
  refine s_istoreN (pc' := 8) (Ls' := #[rv a, jv 1, S2, iv 3]) A d6_7 rfl rfl ?_
  refine s_aloadN (pc' := 9) A d6_8 rfl rfl rfl ?_
  refine s_getfield (pc' := 12) (host := "") A (Or.inl (w11 hw)) Via.refl F2 d6_9 rfl fun T A => ?_
  refine s_lloadN (pc' := 13) A d6_12 rfl rfl ?_
  refine s_l2i (pc' := 14) (z := (1 : Int32)) A d6_13 rfl (by decide) ?_
  refine s_iloadN (pc' := 15) A d6_14 rfl rfl ?_
  refine s_iand (pc' := 16) (z := (1 : Int32)) A d6_15 rfl (by decide) ?_
  refine s_iconst (pc' := 17) (z := (0 : Int32)) A d6_16 rfl (by decide) ?_
  refine s_iastore (pc' := 18) (i := 1) A V5 (by decide) (Nat.le_of_ble_eq_true rfl) ge8 d6_17 rfl fun T h9 A W10 V11 => ?_
  have V11 : AA Z h9 r_ring .int [.int (0 : Int32), .int (0 : Int32), .int x1, .int x2] := V11
  refine s_aloadN (pc' := 19) A d6_18 rfl rfl rfl ?_
  have F12 := (F3.other W10 (Or.inl ne6))
  refine s_getfield (pc' := 22) (host := "") A (Or.inl (w18 hw)) Via.refl F12 d6_19 rfl fun T A => ?_
  refine s_aloadN (pc' := 23) A d6_22 rfl rfl rfl ?_
  have F13 := (F4.other W10 (Or.inl ne6))
  refine s_getfield (pc' := 26) (host := "") A (Or.inl (w20 hw)) Via.refl F13 d6_23 rfl fun T A => ?_
  refine s_lcmp (pc' := 27) A d6_26 rfl ?_
  refine s_ifN (pc' := 30) A d6_27 rfl (by decide) ?_
  refine s_aloadN (pc' := 31) A d6_30 rfl rfl rfl ?_
  have F14 := (F2.other W10 (Or.inl ne6))
  refine s_getfield (pc' := 34) (host := "") A (Or.inl (w11 hw)) Via.refl F14 d6_31 rfl fun T A => ?_
  refine s_aloadN (pc' := 35) A d6_34 rfl rfl rfl ?_
  refine s_getfield (pc' := 38) (host := "") A (Or.inl (w18 hw)) Via.refl F12 d6_35 rfl fun T A => ?_
  refine s_l2i (pc' := 39) (z := (1 : Int32)) A d6_38 rfl (by decide) ?_
  refine s_iloadN (pc' := 40) A d6_39 rfl rfl ?_
  refine s_iand (pc' := 41) (z := (1 : Int32)) A d6_40 rfl (by decide) ?_
  refine s_iaload (pc' := 42) (i := 1) (v := (.int (0 : Int32))) A V11 (by decide) rfl d6_41 rfl ?_
  refine s_ifN (pc' := 45) A d6_42 rfl (by decide) ?_
  refine s_aloadN (pc' := 46) A d6_45 rfl rfl rfl ?_
  refine s_dup (pc' := 47) A d6_46 rfl rfl ?_
  refine s_getfield (pc' := 50) (host := "") A (Or.inl (w18 hw)) Via.refl F12 d6_47 rfl fun T A => ?_
  refine s_lconst (pc' := 51) (z := (1 : Int64)) A d6_50 rfl (by decide) ?_
  refine s_ladd (pc' := 52) (z := (2 : Int64)) A d6_51 rfl (by decide) ?_
  have E15 := (E1.wr W10)
  refine s_putfield (pc' := 55) (host := "") A (Or.inl (w18 hw)) Via.refl F12 E15 (Or.inl (w19 hw)) (w2 hw) (ty := .long) (by decide) rfl rfl ge7 d6_52 rfl fun T h16 A W17 => ?_
  have F18 := F12.same W17
  refine s_goto (pc' := 18) A d6_55 (by decide) (by decide) ?_
  refine s_aloadN (pc' := 19) A d6_18 rfl rfl rfl ?_
  refine s_getfield (pc' := 22) (host := "") A (Or.inl (w18 hw)) Via.refl F18 d6_19 rfl fun T A => ?_
  refine s_aloadN (pc' := 23) A d6_22 rfl rfl rfl ?_
  have F19 := (F13.other W17 (Or.inr (sn_BeginOrder_next_first hw)))
  refine s_getfield (pc' := 26) (host := "") A (Or.inl (w20 hw)) Via.refl F19 d6_23 rfl fun T A => ?_
  refine s_lcmp (pc' := 27) A d6_26 rfl ?_
  refine s_ifN (pc' := 30) A d6_27 rfl (by decide) ?_
  refine s_aloadN (pc' := 31) A d6_30 rfl rfl rfl ?_
  have F20 := (F14.other W17 (Or.inr (sn_BeginOrder_ring_first hw)))
  refine s_getfield (pc' := 34) (host := "") A (Or.inl (w11 hw)) Via.refl F20 d6_31 rfl fun T A => ?_
  refine s_aloadN (pc' := 35) A d6_34 rfl rfl rfl ?_
  refine s_getfield (pc' := 38) (host := "") A (Or.inl (w18 hw)) Via.refl F18 d6_35 rfl fun T A => ?_
  refine s_l2i (pc' := 39) (z := (2 : Int32)) A d6_38 rfl (by decide) ?_
  refine s_iloadN (pc' := 40) A d6_39 rfl rfl ?_
  refine s_iand (pc' := 41) (z := (2 : Int32)) A d6_40 rfl (by decide) ?_
  have V21 := (V11.other W17 (Ne.symm ne6))
  refine s_iaload (pc' := 42) (i := 2) (v := (.int x1)) A V21 (by decide) rfl d6_41 rfl ?_
  refine s_ifY (pc' := 58) A d6_42 ((if0 _ _).trans (feq nz2).2) (by decide) (by decide) ?_
  have K22 := (((Keep.refl h0 [a, r_ring]).wr W10 (Or.inl (List.mem_of_getElem? (i := 1) rfl))).wr W17 (Or.inl (List.mem_of_getElem? (i := 0) rfl)))
  have E23 := (E15.wr W17)
  exact r_void A rfl d6_58 (by decide) (by decide) (⟨rfl, K22, ⟨E23, F20, F18, F19, V21, ne6, ge7, ge8⟩⟩)
set_option maxRecDepth 65536 in
set_option maxHeartbeats 40000000 in
theorem bo_isEmpty33 (l : Launch) (Z : State) (a0 : Array Value) (hw : ∀ d ∈ tables_1, d.before a0 Z = true) (n0 : Nat) (h0 : Heap) (Z0 : n0 ≤ h0.size) (a r_ring : Addr)  (l_ring : List Value) (H : BO Z n0 h0 a r_ring (2 : Int64) (4 : Int64) l_ring) :
    Met l Z n0 y3_isEmpty prog_63_method_4_code 1 (Option.some Jvm.ClassFile.FieldType.boolean) ({ frames := 0, cells := 0, slots := 0, locals := 0 } : Room) #[(.ref a)] h0 (fun v h => v = some (.int (0 : Int32)) ∧ Keep h0 h [a, r_ring] ∧ BO Z n0 h a r_ring (2 : Int64) (4 : Int64) l_ring) := by
  refine met_intro (own := c1_BeginOrder) (plainFor_of_name pn_com_example_wirefram_wirefram_sequence_BeginOrder) rfl Z0 ?_
  intro p e s m below meth c T A hnm
  refine Wp.cast (g' := mkF m 0 #[rv a] []) (by first | (simp [entryFrame, mkF, argsToLocals, Value.category, maxLocals, jv, S2, U0, iv, rv]; done) | rfl) ?_
  obtain ⟨E1, F2, F3, F4, V5, ne6, ge7, ge8⟩ := H
  refine s_aloadN (pc' := 1) A d3_0 rfl rfl rfl ?_
  refine s_getfield (pc' := 4) (host := "") A (Or.inl (w18 hw)) Via.refl F3 d3_1 rfl fun T A => ?_
  refine s_aloadN (pc' := 5) A d3_4 rfl rfl rfl ?_
  refine s_getfield (pc' := 8) (host := "") A (Or.inl (w20 hw)) Via.refl F4 d3_5 rfl fun T A => ?_
  refine s_lcmp (pc' := 9) A d3_8 rfl ?_
  refine s_ifY (pc' := 16) A d3_9 (by decide) (by decide) (by decide) ?_
  refine s_iconst (pc' := 17) (z := (0 : Int32)) A d3_16 rfl (by decide) ?_
  exact r_bool A rfl (by decide) d3_17 (by decide) (by decide) (⟨rfl, (Keep.refl h0 [a, r_ring]), ⟨E1, F2, F3, F4, V5, ne6, ge7, ge8⟩⟩)
set_option maxRecDepth 65536 in
set_option maxHeartbeats 40000000 in
theorem bo_first34 (l : Launch) (Z : State) (a0 : Array Value) (hw : ∀ d ∈ tables_1, d.before a0 Z = true) (n0 : Nat) (h0 : Heap) (Z0 : n0 ≤ h0.size) (a r_ring : Addr) (x0 : Int32) (x1 : Int32) (x2 : Int32) (x3 : Int32) (H : BO Z n0 h0 a r_ring (2 : Int64) (4 : Int64) [.int x0, .int x1, .int x2, .int x3]) :
    Met l Z n0 y5_first prog_63_method_5_code 1 (Option.some Jvm.ClassFile.FieldType.int) ({ frames := 0, cells := 0, slots := 0, locals := 0 } : Room) #[(.ref a)] h0 (fun v h => v = some (.int (x2 - (1 : Int32))) ∧ Keep h0 h [a, r_ring] ∧ BO Z n0 h a r_ring (2 : Int64) (4 : Int64) [.int x0, .int x1, .int x2, .int x3]) := by
  refine met_intro (own := c1_BeginOrder) (plainFor_of_name pn_com_example_wirefram_wirefram_sequence_BeginOrder) rfl Z0 ?_
  intro p e s m below meth c T A hnm
  refine Wp.cast (g' := mkF m 0 #[rv a] []) (by first | (simp [entryFrame, mkF, argsToLocals, Value.category, maxLocals, jv, S2, U0, iv, rv]; done) | rfl) ?_
  obtain ⟨E1, F2, F3, F4, V5, ne6, ge7, ge8⟩ := H
  refine s_aloadN (pc' := 1) A d8_0 rfl rfl rfl ?_
  refine s_getfield (pc' := 4) (host := "") A (Or.inl (w11 hw)) Via.refl F2 d8_1 rfl fun T A => ?_
  refine s_aloadN (pc' := 5) A d8_4 rfl rfl rfl ?_
  refine s_getfield (pc' := 8) (host := "") A (Or.inl (w18 hw)) Via.refl F3 d8_5 rfl fun T A => ?_
  refine s_l2i (pc' := 9) (z := (2 : Int32)) A d8_8 rfl (by decide) ?_
  refine s_aloadN (pc' := 10) A d8_9 rfl rfl rfl ?_
  refine s_getfield (pc' := 13) (host := "") A (Or.inl (w11 hw)) Via.refl F2 d8_10 rfl fun T A => ?_
  refine s_arraylength (pc' := 14) (z := (4 : Int32)) A V5 (by show _ = ((4 : Nat) : Int); decide) d8_13 rfl ?_
  refine s_iconst (pc' := 15) (z := (1 : Int32)) A d8_14 rfl (by decide) ?_
  refine s_isub (pc' := 16) (z := (3 : Int32)) A d8_15 rfl (by decide) ?_
  refine s_iand (pc' := 17) (z := (2 : Int32)) A d8_16 rfl (by decide) ?_
  refine s_iaload (pc' := 18) (i := 2) (v := (.int x2)) A V5 (by decide) rfl d8_17 rfl ?_
  refine s_iconst (pc' := 19) (z := (1 : Int32)) A d8_18 rfl (by decide) ?_
  refine s_isub (pc' := 20) (z := (x2 - (1 : Int32))) A d8_19 rfl rfl ?_
  exact r_int A rfl d8_20 (by decide) (by decide) (⟨rfl, (Keep.refl h0 [a, r_ring]), ⟨E1, F2, F3, F4, V5, ne6, ge7, ge8⟩⟩)
set_option maxRecDepth 65536 in
set_option maxHeartbeats 40000000 in
theorem bo_remove35 (l : Launch) (Z : State) (a0 : Array Value) (hw : ∀ d ∈ tables_1, d.before a0 Z = true) (n0 : Nat) (h0 : Heap) (Z0 : n0 ≤ h0.size) (a r_ring : Addr) (x0 : Int32) (x1 : Int32) (x2 : Int32) (H : BO Z n0 h0 a r_ring (1 : Int64) (4 : Int64) [.int (0 : Int32), .int x0, .int x1, .int x2]) (nz1 : ¬ x0 = (0 : Int32)) (nz2 : ¬ x1 = (0 : Int32)) (nz3 : ¬ x2 = (0 : Int32)) :
    Met l Z n0 y6_remove prog_63_method_3_code 4 (Option.none : Option Jvm.ClassFile.FieldType) ({ frames := 0, cells := 0, slots := 0, locals := 0 } : Room) #[(.ref a), (.long (2 : Int64))] h0 (fun v h => v = none ∧ Keep h0 h [a, r_ring] ∧ BO Z n0 h a r_ring (1 : Int64) (4 : Int64) [.int (0 : Int32), .int x0, .int (0 : Int32), .int x2]) := by
  refine met_intro (own := c1_BeginOrder) (plainFor_of_name pn_com_example_wirefram_wirefram_sequence_BeginOrder) rfl Z0 ?_
  intro p e s m below meth c T A hnm
  refine Wp.cast (g' := mkF m 0 #[rv a, jv 2, S2, U0] []) (by first | (simp [entryFrame, mkF, argsToLocals, Value.category, maxLocals, jv, S2, U0, iv, rv]; done) | rfl) ?_
  obtain ⟨E1, F2, F3, F4, V5, ne6, ge7, ge8⟩ := H
  refine s_aloadN (pc' := 1) A d6_0 rfl rfl rfl ?_
  refine s_getfield (pc' := 4) (host := "") A (Or.inl (w11 hw)) Via.refl F2 d6_1 rfl fun T A => ?_
  refine s_arraylength (pc' := 5) (z := (4 : Int32)) A V5 (by show _ = ((4 : Nat) : Int); decide) d6_4 rfl ?_
  refine s_iconst (pc' := 6) (z := (1 : Int32)) A d6_5 rfl (by decide) ?_
  refine s_isub (pc' := 7) (z := (3 : Int32)) A d6_6 rfl (by decide) ?_
  refine s_istoreN (pc' := 8) (Ls' := #[rv a, jv 2, S2, iv 3]) A d6_7 rfl rfl ?_
  refine s_aloadN (pc' := 9) A d6_8 rfl rfl rfl ?_
  refine s_getfield (pc' := 12) (host := "") A (Or.inl (w11 hw)) Via.refl F2 d6_9 rfl fun T A => ?_
  refine s_lloadN (pc' := 13) A d6_12 rfl rfl ?_
  refine s_l2i (pc' := 14) (z := (2 : Int32)) A d6_13 rfl (by decide) ?_
  refine s_iloadN (pc' := 15) A d6_14 rfl rfl ?_
  refine s_iand (pc' := 16) (z := (2 : Int32)) A d6_15 rfl (by decide) ?_
  refine s_iconst (pc' := 17) (z := (0 : Int32)) A d6_16 rfl (by decide) ?_
  refine s_iastore (pc' := 18) (i := 2) A V5 (by decide) (Nat.le_of_ble_eq_true rfl) ge8 d6_17 rfl fun T h9 A W10 V11 => ?_
  have V11 : AA Z h9 r_ring .int [.int (0 : Int32), .int x0, .int (0 : Int32), .int x2] := V11
  refine s_aloadN (pc' := 19) A d6_18 rfl rfl rfl ?_
  have F12 := (F3.other W10 (Or.inl ne6))
  refine s_getfield (pc' := 22) (host := "") A (Or.inl (w18 hw)) Via.refl F12 d6_19 rfl fun T A => ?_
  refine s_aloadN (pc' := 23) A d6_22 rfl rfl rfl ?_
  have F13 := (F4.other W10 (Or.inl ne6))
  refine s_getfield (pc' := 26) (host := "") A (Or.inl (w20 hw)) Via.refl F13 d6_23 rfl fun T A => ?_
  refine s_lcmp (pc' := 27) A d6_26 rfl ?_
  refine s_ifN (pc' := 30) A d6_27 rfl (by decide) ?_
  refine s_aloadN (pc' := 31) A d6_30 rfl rfl rfl ?_
  have F14 := (F2.other W10 (Or.inl ne6))
  refine s_getfield (pc' := 34) (host := "") A (Or.inl (w11 hw)) Via.refl F14 d6_31 rfl fun T A => ?_
  refine s_aloadN (pc' := 35) A d6_34 rfl rfl rfl ?_
  refine s_getfield (pc' := 38) (host := "") A (Or.inl (w18 hw)) Via.refl F12 d6_35 rfl fun T A => ?_
  refine s_l2i (pc' := 39) (z := (1 : Int32)) A d6_38 rfl (by decide) ?_
  refine s_iloadN (pc' := 40) A d6_39 rfl rfl ?_
  refine s_iand (pc' := 41) (z := (1 : Int32)) A d6_40 rfl (by decide) ?_
  refine s_iaload (pc' := 42) (i := 1) (v := (.int x0)) A V11 (by decide) rfl d6_41 rfl ?_
  refine s_ifY (pc' := 58) A d6_42 ((if0 _ _).trans (feq nz1).2) (by decide) (by decide) ?_
  have K15 := ((Keep.refl h0 [a, r_ring]).wr W10 (Or.inl (List.mem_of_getElem? (i := 1) rfl)))
  have E16 := (E1.wr W10)
  exact r_void A rfl d6_58 (by decide) (by decide) (⟨rfl, K15, ⟨E16, F14, F12, F13, V11, ne6, ge7, ge8⟩⟩)
set_option maxRecDepth 65536 in
set_option maxHeartbeats 40000000 in
theorem bo_remove36 (l : Launch) (Z : State) (a0 : Array Value) (hw : ∀ d ∈ tables_1, d.before a0 Z = true) (n0 : Nat) (h0 : Heap) (Z0 : n0 ≤ h0.size) (a r_ring : Addr) (x0 : Int32) (x1 : Int32) (x2 : Int32) (H : BO Z n0 h0 a r_ring (1 : Int64) (4 : Int64) [.int (0 : Int32), .int x0, .int x1, .int x2]) (nz1 : ¬ x0 = (0 : Int32)) (nz2 : ¬ x1 = (0 : Int32)) (nz3 : ¬ x2 = (0 : Int32)) :
    Met l Z n0 y6_remove prog_63_method_3_code 4 (Option.none : Option Jvm.ClassFile.FieldType) ({ frames := 0, cells := 0, slots := 0, locals := 0 } : Room) #[(.ref a), (.long (3 : Int64))] h0 (fun v h => v = none ∧ Keep h0 h [a, r_ring] ∧ BO Z n0 h a r_ring (1 : Int64) (4 : Int64) [.int (0 : Int32), .int x0, .int x1, .int (0 : Int32)]) := by
  refine met_intro (own := c1_BeginOrder) (plainFor_of_name pn_com_example_wirefram_wirefram_sequence_BeginOrder) rfl Z0 ?_
  intro p e s m below meth c T A hnm
  refine Wp.cast (g' := mkF m 0 #[rv a, jv 3, S2, U0] []) (by first | (simp [entryFrame, mkF, argsToLocals, Value.category, maxLocals, jv, S2, U0, iv, rv]; done) | rfl) ?_
  obtain ⟨E1, F2, F3, F4, V5, ne6, ge7, ge8⟩ := H
  refine s_aloadN (pc' := 1) A d6_0 rfl rfl rfl ?_
  refine s_getfield (pc' := 4) (host := "") A (Or.inl (w11 hw)) Via.refl F2 d6_1 rfl fun T A => ?_
  refine s_arraylength (pc' := 5) (z := (4 : Int32)) A V5 (by show _ = ((4 : Nat) : Int); decide) d6_4 rfl ?_
  refine s_iconst (pc' := 6) (z := (1 : Int32)) A d6_5 rfl (by decide) ?_
  refine s_isub (pc' := 7) (z := (3 : Int32)) A d6_6 rfl (by decide) ?_
  refine s_istoreN (pc' := 8) (Ls' := #[rv a, jv 3, S2, iv 3]) A d6_7 rfl rfl ?_
  refine s_aloadN (pc' := 9) A d6_8 rfl rfl rfl ?_
  refine s_getfield (pc' := 12) (host := "") A (Or.inl (w11 hw)) Via.refl F2 d6_9 rfl fun T A => ?_
  refine s_lloadN (pc' := 13) A d6_12 rfl rfl ?_
  refine s_l2i (pc' := 14) (z := (3 : Int32)) A d6_13 rfl (by decide) ?_
  refine s_iloadN (pc' := 15) A d6_14 rfl rfl ?_
  refine s_iand (pc' := 16) (z := (3 : Int32)) A d6_15 rfl (by decide) ?_
  refine s_iconst (pc' := 17) (z := (0 : Int32)) A d6_16 rfl (by decide) ?_
  refine s_iastore (pc' := 18) (i := 3) A V5 (by decide) (Nat.le_of_ble_eq_true rfl) ge8 d6_17 rfl fun T h9 A W10 V11 => ?_
  have V11 : AA Z h9 r_ring .int [.int (0 : Int32), .int x0, .int x1, .int (0 : Int32)] := V11
  refine s_aloadN (pc' := 19) A d6_18 rfl rfl rfl ?_
  have F12 := (F3.other W10 (Or.inl ne6))
  refine s_getfield (pc' := 22) (host := "") A (Or.inl (w18 hw)) Via.refl F12 d6_19 rfl fun T A => ?_
  refine s_aloadN (pc' := 23) A d6_22 rfl rfl rfl ?_
  have F13 := (F4.other W10 (Or.inl ne6))
  refine s_getfield (pc' := 26) (host := "") A (Or.inl (w20 hw)) Via.refl F13 d6_23 rfl fun T A => ?_
  refine s_lcmp (pc' := 27) A d6_26 rfl ?_
  refine s_ifN (pc' := 30) A d6_27 rfl (by decide) ?_
  refine s_aloadN (pc' := 31) A d6_30 rfl rfl rfl ?_
  have F14 := (F2.other W10 (Or.inl ne6))
  refine s_getfield (pc' := 34) (host := "") A (Or.inl (w11 hw)) Via.refl F14 d6_31 rfl fun T A => ?_
  refine s_aloadN (pc' := 35) A d6_34 rfl rfl rfl ?_
  refine s_getfield (pc' := 38) (host := "") A (Or.inl (w18 hw)) Via.refl F12 d6_35 rfl fun T A => ?_
  refine s_l2i (pc' := 39) (z := (1 : Int32)) A d6_38 rfl (by decide) ?_
  refine s_iloadN (pc' := 40) A d6_39 rfl rfl ?_
  refine s_iand (pc' := 41) (z := (1 : Int32)) A d6_40 rfl (by decide) ?_
  refine s_iaload (pc' := 42) (i := 1) (v := (.int x0)) A V11 (by decide) rfl d6_41 rfl ?_
  refine s_ifY (pc' := 58) A d6_42 ((if0 _ _).trans (feq nz1).2) (by decide) (by decide) ?_
  have K15 := ((Keep.refl h0 [a, r_ring]).wr W10 (Or.inl (List.mem_of_getElem? (i := 1) rfl)))
  have E16 := (E1.wr W10)
  exact r_void A rfl d6_58 (by decide) (by decide) (⟨rfl, K15, ⟨E16, F14, F12, F13, V11, ne6, ge7, ge8⟩⟩)
set_option maxRecDepth 65536 in
set_option maxHeartbeats 40000000 in
theorem bo_remove37 (l : Launch) (Z : State) (a0 : Array Value) (hw : ∀ d ∈ tables_1, d.before a0 Z = true) (n0 : Nat) (h0 : Heap) (Z0 : n0 ≤ h0.size) (a r_ring : Addr) (x0 : Int32) (x1 : Int32) (H : BO Z n0 h0 a r_ring (2 : Int64) (4 : Int64) [.int (0 : Int32), .int (0 : Int32), .int x0, .int x1]) (nz2 : ¬ x0 = (0 : Int32)) (nz3 : ¬ x1 = (0 : Int32)) :
    Met l Z n0 y6_remove prog_63_method_3_code 4 (Option.none : Option Jvm.ClassFile.FieldType) ({ frames := 0, cells := 0, slots := 0, locals := 0 } : Room) #[(.ref a), (.long (2 : Int64))] h0 (fun v h => v = none ∧ Keep h0 h [a, r_ring] ∧ BO Z n0 h a r_ring (3 : Int64) (4 : Int64) [.int (0 : Int32), .int (0 : Int32), .int (0 : Int32), .int x1]) := by
  refine met_intro (own := c1_BeginOrder) (plainFor_of_name pn_com_example_wirefram_wirefram_sequence_BeginOrder) rfl Z0 ?_
  intro p e s m below meth c T A hnm
  refine Wp.cast (g' := mkF m 0 #[rv a, jv 2, S2, U0] []) (by first | (simp [entryFrame, mkF, argsToLocals, Value.category, maxLocals, jv, S2, U0, iv, rv]; done) | rfl) ?_
  obtain ⟨E1, F2, F3, F4, V5, ne6, ge7, ge8⟩ := H
  refine s_aloadN (pc' := 1) A d6_0 rfl rfl rfl ?_
  refine s_getfield (pc' := 4) (host := "") A (Or.inl (w11 hw)) Via.refl F2 d6_1 rfl fun T A => ?_
  refine s_arraylength (pc' := 5) (z := (4 : Int32)) A V5 (by show _ = ((4 : Nat) : Int); decide) d6_4 rfl ?_
  refine s_iconst (pc' := 6) (z := (1 : Int32)) A d6_5 rfl (by decide) ?_
  refine s_isub (pc' := 7) (z := (3 : Int32)) A d6_6 rfl (by decide) ?_
  refine s_istoreN (pc' := 8) (Ls' := #[rv a, jv 2, S2, iv 3]) A d6_7 rfl rfl ?_
  refine s_aloadN (pc' := 9) A d6_8 rfl rfl rfl ?_
  refine s_getfield (pc' := 12) (host := "") A (Or.inl (w11 hw)) Via.refl F2 d6_9 rfl fun T A => ?_
  refine s_lloadN (pc' := 13) A d6_12 rfl rfl ?_
  refine s_l2i (pc' := 14) (z := (2 : Int32)) A d6_13 rfl (by decide) ?_
  refine s_iloadN (pc' := 15) A d6_14 rfl rfl ?_
  refine s_iand (pc' := 16) (z := (2 : Int32)) A d6_15 rfl (by decide) ?_
  refine s_iconst (pc' := 17) (z := (0 : Int32)) A d6_16 rfl (by decide) ?_
  refine s_iastore (pc' := 18) (i := 2) A V5 (by decide) (Nat.le_of_ble_eq_true rfl) ge8 d6_17 rfl fun T h9 A W10 V11 => ?_
  have V11 : AA Z h9 r_ring .int [.int (0 : Int32), .int (0 : Int32), .int (0 : Int32), .int x1] := V11
  refine s_aloadN (pc' := 19) A d6_18 rfl rfl rfl ?_
  have F12 := (F3.other W10 (Or.inl ne6))
  refine s_getfield (pc' := 22) (host := "") A (Or.inl (w18 hw)) Via.refl F12 d6_19 rfl fun T A => ?_
  refine s_aloadN (pc' := 23) A d6_22 rfl rfl rfl ?_
  have F13 := (F4.other W10 (Or.inl ne6))
  refine s_getfield (pc' := 26) (host := "") A (Or.inl (w20 hw)) Via.refl F13 d6_23 rfl fun T A => ?_
  refine s_lcmp (pc' := 27) A d6_26 rfl ?_
  refine s_ifN (pc' := 30) A d6_27 rfl (by decide) ?_
  refine s_aloadN (pc' := 31) A d6_30 rfl rfl rfl ?_
  have F14 := (F2.other W10 (Or.inl ne6))
  refine s_getfield (pc' := 34) (host := "") A (Or.inl (w11 hw)) Via.refl F14 d6_31 rfl fun T A => ?_
  refine s_aloadN (pc' := 35) A d6_34 rfl rfl rfl ?_
  refine s_getfield (pc' := 38) (host := "") A (Or.inl (w18 hw)) Via.refl F12 d6_35 rfl fun T A => ?_
  refine s_l2i (pc' := 39) (z := (2 : Int32)) A d6_38 rfl (by decide) ?_
  refine s_iloadN (pc' := 40) A d6_39 rfl rfl ?_
  refine s_iand (pc' := 41) (z := (2 : Int32)) A d6_40 rfl (by decide) ?_
  refine s_iaload (pc' := 42) (i := 2) (v := (.int (0 : Int32))) A V11 (by decide) rfl d6_41 rfl ?_
  refine s_ifN (pc' := 45) A d6_42 rfl (by decide) ?_
  refine s_aloadN (pc' := 46) A d6_45 rfl rfl rfl ?_
  refine s_dup (pc' := 47) A d6_46 rfl rfl ?_
  refine s_getfield (pc' := 50) (host := "") A (Or.inl (w18 hw)) Via.refl F12 d6_47 rfl fun T A => ?_
  refine s_lconst (pc' := 51) (z := (1 : Int64)) A d6_50 rfl (by decide) ?_
  refine s_ladd (pc' := 52) (z := (3 : Int64)) A d6_51 rfl (by decide) ?_
  have E15 := (E1.wr W10)
  refine s_putfield (pc' := 55) (host := "") A (Or.inl (w18 hw)) Via.refl F12 E15 (Or.inl (w19 hw)) (w2 hw) (ty := .long) (by decide) rfl rfl ge7 d6_52 rfl fun T h16 A W17 => ?_
  have F18 := F12.same W17
  refine s_goto (pc' := 18) A d6_55 (by decide) (by decide) ?_
  refine s_aloadN (pc' := 19) A d6_18 rfl rfl rfl ?_
  refine s_getfield (pc' := 22) (host := "") A (Or.inl (w18 hw)) Via.refl F18 d6_19 rfl fun T A => ?_
  refine s_aloadN (pc' := 23) A d6_22 rfl rfl rfl ?_
  have F19 := (F13.other W17 (Or.inr (sn_BeginOrder_next_first hw)))
  refine s_getfield (pc' := 26) (host := "") A (Or.inl (w20 hw)) Via.refl F19 d6_23 rfl fun T A => ?_
  refine s_lcmp (pc' := 27) A d6_26 rfl ?_
  refine s_ifN (pc' := 30) A d6_27 rfl (by decide) ?_
  refine s_aloadN (pc' := 31) A d6_30 rfl rfl rfl ?_
  have F20 := (F14.other W17 (Or.inr (sn_BeginOrder_ring_first hw)))
  refine s_getfield (pc' := 34) (host := "") A (Or.inl (w11 hw)) Via.refl F20 d6_31 rfl fun T A => ?_
  refine s_aloadN (pc' := 35) A d6_34 rfl rfl rfl ?_
  refine s_getfield (pc' := 38) (host := "") A (Or.inl (w18 hw)) Via.refl F18 d6_35 rfl fun T A => ?_
  refine s_l2i (pc' := 39) (z := (3 : Int32)) A d6_38 rfl (by decide) ?_
  refine s_iloadN (pc' := 40) A d6_39 rfl rfl ?_
  refine s_iand (pc' := 41) (z := (3 : Int32)) A d6_40 rfl (by decide) ?_
  have V21 := (V11.other W17 (Ne.symm ne6))
  refine s_iaload (pc' := 42) (i := 3) (v := (.int x1)) A V21 (by decide) rfl d6_41 rfl ?_
  refine s_ifY (pc' := 58) A d6_42 ((if0 _ _).trans (feq nz3).2) (by decide) (by decide) ?_
  have K22 := (((Keep.refl h0 [a, r_ring]).wr W10 (Or.inl (List.mem_of_getElem? (i := 1) rfl))).wr W17 (Or.inl (List.mem_of_getElem? (i := 0) rfl)))
  have E23 := (E15.wr W17)
  exact r_void A rfl d6_58 (by decide) (by decide) (⟨rfl, K22, ⟨E23, F20, F18, F19, V21, ne6, ge7, ge8⟩⟩)
set_option maxRecDepth 65536 in
set_option maxHeartbeats 40000000 in
theorem bo_isEmpty38 (l : Launch) (Z : State) (a0 : Array Value) (hw : ∀ d ∈ tables_1, d.before a0 Z = true) (n0 : Nat) (h0 : Heap) (Z0 : n0 ≤ h0.size) (a r_ring : Addr)  (l_ring : List Value) (H : BO Z n0 h0 a r_ring (3 : Int64) (4 : Int64) l_ring) :
    Met l Z n0 y3_isEmpty prog_63_method_4_code 1 (Option.some Jvm.ClassFile.FieldType.boolean) ({ frames := 0, cells := 0, slots := 0, locals := 0 } : Room) #[(.ref a)] h0 (fun v h => v = some (.int (0 : Int32)) ∧ Keep h0 h [a, r_ring] ∧ BO Z n0 h a r_ring (3 : Int64) (4 : Int64) l_ring) := by
  refine met_intro (own := c1_BeginOrder) (plainFor_of_name pn_com_example_wirefram_wirefram_sequence_BeginOrder) rfl Z0 ?_
  intro p e s m below meth c T A hnm
  refine Wp.cast (g' := mkF m 0 #[rv a] []) (by first | (simp [entryFrame, mkF, argsToLocals, Value.category, maxLocals, jv, S2, U0, iv, rv]; done) | rfl) ?_
  obtain ⟨E1, F2, F3, F4, V5, ne6, ge7, ge8⟩ := H
  refine s_aloadN (pc' := 1) A d3_0 rfl rfl rfl ?_
  refine s_getfield (pc' := 4) (host := "") A (Or.inl (w18 hw)) Via.refl F3 d3_1 rfl fun T A => ?_
  refine s_aloadN (pc' := 5) A d3_4 rfl rfl rfl ?_
  refine s_getfield (pc' := 8) (host := "") A (Or.inl (w20 hw)) Via.refl F4 d3_5 rfl fun T A => ?_
  refine s_lcmp (pc' := 9) A d3_8 rfl ?_
  refine s_ifY (pc' := 16) A d3_9 (by decide) (by decide) (by decide) ?_
  refine s_iconst (pc' := 17) (z := (0 : Int32)) A d3_16 rfl (by decide) ?_
  exact r_bool A rfl (by decide) d3_17 (by decide) (by decide) (⟨rfl, (Keep.refl h0 [a, r_ring]), ⟨E1, F2, F3, F4, V5, ne6, ge7, ge8⟩⟩)
set_option maxRecDepth 65536 in
set_option maxHeartbeats 40000000 in
theorem bo_first39 (l : Launch) (Z : State) (a0 : Array Value) (hw : ∀ d ∈ tables_1, d.before a0 Z = true) (n0 : Nat) (h0 : Heap) (Z0 : n0 ≤ h0.size) (a r_ring : Addr) (x0 : Int32) (x1 : Int32) (x2 : Int32) (x3 : Int32) (H : BO Z n0 h0 a r_ring (3 : Int64) (4 : Int64) [.int x0, .int x1, .int x2, .int x3]) :
    Met l Z n0 y5_first prog_63_method_5_code 1 (Option.some Jvm.ClassFile.FieldType.int) ({ frames := 0, cells := 0, slots := 0, locals := 0 } : Room) #[(.ref a)] h0 (fun v h => v = some (.int (x3 - (1 : Int32))) ∧ Keep h0 h [a, r_ring] ∧ BO Z n0 h a r_ring (3 : Int64) (4 : Int64) [.int x0, .int x1, .int x2, .int x3]) := by
  refine met_intro (own := c1_BeginOrder) (plainFor_of_name pn_com_example_wirefram_wirefram_sequence_BeginOrder) rfl Z0 ?_
  intro p e s m below meth c T A hnm
  refine Wp.cast (g' := mkF m 0 #[rv a] []) (by first | (simp [entryFrame, mkF, argsToLocals, Value.category, maxLocals, jv, S2, U0, iv, rv]; done) | rfl) ?_
  obtain ⟨E1, F2, F3, F4, V5, ne6, ge7, ge8⟩ := H
  refine s_aloadN (pc' := 1) A d8_0 rfl rfl rfl ?_
  refine s_getfield (pc' := 4) (host := "") A (Or.inl (w11 hw)) Via.refl F2 d8_1 rfl fun T A => ?_
  refine s_aloadN (pc' := 5) A d8_4 rfl rfl rfl ?_
  refine s_getfield (pc' := 8) (host := "") A (Or.inl (w18 hw)) Via.refl F3 d8_5 rfl fun T A => ?_
  refine s_l2i (pc' := 9) (z := (3 : Int32)) A d8_8 rfl (by decide) ?_
  refine s_aloadN (pc' := 10) A d8_9 rfl rfl rfl ?_
  refine s_getfield (pc' := 13) (host := "") A (Or.inl (w11 hw)) Via.refl F2 d8_10 rfl fun T A => ?_
  refine s_arraylength (pc' := 14) (z := (4 : Int32)) A V5 (by show _ = ((4 : Nat) : Int); decide) d8_13 rfl ?_
  refine s_iconst (pc' := 15) (z := (1 : Int32)) A d8_14 rfl (by decide) ?_
  refine s_isub (pc' := 16) (z := (3 : Int32)) A d8_15 rfl (by decide) ?_
  refine s_iand (pc' := 17) (z := (3 : Int32)) A d8_16 rfl (by decide) ?_
  refine s_iaload (pc' := 18) (i := 3) (v := (.int x3)) A V5 (by decide) rfl d8_17 rfl ?_
  refine s_iconst (pc' := 19) (z := (1 : Int32)) A d8_18 rfl (by decide) ?_
  refine s_isub (pc' := 20) (z := (x3 - (1 : Int32))) A d8_19 rfl rfl ?_
  exact r_int A rfl d8_20 (by decide) (by decide) (⟨rfl, (Keep.refl h0 [a, r_ring]), ⟨E1, F2, F3, F4, V5, ne6, ge7, ge8⟩⟩)
set_option maxRecDepth 65536 in
set_option maxHeartbeats 40000000 in
theorem bo_remove40 (l : Launch) (Z : State) (a0 : Array Value) (hw : ∀ d ∈ tables_1, d.before a0 Z = true) (n0 : Nat) (h0 : Heap) (Z0 : n0 ≤ h0.size) (a r_ring : Addr) (x0 : Int32) (x1 : Int32) (H : BO Z n0 h0 a r_ring (2 : Int64) (4 : Int64) [.int (0 : Int32), .int (0 : Int32), .int x0, .int x1]) (nz2 : ¬ x0 = (0 : Int32)) (nz3 : ¬ x1 = (0 : Int32)) :
    Met l Z n0 y6_remove prog_63_method_3_code 4 (Option.none : Option Jvm.ClassFile.FieldType) ({ frames := 0, cells := 0, slots := 0, locals := 0 } : Room) #[(.ref a), (.long (3 : Int64))] h0 (fun v h => v = none ∧ Keep h0 h [a, r_ring] ∧ BO Z n0 h a r_ring (2 : Int64) (4 : Int64) [.int (0 : Int32), .int (0 : Int32), .int x0, .int (0 : Int32)]) := by
  refine met_intro (own := c1_BeginOrder) (plainFor_of_name pn_com_example_wirefram_wirefram_sequence_BeginOrder) rfl Z0 ?_
  intro p e s m below meth c T A hnm
  refine Wp.cast (g' := mkF m 0 #[rv a, jv 3, S2, U0] []) (by first | (simp [entryFrame, mkF, argsToLocals, Value.category, maxLocals, jv, S2, U0, iv, rv]; done) | rfl) ?_
  obtain ⟨E1, F2, F3, F4, V5, ne6, ge7, ge8⟩ := H
  refine s_aloadN (pc' := 1) A d6_0 rfl rfl rfl ?_
  refine s_getfield (pc' := 4) (host := "") A (Or.inl (w11 hw)) Via.refl F2 d6_1 rfl fun T A => ?_
  refine s_arraylength (pc' := 5) (z := (4 : Int32)) A V5 (by show _ = ((4 : Nat) : Int); decide) d6_4 rfl ?_
  refine s_iconst (pc' := 6) (z := (1 : Int32)) A d6_5 rfl (by decide) ?_
  refine s_isub (pc' := 7) (z := (3 : Int32)) A d6_6 rfl (by decide) ?_
  refine s_istoreN (pc' := 8) (Ls' := #[rv a, jv 3, S2, iv 3]) A d6_7 rfl rfl ?_
  refine s_aloadN (pc' := 9) A d6_8 rfl rfl rfl ?_
  refine s_getfield (pc' := 12) (host := "") A (Or.inl (w11 hw)) Via.refl F2 d6_9 rfl fun T A => ?_
  refine s_lloadN (pc' := 13) A d6_12 rfl rfl ?_
  refine s_l2i (pc' := 14) (z := (3 : Int32)) A d6_13 rfl (by decide) ?_
  refine s_iloadN (pc' := 15) A d6_14 rfl rfl ?_
  refine s_iand (pc' := 16) (z := (3 : Int32)) A d6_15 rfl (by decide) ?_
  refine s_iconst (pc' := 17) (z := (0 : Int32)) A d6_16 rfl (by decide) ?_
  refine s_iastore (pc' := 18) (i := 3) A V5 (by decide) (Nat.le_of_ble_eq_true rfl) ge8 d6_17 rfl fun T h9 A W10 V11 => ?_
  have V11 : AA Z h9 r_ring .int [.int (0 : Int32), .int (0 : Int32), .int x0, .int (0 : Int32)] := V11
  refine s_aloadN (pc' := 19) A d6_18 rfl rfl rfl ?_
  have F12 := (F3.other W10 (Or.inl ne6))
  refine s_getfield (pc' := 22) (host := "") A (Or.inl (w18 hw)) Via.refl F12 d6_19 rfl fun T A => ?_
  refine s_aloadN (pc' := 23) A d6_22 rfl rfl rfl ?_
  have F13 := (F4.other W10 (Or.inl ne6))
  refine s_getfield (pc' := 26) (host := "") A (Or.inl (w20 hw)) Via.refl F13 d6_23 rfl fun T A => ?_
  refine s_lcmp (pc' := 27) A d6_26 rfl ?_
  refine s_ifN (pc' := 30) A d6_27 rfl (by decide) ?_
  refine s_aloadN (pc' := 31) A d6_30 rfl rfl rfl ?_
  have F14 := (F2.other W10 (Or.inl ne6))
  refine s_getfield (pc' := 34) (host := "") A (Or.inl (w11 hw)) Via.refl F14 d6_31 rfl fun T A => ?_
  refine s_aloadN (pc' := 35) A d6_34 rfl rfl rfl ?_
  refine s_getfield (pc' := 38) (host := "") A (Or.inl (w18 hw)) Via.refl F12 d6_35 rfl fun T A => ?_
  refine s_l2i (pc' := 39) (z := (2 : Int32)) A d6_38 rfl (by decide) ?_
  refine s_iloadN (pc' := 40) A d6_39 rfl rfl ?_
  refine s_iand (pc' := 41) (z := (2 : Int32)) A d6_40 rfl (by decide) ?_
  refine s_iaload (pc' := 42) (i := 2) (v := (.int x0)) A V11 (by decide) rfl d6_41 rfl ?_
  refine s_ifY (pc' := 58) A d6_42 ((if0 _ _).trans (feq nz2).2) (by decide) (by decide) ?_
  have K15 := ((Keep.refl h0 [a, r_ring]).wr W10 (Or.inl (List.mem_of_getElem? (i := 1) rfl)))
  have E16 := (E1.wr W10)
  exact r_void A rfl d6_58 (by decide) (by decide) (⟨rfl, K15, ⟨E16, F14, F12, F13, V11, ne6, ge7, ge8⟩⟩)
set_option maxRecDepth 65536 in
set_option maxHeartbeats 40000000 in
theorem bo_remove41 (l : Launch) (Z : State) (a0 : Array Value) (hw : ∀ d ∈ tables_1, d.before a0 Z = true) (n0 : Nat) (h0 : Heap) (Z0 : n0 ≤ h0.size) (a r_ring : Addr) (x0 : Int32) (x1 : Int32) (H : BO Z n0 h0 a r_ring (1 : Int64) (4 : Int64) [.int (0 : Int32), .int x0, .int (0 : Int32), .int x1]) (nz1 : ¬ x0 = (0 : Int32)) (nz3 : ¬ x1 = (0 : Int32)) :
    Met l Z n0 y6_remove prog_63_method_3_code 4 (Option.none : Option Jvm.ClassFile.FieldType) ({ frames := 0, cells := 0, slots := 0, locals := 0 } : Room) #[(.ref a), (.long (1 : Int64))] h0 (fun v h => v = none ∧ Keep h0 h [a, r_ring] ∧ BO Z n0 h a r_ring (3 : Int64) (4 : Int64) [.int (0 : Int32), .int (0 : Int32), .int (0 : Int32), .int x1]) := by
  refine met_intro (own := c1_BeginOrder) (plainFor_of_name pn_com_example_wirefram_wirefram_sequence_BeginOrder) rfl Z0 ?_
  intro p e s m below meth c T A hnm
  refine Wp.cast (g' := mkF m 0 #[rv a, jv 1, S2, U0] []) (by first | (simp [entryFrame, mkF, argsToLocals, Value.category, maxLocals, jv, S2, U0, iv, rv]; done) | rfl) ?_
  obtain ⟨E1, F2, F3, F4, V5, ne6, ge7, ge8⟩ := H
  refine s_aloadN (pc' := 1) A d6_0 rfl rfl rfl ?_
  refine s_getfield (pc' := 4) (host := "") A (Or.inl (w11 hw)) Via.refl F2 d6_1 rfl fun T A => ?_
  refine s_arraylength (pc' := 5) (z := (4 : Int32)) A V5 (by show _ = ((4 : Nat) : Int); decide) d6_4 rfl ?_
  refine s_iconst (pc' := 6) (z := (1 : Int32)) A d6_5 rfl (by decide) ?_
  refine s_isub (pc' := 7) (z := (3 : Int32)) A d6_6 rfl (by decide) ?_
  refine s_istoreN (pc' := 8) (Ls' := #[rv a, jv 1, S2, iv 3]) A d6_7 rfl rfl ?_
  refine s_aloadN (pc' := 9) A d6_8 rfl rfl rfl ?_
  refine s_getfield (pc' := 12) (host := "") A (Or.inl (w11 hw)) Via.refl F2 d6_9 rfl fun T A => ?_
  refine s_lloadN (pc' := 13) A d6_12 rfl rfl ?_
  refine s_l2i (pc' := 14) (z := (1 : Int32)) A d6_13 rfl (by decide) ?_
  refine s_iloadN (pc' := 15) A d6_14 rfl rfl ?_
  refine s_iand (pc' := 16) (z := (1 : Int32)) A d6_15 rfl (by decide) ?_
  refine s_iconst (pc' := 17) (z := (0 : Int32)) A d6_16 rfl (by decide) ?_
  refine s_iastore (pc' := 18) (i := 1) A V5 (by decide) (Nat.le_of_ble_eq_true rfl) ge8 d6_17 rfl fun T h9 A W10 V11 => ?_
  have V11 : AA Z h9 r_ring .int [.int (0 : Int32), .int (0 : Int32), .int (0 : Int32), .int x1] := V11
  refine s_aloadN (pc' := 19) A d6_18 rfl rfl rfl ?_
  have F12 := (F3.other W10 (Or.inl ne6))
  refine s_getfield (pc' := 22) (host := "") A (Or.inl (w18 hw)) Via.refl F12 d6_19 rfl fun T A => ?_
  refine s_aloadN (pc' := 23) A d6_22 rfl rfl rfl ?_
  have F13 := (F4.other W10 (Or.inl ne6))
  refine s_getfield (pc' := 26) (host := "") A (Or.inl (w20 hw)) Via.refl F13 d6_23 rfl fun T A => ?_
  refine s_lcmp (pc' := 27) A d6_26 rfl ?_
  refine s_ifN (pc' := 30) A d6_27 rfl (by decide) ?_
  refine s_aloadN (pc' := 31) A d6_30 rfl rfl rfl ?_
  have F14 := (F2.other W10 (Or.inl ne6))
  refine s_getfield (pc' := 34) (host := "") A (Or.inl (w11 hw)) Via.refl F14 d6_31 rfl fun T A => ?_
  refine s_aloadN (pc' := 35) A d6_34 rfl rfl rfl ?_
  refine s_getfield (pc' := 38) (host := "") A (Or.inl (w18 hw)) Via.refl F12 d6_35 rfl fun T A => ?_
  refine s_l2i (pc' := 39) (z := (1 : Int32)) A d6_38 rfl (by decide) ?_
  refine s_iloadN (pc' := 40) A d6_39 rfl rfl ?_
  refine s_iand (pc' := 41) (z := (1 : Int32)) A d6_40 rfl (by decide) ?_
  refine s_iaload (pc' := 42) (i := 1) (v := (.int (0 : Int32))) A V11 (by decide) rfl d6_41 rfl ?_
  refine s_ifN (pc' := 45) A d6_42 rfl (by decide) ?_
  refine s_aloadN (pc' := 46) A d6_45 rfl rfl rfl ?_
  refine s_dup (pc' := 47) A d6_46 rfl rfl ?_
  refine s_getfield (pc' := 50) (host := "") A (Or.inl (w18 hw)) Via.refl F12 d6_47 rfl fun T A => ?_
  refine s_lconst (pc' := 51) (z := (1 : Int64)) A d6_50 rfl (by decide) ?_
  refine s_ladd (pc' := 52) (z := (2 : Int64)) A d6_51 rfl (by decide) ?_
  have E15 := (E1.wr W10)
  refine s_putfield (pc' := 55) (host := "") A (Or.inl (w18 hw)) Via.refl F12 E15 (Or.inl (w19 hw)) (w2 hw) (ty := .long) (by decide) rfl rfl ge7 d6_52 rfl fun T h16 A W17 => ?_
  have F18 := F12.same W17
  refine s_goto (pc' := 18) A d6_55 (by decide) (by decide) ?_
  refine s_aloadN (pc' := 19) A d6_18 rfl rfl rfl ?_
  refine s_getfield (pc' := 22) (host := "") A (Or.inl (w18 hw)) Via.refl F18 d6_19 rfl fun T A => ?_
  refine s_aloadN (pc' := 23) A d6_22 rfl rfl rfl ?_
  have F19 := (F13.other W17 (Or.inr (sn_BeginOrder_next_first hw)))
  refine s_getfield (pc' := 26) (host := "") A (Or.inl (w20 hw)) Via.refl F19 d6_23 rfl fun T A => ?_
  refine s_lcmp (pc' := 27) A d6_26 rfl ?_
  refine s_ifN (pc' := 30) A d6_27 rfl (by decide) ?_
  refine s_aloadN (pc' := 31) A d6_30 rfl rfl rfl ?_
  have F20 := (F14.other W17 (Or.inr (sn_BeginOrder_ring_first hw)))
  refine s_getfield (pc' := 34) (host := "") A (Or.inl (w11 hw)) Via.refl F20 d6_31 rfl fun T A => ?_
  refine s_aloadN (pc' := 35) A d6_34 rfl rfl rfl ?_
  refine s_getfield (pc' := 38) (host := "") A (Or.inl (w18 hw)) Via.refl F18 d6_35 rfl fun T A => ?_
  refine s_l2i (pc' := 39) (z := (2 : Int32)) A d6_38 rfl (by decide) ?_
  refine s_iloadN (pc' := 40) A d6_39 rfl rfl ?_
  refine s_iand (pc' := 41) (z := (2 : Int32)) A d6_40 rfl (by decide) ?_
  have V21 := (V11.other W17 (Ne.symm ne6))
  refine s_iaload (pc' := 42) (i := 2) (v := (.int (0 : Int32))) A V21 (by decide) rfl d6_41 rfl ?_
  refine s_ifN (pc' := 45) A d6_42 rfl (by decide) ?_
  refine s_aloadN (pc' := 46) A d6_45 rfl rfl rfl ?_
  refine s_dup (pc' := 47) A d6_46 rfl rfl ?_
  refine s_getfield (pc' := 50) (host := "") A (Or.inl (w18 hw)) Via.refl F18 d6_47 rfl fun T A => ?_
  refine s_lconst (pc' := 51) (z := (1 : Int64)) A d6_50 rfl (by decide) ?_
  refine s_ladd (pc' := 52) (z := (3 : Int64)) A d6_51 rfl (by decide) ?_
  have E22 := (E15.wr W17)
  refine s_putfield (pc' := 55) (host := "") A (Or.inl (w18 hw)) Via.refl F18 E22 (Or.inl (w19 hw)) (w2 hw) (ty := .long) (by decide) rfl rfl ge7 d6_52 rfl fun T h23 A W24 => ?_
  have F25 := F18.same W24
  refine s_goto (pc' := 18) A d6_55 (by decide) (by decide) ?_
  refine s_aloadN (pc' := 19) A d6_18 rfl rfl rfl ?_
  refine s_getfield (pc' := 22) (host := "") A (Or.inl (w18 hw)) Via.refl F25 d6_19 rfl fun T A => ?_
  refine s_aloadN (pc' := 23) A d6_22 rfl rfl rfl ?_
  have F26 := (F19.other W24 (Or.inr (sn_BeginOrder_next_first hw)))
  refine s_getfield (pc' := 26) (host := "") A (Or.inl (w20 hw)) Via.refl F26 d6_23 rfl fun T A => ?_
  refine s_lcmp (pc' := 27) A d6_26 rfl ?_
  refine s_ifN (pc' := 30) A d6_27 rfl (by decide) ?_
  refine s_aloadN (pc' := 31) A d6_30 rfl rfl rfl ?_
  have F27 := (F20.other W24 (Or.inr (sn_BeginOrder_ring_first hw)))
  refine s_getfield (pc' := 34) (host := "") A (Or.inl (w11 hw)) Via.refl F27 d6_31 rfl fun T A => ?_
  refine s_aloadN (pc' := 35) A d6_34 rfl rfl rfl ?_
  refine s_getfield (pc' := 38) (host := "") A (Or.inl (w18 hw)) Via.refl F25 d6_35 rfl fun T A => ?_
  refine s_l2i (pc' := 39) (z := (3 : Int32)) A d6_38 rfl (by decide) ?_
  refine s_iloadN (pc' := 40) A d6_39 rfl rfl ?_
  refine s_iand (pc' := 41) (z := (3 : Int32)) A d6_40 rfl (by decide) ?_
  have V28 := (V21.other W24 (Ne.symm ne6))
  refine s_iaload (pc' := 42) (i := 3) (v := (.int x1)) A V28 (by decide) rfl d6_41 rfl ?_
  refine s_ifY (pc' := 58) A d6_42 ((if0 _ _).trans (feq nz3).2) (by decide) (by decide) ?_
  have K29 := ((((Keep.refl h0 [a, r_ring]).wr W10 (Or.inl (List.mem_of_getElem? (i := 1) rfl))).wr W17 (Or.inl (List.mem_of_getElem? (i := 0) rfl))).wr W24 (Or.inl (List.mem_of_getElem? (i := 0) rfl)))
  have E30 := (E22.wr W24)
  exact r_void A rfl d6_58 (by decide) (by decide) (⟨rfl, K29, ⟨E30, F27, F25, F26, V28, ne6, ge7, ge8⟩⟩)
set_option maxRecDepth 65536 in
set_option maxHeartbeats 40000000 in
theorem bo_remove42 (l : Launch) (Z : State) (a0 : Array Value) (hw : ∀ d ∈ tables_1, d.before a0 Z = true) (n0 : Nat) (h0 : Heap) (Z0 : n0 ≤ h0.size) (a r_ring : Addr) (x0 : Int32) (x1 : Int32) (H : BO Z n0 h0 a r_ring (1 : Int64) (4 : Int64) [.int (0 : Int32), .int x0, .int (0 : Int32), .int x1]) (nz1 : ¬ x0 = (0 : Int32)) (nz3 : ¬ x1 = (0 : Int32)) :
    Met l Z n0 y6_remove prog_63_method_3_code 4 (Option.none : Option Jvm.ClassFile.FieldType) ({ frames := 0, cells := 0, slots := 0, locals := 0 } : Room) #[(.ref a), (.long (3 : Int64))] h0 (fun v h => v = none ∧ Keep h0 h [a, r_ring] ∧ BO Z n0 h a r_ring (1 : Int64) (4 : Int64) [.int (0 : Int32), .int x0, .int (0 : Int32), .int (0 : Int32)]) := by
  refine met_intro (own := c1_BeginOrder) (plainFor_of_name pn_com_example_wirefram_wirefram_sequence_BeginOrder) rfl Z0 ?_
  intro p e s m below meth c T A hnm
  refine Wp.cast (g' := mkF m 0 #[rv a, jv 3, S2, U0] []) (by first | (simp [entryFrame, mkF, argsToLocals, Value.category, maxLocals, jv, S2, U0, iv, rv]; done) | rfl) ?_
  obtain ⟨E1, F2, F3, F4, V5, ne6, ge7, ge8⟩ := H
  refine s_aloadN (pc' := 1) A d6_0 rfl rfl rfl ?_
  refine s_getfield (pc' := 4) (host := "") A (Or.inl (w11 hw)) Via.refl F2 d6_1 rfl fun T A => ?_
  refine s_arraylength (pc' := 5) (z := (4 : Int32)) A V5 (by show _ = ((4 : Nat) : Int); decide) d6_4 rfl ?_
  refine s_iconst (pc' := 6) (z := (1 : Int32)) A d6_5 rfl (by decide) ?_
  refine s_isub (pc' := 7) (z := (3 : Int32)) A d6_6 rfl (by decide) ?_
  refine s_istoreN (pc' := 8) (Ls' := #[rv a, jv 3, S2, iv 3]) A d6_7 rfl rfl ?_
  refine s_aloadN (pc' := 9) A d6_8 rfl rfl rfl ?_
  refine s_getfield (pc' := 12) (host := "") A (Or.inl (w11 hw)) Via.refl F2 d6_9 rfl fun T A => ?_
  refine s_lloadN (pc' := 13) A d6_12 rfl rfl ?_
  refine s_l2i (pc' := 14) (z := (3 : Int32)) A d6_13 rfl (by decide) ?_
  refine s_iloadN (pc' := 15) A d6_14 rfl rfl ?_
  refine s_iand (pc' := 16) (z := (3 : Int32)) A d6_15 rfl (by decide) ?_
  refine s_iconst (pc' := 17) (z := (0 : Int32)) A d6_16 rfl (by decide) ?_
  refine s_iastore (pc' := 18) (i := 3) A V5 (by decide) (Nat.le_of_ble_eq_true rfl) ge8 d6_17 rfl fun T h9 A W10 V11 => ?_
  have V11 : AA Z h9 r_ring .int [.int (0 : Int32), .int x0, .int (0 : Int32), .int (0 : Int32)] := V11
  refine s_aloadN (pc' := 19) A d6_18 rfl rfl rfl ?_
  have F12 := (F3.other W10 (Or.inl ne6))
  refine s_getfield (pc' := 22) (host := "") A (Or.inl (w18 hw)) Via.refl F12 d6_19 rfl fun T A => ?_
  refine s_aloadN (pc' := 23) A d6_22 rfl rfl rfl ?_
  have F13 := (F4.other W10 (Or.inl ne6))
  refine s_getfield (pc' := 26) (host := "") A (Or.inl (w20 hw)) Via.refl F13 d6_23 rfl fun T A => ?_
  refine s_lcmp (pc' := 27) A d6_26 rfl ?_
  refine s_ifN (pc' := 30) A d6_27 rfl (by decide) ?_
  refine s_aloadN (pc' := 31) A d6_30 rfl rfl rfl ?_
  have F14 := (F2.other W10 (Or.inl ne6))
  refine s_getfield (pc' := 34) (host := "") A (Or.inl (w11 hw)) Via.refl F14 d6_31 rfl fun T A => ?_
  refine s_aloadN (pc' := 35) A d6_34 rfl rfl rfl ?_
  refine s_getfield (pc' := 38) (host := "") A (Or.inl (w18 hw)) Via.refl F12 d6_35 rfl fun T A => ?_
  refine s_l2i (pc' := 39) (z := (1 : Int32)) A d6_38 rfl (by decide) ?_
  refine s_iloadN (pc' := 40) A d6_39 rfl rfl ?_
  refine s_iand (pc' := 41) (z := (1 : Int32)) A d6_40 rfl (by decide) ?_
  refine s_iaload (pc' := 42) (i := 1) (v := (.int x0)) A V11 (by decide) rfl d6_41 rfl ?_
  refine s_ifY (pc' := 58) A d6_42 ((if0 _ _).trans (feq nz1).2) (by decide) (by decide) ?_
  have K15 := ((Keep.refl h0 [a, r_ring]).wr W10 (Or.inl (List.mem_of_getElem? (i := 1) rfl)))
  have E16 := (E1.wr W10)
  exact r_void A rfl d6_58 (by decide) (by decide) (⟨rfl, K15, ⟨E16, F14, F12, F13, V11, ne6, ge7, ge8⟩⟩)
set_option maxRecDepth 65536 in
set_option maxHeartbeats 40000000 in
theorem bo_remove43 (l : Launch) (Z : State) (a0 : Array Value) (hw : ∀ d ∈ tables_1, d.before a0 Z = true) (n0 : Nat) (h0 : Heap) (Z0 : n0 ≤ h0.size) (a r_ring : Addr) (x0 : Int32) (x1 : Int32) (H : BO Z n0 h0 a r_ring (1 : Int64) (4 : Int64) [.int (0 : Int32), .int x0, .int x1, .int (0 : Int32)]) (nz1 : ¬ x0 = (0 : Int32)) (nz2 : ¬ x1 = (0 : Int32)) :
    Met l Z n0 y6_remove prog_63_method_3_code 4 (Option.none : Option Jvm.ClassFile.FieldType) ({ frames := 0, cells := 0, slots := 0, locals := 0 } : Room) #[(.ref a), (.long (1 : Int64))] h0 (fun v h => v = none ∧ Keep h0 h [a, r_ring] ∧ BO Z n0 h a r_ring (2 : Int64) (4 : Int64) [.int (0 : Int32), .int (0 : Int32), .int x1, .int (0 : Int32)]) := by
  refine met_intro (own := c1_BeginOrder) (plainFor_of_name pn_com_example_wirefram_wirefram_sequence_BeginOrder) rfl Z0 ?_
  intro p e s m below meth c T A hnm
  refine Wp.cast (g' := mkF m 0 #[rv a, jv 1, S2, U0] []) (by first | (simp [entryFrame, mkF, argsToLocals, Value.category, maxLocals, jv, S2, U0, iv, rv]; done) | rfl) ?_
  obtain ⟨E1, F2, F3, F4, V5, ne6, ge7, ge8⟩ := H
  refine s_aloadN (pc' := 1) A d6_0 rfl rfl rfl ?_
  refine s_getfield (pc' := 4) (host := "") A (Or.inl (w11 hw)) Via.refl F2 d6_1 rfl fun T A => ?_
  refine s_arraylength (pc' := 5) (z := (4 : Int32)) A V5 (by show _ = ((4 : Nat) : Int); decide) d6_4 rfl ?_
  refine s_iconst (pc' := 6) (z := (1 : Int32)) A d6_5 rfl (by decide) ?_
  refine s_isub (pc' := 7) (z := (3 : Int32)) A d6_6 rfl (by decide) ?_
  refine s_istoreN (pc' := 8) (Ls' := #[rv a, jv 1, S2, iv 3]) A d6_7 rfl rfl ?_
  refine s_aloadN (pc' := 9) A d6_8 rfl rfl rfl ?_
  refine s_getfield (pc' := 12) (host := "") A (Or.inl (w11 hw)) Via.refl F2 d6_9 rfl fun T A => ?_
  refine s_lloadN (pc' := 13) A d6_12 rfl rfl ?_
  refine s_l2i (pc' := 14) (z := (1 : Int32)) A d6_13 rfl (by decide) ?_
  refine s_iloadN (pc' := 15) A d6_14 rfl rfl ?_
  refine s_iand (pc' := 16) (z := (1 : Int32)) A d6_15 rfl (by decide) ?_
  refine s_iconst (pc' := 17) (z := (0 : Int32)) A d6_16 rfl (by decide) ?_
  refine s_iastore (pc' := 18) (i := 1) A V5 (by decide) (Nat.le_of_ble_eq_true rfl) ge8 d6_17 rfl fun T h9 A W10 V11 => ?_
  have V11 : AA Z h9 r_ring .int [.int (0 : Int32), .int (0 : Int32), .int x1, .int (0 : Int32)] := V11
  refine s_aloadN (pc' := 19) A d6_18 rfl rfl rfl ?_
  have F12 := (F3.other W10 (Or.inl ne6))
  refine s_getfield (pc' := 22) (host := "") A (Or.inl (w18 hw)) Via.refl F12 d6_19 rfl fun T A => ?_
  refine s_aloadN (pc' := 23) A d6_22 rfl rfl rfl ?_
  have F13 := (F4.other W10 (Or.inl ne6))
  refine s_getfield (pc' := 26) (host := "") A (Or.inl (w20 hw)) Via.refl F13 d6_23 rfl fun T A => ?_
  refine s_lcmp (pc' := 27) A d6_26 rfl ?_
  refine s_ifN (pc' := 30) A d6_27 rfl (by decide) ?_
  refine s_aloadN (pc' := 31) A d6_30 rfl rfl rfl ?_
  have F14 := (F2.other W10 (Or.inl ne6))
  refine s_getfield (pc' := 34) (host := "") A (Or.inl (w11 hw)) Via.refl F14 d6_31 rfl fun T A => ?_
  refine s_aloadN (pc' := 35) A d6_34 rfl rfl rfl ?_
  refine s_getfield (pc' := 38) (host := "") A (Or.inl (w18 hw)) Via.refl F12 d6_35 rfl fun T A => ?_
  refine s_l2i (pc' := 39) (z := (1 : Int32)) A d6_38 rfl (by decide) ?_
  refine s_iloadN (pc' := 40) A d6_39 rfl rfl ?_
  refine s_iand (pc' := 41) (z := (1 : Int32)) A d6_40 rfl (by decide) ?_
  refine s_iaload (pc' := 42) (i := 1) (v := (.int (0 : Int32))) A V11 (by decide) rfl d6_41 rfl ?_
  refine s_ifN (pc' := 45) A d6_42 rfl (by decide) ?_
  refine s_aloadN (pc' := 46) A d6_45 rfl rfl rfl ?_
  refine s_dup (pc' := 47) A d6_46 rfl rfl ?_
  refine s_getfield (pc' := 50) (host := "") A (Or.inl (w18 hw)) Via.refl F12 d6_47 rfl fun T A => ?_
  refine s_lconst (pc' := 51) (z := (1 : Int64)) A d6_50 rfl (by decide) ?_
  refine s_ladd (pc' := 52) (z := (2 : Int64)) A d6_51 rfl (by decide) ?_
  have E15 := (E1.wr W10)
  refine s_putfield (pc' := 55) (host := "") A (Or.inl (w18 hw)) Via.refl F12 E15 (Or.inl (w19 hw)) (w2 hw) (ty := .long) (by decide) rfl rfl ge7 d6_52 rfl fun T h16 A W17 => ?_
  have F18 := F12.same W17
  refine s_goto (pc' := 18) A d6_55 (by decide) (by decide) ?_
  refine s_aloadN (pc' := 19) A d6_18 rfl rfl rfl ?_
  refine s_getfield (pc' := 22) (host := "") A (Or.inl (w18 hw)) Via.refl F18 d6_19 rfl fun T A => ?_
  refine s_aloadN (pc' := 23) A d6_22 rfl rfl rfl ?_
  have F19 := (F13.other W17 (Or.inr (sn_BeginOrder_next_first hw)))
  refine s_getfield (pc' := 26) (host := "") A (Or.inl (w20 hw)) Via.refl F19 d6_23 rfl fun T A => ?_
  refine s_lcmp (pc' := 27) A d6_26 rfl ?_
  refine s_ifN (pc' := 30) A d6_27 rfl (by decide) ?_
  refine s_aloadN (pc' := 31) A d6_30 rfl rfl rfl ?_
  have F20 := (F14.other W17 (Or.inr (sn_BeginOrder_ring_first hw)))
  refine s_getfield (pc' := 34) (host := "") A (Or.inl (w11 hw)) Via.refl F20 d6_31 rfl fun T A => ?_
  refine s_aloadN (pc' := 35) A d6_34 rfl rfl rfl ?_
  refine s_getfield (pc' := 38) (host := "") A (Or.inl (w18 hw)) Via.refl F18 d6_35 rfl fun T A => ?_
  refine s_l2i (pc' := 39) (z := (2 : Int32)) A d6_38 rfl (by decide) ?_
  refine s_iloadN (pc' := 40) A d6_39 rfl rfl ?_
  refine s_iand (pc' := 41) (z := (2 : Int32)) A d6_40 rfl (by decide) ?_
  have V21 := (V11.other W17 (Ne.symm ne6))
  refine s_iaload (pc' := 42) (i := 2) (v := (.int x1)) A V21 (by decide) rfl d6_41 rfl ?_
  refine s_ifY (pc' := 58) A d6_42 ((if0 _ _).trans (feq nz2).2) (by decide) (by decide) ?_
  have K22 := (((Keep.refl h0 [a, r_ring]).wr W10 (Or.inl (List.mem_of_getElem? (i := 1) rfl))).wr W17 (Or.inl (List.mem_of_getElem? (i := 0) rfl)))
  have E23 := (E15.wr W17)
  exact r_void A rfl d6_58 (by decide) (by decide) (⟨rfl, K22, ⟨E23, F20, F18, F19, V21, ne6, ge7, ge8⟩⟩)
set_option maxRecDepth 65536 in
set_option maxHeartbeats 40000000 in
theorem bo_remove44 (l : Launch) (Z : State) (a0 : Array Value) (hw : ∀ d ∈ tables_1, d.before a0 Z = true) (n0 : Nat) (h0 : Heap) (Z0 : n0 ≤ h0.size) (a r_ring : Addr) (x0 : Int32) (x1 : Int32) (H : BO Z n0 h0 a r_ring (1 : Int64) (4 : Int64) [.int (0 : Int32), .int x0, .int x1, .int (0 : Int32)]) (nz1 : ¬ x0 = (0 : Int32)) (nz2 : ¬ x1 = (0 : Int32)) :
    Met l Z n0 y6_remove prog_63_method_3_code 4 (Option.none : Option Jvm.ClassFile.FieldType) ({ frames := 0, cells := 0, slots := 0, locals := 0 } : Room) #[(.ref a), (.long (2 : Int64))] h0 (fun v h => v = none ∧ Keep h0 h [a, r_ring] ∧ BO Z n0 h a r_ring (1 : Int64) (4 : Int64) [.int (0 : Int32), .int x0, .int (0 : Int32), .int (0 : Int32)]) := by
  refine met_intro (own := c1_BeginOrder) (plainFor_of_name pn_com_example_wirefram_wirefram_sequence_BeginOrder) rfl Z0 ?_
  intro p e s m below meth c T A hnm
  refine Wp.cast (g' := mkF m 0 #[rv a, jv 2, S2, U0] []) (by first | (simp [entryFrame, mkF, argsToLocals, Value.category, maxLocals, jv, S2, U0, iv, rv]; done) | rfl) ?_
  obtain ⟨E1, F2, F3, F4, V5, ne6, ge7, ge8⟩ := H
  refine s_aloadN (pc' := 1) A d6_0 rfl rfl rfl ?_
  refine s_getfield (pc' := 4) (host := "") A (Or.inl (w11 hw)) Via.refl F2 d6_1 rfl fun T A => ?_
  refine s_arraylength (pc' := 5) (z := (4 : Int32)) A V5 (by show _ = ((4 : Nat) : Int); decide) d6_4 rfl ?_
  refine s_iconst (pc' := 6) (z := (1 : Int32)) A d6_5 rfl (by decide) ?_
  refine s_isub (pc' := 7) (z := (3 : Int32)) A d6_6 rfl (by decide) ?_
  refine s_istoreN (pc' := 8) (Ls' := #[rv a, jv 2, S2, iv 3]) A d6_7 rfl rfl ?_
  refine s_aloadN (pc' := 9) A d6_8 rfl rfl rfl ?_
  refine s_getfield (pc' := 12) (host := "") A (Or.inl (w11 hw)) Via.refl F2 d6_9 rfl fun T A => ?_
  refine s_lloadN (pc' := 13) A d6_12 rfl rfl ?_
  refine s_l2i (pc' := 14) (z := (2 : Int32)) A d6_13 rfl (by decide) ?_
  refine s_iloadN (pc' := 15) A d6_14 rfl rfl ?_
  refine s_iand (pc' := 16) (z := (2 : Int32)) A d6_15 rfl (by decide) ?_
  refine s_iconst (pc' := 17) (z := (0 : Int32)) A d6_16 rfl (by decide) ?_
  refine s_iastore (pc' := 18) (i := 2) A V5 (by decide) (Nat.le_of_ble_eq_true rfl) ge8 d6_17 rfl fun T h9 A W10 V11 => ?_
  have V11 : AA Z h9 r_ring .int [.int (0 : Int32), .int x0, .int (0 : Int32), .int (0 : Int32)] := V11
  refine s_aloadN (pc' := 19) A d6_18 rfl rfl rfl ?_
  have F12 := (F3.other W10 (Or.inl ne6))
  refine s_getfield (pc' := 22) (host := "") A (Or.inl (w18 hw)) Via.refl F12 d6_19 rfl fun T A => ?_
  refine s_aloadN (pc' := 23) A d6_22 rfl rfl rfl ?_
  have F13 := (F4.other W10 (Or.inl ne6))
  refine s_getfield (pc' := 26) (host := "") A (Or.inl (w20 hw)) Via.refl F13 d6_23 rfl fun T A => ?_
  refine s_lcmp (pc' := 27) A d6_26 rfl ?_
  refine s_ifN (pc' := 30) A d6_27 rfl (by decide) ?_
  refine s_aloadN (pc' := 31) A d6_30 rfl rfl rfl ?_
  have F14 := (F2.other W10 (Or.inl ne6))
  refine s_getfield (pc' := 34) (host := "") A (Or.inl (w11 hw)) Via.refl F14 d6_31 rfl fun T A => ?_
  refine s_aloadN (pc' := 35) A d6_34 rfl rfl rfl ?_
  refine s_getfield (pc' := 38) (host := "") A (Or.inl (w18 hw)) Via.refl F12 d6_35 rfl fun T A => ?_
  refine s_l2i (pc' := 39) (z := (1 : Int32)) A d6_38 rfl (by decide) ?_
  refine s_iloadN (pc' := 40) A d6_39 rfl rfl ?_
  refine s_iand (pc' := 41) (z := (1 : Int32)) A d6_40 rfl (by decide) ?_
  refine s_iaload (pc' := 42) (i := 1) (v := (.int x0)) A V11 (by decide) rfl d6_41 rfl ?_
  refine s_ifY (pc' := 58) A d6_42 ((if0 _ _).trans (feq nz1).2) (by decide) (by decide) ?_
  have K15 := ((Keep.refl h0 [a, r_ring]).wr W10 (Or.inl (List.mem_of_getElem? (i := 1) rfl)))
  have E16 := (E1.wr W10)
  exact r_void A rfl d6_58 (by decide) (by decide) (⟨rfl, K15, ⟨E16, F14, F12, F13, V11, ne6, ge7, ge8⟩⟩)
set_option maxRecDepth 65536 in
set_option maxHeartbeats 40000000 in
theorem bo_remove45 (l : Launch) (Z : State) (a0 : Array Value) (hw : ∀ d ∈ tables_1, d.before a0 Z = true) (n0 : Nat) (h0 : Heap) (Z0 : n0 ≤ h0.size) (a r_ring : Addr) (x0 : Int32) (H : BO Z n0 h0 a r_ring (3 : Int64) (4 : Int64) [.int (0 : Int32), .int (0 : Int32), .int (0 : Int32), .int x0]) (nz3 : ¬ x0 = (0 : Int32)) :
    Met l Z n0 y6_remove prog_63_method_3_code 4 (Option.none : Option Jvm.ClassFile.FieldType) ({ frames := 0, cells := 0, slots := 0, locals := 0 } : Room) #[(.ref a), (.long (3 : Int64))] h0 (fun v h => v = none ∧ Keep h0 h [a, r_ring] ∧ BO Z n0 h a r_ring (4 : Int64) (4 : Int64) [.int (0 : Int32), .int (0 : Int32), .int (0 : Int32), .int (0 : Int32)]) := by
  refine met_intro (own := c1_BeginOrder) (plainFor_of_name pn_com_example_wirefram_wirefram_sequence_BeginOrder) rfl Z0 ?_
  intro p e s m below meth c T A hnm
  refine Wp.cast (g' := mkF m 0 #[rv a, jv 3, S2, U0] []) (by first | (simp [entryFrame, mkF, argsToLocals, Value.category, maxLocals, jv, S2, U0, iv, rv]; done) | rfl) ?_
  obtain ⟨E1, F2, F3, F4, V5, ne6, ge7, ge8⟩ := H
  refine s_aloadN (pc' := 1) A d6_0 rfl rfl rfl ?_
  refine s_getfield (pc' := 4) (host := "") A (Or.inl (w11 hw)) Via.refl F2 d6_1 rfl fun T A => ?_
  refine s_arraylength (pc' := 5) (z := (4 : Int32)) A V5 (by show _ = ((4 : Nat) : Int); decide) d6_4 rfl ?_
  refine s_iconst (pc' := 6) (z := (1 : Int32)) A d6_5 rfl (by decide) ?_
  refine s_isub (pc' := 7) (z := (3 : Int32)) A d6_6 rfl (by decide) ?_
  refine s_istoreN (pc' := 8) (Ls' := #[rv a, jv 3, S2, iv 3]) A d6_7 rfl rfl ?_
  refine s_aloadN (pc' := 9) A d6_8 rfl rfl rfl ?_
  refine s_getfield (pc' := 12) (host := "") A (Or.inl (w11 hw)) Via.refl F2 d6_9 rfl fun T A => ?_
  refine s_lloadN (pc' := 13) A d6_12 rfl rfl ?_
  refine s_l2i (pc' := 14) (z := (3 : Int32)) A d6_13 rfl (by decide) ?_
  refine s_iloadN (pc' := 15) A d6_14 rfl rfl ?_
  refine s_iand (pc' := 16) (z := (3 : Int32)) A d6_15 rfl (by decide) ?_
  refine s_iconst (pc' := 17) (z := (0 : Int32)) A d6_16 rfl (by decide) ?_
  refine s_iastore (pc' := 18) (i := 3) A V5 (by decide) (Nat.le_of_ble_eq_true rfl) ge8 d6_17 rfl fun T h9 A W10 V11 => ?_
  have V11 : AA Z h9 r_ring .int [.int (0 : Int32), .int (0 : Int32), .int (0 : Int32), .int (0 : Int32)] := V11
  refine s_aloadN (pc' := 19) A d6_18 rfl rfl rfl ?_
  have F12 := (F3.other W10 (Or.inl ne6))
  refine s_getfield (pc' := 22) (host := "") A (Or.inl (w18 hw)) Via.refl F12 d6_19 rfl fun T A => ?_
  refine s_aloadN (pc' := 23) A d6_22 rfl rfl rfl ?_
  have F13 := (F4.other W10 (Or.inl ne6))
  refine s_getfield (pc' := 26) (host := "") A (Or.inl (w20 hw)) Via.refl F13 d6_23 rfl fun T A => ?_
  refine s_lcmp (pc' := 27) A d6_26 rfl ?_
  refine s_ifN (pc' := 30) A d6_27 rfl (by decide) ?_
  refine s_aloadN (pc' := 31) A d6_30 rfl rfl rfl ?_
  have F14 := (F2.other W10 (Or.inl ne6))
  refine s_getfield (pc' := 34) (host := "") A (Or.inl (w11 hw)) Via.refl F14 d6_31 rfl fun T A => ?_
  refine s_aloadN (pc' := 35) A d6_34 rfl rfl rfl ?_
  refine s_getfield (pc' := 38) (host := "") A (Or.inl (w18 hw)) Via.refl F12 d6_35 rfl fun T A => ?_
  refine s_l2i (pc' := 39) (z := (3 : Int32)) A d6_38 rfl (by decide) ?_
  refine s_iloadN (pc' := 40) A d6_39 rfl rfl ?_
  refine s_iand (pc' := 41) (z := (3 : Int32)) A d6_40 rfl (by decide) ?_
  refine s_iaload (pc' := 42) (i := 3) (v := (.int (0 : Int32))) A V11 (by decide) rfl d6_41 rfl ?_
  refine s_ifN (pc' := 45) A d6_42 rfl (by decide) ?_
  refine s_aloadN (pc' := 46) A d6_45 rfl rfl rfl ?_
  refine s_dup (pc' := 47) A d6_46 rfl rfl ?_
  refine s_getfield (pc' := 50) (host := "") A (Or.inl (w18 hw)) Via.refl F12 d6_47 rfl fun T A => ?_
  refine s_lconst (pc' := 51) (z := (1 : Int64)) A d6_50 rfl (by decide) ?_
  refine s_ladd (pc' := 52) (z := (4 : Int64)) A d6_51 rfl (by decide) ?_
  have E15 := (E1.wr W10)
  refine s_putfield (pc' := 55) (host := "") A (Or.inl (w18 hw)) Via.refl F12 E15 (Or.inl (w19 hw)) (w2 hw) (ty := .long) (by decide) rfl rfl ge7 d6_52 rfl fun T h16 A W17 => ?_
  have F18 := F12.same W17
  refine s_goto (pc' := 18) A d6_55 (by decide) (by decide) ?_
  refine s_aloadN (pc' := 19) A d6_18 rfl rfl rfl ?_
  refine s_getfield (pc' := 22) (host := "") A (Or.inl (w18 hw)) Via.refl F18 d6_19 rfl fun T A => ?_
  refine s_aloadN (pc' := 23) A d6_22 rfl rfl rfl ?_
  have F19 := (F13.other W17 (Or.inr (sn_BeginOrder_next_first hw)))
  refine s_getfield (pc' := 26) (host := "") A (Or.inl (w20 hw)) Via.refl F19 d6_23 rfl fun T A => ?_
  refine s_lcmp (pc' := 27) A d6_26 rfl ?_
  refine s_ifY (pc' := 58) A d6_27 (by decide) (by decide) (by decide) ?_
  have K20 := (((Keep.refl h0 [a, r_ring]).wr W10 (Or.inl (List.mem_of_getElem? (i := 1) rfl))).wr W17 (Or.inl (List.mem_of_getElem? (i := 0) rfl)))
  have E21 := (E15.wr W17)
  have F22 := (F14.other W17 (Or.inr (sn_BeginOrder_ring_first hw)))
  have V23 := (V11.other W17 (Ne.symm ne6))
  exact r_void A rfl d6_58 (by decide) (by decide) (⟨rfl, K20, ⟨E21, F22, F18, F19, V23, ne6, ge7, ge8⟩⟩)
set_option maxRecDepth 65536 in
set_option maxHeartbeats 40000000 in
theorem bo_isEmpty46 (l : Launch) (Z : State) (a0 : Array Value) (hw : ∀ d ∈ tables_1, d.before a0 Z = true) (n0 : Nat) (h0 : Heap) (Z0 : n0 ≤ h0.size) (a r_ring : Addr)  (l_ring : List Value) (H : BO Z n0 h0 a r_ring (4 : Int64) (4 : Int64) l_ring) :
    Met l Z n0 y3_isEmpty prog_63_method_4_code 1 (Option.some Jvm.ClassFile.FieldType.boolean) ({ frames := 0, cells := 0, slots := 0, locals := 0 } : Room) #[(.ref a)] h0 (fun v h => v = some (.int (1 : Int32)) ∧ Keep h0 h [a, r_ring] ∧ BO Z n0 h a r_ring (4 : Int64) (4 : Int64) l_ring) := by
  refine met_intro (own := c1_BeginOrder) (plainFor_of_name pn_com_example_wirefram_wirefram_sequence_BeginOrder) rfl Z0 ?_
  intro p e s m below meth c T A hnm
  refine Wp.cast (g' := mkF m 0 #[rv a] []) (by first | (simp [entryFrame, mkF, argsToLocals, Value.category, maxLocals, jv, S2, U0, iv, rv]; done) | rfl) ?_
  obtain ⟨E1, F2, F3, F4, V5, ne6, ge7, ge8⟩ := H
  refine s_aloadN (pc' := 1) A d3_0 rfl rfl rfl ?_
  refine s_getfield (pc' := 4) (host := "") A (Or.inl (w18 hw)) Via.refl F3 d3_1 rfl fun T A => ?_
  refine s_aloadN (pc' := 5) A d3_4 rfl rfl rfl ?_
  refine s_getfield (pc' := 8) (host := "") A (Or.inl (w20 hw)) Via.refl F4 d3_5 rfl fun T A => ?_
  refine s_lcmp (pc' := 9) A d3_8 rfl ?_
  refine s_ifN (pc' := 12) A d3_9 rfl (by decide) ?_
  refine s_iconst (pc' := 13) (z := (1 : Int32)) A d3_12 rfl (by decide) ?_
  refine s_goto (pc' := 17) A d3_13 (by decide) (by decide) ?_
  exact r_bool A rfl (by decide) d3_17 (by decide) (by decide) (⟨rfl, (Keep.refl h0 [a, r_ring]), ⟨E1, F2, F3, F4, V5, ne6, ge7, ge8⟩⟩)
set_option maxRecDepth 65536 in
set_option maxHeartbeats 40000000 in
theorem bo_remove47 (l : Launch) (Z : State) (a0 : Array Value) (hw : ∀ d ∈ tables_1, d.before a0 Z = true) (n0 : Nat) (h0 : Heap) (Z0 : n0 ≤ h0.size) (a r_ring : Addr) (x0 : Int32) (H : BO Z n0 h0 a r_ring (2 : Int64) (4 : Int64) [.int (0 : Int32), .int (0 : Int32), .int x0, .int (0 : Int32)]) (nz2 : ¬ x0 = (0 : Int32)) :
    Met l Z n0 y6_remove prog_63_method_3_code 4 (Option.none : Option Jvm.ClassFile.FieldType) ({ frames := 0, cells := 0, slots := 0, locals := 0 } : Room) #[(.ref a), (.long (2 : Int64))] h0 (fun v h => v = none ∧ Keep h0 h [a, r_ring] ∧ BO Z n0 h a r_ring (4 : Int64) (4 : Int64) [.int (0 : Int32), .int (0 : Int32), .int (0 : Int32), .int (0 : Int32)]) := by
  refine met_intro (own := c1_BeginOrder) (plainFor_of_name pn_com_example_wirefram_wirefram_sequence_BeginOrder) rfl Z0 ?_
  intro p e s m below meth c T A hnm
  refine Wp.cast (g' := mkF m 0 #[rv a, jv 2, S2, U0] []) (by first | (simp [entryFrame, mkF, argsToLocals, Value.category, maxLocals, jv, S2, U0, iv, rv]; done) | rfl) ?_
  obtain ⟨E1, F2, F3, F4, V5, ne6, ge7, ge8⟩ := H
  refine s_aloadN (pc' := 1) A d6_0 rfl rfl rfl ?_
  refine s_getfield (pc' := 4) (host := "") A (Or.inl (w11 hw)) Via.refl F2 d6_1 rfl fun T A => ?_
  refine s_arraylength (pc' := 5) (z := (4 : Int32)) A V5 (by show _ = ((4 : Nat) : Int); decide) d6_4 rfl ?_
  refine s_iconst (pc' := 6) (z := (1 : Int32)) A d6_5 rfl (by decide) ?_
  refine s_isub (pc' := 7) (z := (3 : Int32)) A d6_6 rfl (by decide) ?_
  refine s_istoreN (pc' := 8) (Ls' := #[rv a, jv 2, S2, iv 3]) A d6_7 rfl rfl ?_
  refine s_aloadN (pc' := 9) A d6_8 rfl rfl rfl ?_
  refine s_getfield (pc' := 12) (host := "") A (Or.inl (w11 hw)) Via.refl F2 d6_9 rfl fun T A => ?_
  refine s_lloadN (pc' := 13) A d6_12 rfl rfl ?_
  refine s_l2i (pc' := 14) (z := (2 : Int32)) A d6_13 rfl (by decide) ?_
  refine s_iloadN (pc' := 15) A d6_14 rfl rfl ?_
  refine s_iand (pc' := 16) (z := (2 : Int32)) A d6_15 rfl (by decide) ?_
  refine s_iconst (pc' := 17) (z := (0 : Int32)) A d6_16 rfl (by decide) ?_
  refine s_iastore (pc' := 18) (i := 2) A V5 (by decide) (Nat.le_of_ble_eq_true rfl) ge8 d6_17 rfl fun T h9 A W10 V11 => ?_
  have V11 : AA Z h9 r_ring .int [.int (0 : Int32), .int (0 : Int32), .int (0 : Int32), .int (0 : Int32)] := V11
  refine s_aloadN (pc' := 19) A d6_18 rfl rfl rfl ?_
  have F12 := (F3.other W10 (Or.inl ne6))
  refine s_getfield (pc' := 22) (host := "") A (Or.inl (w18 hw)) Via.refl F12 d6_19 rfl fun T A => ?_
  refine s_aloadN (pc' := 23) A d6_22 rfl rfl rfl ?_
  have F13 := (F4.other W10 (Or.inl ne6))
  refine s_getfield (pc' := 26) (host := "") A (Or.inl (w20 hw)) Via.refl F13 d6_23 rfl fun T A => ?_
  refine s_lcmp (pc' := 27) A d6_26 rfl ?_
  refine s_ifN (pc' := 30) A d6_27 rfl (by decide) ?_
  refine s_aloadN (pc' := 31) A d6_30 rfl rfl rfl ?_
  have F14 := (F2.other W10 (Or.inl ne6))
  refine s_getfield (pc' := 34) (host := "") A (Or.inl (w11 hw)) Via.refl F14 d6_31 rfl fun T A => ?_
  refine s_aloadN (pc' := 35) A d6_34 rfl rfl rfl ?_
  refine s_getfield (pc' := 38) (host := "") A (Or.inl (w18 hw)) Via.refl F12 d6_35 rfl fun T A => ?_
  refine s_l2i (pc' := 39) (z := (2 : Int32)) A d6_38 rfl (by decide) ?_
  refine s_iloadN (pc' := 40) A d6_39 rfl rfl ?_
  refine s_iand (pc' := 41) (z := (2 : Int32)) A d6_40 rfl (by decide) ?_
  refine s_iaload (pc' := 42) (i := 2) (v := (.int (0 : Int32))) A V11 (by decide) rfl d6_41 rfl ?_
  refine s_ifN (pc' := 45) A d6_42 rfl (by decide) ?_
  refine s_aloadN (pc' := 46) A d6_45 rfl rfl rfl ?_
  refine s_dup (pc' := 47) A d6_46 rfl rfl ?_
  refine s_getfield (pc' := 50) (host := "") A (Or.inl (w18 hw)) Via.refl F12 d6_47 rfl fun T A => ?_
  refine s_lconst (pc' := 51) (z := (1 : Int64)) A d6_50 rfl (by decide) ?_
  refine s_ladd (pc' := 52) (z := (3 : Int64)) A d6_51 rfl (by decide) ?_
  have E15 := (E1.wr W10)
  refine s_putfield (pc' := 55) (host := "") A (Or.inl (w18 hw)) Via.refl F12 E15 (Or.inl (w19 hw)) (w2 hw) (ty := .long) (by decide) rfl rfl ge7 d6_52 rfl fun T h16 A W17 => ?_
  have F18 := F12.same W17
  refine s_goto (pc' := 18) A d6_55 (by decide) (by decide) ?_
  refine s_aloadN (pc' := 19) A d6_18 rfl rfl rfl ?_
  refine s_getfield (pc' := 22) (host := "") A (Or.inl (w18 hw)) Via.refl F18 d6_19 rfl fun T A => ?_
  refine s_aloadN (pc' := 23) A d6_22 rfl rfl rfl ?_
  have F19 := (F13.other W17 (Or.inr (sn_BeginOrder_next_first hw)))
  refine s_getfield (pc' := 26) (host := "") A (Or.inl (w20 hw)) Via.refl F19 d6_23 rfl fun T A => ?_
  refine s_lcmp (pc' := 27) A d6_26 rfl ?_
  refine s_ifN (pc' := 30) A d6_27 rfl (by decide) ?_
  refine s_aloadN (pc' := 31) A d6_30 rfl rfl rfl ?_
  have F20 := (F14.other W17 (Or.inr (sn_BeginOrder_ring_first hw)))
  refine s_getfield (pc' := 34) (host := "") A (Or.inl (w11 hw)) Via.refl F20 d6_31 rfl fun T A => ?_
  refine s_aloadN (pc' := 35) A d6_34 rfl rfl rfl ?_
  refine s_getfield (pc' := 38) (host := "") A (Or.inl (w18 hw)) Via.refl F18 d6_35 rfl fun T A => ?_
  refine s_l2i (pc' := 39) (z := (3 : Int32)) A d6_38 rfl (by decide) ?_
  refine s_iloadN (pc' := 40) A d6_39 rfl rfl ?_
  refine s_iand (pc' := 41) (z := (3 : Int32)) A d6_40 rfl (by decide) ?_
  have V21 := (V11.other W17 (Ne.symm ne6))
  refine s_iaload (pc' := 42) (i := 3) (v := (.int (0 : Int32))) A V21 (by decide) rfl d6_41 rfl ?_
  refine s_ifN (pc' := 45) A d6_42 rfl (by decide) ?_
  refine s_aloadN (pc' := 46) A d6_45 rfl rfl rfl ?_
  refine s_dup (pc' := 47) A d6_46 rfl rfl ?_
  refine s_getfield (pc' := 50) (host := "") A (Or.inl (w18 hw)) Via.refl F18 d6_47 rfl fun T A => ?_
  refine s_lconst (pc' := 51) (z := (1 : Int64)) A d6_50 rfl (by decide) ?_
  refine s_ladd (pc' := 52) (z := (4 : Int64)) A d6_51 rfl (by decide) ?_
  have E22 := (E15.wr W17)
  refine s_putfield (pc' := 55) (host := "") A (Or.inl (w18 hw)) Via.refl F18 E22 (Or.inl (w19 hw)) (w2 hw) (ty := .long) (by decide) rfl rfl ge7 d6_52 rfl fun T h23 A W24 => ?_
  have F25 := F18.same W24
  refine s_goto (pc' := 18) A d6_55 (by decide) (by decide) ?_
  refine s_aloadN (pc' := 19) A d6_18 rfl rfl rfl ?_
  refine s_getfield (pc' := 22) (host := "") A (Or.inl (w18 hw)) Via.refl F25 d6_19 rfl fun T A => ?_
  refine s_aloadN (pc' := 23) A d6_22 rfl rfl rfl ?_
  have F26 := (F19.other W24 (Or.inr (sn_BeginOrder_next_first hw)))
  refine s_getfield (pc' := 26) (host := "") A (Or.inl (w20 hw)) Via.refl F26 d6_23 rfl fun T A => ?_
  refine s_lcmp (pc' := 27) A d6_26 rfl ?_
  refine s_ifY (pc' := 58) A d6_27 (by decide) (by decide) (by decide) ?_
  have K27 := ((((Keep.refl h0 [a, r_ring]).wr W10 (Or.inl (List.mem_of_getElem? (i := 1) rfl))).wr W17 (Or.inl (List.mem_of_getElem? (i := 0) rfl))).wr W24 (Or.inl (List.mem_of_getElem? (i := 0) rfl)))
  have E28 := (E22.wr W24)
  have F29 := (F20.other W24 (Or.inr (sn_BeginOrder_ring_first hw)))
  have V30 := (V21.other W24 (Ne.symm ne6))
  exact r_void A rfl d6_58 (by decide) (by decide) (⟨rfl, K27, ⟨E28, F29, F25, F26, V30, ne6, ge7, ge8⟩⟩)
set_option maxRecDepth 65536 in
set_option maxHeartbeats 40000000 in
theorem bo_remove48 (l : Launch) (Z : State) (a0 : Array Value) (hw : ∀ d ∈ tables_1, d.before a0 Z = true) (n0 : Nat) (h0 : Heap) (Z0 : n0 ≤ h0.size) (a r_ring : Addr) (x0 : Int32) (H : BO Z n0 h0 a r_ring (1 : Int64) (4 : Int64) [.int (0 : Int32), .int x0, .int (0 : Int32), .int (0 : Int32)]) (nz1 : ¬ x0 = (0 : Int32)) :
    Met l Z n0 y6_remove prog_63_method_3_code 4 (Option.none : Option Jvm.ClassFile.FieldType) ({ frames := 0, cells := 0, slots := 0, locals := 0 } : Room) #[(.ref a), (.long (1 : Int64))] h0 (fun v h => v = none ∧ Keep h0 h [a, r_ring] ∧ BO Z n0 h a r_ring (4 : Int64) (4 : Int64) [.int (0 : Int32), .int (0 : Int32), .int (0 : Int32), .int (0 : Int32)]) := by
  refine met_intro (own := c1_BeginOrder) (plainFor_of_name pn_com_example_wirefram_wirefram_sequence_BeginOrder) rfl Z0 ?_
  intro p e s m below meth c T A hnm
  refine Wp.cast (g' := mkF m 0 #[rv a, jv 1, S2, U0] []) (by first | (simp [entryFrame, mkF, argsToLocals, Value.category, maxLocals, jv, S2, U0, iv, rv]; done) | rfl) ?_
  obtain ⟨E1, F2, F3, F4, V5, ne6, ge7, ge8⟩ := H
  refine s_aloadN (pc' := 1) A d6_0 rfl rfl rfl ?_
  refine s_getfield (pc' := 4) (host := "") A (Or.inl (w11 hw)) Via.refl F2 d6_1 rfl fun T A => ?_
  refine s_arraylength (pc' := 5) (z := (4 : Int32)) A V5 (by show _ = ((4 : Nat) : Int); decide) d6_4 rfl ?_
  refine s_iconst (pc' := 6) (z := (1 : Int32)) A d6_5 rfl (by decide) ?_
  refine s_isub (pc' := 7) (z := (3 : Int32)) A d6_6 rfl (by decide) ?_
  refine s_istoreN (pc' := 8) (Ls' := #[rv a, jv 1, S2, iv 3]) A d6_7 rfl rfl ?_
  refine s_aloadN (pc' := 9) A d6_8 rfl rfl rfl ?_
  refine s_getfield (pc' := 12) (host := "") A (Or.inl (w11 hw)) Via.refl F2 d6_9 rfl fun T A => ?_
  refine s_lloadN (pc' := 13) A d6_12 rfl rfl ?_
  refine s_l2i (pc' := 14) (z := (1 : Int32)) A d6_13 rfl (by decide) ?_
  refine s_iloadN (pc' := 15) A d6_14 rfl rfl ?_
  refine s_iand (pc' := 16) (z := (1 : Int32)) A d6_15 rfl (by decide) ?_
  refine s_iconst (pc' := 17) (z := (0 : Int32)) A d6_16 rfl (by decide) ?_
  refine s_iastore (pc' := 18) (i := 1) A V5 (by decide) (Nat.le_of_ble_eq_true rfl) ge8 d6_17 rfl fun T h9 A W10 V11 => ?_
  have V11 : AA Z h9 r_ring .int [.int (0 : Int32), .int (0 : Int32), .int (0 : Int32), .int (0 : Int32)] := V11
  refine s_aloadN (pc' := 19) A d6_18 rfl rfl rfl ?_
  have F12 := (F3.other W10 (Or.inl ne6))
  refine s_getfield (pc' := 22) (host := "") A (Or.inl (w18 hw)) Via.refl F12 d6_19 rfl fun T A => ?_
  refine s_aloadN (pc' := 23) A d6_22 rfl rfl rfl ?_
  have F13 := (F4.other W10 (Or.inl ne6))
  refine s_getfield (pc' := 26) (host := "") A (Or.inl (w20 hw)) Via.refl F13 d6_23 rfl fun T A => ?_
  refine s_lcmp (pc' := 27) A d6_26 rfl ?_
  refine s_ifN (pc' := 30) A d6_27 rfl (by decide) ?_
  refine s_aloadN (pc' := 31) A d6_30 rfl rfl rfl ?_
  have F14 := (F2.other W10 (Or.inl ne6))
  refine s_getfield (pc' := 34) (host := "") A (Or.inl (w11 hw)) Via.refl F14 d6_31 rfl fun T A => ?_
  refine s_aloadN (pc' := 35) A d6_34 rfl rfl rfl ?_
  refine s_getfield (pc' := 38) (host := "") A (Or.inl (w18 hw)) Via.refl F12 d6_35 rfl fun T A => ?_
  refine s_l2i (pc' := 39) (z := (1 : Int32)) A d6_38 rfl (by decide) ?_
  refine s_iloadN (pc' := 40) A d6_39 rfl rfl ?_
  refine s_iand (pc' := 41) (z := (1 : Int32)) A d6_40 rfl (by decide) ?_
  refine s_iaload (pc' := 42) (i := 1) (v := (.int (0 : Int32))) A V11 (by decide) rfl d6_41 rfl ?_
  refine s_ifN (pc' := 45) A d6_42 rfl (by decide) ?_
  refine s_aloadN (pc' := 46) A d6_45 rfl rfl rfl ?_
  refine s_dup (pc' := 47) A d6_46 rfl rfl ?_
  refine s_getfield (pc' := 50) (host := "") A (Or.inl (w18 hw)) Via.refl F12 d6_47 rfl fun T A => ?_
  refine s_lconst (pc' := 51) (z := (1 : Int64)) A d6_50 rfl (by decide) ?_
  refine s_ladd (pc' := 52) (z := (2 : Int64)) A d6_51 rfl (by decide) ?_
  have E15 := (E1.wr W10)
  refine s_putfield (pc' := 55) (host := "") A (Or.inl (w18 hw)) Via.refl F12 E15 (Or.inl (w19 hw)) (w2 hw) (ty := .long) (by decide) rfl rfl ge7 d6_52 rfl fun T h16 A W17 => ?_
  have F18 := F12.same W17
  refine s_goto (pc' := 18) A d6_55 (by decide) (by decide) ?_
  refine s_aloadN (pc' := 19) A d6_18 rfl rfl rfl ?_
  refine s_getfield (pc' := 22) (host := "") A (Or.inl (w18 hw)) Via.refl F18 d6_19 rfl fun T A => ?_
  refine s_aloadN (pc' := 23) A d6_22 rfl rfl rfl ?_
  have F19 := (F13.other W17 (Or.inr (sn_BeginOrder_next_first hw)))
  refine s_getfield (pc' := 26) (host := "") A (Or.inl (w20 hw)) Via.refl F19 d6_23 rfl fun T A => ?_
  refine s_lcmp (pc' := 27) A d6_26 rfl ?_
  refine s_ifN (pc' := 30) A d6_27 rfl (by decide) ?_
  refine s_aloadN (pc' := 31) A d6_30 rfl rfl rfl ?_
  have F20 := (F14.other W17 (Or.inr (sn_BeginOrder_ring_first hw)))
  refine s_getfield (pc' := 34) (host := "") A (Or.inl (w11 hw)) Via.refl F20 d6_31 rfl fun T A => ?_
  refine s_aloadN (pc' := 35) A d6_34 rfl rfl rfl ?_
  refine s_getfield (pc' := 38) (host := "") A (Or.inl (w18 hw)) Via.refl F18 d6_35 rfl fun T A => ?_
  refine s_l2i (pc' := 39) (z := (2 : Int32)) A d6_38 rfl (by decide) ?_
  refine s_iloadN (pc' := 40) A d6_39 rfl rfl ?_
  refine s_iand (pc' := 41) (z := (2 : Int32)) A d6_40 rfl (by decide) ?_
  have V21 := (V11.other W17 (Ne.symm ne6))
  refine s_iaload (pc' := 42) (i := 2) (v := (.int (0 : Int32))) A V21 (by decide) rfl d6_41 rfl ?_
  refine s_ifN (pc' := 45) A d6_42 rfl (by decide) ?_
  refine s_aloadN (pc' := 46) A d6_45 rfl rfl rfl ?_
  refine s_dup (pc' := 47) A d6_46 rfl rfl ?_
  refine s_getfield (pc' := 50) (host := "") A (Or.inl (w18 hw)) Via.refl F18 d6_47 rfl fun T A => ?_
  refine s_lconst (pc' := 51) (z := (1 : Int64)) A d6_50 rfl (by decide) ?_
  refine s_ladd (pc' := 52) (z := (3 : Int64)) A d6_51 rfl (by decide) ?_
  have E22 := (E15.wr W17)
  refine s_putfield (pc' := 55) (host := "") A (Or.inl (w18 hw)) Via.refl F18 E22 (Or.inl (w19 hw)) (w2 hw) (ty := .long) (by decide) rfl rfl ge7 d6_52 rfl fun T h23 A W24 => ?_
  have F25 := F18.same W24
  refine s_goto (pc' := 18) A d6_55 (by decide) (by decide) ?_
  refine s_aloadN (pc' := 19) A d6_18 rfl rfl rfl ?_
  refine s_getfield (pc' := 22) (host := "") A (Or.inl (w18 hw)) Via.refl F25 d6_19 rfl fun T A => ?_
  refine s_aloadN (pc' := 23) A d6_22 rfl rfl rfl ?_
  have F26 := (F19.other W24 (Or.inr (sn_BeginOrder_next_first hw)))
  refine s_getfield (pc' := 26) (host := "") A (Or.inl (w20 hw)) Via.refl F26 d6_23 rfl fun T A => ?_
  refine s_lcmp (pc' := 27) A d6_26 rfl ?_
  refine s_ifN (pc' := 30) A d6_27 rfl (by decide) ?_
  refine s_aloadN (pc' := 31) A d6_30 rfl rfl rfl ?_
  have F27 := (F20.other W24 (Or.inr (sn_BeginOrder_ring_first hw)))
  refine s_getfield (pc' := 34) (host := "") A (Or.inl (w11 hw)) Via.refl F27 d6_31 rfl fun T A => ?_
  refine s_aloadN (pc' := 35) A d6_34 rfl rfl rfl ?_
  refine s_getfield (pc' := 38) (host := "") A (Or.inl (w18 hw)) Via.refl F25 d6_35 rfl fun T A => ?_
  refine s_l2i (pc' := 39) (z := (3 : Int32)) A d6_38 rfl (by decide) ?_
  refine s_iloadN (pc' := 40) A d6_39 rfl rfl ?_
  refine s_iand (pc' := 41) (z := (3 : Int32)) A d6_40 rfl (by decide) ?_
  have V28 := (V21.other W24 (Ne.symm ne6))
  refine s_iaload (pc' := 42) (i := 3) (v := (.int (0 : Int32))) A V28 (by decide) rfl d6_41 rfl ?_
  refine s_ifN (pc' := 45) A d6_42 rfl (by decide) ?_
  refine s_aloadN (pc' := 46) A d6_45 rfl rfl rfl ?_
  refine s_dup (pc' := 47) A d6_46 rfl rfl ?_
  refine s_getfield (pc' := 50) (host := "") A (Or.inl (w18 hw)) Via.refl F25 d6_47 rfl fun T A => ?_
  refine s_lconst (pc' := 51) (z := (1 : Int64)) A d6_50 rfl (by decide) ?_
  refine s_ladd (pc' := 52) (z := (4 : Int64)) A d6_51 rfl (by decide) ?_
  have E29 := (E22.wr W24)
  refine s_putfield (pc' := 55) (host := "") A (Or.inl (w18 hw)) Via.refl F25 E29 (Or.inl (w19 hw)) (w2 hw) (ty := .long) (by decide) rfl rfl ge7 d6_52 rfl fun T h30 A W31 => ?_
  have F32 := F25.same W31
  refine s_goto (pc' := 18) A d6_55 (by decide) (by decide) ?_
  refine s_aloadN (pc' := 19) A d6_18 rfl rfl rfl ?_
  refine s_getfield (pc' := 22) (host := "") A (Or.inl (w18 hw)) Via.refl F32 d6_19 rfl fun T A => ?_
  refine s_aloadN (pc' := 23) A d6_22 rfl rfl rfl ?_
  have F33 := (F26.other W31 (Or.inr (sn_BeginOrder_next_first hw)))
  refine s_getfield (pc' := 26) (host := "") A (Or.inl (w20 hw)) Via.refl F33 d6_23 rfl fun T A => ?_
  refine s_lcmp (pc' := 27) A d6_26 rfl ?_
  refine s_ifY (pc' := 58) A d6_27 (by decide) (by decide) (by decide) ?_
  have K34 := (((((Keep.refl h0 [a, r_ring]).wr W10 (Or.inl (List.mem_of_getElem? (i := 1) rfl))).wr W17 (Or.inl (List.mem_of_getElem? (i := 0) rfl))).wr W24 (Or.inl (List.mem_of_getElem? (i := 0) rfl))).wr W31 (Or.inl (List.mem_of_getElem? (i := 0) rfl)))
  have E35 := (E29.wr W31)
  have F36 := (F27.other W31 (Or.inr (sn_BeginOrder_ring_first hw)))
  have V37 := (V28.other W31 (Ne.symm ne6))
  exact r_void A rfl d6_58 (by decide) (by decide) (⟨rfl, K34, ⟨E35, F36, F32, F33, V37, ne6, ge7, ge8⟩⟩)
set_option maxRecDepth 65536 in
set_option maxHeartbeats 40000000 in
theorem bo_remove49 (l : Launch) (Z : State) (a0 : Array Value) (hw : ∀ d ∈ tables_1, d.before a0 Z = true) (n0 : Nat) (h0 : Heap) (Z0 : n0 ≤ h0.size) (a r_ring : Addr) (x0 : Int32) (H : BO Z n0 h0 a r_ring (1 : Int64) (2 : Int64) [.int (0 : Int32), .int x0, .int (0 : Int32), .int (0 : Int32)]) (nz1 : ¬ x0 = (0 : Int32)) :
    Met l Z n0 y6_remove prog_63_method_3_code 4 (Option.none : Option Jvm.ClassFile.FieldType) ({ frames := 0, cells := 0, slots := 0, locals := 0 } : Room) #[(.ref a), (.long (1 : Int64))] h0 (fun v h => v = none ∧ Keep h0 h [a, r_ring] ∧ BO Z n0 h a r_ring (2 : Int64) (2 : Int64) [.int (0 : Int32), .int (0 : Int32), .int (0 : Int32), .int (0 : Int32)]) := by
  refine met_intro (own := c1_BeginOrder) (plainFor_of_name pn_com_example_wirefram_wirefram_sequence_BeginOrder) rfl Z0 ?_
  intro p e s m below meth c T A hnm
  refine Wp.cast (g' := mkF m 0 #[rv a, jv 1, S2, U0] []) (by first | (simp [entryFrame, mkF, argsToLocals, Value.category, maxLocals, jv, S2, U0, iv, rv]; done) | rfl) ?_
  obtain ⟨E1, F2, F3, F4, V5, ne6, ge7, ge8⟩ := H
  refine s_aloadN (pc' := 1) A d6_0 rfl rfl rfl ?_
  refine s_getfield (pc' := 4) (host := "") A (Or.inl (w11 hw)) Via.refl F2 d6_1 rfl fun T A => ?_
  refine s_arraylength (pc' := 5) (z := (4 : Int32)) A V5 (by show _ = ((4 : Nat) : Int); decide) d6_4 rfl ?_
  refine s_iconst (pc' := 6) (z := (1 : Int32)) A d6_5 rfl (by decide) ?_
  refine s_isub (pc' := 7) (z := (3 : Int32)) A d6_6 rfl (by decide) ?_
  refine s_istoreN (pc' := 8) (Ls' := #[rv a, jv 1, S2, iv 3]) A d6_7 rfl rfl ?_
  refine s_aloadN (pc' := 9) A d6_8 rfl rfl rfl ?_
  refine s_getfield (pc' := 12) (host := "") A (Or.inl (w11 hw)) Via.refl F2 d6_9 rfl fun T A => ?_
  refine s_lloadN (pc' := 13) A d6_12 rfl rfl ?_
  refine s_l2i (pc' := 14) (z := (1 : Int32)) A d6_13 rfl (by decide) ?_
  refine s_iloadN (pc' := 15) A d6_14 rfl rfl ?_
  refine s_iand (pc' := 16) (z := (1 : Int32)) A d6_15 rfl (by decide) ?_
  refine s_iconst (pc' := 17) (z := (0 : Int32)) A d6_16 rfl (by decide) ?_
  refine s_iastore (pc' := 18) (i := 1) A V5 (by decide) (Nat.le_of_ble_eq_true rfl) ge8 d6_17 rfl fun T h9 A W10 V11 => ?_
  have V11 : AA Z h9 r_ring .int [.int (0 : Int32), .int (0 : Int32), .int (0 : Int32), .int (0 : Int32)] := V11
  refine s_aloadN (pc' := 19) A d6_18 rfl rfl rfl ?_
  have F12 := (F3.other W10 (Or.inl ne6))
  refine s_getfield (pc' := 22) (host := "") A (Or.inl (w18 hw)) Via.refl F12 d6_19 rfl fun T A => ?_
  refine s_aloadN (pc' := 23) A d6_22 rfl rfl rfl ?_
  have F13 := (F4.other W10 (Or.inl ne6))
  refine s_getfield (pc' := 26) (host := "") A (Or.inl (w20 hw)) Via.refl F13 d6_23 rfl fun T A => ?_
  refine s_lcmp (pc' := 27) A d6_26 rfl ?_
  refine s_ifN (pc' := 30) A d6_27 rfl (by decide) ?_
  refine s_aloadN (pc' := 31) A d6_30 rfl rfl rfl ?_
  have F14 := (F2.other W10 (Or.inl ne6))
  refine s_getfield (pc' := 34) (host := "") A (Or.inl (w11 hw)) Via.refl F14 d6_31 rfl fun T A => ?_
  refine s_aloadN (pc' := 35) A d6_34 rfl rfl rfl ?_
  refine s_getfield (pc' := 38) (host := "") A (Or.inl (w18 hw)) Via.refl F12 d6_35 rfl fun T A => ?_
  refine s_l2i (pc' := 39) (z := (1 : Int32)) A d6_38 rfl (by decide) ?_
  refine s_iloadN (pc' := 40) A d6_39 rfl rfl ?_
  refine s_iand (pc' := 41) (z := (1 : Int32)) A d6_40 rfl (by decide) ?_
  refine s_iaload (pc' := 42) (i := 1) (v := (.int (0 : Int32))) A V11 (by decide) rfl d6_41 rfl ?_
  refine s_ifN (pc' := 45) A d6_42 rfl (by decide) ?_
  refine s_aloadN (pc' := 46) A d6_45 rfl rfl rfl ?_
  refine s_dup (pc' := 47) A d6_46 rfl rfl ?_
  refine s_getfield (pc' := 50) (host := "") A (Or.inl (w18 hw)) Via.refl F12 d6_47 rfl fun T A => ?_
  refine s_lconst (pc' := 51) (z := (1 : Int64)) A d6_50 rfl (by decide) ?_
  refine s_ladd (pc' := 52) (z := (2 : Int64)) A d6_51 rfl (by decide) ?_
  have E15 := (E1.wr W10)
  refine s_putfield (pc' := 55) (host := "") A (Or.inl (w18 hw)) Via.refl F12 E15 (Or.inl (w19 hw)) (w2 hw) (ty := .long) (by decide) rfl rfl ge7 d6_52 rfl fun T h16 A W17 => ?_
  have F18 := F12.same W17
  refine s_goto (pc' := 18) A d6_55 (by decide) (by decide) ?_
  refine s_aloadN (pc' := 19) A d6_18 rfl rfl rfl ?_
  refine s_getfield (pc' := 22) (host := "") A (Or.inl (w18 hw)) Via.refl F18 d6_19 rfl fun T A => ?_
  refine s_aloadN (pc' := 23) A d6_22 rfl rfl rfl ?_
  have F19 := (F13.other W17 (Or.inr (sn_BeginOrder_next_first hw)))
  refine s_getfield (pc' := 26) (host := "") A (Or.inl (w20 hw)) Via.refl F19 d6_23 rfl fun T A => ?_
  refine s_lcmp (pc' := 27) A d6_26 rfl ?_
  refine s_ifY (pc' := 58) A d6_27 (by decide) (by decide) (by decide) ?_
  have K20 := (((Keep.refl h0 [a, r_ring]).wr W10 (Or.inl (List.mem_of_getElem? (i := 1) rfl))).wr W17 (Or.inl (List.mem_of_getElem? (i := 0) rfl)))
  have E21 := (E15.wr W17)
  have F22 := (F14.other W17 (Or.inr (sn_BeginOrder_ring_first hw)))
  have V23 := (V11.other W17 (Ne.symm ne6))
  exact r_void A rfl d6_58 (by decide) (by decide) (⟨rfl, K20, ⟨E21, F22, F18, F19, V23, ne6, ge7, ge8⟩⟩)
set_option maxRecDepth 65536 in
set_option maxHeartbeats 40000000 in
theorem bo_isEmpty50 (l : Launch) (Z : State) (a0 : Array Value) (hw : ∀ d ∈ tables_1, d.before a0 Z = true) (n0 : Nat) (h0 : Heap) (Z0 : n0 ≤ h0.size) (a r_ring : Addr)  (l_ring : List Value) (H : BO Z n0 h0 a r_ring (2 : Int64) (2 : Int64) l_ring) :
    Met l Z n0 y3_isEmpty prog_63_method_4_code 1 (Option.some Jvm.ClassFile.FieldType.boolean) ({ frames := 0, cells := 0, slots := 0, locals := 0 } : Room) #[(.ref a)] h0 (fun v h => v = some (.int (1 : Int32)) ∧ Keep h0 h [a, r_ring] ∧ BO Z n0 h a r_ring (2 : Int64) (2 : Int64) l_ring) := by
  refine met_intro (own := c1_BeginOrder) (plainFor_of_name pn_com_example_wirefram_wirefram_sequence_BeginOrder) rfl Z0 ?_
  intro p e s m below meth c T A hnm
  refine Wp.cast (g' := mkF m 0 #[rv a] []) (by first | (simp [entryFrame, mkF, argsToLocals, Value.category, maxLocals, jv, S2, U0, iv, rv]; done) | rfl) ?_
  obtain ⟨E1, F2, F3, F4, V5, ne6, ge7, ge8⟩ := H
  refine s_aloadN (pc' := 1) A d3_0 rfl rfl rfl ?_
  refine s_getfield (pc' := 4) (host := "") A (Or.inl (w18 hw)) Via.refl F3 d3_1 rfl fun T A => ?_
  refine s_aloadN (pc' := 5) A d3_4 rfl rfl rfl ?_
  refine s_getfield (pc' := 8) (host := "") A (Or.inl (w20 hw)) Via.refl F4 d3_5 rfl fun T A => ?_
  refine s_lcmp (pc' := 9) A d3_8 rfl ?_
  refine s_ifN (pc' := 12) A d3_9 rfl (by decide) ?_
  refine s_iconst (pc' := 13) (z := (1 : Int32)) A d3_12 rfl (by decide) ?_
  refine s_goto (pc' := 17) A d3_13 (by decide) (by decide) ?_
  exact r_bool A rfl (by decide) d3_17 (by decide) (by decide) (⟨rfl, (Keep.refl h0 [a, r_ring]), ⟨E1, F2, F3, F4, V5, ne6, ge7, ge8⟩⟩)
set_option maxRecDepth 65536 in
set_option maxHeartbeats 40000000 in
theorem bo_add51 (l : Launch) (Z : State) (a0 : Array Value) (hw : ∀ d ∈ tables_1, d.before a0 Z = true) (n0 : Nat) (h0 : Heap) (Z0 : n0 ≤ h0.size) (a r_ring : Addr) (x0 : Int32) (x1 : Int32) (x2 : Int32) (x3 : Int32) (x4 : Int32) (H : BO Z n0 h0 a r_ring (2 : Int64) (2 : Int64) [.int x0, .int x1, .int x2, .int x3]) :
    Met l Z n0 y4_add prog_63_method_2_code 2 (Option.some Jvm.ClassFile.FieldType.long) ({ frames := 0, cells := 0, slots := 0, locals := 0 } : Room) #[(.ref a), (.int x4)] h0 (fun v h => v = some (.long (2 : Int64)) ∧ Keep h0 h [a, r_ring] ∧ BO Z n0 h a r_ring (2 : Int64) (3 : Int64) [.int x0, .int x1, .int (x4 + (1 : Int32)), .int x3]) := by
  refine met_intro (own := c1_BeginOrder) (plainFor_of_name pn_com_example_wirefram_wirefram_sequence_BeginOrder) rfl Z0 ?_
  intro p e s m below meth c T A hnm
  refine Wp.cast (g' := mkF m 0 #[rv a, iv x4] []) (by first | (simp [entryFrame, mkF, argsToLocals, Value.category, maxLocals, jv, S2, U0, iv, rv]; done) | rfl) ?_
  obtain ⟨E1, F2, F3, F4, V5, ne6, ge7, ge8⟩ := H
  refine s_aloadN (pc' := 1) A d4_0 rfl rfl rfl ?_
  refine s_getfield (pc' := 4) (host := "") A (Or.inl (w20 hw)) Via.refl F4 d4_1 rfl fun T A => ?_
  refine s_aloadN (pc' := 5) A d4_4 rfl rfl rfl ?_
  refine s_getfield (pc' := 8) (host := "") A (Or.inl (w18 hw)) Via.refl F3 d4_5 rfl fun T A => ?_
  refine s_lsub (pc' := 9) (z := (0 : Int64)) A d4_8 rfl (by decide) ?_
  refine s_aloadN (pc' := 10) A d4_9 rfl rfl rfl ?_
  refine s_getfield (pc' := 13) (host := "") A (Or.inl (w11 hw)) Via.refl F2 d4_10 rfl fun T A => ?_
  refine s_arraylength (pc' := 14) (z := (4 : Int32)) A V5 (by show _ = ((4 : Nat) : Int); decide) d4_13 rfl ?_
  refine s_i2l (pc' := 15) (z := (4 : Int64)) A d4_14 rfl (by decide) ?_
  refine s_lcmp (pc' := 16) A d4_15 rfl ?_
  refine s_ifY (pc' := 23) A d4_16 (by decide) (by decide) (by decide) ?_
  refine s_aloadN (pc' := 24) A d4_23 rfl rfl rfl ?_
  refine s_getfield (pc' := 27) (host := "") A (Or.inl (w11 hw)) Via.refl F2 d4_24 rfl fun T A => ?_
  refine s_aloadN (pc' := 28) A d4_27 rfl rfl rfl ?_
  refine s_getfield (pc' := 31) (host := "") A (Or.inl (w20 hw)) Via.refl F4 d4_28 rfl fun T A => ?_
  refine s_l2i (pc' := 32) (z := (2 : Int32)) A d4_31 rfl (by decide) ?_
  refine s_aloadN (pc' := 33) A d4_32 rfl rfl rfl ?_
  refine s_getfield (pc' := 36) (host := "") A (Or.inl (w11 hw)) Via.refl F2 d4_33 rfl fun T A => ?_
  refine s_arraylength (pc' := 37) (z := (4 : Int32)) A V5 (by show _ = ((4 : Nat) : Int); decide) d4_36 rfl ?_
  refine s_iconst (pc' := 38) (z := (1 : Int32)) A d4_37 rfl (by decide) ?_
  refine s_isub (pc' := 39) (z := (3 : Int32)) A d4_38 rfl (by decide) ?_
  refine s_iand (pc' := 40) (z := (2 : Int32)) A d4_39 rfl (by decide) ?_
  refine s_iloadN (pc' := 41) A d4_40 rfl rfl ?_
  refine s_iconst (pc' := 42) (z := (1 : Int32)) A d4_41 rfl (by decide) ?_
  refine s_iadd (pc' := 43) (z := (x4 + (1 : Int32))) A d4_42 rfl rfl ?_
  refine s_iastore (pc' := 44) (i := 2) A V5 (by decide) (Nat.le_of_ble_eq_true rfl) ge8 d4_43 rfl fun T h9 A W10 V11 => ?_
  have V11 : AA Z h9 r_ring .int [.int x0, .int x1, .int (x4 + (1 : Int32)), .int x3] := V11
  refine s_aloadN (pc' := 45) A d4_44 rfl rfl rfl ?_
  refine s_dup (pc' := 46) A d4_45 rfl rfl ?_
  have F12 := (F4.other W10 (Or.inl ne6))
  refine s_getfield (pc' := 49) (host := "") A (Or.inl (w20 hw)) Via.refl F12 d4_46 rfl fun T A => ?_
  refine s_dup2X1L (pc' := 50) A d4_49 rfl rfl ?_
  refine s_lconst (pc' := 51) (z := (1 : Int64)) A d4_50 rfl (by decide) ?_
  refine s_ladd (pc' := 52) (z := (3 : Int64)) A d4_51 rfl (by decide) ?_
  have E13 := (E1.wr W10)
  refine s_putfield (pc' := 55) (host := "") A (Or.inl (w20 hw)) Via.refl F12 E13 (Or.inl (w21 hw)) (w2 hw) (ty := .long) (by decide) rfl rfl ge7 d4_52 rfl fun T h14 A W15 => ?_
  have F16 := F12.same W15
  have K17 := (((Keep.refl h0 [a, r_ring]).wr W10 (Or.inl (List.mem_of_getElem? (i := 1) rfl))).wr W15 (Or.inl (List.mem_of_getElem? (i := 0) rfl)))
  have E18 := (E13.wr W15)
  have F19 := ((F2.other W10 (Or.inl ne6)).other W15 (Or.inr (sn_BeginOrder_ring_next hw)))
  have F20 := ((F3.other W10 (Or.inl ne6)).other W15 (Or.inr (sn_BeginOrder_first_next hw)))
  have V21 := (V11.other W15 (Ne.symm ne6))
  exact r_long A rfl d4_55 (by decide) (by decide) (⟨rfl, K17, ⟨E18, F19, F20, F16, V21, ne6, ge7, ge8⟩⟩)
set_option maxRecDepth 65536 in
set_option maxHeartbeats 40000000 in
theorem bo_add52 (l : Launch) (Z : State) (a0 : Array Value) (hw : ∀ d ∈ tables_1, d.before a0 Z = true) (n0 : Nat) (h0 : Heap) (Z0 : n0 ≤ h0.size) (a r_ring : Addr) (x0 : Int32) (x1 : Int32) (x2 : Int32) (x3 : Int32) (x4 : Int32) (H : BO Z n0 h0 a r_ring (2 : Int64) (3 : Int64) [.int x0, .int x1, .int x2, .int x3]) :
    Met l Z n0 y4_add prog_63_method_2_code 2 (Option.some Jvm.ClassFile.FieldType.long) ({ frames := 0, cells := 0, slots := 0, locals := 0 } : Room) #[(.ref a), (.int x4)] h0 (fun v h => v = some (.long (3 : Int64)) ∧ Keep h0 h [a, r_ring] ∧ BO Z n0 h a r_ring (2 : Int64) (4 : Int64) [.int x0, .int x1, .int x2, .int (x4 + (1 : Int32))]) := by
  refine met_intro (own := c1_BeginOrder) (plainFor_of_name pn_com_example_wirefram_wirefram_sequence_BeginOrder) rfl Z0 ?_
  intro p e s m below meth c T A hnm
  refine Wp.cast (g' := mkF m 0 #[rv a, iv x4] []) (by first | (simp [entryFrame, mkF, argsToLocals, Value.category, maxLocals, jv, S2, U0, iv, rv]; done) | rfl) ?_
  obtain ⟨E1, F2, F3, F4, V5, ne6, ge7, ge8⟩ := H
  refine s_aloadN (pc' := 1) A d4_0 rfl rfl rfl ?_
  refine s_getfield (pc' := 4) (host := "") A (Or.inl (w20 hw)) Via.refl F4 d4_1 rfl fun T A => ?_
  refine s_aloadN (pc' := 5) A d4_4 rfl rfl rfl ?_
  refine s_getfield (pc' := 8) (host := "") A (Or.inl (w18 hw)) Via.refl F3 d4_5 rfl fun T A => ?_
  refine s_lsub (pc' := 9) (z := (1 : Int64)) A d4_8 rfl (by decide) ?_
  refine s_aloadN (pc' := 10) A d4_9 rfl rfl rfl ?_
  refine s_getfield (pc' := 13) (host := "") A (Or.inl (w11 hw)) Via.refl F2 d4_10 rfl fun T A => ?_
  refine s_arraylength (pc' := 14) (z := (4 : Int32)) A V5 (by show _ = ((4 : Nat) : Int); decide) d4_13 rfl ?_
  refine s_i2l (pc' := 15) (z := (4 : Int64)) A d4_14 rfl (by decide) ?_
  refine s_lcmp (pc' := 16) A d4_15 rfl ?_
  refine s_ifY (pc' := 23) A d4_16 (by decide) (by decide) (by decide) ?_
  refine s_aloadN (pc' := 24) A d4_23 rfl rfl rfl ?_
  refine s_getfield (pc' := 27) (host := "") A (Or.inl (w11 hw)) Via.refl F2 d4_24 rfl fun T A => ?_
  refine s_aloadN (pc' := 28) A d4_27 rfl rfl rfl ?_
  refine s_getfield (pc' := 31) (host := "") A (Or.inl (w20 hw)) Via.refl F4 d4_28 rfl fun T A => ?_
  refine s_l2i (pc' := 32) (z := (3 : Int32)) A d4_31 rfl (by decide) ?_
  refine s_aloadN (pc' := 33) A d4_32 rfl rfl rfl ?_
  refine s_getfield (pc' := 36) (host := "") A (Or.inl (w11 hw)) Via.refl F2 d4_33 rfl fun T A => ?_
  refine s_arraylength (pc' := 37) (z := (4 : Int32)) A V5 (by show _ = ((4 : Nat) : Int); decide) d4_36 rfl ?_
  refine s_iconst (pc' := 38) (z := (1 : Int32)) A d4_37 rfl (by decide) ?_
  refine s_isub (pc' := 39) (z := (3 : Int32)) A d4_38 rfl (by decide) ?_
  refine s_iand (pc' := 40) (z := (3 : Int32)) A d4_39 rfl (by decide) ?_
  refine s_iloadN (pc' := 41) A d4_40 rfl rfl ?_
  refine s_iconst (pc' := 42) (z := (1 : Int32)) A d4_41 rfl (by decide) ?_
  refine s_iadd (pc' := 43) (z := (x4 + (1 : Int32))) A d4_42 rfl rfl ?_
  refine s_iastore (pc' := 44) (i := 3) A V5 (by decide) (Nat.le_of_ble_eq_true rfl) ge8 d4_43 rfl fun T h9 A W10 V11 => ?_
  have V11 : AA Z h9 r_ring .int [.int x0, .int x1, .int x2, .int (x4 + (1 : Int32))] := V11
  refine s_aloadN (pc' := 45) A d4_44 rfl rfl rfl ?_
  refine s_dup (pc' := 46) A d4_45 rfl rfl ?_
  have F12 := (F4.other W10 (Or.inl ne6))
  refine s_getfield (pc' := 49) (host := "") A (Or.inl (w20 hw)) Via.refl F12 d4_46 rfl fun T A => ?_
  refine s_dup2X1L (pc' := 50) A d4_49 rfl rfl ?_
  refine s_lconst (pc' := 51) (z := (1 : Int64)) A d4_50 rfl (by decide) ?_
  refine s_ladd (pc' := 52) (z := (4 : Int64)) A d4_51 rfl (by decide) ?_
  have E13 := (E1.wr W10)
  refine s_putfield (pc' := 55) (host := "") A (Or.inl (w20 hw)) Via.refl F12 E13 (Or.inl (w21 hw)) (w2 hw) (ty := .long) (by decide) rfl rfl ge7 d4_52 rfl fun T h14 A W15 => ?_
  have F16 := F12.same W15
  have K17 := (((Keep.refl h0 [a, r_ring]).wr W10 (Or.inl (List.mem_of_getElem? (i := 1) rfl))).wr W15 (Or.inl (List.mem_of_getElem? (i := 0) rfl)))
  have E18 := (E13.wr W15)
  have F19 := ((F2.other W10 (Or.inl ne6)).other W15 (Or.inr (sn_BeginOrder_ring_next hw)))
  have F20 := ((F3.other W10 (Or.inl ne6)).other W15 (Or.inr (sn_BeginOrder_first_next hw)))
  have V21 := (V11.other W15 (Ne.symm ne6))
  exact r_long A rfl d4_55 (by decide) (by decide) (⟨rfl, K17, ⟨E18, F19, F20, F16, V21, ne6, ge7, ge8⟩⟩)
set_option maxRecDepth 65536 in
set_option maxHeartbeats 40000000 in
theorem bo_add53 (l : Launch) (Z : State) (a0 : Array Value) (hw : ∀ d ∈ tables_1, d.before a0 Z = true) (n0 : Nat) (h0 : Heap) (Z0 : n0 ≤ h0.size) (a r_ring : Addr) (x0 : Int32) (x1 : Int32) (x2 : Int32) (x3 : Int32) (x4 : Int32) (H : BO Z n0 h0 a r_ring (2 : Int64) (4 : Int64) [.int x0, .int x1, .int x2, .int x3]) :
    Met l Z n0 y4_add prog_63_method_2_code 2 (Option.some Jvm.ClassFile.FieldType.long) ({ frames := 0, cells := 0, slots := 0, locals := 0 } : Room) #[(.ref a), (.int x4)] h0 (fun v h => v = some (.long (4 : Int64)) ∧ Keep h0 h [a, r_ring] ∧ BO Z n0 h a r_ring (2 : Int64) (5 : Int64) [.int (x4 + (1 : Int32)), .int x1, .int x2, .int x3]) := by
  refine met_intro (own := c1_BeginOrder) (plainFor_of_name pn_com_example_wirefram_wirefram_sequence_BeginOrder) rfl Z0 ?_
  intro p e s m below meth c T A hnm
  refine Wp.cast (g' := mkF m 0 #[rv a, iv x4] []) (by first | (simp [entryFrame, mkF, argsToLocals, Value.category, maxLocals, jv, S2, U0, iv, rv]; done) | rfl) ?_
  obtain ⟨E1, F2, F3, F4, V5, ne6, ge7, ge8⟩ := H
  refine s_aloadN (pc' := 1) A d4_0 rfl rfl rfl ?_
  refine s_getfield (pc' := 4) (host := "") A (Or.inl (w20 hw)) Via.refl F4 d4_1 rfl fun T A => ?_
  refine s_aloadN (pc' := 5) A d4_4 rfl rfl rfl ?_
  refine s_getfield (pc' := 8) (host := "") A (Or.inl (w18 hw)) Via.refl F3 d4_5 rfl fun T A => ?_
  refine s_lsub (pc' := 9) (z := (2 : Int64)) A d4_8 rfl (by decide) ?_
  refine s_aloadN (pc' := 10) A d4_9 rfl rfl rfl ?_
  refine s_getfield (pc' := 13) (host := "") A (Or.inl (w11 hw)) Via.refl F2 d4_10 rfl fun T A => ?_
  refine s_arraylength (pc' := 14) (z := (4 : Int32)) A V5 (by show _ = ((4 : Nat) : Int); decide) d4_13 rfl ?_
  refine s_i2l (pc' := 15) (z := (4 : Int64)) A d4_14 rfl (by decide) ?_
  refine s_lcmp (pc' := 16) A d4_15 rfl ?_
  refine s_ifY (pc' := 23) A d4_16 (by decide) (by decide) (by decide) ?_
  refine s_aloadN (pc' := 24) A d4_23 rfl rfl rfl ?_
  refine s_getfield (pc' := 27) (host := "") A (Or.inl (w11 hw)) Via.refl F2 d4_24 rfl fun T A => ?_
  refine s_aloadN (pc' := 28) A d4_27 rfl rfl rfl ?_
  refine s_getfield (pc' := 31) (host := "") A (Or.inl (w20 hw)) Via.refl F4 d4_28 rfl fun T A => ?_
  refine s_l2i (pc' := 32) (z := (4 : Int32)) A d4_31 rfl (by decide) ?_
  refine s_aloadN (pc' := 33) A d4_32 rfl rfl rfl ?_
  refine s_getfield (pc' := 36) (host := "") A (Or.inl (w11 hw)) Via.refl F2 d4_33 rfl fun T A => ?_
  refine s_arraylength (pc' := 37) (z := (4 : Int32)) A V5 (by show _ = ((4 : Nat) : Int); decide) d4_36 rfl ?_
  refine s_iconst (pc' := 38) (z := (1 : Int32)) A d4_37 rfl (by decide) ?_
  refine s_isub (pc' := 39) (z := (3 : Int32)) A d4_38 rfl (by decide) ?_
  refine s_iand (pc' := 40) (z := (0 : Int32)) A d4_39 rfl (by decide) ?_
  refine s_iloadN (pc' := 41) A d4_40 rfl rfl ?_
  refine s_iconst (pc' := 42) (z := (1 : Int32)) A d4_41 rfl (by decide) ?_
  refine s_iadd (pc' := 43) (z := (x4 + (1 : Int32))) A d4_42 rfl rfl ?_
  refine s_iastore (pc' := 44) (i := 0) A V5 (by decide) (Nat.le_of_ble_eq_true rfl) ge8 d4_43 rfl fun T h9 A W10 V11 => ?_
  have V11 : AA Z h9 r_ring .int [.int (x4 + (1 : Int32)), .int x1, .int x2, .int x3] := V11
  refine s_aloadN (pc' := 45) A d4_44 rfl rfl rfl ?_
  refine s_dup (pc' := 46) A d4_45 rfl rfl ?_
  have F12 := (F4.other W10 (Or.inl ne6))
  refine s_getfield (pc' := 49) (host := "") A (Or.inl (w20 hw)) Via.refl F12 d4_46 rfl fun T A => ?_
  refine s_dup2X1L (pc' := 50) A d4_49 rfl rfl ?_
  refine s_lconst (pc' := 51) (z := (1 : Int64)) A d4_50 rfl (by decide) ?_
  refine s_ladd (pc' := 52) (z := (5 : Int64)) A d4_51 rfl (by decide) ?_
  have E13 := (E1.wr W10)
  refine s_putfield (pc' := 55) (host := "") A (Or.inl (w20 hw)) Via.refl F12 E13 (Or.inl (w21 hw)) (w2 hw) (ty := .long) (by decide) rfl rfl ge7 d4_52 rfl fun T h14 A W15 => ?_
  have F16 := F12.same W15
  have K17 := (((Keep.refl h0 [a, r_ring]).wr W10 (Or.inl (List.mem_of_getElem? (i := 1) rfl))).wr W15 (Or.inl (List.mem_of_getElem? (i := 0) rfl)))
  have E18 := (E13.wr W15)
  have F19 := ((F2.other W10 (Or.inl ne6)).other W15 (Or.inr (sn_BeginOrder_ring_next hw)))
  have F20 := ((F3.other W10 (Or.inl ne6)).other W15 (Or.inr (sn_BeginOrder_first_next hw)))
  have V21 := (V11.other W15 (Ne.symm ne6))
  exact r_long A rfl d4_55 (by decide) (by decide) (⟨rfl, K17, ⟨E18, F19, F20, F16, V21, ne6, ge7, ge8⟩⟩)
set_option maxRecDepth 65536 in
set_option maxHeartbeats 40000000 in
theorem bo_isEmpty54 (l : Launch) (Z : State) (a0 : Array Value) (hw : ∀ d ∈ tables_1, d.before a0 Z = true) (n0 : Nat) (h0 : Heap) (Z0 : n0 ≤ h0.size) (a r_ring : Addr)  (l_ring : List Value) (H : BO Z n0 h0 a r_ring (2 : Int64) (5 : Int64) l_ring) :
    Met l Z n0 y3_isEmpty prog_63_method_4_code 1 (Option.some Jvm.ClassFile.FieldType.boolean) ({ frames := 0, cells := 0, slots := 0, locals := 0 } : Room) #[(.ref a)] h0 (fun v h => v = some (.int (0 : Int32)) ∧ Keep h0 h [a, r_ring] ∧ BO Z n0 h a r_ring (2 : Int64) (5 : Int64) l_ring) := by
  refine met_intro (own := c1_BeginOrder) (plainFor_of_name pn_com_example_wirefram_wirefram_sequence_BeginOrder) rfl Z0 ?_
  intro p e s m below meth c T A hnm
  refine Wp.cast (g' := mkF m 0 #[rv a] []) (by first | (simp [entryFrame, mkF, argsToLocals, Value.category, maxLocals, jv, S2, U0, iv, rv]; done) | rfl) ?_
  obtain ⟨E1, F2, F3, F4, V5, ne6, ge7, ge8⟩ := H
  refine s_aloadN (pc' := 1) A d3_0 rfl rfl rfl ?_
  refine s_getfield (pc' := 4) (host := "") A (Or.inl (w18 hw)) Via.refl F3 d3_1 rfl fun T A => ?_
  refine s_aloadN (pc' := 5) A d3_4 rfl rfl rfl ?_
  refine s_getfield (pc' := 8) (host := "") A (Or.inl (w20 hw)) Via.refl F4 d3_5 rfl fun T A => ?_
  refine s_lcmp (pc' := 9) A d3_8 rfl ?_
  refine s_ifY (pc' := 16) A d3_9 (by decide) (by decide) (by decide) ?_
  refine s_iconst (pc' := 17) (z := (0 : Int32)) A d3_16 rfl (by decide) ?_
  exact r_bool A rfl (by decide) d3_17 (by decide) (by decide) (⟨rfl, (Keep.refl h0 [a, r_ring]), ⟨E1, F2, F3, F4, V5, ne6, ge7, ge8⟩⟩)
set_option maxRecDepth 65536 in
set_option maxHeartbeats 40000000 in
theorem bo_first55 (l : Launch) (Z : State) (a0 : Array Value) (hw : ∀ d ∈ tables_1, d.before a0 Z = true) (n0 : Nat) (h0 : Heap) (Z0 : n0 ≤ h0.size) (a r_ring : Addr) (x0 : Int32) (x1 : Int32) (x2 : Int32) (x3 : Int32) (H : BO Z n0 h0 a r_ring (2 : Int64) (5 : Int64) [.int x0, .int x1, .int x2, .int x3]) :
    Met l Z n0 y5_first prog_63_method_5_code 1 (Option.some Jvm.ClassFile.FieldType.int) ({ frames := 0, cells := 0, slots := 0, locals := 0 } : Room) #[(.ref a)] h0 (fun v h => v = some (.int (x2 - (1 : Int32))) ∧ Keep h0 h [a, r_ring] ∧ BO Z n0 h a r_ring (2 : Int64) (5 : Int64) [.int x0, .int x1, .int x2, .int x3]) := by
  refine met_intro (own := c1_BeginOrder) (plainFor_of_name pn_com_example_wirefram_wirefram_sequence_BeginOrder) rfl Z0 ?_
  intro p e s m below meth c T A hnm
  refine Wp.cast (g' := mkF m 0 #[rv a] []) (by first | (simp [entryFrame, mkF, argsToLocals, Value.category, maxLocals, jv, S2, U0, iv, rv]; done) | rfl) ?_
  obtain ⟨E1, F2, F3, F4, V5, ne6, ge7, ge8⟩ := H
  refine s_aloadN (pc' := 1) A d8_0 rfl rfl rfl ?_
  refine s_getfield (pc' := 4) (host := "") A (Or.inl (w11 hw)) Via.refl F2 d8_1 rfl fun T A => ?_
  refine s_aloadN (pc' := 5) A d8_4 rfl rfl rfl ?_
  refine s_getfield (pc' := 8) (host := "") A (Or.inl (w18 hw)) Via.refl F3 d8_5 rfl fun T A => ?_
  refine s_l2i (pc' := 9) (z := (2 : Int32)) A d8_8 rfl (by decide) ?_
  refine s_aloadN (pc' := 10) A d8_9 rfl rfl rfl ?_
  refine s_getfield (pc' := 13) (host := "") A (Or.inl (w11 hw)) Via.refl F2 d8_10 rfl fun T A => ?_
  refine s_arraylength (pc' := 14) (z := (4 : Int32)) A V5 (by show _ = ((4 : Nat) : Int); decide) d8_13 rfl ?_
  refine s_iconst (pc' := 15) (z := (1 : Int32)) A d8_14 rfl (by decide) ?_
  refine s_isub (pc' := 16) (z := (3 : Int32)) A d8_15 rfl (by decide) ?_
  refine s_iand (pc' := 17) (z := (2 : Int32)) A d8_16 rfl (by decide) ?_
  refine s_iaload (pc' := 18) (i := 2) (v := (.int x2)) A V5 (by decide) rfl d8_17 rfl ?_
  refine s_iconst (pc' := 19) (z := (1 : Int32)) A d8_18 rfl (by decide) ?_
  refine s_isub (pc' := 20) (z := (x2 - (1 : Int32))) A d8_19 rfl rfl ?_
  exact r_int A rfl d8_20 (by decide) (by decide) (⟨rfl, (Keep.refl h0 [a, r_ring]), ⟨E1, F2, F3, F4, V5, ne6, ge7, ge8⟩⟩)
set_option maxRecDepth 65536 in
set_option maxHeartbeats 40000000 in
theorem bo_remove56 (l : Launch) (Z : State) (a0 : Array Value) (hw : ∀ d ∈ tables_1, d.before a0 Z = true) (n0 : Nat) (h0 : Heap) (Z0 : n0 ≤ h0.size) (a r_ring : Addr) (x0 : Int32) (x1 : Int32) (x2 : Int32) (H : BO Z n0 h0 a r_ring (2 : Int64) (5 : Int64) [.int x0, .int (0 : Int32), .int x1, .int x2]) (nz0 : ¬ x0 = (0 : Int32)) (nz2 : ¬ x1 = (0 : Int32)) (nz3 : ¬ x2 = (0 : Int32)) :
    Met l Z n0 y6_remove prog_63_method_3_code 4 (Option.none : Option Jvm.ClassFile.FieldType) ({ frames := 0, cells := 0, slots := 0, locals := 0 } : Room) #[(.ref a), (.long (2 : Int64))] h0 (fun v h => v = none ∧ Keep h0 h [a, r_ring] ∧ BO Z n0 h a r_ring (3 : Int64) (5 : Int64) [.int x0, .int (0 : Int32), .int (0 : Int32), .int x2]) := by
  refine met_intro (own := c1_BeginOrder) (plainFor_of_name pn_com_example_wirefram_wirefram_sequence_BeginOrder) rfl Z0 ?_
  intro p e s m below meth c T A hnm
  refine Wp.cast (g' := mkF m 0 #[rv a, jv 2, S2, U0] []) (by first | (simp [entryFrame, mkF, argsToLocals, Value.category, maxLocals, jv, S2, U0, iv, rv]; done) | rfl) ?_
  obtain ⟨E1, F2, F3, F4, V5, ne6, ge7, ge8⟩ := H
  refine s_aloadN (pc' := 1) A d6_0 rfl rfl rfl ?_
  refine s_getfield (pc' := 4) (host := "") A (Or.inl (w11 hw)) Via.refl F2 d6_1 rfl fun T A => ?_
  refine s_arraylength (pc' := 5) (z := (4 : Int32)) A V5 (by show _ = ((4 : Nat) : Int); decide) d6_4 rfl ?_
  refine s_iconst (pc' := 6) (z := (1 : Int32)) A d6_5 rfl (by decide) ?_
  refine s_isub (pc' := 7) (z := (3 : Int32)) A d6_6 rfl (by decide) ?_
  refine s_istoreN (pc' := 8) (Ls' := #[rv a, jv 2, S2, iv 3]) A d6_7 rfl rfl ?_
  refine s_aloadN (pc' := 9) A d6_8 rfl rfl rfl ?_
  refine s_getfield (pc' := 12) (host := "") A (Or.inl (w11 hw)) Via.refl F2 d6_9 rfl fun T A => ?_
  refine s_lloadN (pc' := 13) A d6_12 rfl rfl ?_
  refine s_l2i (pc' := 14) (z := (2 : Int32)) A d6_13 rfl (by decide) ?_
  refine s_iloadN (pc' := 15) A d6_14 rfl rfl ?_
  refine s_iand (pc' := 16) (z := (2 : Int32)) A d6_15 rfl (by decide) ?_
  refine s_iconst (pc' := 17) (z := (0 : Int32)) A d6_16 rfl (by decide) ?_
  refine s_iastore (pc' := 18) (i := 2) A V5 (by decide) (Nat.le_of_ble_eq_true rfl) ge8 d6_17 rfl fun T h9 A W10 V11 => ?_
  have V11 : AA Z h9 r_ring .int [.int x0, .int (0 : Int32), .int (0 : Int32), .int x2] := V11
  refine s_aloadN (pc' := 19) A d6_18 rfl rfl rfl ?_
  have F12 := (F3.other W10 (Or.inl ne6))
  refine s_getfield (pc' := 22) (host := "") A (Or.inl (w18 hw)) Via.refl F12 d6_19 rfl fun T A => ?_
  refine s_aloadN (pc' := 23) A d6_22 rfl rfl rfl ?_
  have F13 := (F4.other W10 (Or.inl ne6))
  refine s_getfield (pc' := 26) (host := "") A (Or.inl (w20 hw)) Via.refl F13 d6_23 rfl fun T A => ?_
  refine s_lcmp (pc' := 27) A d6_26 rfl ?_
  refine s_ifN (pc' := 30) A d6_27 rfl (by decide) ?_
  refine s_aloadN (pc' := 31) A d6_30 rfl rfl rfl ?_
  have F14 := (F2.other W10 (Or.inl ne6))
  refine s_getfield (pc' := 34) (host := "") A (Or.inl (w11 hw)) Via.refl F14 d6_31 rfl fun T A => ?_
  refine s_aloadN (pc' := 35) A d6_34 rfl rfl rfl ?_
  refine s_getfield (pc' := 38) (host := "") A (Or.inl (w18 hw)) Via.refl F12 d6_35 rfl fun T A => ?_
  refine s_l2i (pc' := 39) (z := (2 : Int32)) A d6_38 rfl (by decide) ?_
  refine s_iloadN (pc' := 40) A d6_39 rfl rfl ?_
  refine s_iand (pc' := 41) (z := (2 : Int32)) A d6_40 rfl (by decide) ?_
  refine s_iaload (pc' := 42) (i := 2) (v := (.int (0 : Int32))) A V11 (by decide) rfl d6_41 rfl ?_
  refine s_ifN (pc' := 45) A d6_42 rfl (by decide) ?_
  refine s_aloadN (pc' := 46) A d6_45 rfl rfl rfl ?_
  refine s_dup (pc' := 47) A d6_46 rfl rfl ?_
  refine s_getfield (pc' := 50) (host := "") A (Or.inl (w18 hw)) Via.refl F12 d6_47 rfl fun T A => ?_
  refine s_lconst (pc' := 51) (z := (1 : Int64)) A d6_50 rfl (by decide) ?_
  refine s_ladd (pc' := 52) (z := (3 : Int64)) A d6_51 rfl (by decide) ?_
  have E15 := (E1.wr W10)
  refine s_putfield (pc' := 55) (host := "") A (Or.inl (w18 hw)) Via.refl F12 E15 (Or.inl (w19 hw)) (w2 hw) (ty := .long) (by decide) rfl rfl ge7 d6_52 rfl fun T h16 A W17 => ?_
  have F18 := F12.same W17
  refine s_goto (pc' := 18) A d6_55 (by decide) (by decide) ?_
  refine s_aloadN (pc' := 19) A d6_18 rfl rfl rfl ?_
  refine s_getfield (pc' := 22) (host := "") A (Or.inl (w18 hw)) Via.refl F18 d6_19 rfl fun T A => ?_
  refine s_aloadN (pc' := 23) A d6_22 rfl rfl rfl ?_
  have F19 := (F13.other W17 (Or.inr (sn_BeginOrder_next_first hw)))
  refine s_getfield (pc' := 26) (host := "") A (Or.inl (w20 hw)) Via.refl F19 d6_23 rfl fun T A => ?_
  refine s_lcmp (pc' := 27) A d6_26 rfl ?_
  refine s_ifN (pc' := 30) A d6_27 rfl (by decide) ?_
  refine s_aloadN (pc' := 31) A d6_30 rfl rfl rfl ?_
  have F20 := (F14.other W17 (Or.inr (sn_BeginOrder_ring_first hw)))
  refine s_getfield (pc' := 34) (host := "") A (Or.inl (w11 hw)) Via.refl F20 d6_31 rfl fun T A => ?_
  refine s_aloadN (pc' := 35) A d6_34 rfl rfl rfl ?_
  refine s_getfield (pc' := 38) (host := "") A (Or.inl (w18 hw)) Via.refl F18 d6_35 rfl fun T A => ?_
  refine s_l2i (pc' := 39) (z := (3 : Int32)) A d6_38 rfl (by decide) ?_
  refine s_iloadN (pc' := 40) A d6_39 rfl rfl ?_
  refine s_iand (pc' := 41) (z := (3 : Int32)) A d6_40 rfl (by decide) ?_
  have V21 := (V11.other W17 (Ne.symm ne6))
  refine s_iaload (pc' := 42) (i := 3) (v := (.int x2)) A V21 (by decide) rfl d6_41 rfl ?_
  refine s_ifY (pc' := 58) A d6_42 ((if0 _ _).trans (feq nz3).2) (by decide) (by decide) ?_
  have K22 := (((Keep.refl h0 [a, r_ring]).wr W10 (Or.inl (List.mem_of_getElem? (i := 1) rfl))).wr W17 (Or.inl (List.mem_of_getElem? (i := 0) rfl)))
  have E23 := (E15.wr W17)
  exact r_void A rfl d6_58 (by decide) (by decide) (⟨rfl, K22, ⟨E23, F20, F18, F19, V21, ne6, ge7, ge8⟩⟩)
set_option maxRecDepth 65536 in
set_option maxHeartbeats 40000000 in
theorem bo_isEmpty57 (l : Launch) (Z : State) (a0 : Array Value) (hw : ∀ d ∈ tables_1, d.before a0 Z = true) (n0 : Nat) (h0 : Heap) (Z0 : n0 ≤ h0.size) (a r_ring : Addr)  (l_ring : List Value) (H : BO Z n0 h0 a r_ring (3 : Int64) (5 : Int64) l_ring) :
    Met l Z n0 y3_isEmpty prog_63_method_4_code 1 (Option.some Jvm.ClassFile.FieldType.boolean) ({ frames := 0, cells := 0, slots := 0, locals := 0 } : Room) #[(.ref a)] h0 (fun v h => v = some (.int (0 : Int32)) ∧ Keep h0 h [a, r_ring] ∧ BO Z n0 h a r_ring (3 : Int64) (5 : Int64) l_ring) := by
  refine met_intro (own := c1_BeginOrder) (plainFor_of_name pn_com_example_wirefram_wirefram_sequence_BeginOrder) rfl Z0 ?_
  intro p e s m below meth c T A hnm
  refine Wp.cast (g' := mkF m 0 #[rv a] []) (by first | (simp [entryFrame, mkF, argsToLocals, Value.category, maxLocals, jv, S2, U0, iv, rv]; done) | rfl) ?_
  obtain ⟨E1, F2, F3, F4, V5, ne6, ge7, ge8⟩ := H
  refine s_aloadN (pc' := 1) A d3_0 rfl rfl rfl ?_
  refine s_getfield (pc' := 4) (host := "") A (Or.inl (w18 hw)) Via.refl F3 d3_1 rfl fun T A => ?_
  refine s_aloadN (pc' := 5) A d3_4 rfl rfl rfl ?_
  refine s_getfield (pc' := 8) (host := "") A (Or.inl (w20 hw)) Via.refl F4 d3_5 rfl fun T A => ?_
  refine s_lcmp (pc' := 9) A d3_8 rfl ?_
  refine s_ifY (pc' := 16) A d3_9 (by decide) (by decide) (by decide) ?_
  refine s_iconst (pc' := 17) (z := (0 : Int32)) A d3_16 rfl (by decide) ?_
  exact r_bool A rfl (by decide) d3_17 (by decide) (by decide) (⟨rfl, (Keep.refl h0 [a, r_ring]), ⟨E1, F2, F3, F4, V5, ne6, ge7, ge8⟩⟩)
set_option maxRecDepth 65536 in
set_option maxHeartbeats 40000000 in
theorem bo_first58 (l : Launch) (Z : State) (a0 : Array Value) (hw : ∀ d ∈ tables_1, d.before a0 Z = true) (n0 : Nat) (h0 : Heap) (Z0 : n0 ≤ h0.size) (a r_ring : Addr) (x0 : Int32) (x1 : Int32) (x2 : Int32) (x3 : Int32) (H : BO Z n0 h0 a r_ring (3 : Int64) (5 : Int64) [.int x0, .int x1, .int x2, .int x3]) :
    Met l Z n0 y5_first prog_63_method_5_code 1 (Option.some Jvm.ClassFile.FieldType.int) ({ frames := 0, cells := 0, slots := 0, locals := 0 } : Room) #[(.ref a)] h0 (fun v h => v = some (.int (x3 - (1 : Int32))) ∧ Keep h0 h [a, r_ring] ∧ BO Z n0 h a r_ring (3 : Int64) (5 : Int64) [.int x0, .int x1, .int x2, .int x3]) := by
  refine met_intro (own := c1_BeginOrder) (plainFor_of_name pn_com_example_wirefram_wirefram_sequence_BeginOrder) rfl Z0 ?_
  intro p e s m below meth c T A hnm
  refine Wp.cast (g' := mkF m 0 #[rv a] []) (by first | (simp [entryFrame, mkF, argsToLocals, Value.category, maxLocals, jv, S2, U0, iv, rv]; done) | rfl) ?_
  obtain ⟨E1, F2, F3, F4, V5, ne6, ge7, ge8⟩ := H
  refine s_aloadN (pc' := 1) A d8_0 rfl rfl rfl ?_
  refine s_getfield (pc' := 4) (host := "") A (Or.inl (w11 hw)) Via.refl F2 d8_1 rfl fun T A => ?_
  refine s_aloadN (pc' := 5) A d8_4 rfl rfl rfl ?_
  refine s_getfield (pc' := 8) (host := "") A (Or.inl (w18 hw)) Via.refl F3 d8_5 rfl fun T A => ?_
  refine s_l2i (pc' := 9) (z := (3 : Int32)) A d8_8 rfl (by decide) ?_
  refine s_aloadN (pc' := 10) A d8_9 rfl rfl rfl ?_
  refine s_getfield (pc' := 13) (host := "") A (Or.inl (w11 hw)) Via.refl F2 d8_10 rfl fun T A => ?_
  refine s_arraylength (pc' := 14) (z := (4 : Int32)) A V5 (by show _ = ((4 : Nat) : Int); decide) d8_13 rfl ?_
  refine s_iconst (pc' := 15) (z := (1 : Int32)) A d8_14 rfl (by decide) ?_
  refine s_isub (pc' := 16) (z := (3 : Int32)) A d8_15 rfl (by decide) ?_
  refine s_iand (pc' := 17) (z := (3 : Int32)) A d8_16 rfl (by decide) ?_
  refine s_iaload (pc' := 18) (i := 3) (v := (.int x3)) A V5 (by decide) rfl d8_17 rfl ?_
  refine s_iconst (pc' := 19) (z := (1 : Int32)) A d8_18 rfl (by decide) ?_
  refine s_isub (pc' := 20) (z := (x3 - (1 : Int32))) A d8_19 rfl rfl ?_
  exact r_int A rfl d8_20 (by decide) (by decide) (⟨rfl, (Keep.refl h0 [a, r_ring]), ⟨E1, F2, F3, F4, V5, ne6, ge7, ge8⟩⟩)
set_option maxRecDepth 65536 in
set_option maxHeartbeats 40000000 in
theorem bo_remove59 (l : Launch) (Z : State) (a0 : Array Value) (hw : ∀ d ∈ tables_1, d.before a0 Z = true) (n0 : Nat) (h0 : Heap) (Z0 : n0 ≤ h0.size) (a r_ring : Addr) (x0 : Int32) (x1 : Int32) (x2 : Int32) (H : BO Z n0 h0 a r_ring (2 : Int64) (5 : Int64) [.int x0, .int (0 : Int32), .int x1, .int x2]) (nz0 : ¬ x0 = (0 : Int32)) (nz2 : ¬ x1 = (0 : Int32)) (nz3 : ¬ x2 = (0 : Int32)) :
    Met l Z n0 y6_remove prog_63_method_3_code 4 (Option.none : Option Jvm.ClassFile.FieldType) ({ frames := 0, cells := 0, slots := 0, locals := 0 } : Room) #[(.ref a), (.long (3 : Int64))] h0 (fun v h => v = none ∧ Keep h0 h [a, r_ring] ∧ BO Z n0 h a r_ring (2 : Int64) (5 : Int64) [.int x0, .int (0 : Int32), .int x1, .int (0 : Int32)]) := by
  refine met_intro (own := c1_BeginOrder) (plainFor_of_name pn_com_example_wirefram_wirefram_sequence_BeginOrder) rfl Z0 ?_
  intro p e s m below meth c T A hnm
  refine Wp.cast (g' := mkF m 0 #[rv a, jv 3, S2, U0] []) (by first | (simp [entryFrame, mkF, argsToLocals, Value.category, maxLocals, jv, S2, U0, iv, rv]; done) | rfl) ?_
  obtain ⟨E1, F2, F3, F4, V5, ne6, ge7, ge8⟩ := H
  refine s_aloadN (pc' := 1) A d6_0 rfl rfl rfl ?_
  refine s_getfield (pc' := 4) (host := "") A (Or.inl (w11 hw)) Via.refl F2 d6_1 rfl fun T A => ?_
  refine s_arraylength (pc' := 5) (z := (4 : Int32)) A V5 (by show _ = ((4 : Nat) : Int); decide) d6_4 rfl ?_
  refine s_iconst (pc' := 6) (z := (1 : Int32)) A d6_5 rfl (by decide) ?_
  refine s_isub (pc' := 7) (z := (3 : Int32)) A d6_6 rfl (by decide) ?_
  refine s_istoreN (pc' := 8) (Ls' := #[rv a, jv 3, S2, iv 3]) A d6_7 rfl rfl ?_
  refine s_aloadN (pc' := 9) A d6_8 rfl rfl rfl ?_
  refine s_getfield (pc' := 12) (host := "") A (Or.inl (w11 hw)) Via.refl F2 d6_9 rfl fun T A => ?_
  refine s_lloadN (pc' := 13) A d6_12 rfl rfl ?_
  refine s_l2i (pc' := 14) (z := (3 : Int32)) A d6_13 rfl (by decide) ?_
  refine s_iloadN (pc' := 15) A d6_14 rfl rfl ?_
  refine s_iand (pc' := 16) (z := (3 : Int32)) A d6_15 rfl (by decide) ?_
  refine s_iconst (pc' := 17) (z := (0 : Int32)) A d6_16 rfl (by decide) ?_
  refine s_iastore (pc' := 18) (i := 3) A V5 (by decide) (Nat.le_of_ble_eq_true rfl) ge8 d6_17 rfl fun T h9 A W10 V11 => ?_
  have V11 : AA Z h9 r_ring .int [.int x0, .int (0 : Int32), .int x1, .int (0 : Int32)] := V11
  refine s_aloadN (pc' := 19) A d6_18 rfl rfl rfl ?_
  have F12 := (F3.other W10 (Or.inl ne6))
  refine s_getfield (pc' := 22) (host := "") A (Or.inl (w18 hw)) Via.refl F12 d6_19 rfl fun T A => ?_
  refine s_aloadN (pc' := 23) A d6_22 rfl rfl rfl ?_
  have F13 := (F4.other W10 (Or.inl ne6))
  refine s_getfield (pc' := 26) (host := "") A (Or.inl (w20 hw)) Via.refl F13 d6_23 rfl fun T A => ?_
  refine s_lcmp (pc' := 27) A d6_26 rfl ?_
  refine s_ifN (pc' := 30) A d6_27 rfl (by decide) ?_
  refine s_aloadN (pc' := 31) A d6_30 rfl rfl rfl ?_
  have F14 := (F2.other W10 (Or.inl ne6))
  refine s_getfield (pc' := 34) (host := "") A (Or.inl (w11 hw)) Via.refl F14 d6_31 rfl fun T A => ?_
  refine s_aloadN (pc' := 35) A d6_34 rfl rfl rfl ?_
  refine s_getfield (pc' := 38) (host := "") A (Or.inl (w18 hw)) Via.refl F12 d6_35 rfl fun T A => ?_
  refine s_l2i (pc' := 39) (z := (2 : Int32)) A d6_38 rfl (by decide) ?_
  refine s_iloadN (pc' := 40) A d6_39 rfl rfl ?_
  refine s_iand (pc' := 41) (z := (2 : Int32)) A d6_40 rfl (by decide) ?_
  refine s_iaload (pc' := 42) (i := 2) (v := (.int x1)) A V11 (by decide) rfl d6_41 rfl ?_
  refine s_ifY (pc' := 58) A d6_42 ((if0 _ _).trans (feq nz2).2) (by decide) (by decide) ?_
  have K15 := ((Keep.refl h0 [a, r_ring]).wr W10 (Or.inl (List.mem_of_getElem? (i := 1) rfl)))
  have E16 := (E1.wr W10)
  exact r_void A rfl d6_58 (by decide) (by decide) (⟨rfl, K15, ⟨E16, F14, F12, F13, V11, ne6, ge7, ge8⟩⟩)
set_option maxRecDepth 65536 in
set_option maxHeartbeats 40000000 in
theorem bo_remove60 (l : Launch) (Z : State) (a0 : Array Value) (hw : ∀ d ∈ tables_1, d.before a0 Z = true) (n0 : Nat) (h0 : Heap) (Z0 : n0 ≤ h0.size) (a r_ring : Addr) (x0 : Int32) (x1 : Int32) (x2 : Int32) (H : BO Z n0 h0 a r_ring (2 : Int64) (5 : Int64) [.int x0, .int (0 : Int32), .int x1, .int x2]) (nz0 : ¬ x0 = (0 : Int32)) (nz2 : ¬ x1 = (0 : Int32)) (nz3 : ¬ x2 = (0 : Int32)) :
    Met l Z n0 y6_remove prog_63_method_3_code 4 (Option.none : Option Jvm.ClassFile.FieldType) ({ frames := 0, cells := 0, slots := 0, locals := 0 } : Room) #[(.ref a), (.long (4 : Int64))] h0 (fun v h => v = none ∧ Keep h0 h [a, r_ring] ∧ BO Z n0 h a r_ring (2 : Int64) (5 : Int64) [.int (0 : Int32), .int (0 : Int32), .int x1, .int x2]) := by
  refine met_intro (own := c1_BeginOrder) (plainFor_of_name pn_com_example_wirefram_wirefram_sequence_BeginOrder) rfl Z0 ?_
  intro p e s m below meth c T A hnm
  refine Wp.cast (g' := mkF m 0 #[rv a, jv 4, S2, U0] []) (by first | (simp [entryFrame, mkF, argsToLocals, Value.category, maxLocals, jv, S2, U0, iv, rv]; done) | rfl) ?_
  obtain ⟨E1, F2, F3, F4, V5, ne6, ge7, ge8⟩ := H
  refine s_aloadN (pc' := 1) A d6_0 rfl rfl rfl ?_
  refine s_getfield (pc' := 4) (host := "") A (Or.inl (w11 hw)) Via.refl F2 d6_1 rfl fun T A => ?_
  refine s_arraylength (pc' := 5) (z := (4 : Int32)) A V5 (by show _ = ((4 : Nat) : Int); decide) d6_4 rfl ?_
  refine s_iconst (pc' := 6) (z := (1 : Int32)) A d6_5 rfl (by decide) ?_
  refine s_isub (pc' := 7) (z := (3 : Int32)) A d6_6 rfl (by decide) ?_
  refine s_istoreN (pc' := 8) (Ls' := #[rv a, jv 4, S2, iv 3]) A d6_7 rfl rfl ?_
  refine s_aloadN (pc' := 9) A d6_8 rfl rfl rfl ?_
  refine s_getfield (pc' := 12) (host := "") A (Or.inl (w11 hw)) Via.refl F2 d6_9 rfl fun T A => ?_
  refine s_lloadN (pc' := 13) A d6_12 rfl rfl ?_
  refine s_l2i (pc' := 14) (z := (4 : Int32)) A d6_13 rfl (by decide) ?_
  refine s_iloadN (pc' := 15) A d6_14 rfl rfl ?_
  refine s_iand (pc' := 16) (z := (0 : Int32)) A d6_15 rfl (by decide) ?_
  refine s_iconst (pc' := 17) (z := (0 : Int32)) A d6_16 rfl (by decide) ?_
  refine s_iastore (pc' := 18) (i := 0) A V5 (by decide) (Nat.le_of_ble_eq_true rfl) ge8 d6_17 rfl fun T h9 A W10 V11 => ?_
  have V11 : AA Z h9 r_ring .int [.int (0 : Int32), .int (0 : Int32), .int x1, .int x2] := V11
  refine s_aloadN (pc' := 19) A d6_18 rfl rfl rfl ?_
  have F12 := (F3.other W10 (Or.inl ne6))
  refine s_getfield (pc' := 22) (host := "") A (Or.inl (w18 hw)) Via.refl F12 d6_19 rfl fun T A => ?_
  refine s_aloadN (pc' := 23) A d6_22 rfl rfl rfl ?_
  have F13 := (F4.other W10 (Or.inl ne6))
  refine s_getfield (pc' := 26) (host := "") A (Or.inl (w20 hw)) Via.refl F13 d6_23 rfl fun T A => ?_
  refine s_lcmp (pc' := 27) A d6_26 rfl ?_
  refine s_ifN (pc' := 30) A d6_27 rfl (by decide) ?_
  refine s_aloadN (pc' := 31) A d6_30 rfl rfl rfl ?_
  have F14 := (F2.other W10 (Or.inl ne6))
  refine s_getfield (pc' := 34) (host := "") A (Or.inl (w11 hw)) Via.refl F14 d6_31 rfl fun T A => ?_
  refine s_aloadN (pc' := 35) A d6_34 rfl rfl rfl ?_
  refine s_getfield (pc' := 38) (host := "") A (Or.inl (w18 hw)) Via.refl F12 d6_35 rfl fun T A => ?_
  refine s_l2i (pc' := 39) (z := (2 : Int32)) A d6_38 rfl (by decide) ?_
  refine s_iloadN (pc' := 40) A d6_39 rfl rfl ?_
  refine s_iand (pc' := 41) (z := (2 : Int32)) A d6_40 rfl (by decide) ?_
  refine s_iaload (pc' := 42) (i := 2) (v := (.int x1)) A V11 (by decide) rfl d6_41 rfl ?_
  refine s_ifY (pc' := 58) A d6_42 ((if0 _ _).trans (feq nz2).2) (by decide) (by decide) ?_
  have K15 := ((Keep.refl h0 [a, r_ring]).wr W10 (Or.inl (List.mem_of_getElem? (i := 1) rfl)))
  have E16 := (E1.wr W10)
  exact r_void A rfl d6_58 (by decide) (by decide) (⟨rfl, K15, ⟨E16, F14, F12, F13, V11, ne6, ge7, ge8⟩⟩)
set_option maxRecDepth 65536 in
set_option maxHeartbeats 40000000 in
theorem bo_remove61 (l : Launch) (Z : State) (a0 : Array Value) (hw : ∀ d ∈ tables_1, d.before a0 Z = true) (n0 : Nat) (h0 : Heap) (Z0 : n0 ≤ h0.size) (a r_ring : Addr) (x0 : Int32) (x1 : Int32) (H : BO Z n0 h0 a r_ring (3 : Int64) (5 : Int64) [.int x0, .int (0 : Int32), .int (0 : Int32), .int x1]) (nz0 : ¬ x0 = (0 : Int32)) (nz3 : ¬ x1 = (0 : Int32)) :
    Met l Z n0 y6_remove prog_63_method_3_code 4 (Option.none : Option Jvm.ClassFile.FieldType) ({ frames := 0, cells := 0, slots := 0, locals := 0 } : Room) #[(.ref a), (.long (3 : Int64))] h0 (fun v h => v = none ∧ Keep h0 h [a, r_ring] ∧ BO Z n0 h a r_ring (4 : Int64) (5 : Int64) [.int x0, .int (0 : Int32), .int (0 : Int32), .int (0 : Int32)]) := by
  refine met_intro (own := c1_BeginOrder) (plainFor_of_name pn_com_example_wirefram_wirefram_sequence_BeginOrder) rfl Z0 ?_
  intro p e s m below meth c T A hnm
  refine Wp.cast (g' := mkF m 0 #[rv a, jv 3, S2, U0] []) (by first | (simp [entryFrame, mkF, argsToLocals, Value.category, maxLocals, jv, S2, U0, iv, rv]; done) | rfl) ?_
  obtain ⟨E1, F2, F3, F4, V5, ne6, ge7, ge8⟩ := H
  refine s_aloadN (pc' := 1) A d6_0 rfl rfl rfl ?_
  refine s_getfield (pc' := 4) (host := "") A (Or.inl (w11 hw)) Via.refl F2 d6_1 rfl fun T A => ?_
  refine s_arraylength (pc' := 5) (z := (4 : Int32)) A V5 (by show _ = ((4 : Nat) : Int); decide) d6_4 rfl ?_
  refine s_iconst (pc' := 6) (z := (1 : Int32)) A d6_5 rfl (by decide) ?_
  refine s_isub (pc' := 7) (z := (3 : Int32)) A d6_6 rfl (by decide) ?_
  refine s_istoreN (pc' := 8) (Ls' := #[rv a, jv 3, S2, iv 3]) A d6_7 rfl rfl ?_
  refine s_aloadN (pc' := 9) A d6_8 rfl rfl rfl ?_
  refine s_getfield (pc' := 12) (host := "") A (Or.inl (w11 hw)) Via.refl F2 d6_9 rfl fun T A => ?_
  refine s_lloadN (pc' := 13) A d6_12 rfl rfl ?_
  refine s_l2i (pc' := 14) (z := (3 : Int32)) A d6_13 rfl (by decide) ?_
  refine s_iloadN (pc' := 15) A d6_14 rfl rfl ?_
  refine s_iand (pc' := 16) (z := (3 : Int32)) A d6_15 rfl (by decide) ?_
  refine s_iconst (pc' := 17) (z := (0 : Int32)) A d6_16 rfl (by decide) ?_
  refine s_iastore (pc' := 18) (i := 3) A V5 (by decide) (Nat.le_of_ble_eq_true rfl) ge8 d6_17 rfl fun T h9 A W10 V11 => ?_
  have V11 : AA Z h9 r_ring .int [.int x0, .int (0 : Int32), .int (0 : Int32), .int (0 : Int32)] := V11
  refine s_aloadN (pc' := 19) A d6_18 rfl rfl rfl ?_
  have F12 := (F3.other W10 (Or.inl ne6))
  refine s_getfield (pc' := 22) (host := "") A (Or.inl (w18 hw)) Via.refl F12 d6_19 rfl fun T A => ?_
  refine s_aloadN (pc' := 23) A d6_22 rfl rfl rfl ?_
  have F13 := (F4.other W10 (Or.inl ne6))
  refine s_getfield (pc' := 26) (host := "") A (Or.inl (w20 hw)) Via.refl F13 d6_23 rfl fun T A => ?_
  refine s_lcmp (pc' := 27) A d6_26 rfl ?_
  refine s_ifN (pc' := 30) A d6_27 rfl (by decide) ?_
  refine s_aloadN (pc' := 31) A d6_30 rfl rfl rfl ?_
  have F14 := (F2.other W10 (Or.inl ne6))
  refine s_getfield (pc' := 34) (host := "") A (Or.inl (w11 hw)) Via.refl F14 d6_31 rfl fun T A => ?_
  refine s_aloadN (pc' := 35) A d6_34 rfl rfl rfl ?_
  refine s_getfield (pc' := 38) (host := "") A (Or.inl (w18 hw)) Via.refl F12 d6_35 rfl fun T A => ?_
  refine s_l2i (pc' := 39) (z := (3 : Int32)) A d6_38 rfl (by decide) ?_
  refine s_iloadN (pc' := 40) A d6_39 rfl rfl ?_
  refine s_iand (pc' := 41) (z := (3 : Int32)) A d6_40 rfl (by decide) ?_
  refine s_iaload (pc' := 42) (i := 3) (v := (.int (0 : Int32))) A V11 (by decide) rfl d6_41 rfl ?_
  refine s_ifN (pc' := 45) A d6_42 rfl (by decide) ?_
  refine s_aloadN (pc' := 46) A d6_45 rfl rfl rfl ?_
  refine s_dup (pc' := 47) A d6_46 rfl rfl ?_
  refine s_getfield (pc' := 50) (host := "") A (Or.inl (w18 hw)) Via.refl F12 d6_47 rfl fun T A => ?_
  refine s_lconst (pc' := 51) (z := (1 : Int64)) A d6_50 rfl (by decide) ?_
  refine s_ladd (pc' := 52) (z := (4 : Int64)) A d6_51 rfl (by decide) ?_
  have E15 := (E1.wr W10)
  refine s_putfield (pc' := 55) (host := "") A (Or.inl (w18 hw)) Via.refl F12 E15 (Or.inl (w19 hw)) (w2 hw) (ty := .long) (by decide) rfl rfl ge7 d6_52 rfl fun T h16 A W17 => ?_
  have F18 := F12.same W17
  refine s_goto (pc' := 18) A d6_55 (by decide) (by decide) ?_
  refine s_aloadN (pc' := 19) A d6_18 rfl rfl rfl ?_
  refine s_getfield (pc' := 22) (host := "") A (Or.inl (w18 hw)) Via.refl F18 d6_19 rfl fun T A => ?_
  refine s_aloadN (pc' := 23) A d6_22 rfl rfl rfl ?_
  have F19 := (F13.other W17 (Or.inr (sn_BeginOrder_next_first hw)))
  refine s_getfield (pc' := 26) (host := "") A (Or.inl (w20 hw)) Via.refl F19 d6_23 rfl fun T A => ?_
  refine s_lcmp (pc' := 27) A d6_26 rfl ?_
  refine s_ifN (pc' := 30) A d6_27 rfl (by decide) ?_
  refine s_aloadN (pc' := 31) A d6_30 rfl rfl rfl ?_
  have F20 := (F14.other W17 (Or.inr (sn_BeginOrder_ring_first hw)))
  refine s_getfield (pc' := 34) (host := "") A (Or.inl (w11 hw)) Via.refl F20 d6_31 rfl fun T A => ?_
  refine s_aloadN (pc' := 35) A d6_34 rfl rfl rfl ?_
  refine s_getfield (pc' := 38) (host := "") A (Or.inl (w18 hw)) Via.refl F18 d6_35 rfl fun T A => ?_
  refine s_l2i (pc' := 39) (z := (4 : Int32)) A d6_38 rfl (by decide) ?_
  refine s_iloadN (pc' := 40) A d6_39 rfl rfl ?_
  refine s_iand (pc' := 41) (z := (0 : Int32)) A d6_40 rfl (by decide) ?_
  have V21 := (V11.other W17 (Ne.symm ne6))
  refine s_iaload (pc' := 42) (i := 0) (v := (.int x0)) A V21 (by decide) rfl d6_41 rfl ?_
  refine s_ifY (pc' := 58) A d6_42 ((if0 _ _).trans (feq nz0).2) (by decide) (by decide) ?_
  have K22 := (((Keep.refl h0 [a, r_ring]).wr W10 (Or.inl (List.mem_of_getElem? (i := 1) rfl))).wr W17 (Or.inl (List.mem_of_getElem? (i := 0) rfl)))
  have E23 := (E15.wr W17)
  exact r_void A rfl d6_58 (by decide) (by decide) (⟨rfl, K22, ⟨E23, F20, F18, F19, V21, ne6, ge7, ge8⟩⟩)
set_option maxRecDepth 65536 in
set_option maxHeartbeats 40000000 in
theorem bo_isEmpty62 (l : Launch) (Z : State) (a0 : Array Value) (hw : ∀ d ∈ tables_1, d.before a0 Z = true) (n0 : Nat) (h0 : Heap) (Z0 : n0 ≤ h0.size) (a r_ring : Addr)  (l_ring : List Value) (H : BO Z n0 h0 a r_ring (4 : Int64) (5 : Int64) l_ring) :
    Met l Z n0 y3_isEmpty prog_63_method_4_code 1 (Option.some Jvm.ClassFile.FieldType.boolean) ({ frames := 0, cells := 0, slots := 0, locals := 0 } : Room) #[(.ref a)] h0 (fun v h => v = some (.int (0 : Int32)) ∧ Keep h0 h [a, r_ring] ∧ BO Z n0 h a r_ring (4 : Int64) (5 : Int64) l_ring) := by
  refine met_intro (own := c1_BeginOrder) (plainFor_of_name pn_com_example_wirefram_wirefram_sequence_BeginOrder) rfl Z0 ?_
  intro p e s m below meth c T A hnm
  refine Wp.cast (g' := mkF m 0 #[rv a] []) (by first | (simp [entryFrame, mkF, argsToLocals, Value.category, maxLocals, jv, S2, U0, iv, rv]; done) | rfl) ?_
  obtain ⟨E1, F2, F3, F4, V5, ne6, ge7, ge8⟩ := H
  refine s_aloadN (pc' := 1) A d3_0 rfl rfl rfl ?_
  refine s_getfield (pc' := 4) (host := "") A (Or.inl (w18 hw)) Via.refl F3 d3_1 rfl fun T A => ?_
  refine s_aloadN (pc' := 5) A d3_4 rfl rfl rfl ?_
  refine s_getfield (pc' := 8) (host := "") A (Or.inl (w20 hw)) Via.refl F4 d3_5 rfl fun T A => ?_
  refine s_lcmp (pc' := 9) A d3_8 rfl ?_
  refine s_ifY (pc' := 16) A d3_9 (by decide) (by decide) (by decide) ?_
  refine s_iconst (pc' := 17) (z := (0 : Int32)) A d3_16 rfl (by decide) ?_
  exact r_bool A rfl (by decide) d3_17 (by decide) (by decide) (⟨rfl, (Keep.refl h0 [a, r_ring]), ⟨E1, F2, F3, F4, V5, ne6, ge7, ge8⟩⟩)
set_option maxRecDepth 65536 in
set_option maxHeartbeats 40000000 in
theorem bo_first63 (l : Launch) (Z : State) (a0 : Array Value) (hw : ∀ d ∈ tables_1, d.before a0 Z = true) (n0 : Nat) (h0 : Heap) (Z0 : n0 ≤ h0.size) (a r_ring : Addr) (x0 : Int32) (x1 : Int32) (x2 : Int32) (x3 : Int32) (H : BO Z n0 h0 a r_ring (4 : Int64) (5 : Int64) [.int x0, .int x1, .int x2, .int x3]) :
    Met l Z n0 y5_first prog_63_method_5_code 1 (Option.some Jvm.ClassFile.FieldType.int) ({ frames := 0, cells := 0, slots := 0, locals := 0 } : Room) #[(.ref a)] h0 (fun v h => v = some (.int (x0 - (1 : Int32))) ∧ Keep h0 h [a, r_ring] ∧ BO Z n0 h a r_ring (4 : Int64) (5 : Int64) [.int x0, .int x1, .int x2, .int x3]) := by
  refine met_intro (own := c1_BeginOrder) (plainFor_of_name pn_com_example_wirefram_wirefram_sequence_BeginOrder) rfl Z0 ?_
  intro p e s m below meth c T A hnm
  refine Wp.cast (g' := mkF m 0 #[rv a] []) (by first | (simp [entryFrame, mkF, argsToLocals, Value.category, maxLocals, jv, S2, U0, iv, rv]; done) | rfl) ?_
  obtain ⟨E1, F2, F3, F4, V5, ne6, ge7, ge8⟩ := H
  refine s_aloadN (pc' := 1) A d8_0 rfl rfl rfl ?_
  refine s_getfield (pc' := 4) (host := "") A (Or.inl (w11 hw)) Via.refl F2 d8_1 rfl fun T A => ?_
  refine s_aloadN (pc' := 5) A d8_4 rfl rfl rfl ?_
  refine s_getfield (pc' := 8) (host := "") A (Or.inl (w18 hw)) Via.refl F3 d8_5 rfl fun T A => ?_
  refine s_l2i (pc' := 9) (z := (4 : Int32)) A d8_8 rfl (by decide) ?_
  refine s_aloadN (pc' := 10) A d8_9 rfl rfl rfl ?_
  refine s_getfield (pc' := 13) (host := "") A (Or.inl (w11 hw)) Via.refl F2 d8_10 rfl fun T A => ?_
  refine s_arraylength (pc' := 14) (z := (4 : Int32)) A V5 (by show _ = ((4 : Nat) : Int); decide) d8_13 rfl ?_
  refine s_iconst (pc' := 15) (z := (1 : Int32)) A d8_14 rfl (by decide) ?_
  refine s_isub (pc' := 16) (z := (3 : Int32)) A d8_15 rfl (by decide) ?_
  refine s_iand (pc' := 17) (z := (0 : Int32)) A d8_16 rfl (by decide) ?_
  refine s_iaload (pc' := 18) (i := 0) (v := (.int x0)) A V5 (by decide) rfl d8_17 rfl ?_
  refine s_iconst (pc' := 19) (z := (1 : Int32)) A d8_18 rfl (by decide) ?_
  refine s_isub (pc' := 20) (z := (x0 - (1 : Int32))) A d8_19 rfl rfl ?_
  exact r_int A rfl d8_20 (by decide) (by decide) (⟨rfl, (Keep.refl h0 [a, r_ring]), ⟨E1, F2, F3, F4, V5, ne6, ge7, ge8⟩⟩)
set_option maxRecDepth 65536 in
set_option maxHeartbeats 40000000 in
theorem bo_remove64 (l : Launch) (Z : State) (a0 : Array Value) (hw : ∀ d ∈ tables_1, d.before a0 Z = true) (n0 : Nat) (h0 : Heap) (Z0 : n0 ≤ h0.size) (a r_ring : Addr) (x0 : Int32) (x1 : Int32) (H : BO Z n0 h0 a r_ring (3 : Int64) (5 : Int64) [.int x0, .int (0 : Int32), .int (0 : Int32), .int x1]) (nz0 : ¬ x0 = (0 : Int32)) (nz3 : ¬ x1 = (0 : Int32)) :
    Met l Z n0 y6_remove prog_63_method_3_code 4 (Option.none : Option Jvm.ClassFile.FieldType) ({ frames := 0, cells := 0, slots := 0, locals := 0 } : Room) #[(.ref a), (.long (4 : Int64))] h0 (fun v h => v = none ∧ Keep h0 h [a, r_ring] ∧ BO Z n0 h a r_ring (3 : Int64) (5 : Int64) [.int (0 : Int32), .int (0 : Int32), .int (0 : Int32), .int x1]) := by
  refine met_intro (own := c1_BeginOrder) (plainFor_of_name pn_com_example_wirefram_wirefram_sequence_BeginOrder) rfl Z0 ?_
  intro p e s m below meth c T A hnm
  refine Wp.cast (g' := mkF m 0 #[rv a, jv 4, S2, U0] []) (by first | (simp [entryFrame, mkF, argsToLocals, Value.category, maxLocals, jv, S2, U0, iv, rv]; done) | rfl) ?_
  obtain ⟨E1, F2, F3, F4, V5, ne6, ge7, ge8⟩ := H
  refine s_aloadN (pc' := 1) A d6_0 rfl rfl rfl ?_
  refine s_getfield (pc' := 4) (host := "") A (Or.inl (w11 hw)) Via.refl F2 d6_1 rfl fun T A => ?_
  refine s_arraylength (pc' := 5) (z := (4 : Int32)) A V5 (by show _ = ((4 : Nat) : Int); decide) d6_4 rfl ?_
  refine s_iconst (pc' := 6) (z := (1 : Int32)) A d6_5 rfl (by decide) ?_
  refine s_isub (pc' := 7) (z := (3 : Int32)) A d6_6 rfl (by decide) ?_
  refine s_istoreN (pc' := 8) (Ls' := #[rv a, jv 4, S2, iv 3]) A d6_7 rfl rfl ?_
  refine s_aloadN (pc' := 9) A d6_8 rfl rfl rfl ?_
  refine s_getfield (pc' := 12) (host := "") A (Or.inl (w11 hw)) Via.refl F2 d6_9 rfl fun T A => ?_
  refine s_lloadN (pc' := 13) A d6_12 rfl rfl ?_
  refine s_l2i (pc' := 14) (z := (4 : Int32)) A d6_13 rfl (by decide) ?_
  refine s_iloadN (pc' := 15) A d6_14 rfl rfl ?_
  refine s_iand (pc' := 16) (z := (0 : Int32)) A d6_15 rfl (by decide) ?_
  refine s_iconst (pc' := 17) (z := (0 : Int32)) A d6_16 rfl (by decide) ?_
  refine s_iastore (pc' := 18) (i := 0) A V5 (by decide) (Nat.le_of_ble_eq_true rfl) ge8 d6_17 rfl fun T h9 A W10 V11 => ?_
  have V11 : AA Z h9 r_ring .int [.int (0 : Int32), .int (0 : Int32), .int (0 : Int32), .int x1] := V11
  refine s_aloadN (pc' := 19) A d6_18 rfl rfl rfl ?_
  have F12 := (F3.other W10 (Or.inl ne6))
  refine s_getfield (pc' := 22) (host := "") A (Or.inl (w18 hw)) Via.refl F12 d6_19 rfl fun T A => ?_
  refine s_aloadN (pc' := 23) A d6_22 rfl rfl rfl ?_
  have F13 := (F4.other W10 (Or.inl ne6))
  refine s_getfield (pc' := 26) (host := "") A (Or.inl (w20 hw)) Via.refl F13 d6_23 rfl fun T A => ?_
  refine s_lcmp (pc' := 27) A d6_26 rfl ?_
  refine s_ifN (pc' := 30) A d6_27 rfl (by decide) ?_
  refine s_aloadN (pc' := 31) A d6_30 rfl rfl rfl ?_
  have F14 := (F2.other W10 (Or.inl ne6))
  refine s_getfield (pc' := 34) (host := "") A (Or.inl (w11 hw)) Via.refl F14 d6_31 rfl fun T A => ?_
  refine s_aloadN (pc' := 35) A d6_34 rfl rfl rfl ?_
  refine s_getfield (pc' := 38) (host := "") A (Or.inl (w18 hw)) Via.refl F12 d6_35 rfl fun T A => ?_
  refine s_l2i (pc' := 39) (z := (3 : Int32)) A d6_38 rfl (by decide) ?_
  refine s_iloadN (pc' := 40) A d6_39 rfl rfl ?_
  refine s_iand (pc' := 41) (z := (3 : Int32)) A d6_40 rfl (by decide) ?_
  refine s_iaload (pc' := 42) (i := 3) (v := (.int x1)) A V11 (by decide) rfl d6_41 rfl ?_
  refine s_ifY (pc' := 58) A d6_42 ((if0 _ _).trans (feq nz3).2) (by decide) (by decide) ?_
  have K15 := ((Keep.refl h0 [a, r_ring]).wr W10 (Or.inl (List.mem_of_getElem? (i := 1) rfl)))
  have E16 := (E1.wr W10)
  exact r_void A rfl d6_58 (by decide) (by decide) (⟨rfl, K15, ⟨E16, F14, F12, F13, V11, ne6, ge7, ge8⟩⟩)
set_option maxRecDepth 65536 in
set_option maxHeartbeats 40000000 in
theorem bo_remove65 (l : Launch) (Z : State) (a0 : Array Value) (hw : ∀ d ∈ tables_1, d.before a0 Z = true) (n0 : Nat) (h0 : Heap) (Z0 : n0 ≤ h0.size) (a r_ring : Addr) (x0 : Int32) (x1 : Int32) (H : BO Z n0 h0 a r_ring (2 : Int64) (5 : Int64) [.int x0, .int (0 : Int32), .int x1, .int (0 : Int32)]) (nz0 : ¬ x0 = (0 : Int32)) (nz2 : ¬ x1 = (0 : Int32)) :
    Met l Z n0 y6_remove prog_63_method_3_code 4 (Option.none : Option Jvm.ClassFile.FieldType) ({ frames := 0, cells := 0, slots := 0, locals := 0 } : Room) #[(.ref a), (.long (2 : Int64))] h0 (fun v h => v = none ∧ Keep h0 h [a, r_ring] ∧ BO Z n0 h a r_ring (4 : Int64) (5 : Int64) [.int x0, .int (0 : Int32), .int (0 : Int32), .int (0 : Int32)]) := by
  refine met_intro (own := c1_BeginOrder) (plainFor_of_name pn_com_example_wirefram_wirefram_sequence_BeginOrder) rfl Z0 ?_
  intro p e s m below meth c T A hnm
  refine Wp.cast (g' := mkF m 0 #[rv a, jv 2, S2, U0] []) (by first | (simp [entryFrame, mkF, argsToLocals, Value.category, maxLocals, jv, S2, U0, iv, rv]; done) | rfl) ?_
  obtain ⟨E1, F2, F3, F4, V5, ne6, ge7, ge8⟩ := H
  refine s_aloadN (pc' := 1) A d6_0 rfl rfl rfl ?_
  refine s_getfield (pc' := 4) (host := "") A (Or.inl (w11 hw)) Via.refl F2 d6_1 rfl fun T A => ?_
  refine s_arraylength (pc' := 5) (z := (4 : Int32)) A V5 (by show _ = ((4 : Nat) : Int); decide) d6_4 rfl ?_
  refine s_iconst (pc' := 6) (z := (1 : Int32)) A d6_5 rfl (by decide) ?_
  refine s_isub (pc' := 7) (z := (3 : Int32)) A d6_6 rfl (by decide) ?_
  refine s_istoreN (pc' := 8) (Ls' := #[rv a, jv 2, S2, iv 3]) A d6_7 rfl rfl ?_
  refine s_aloadN (pc' := 9) A d6_8 rfl rfl rfl ?_
  refine s_getfield (pc' := 12) (host := "") A (Or.inl (w11 hw)) Via.refl F2 d6_9 rfl fun T A => ?_
  refine s_lloadN (pc' := 13) A d6_12 rfl rfl ?_
  refine s_l2i (pc' := 14) (z := (2 : Int32)) A d6_13 rfl (by decide) ?_
  refine s_iloadN (pc' := 15) A d6_14 rfl rfl ?_
  refine s_iand (pc' := 16) (z := (2 : Int32)) A d6_15 rfl (by decide) ?_
  refine s_iconst (pc' := 17) (z := (0 : Int32)) A d6_16 rfl (by decide) ?_
  refine s_iastore (pc' := 18) (i := 2) A V5 (by decide) (Nat.le_of_ble_eq_true rfl) ge8 d6_17 rfl fun T h9 A W10 V11 => ?_
  have V11 : AA Z h9 r_ring .int [.int x0, .int (0 : Int32), .int (0 : Int32), .int (0 : Int32)] := V11
  refine s_aloadN (pc' := 19) A d6_18 rfl rfl rfl ?_
  have F12 := (F3.other W10 (Or.inl ne6))
  refine s_getfield (pc' := 22) (host := "") A (Or.inl (w18 hw)) Via.refl F12 d6_19 rfl fun T A => ?_
  refine s_aloadN (pc' := 23) A d6_22 rfl rfl rfl ?_
  have F13 := (F4.other W10 (Or.inl ne6))
  refine s_getfield (pc' := 26) (host := "") A (Or.inl (w20 hw)) Via.refl F13 d6_23 rfl fun T A => ?_
  refine s_lcmp (pc' := 27) A d6_26 rfl ?_
  refine s_ifN (pc' := 30) A d6_27 rfl (by decide) ?_
  refine s_aloadN (pc' := 31) A d6_30 rfl rfl rfl ?_
  have F14 := (F2.other W10 (Or.inl ne6))
  refine s_getfield (pc' := 34) (host := "") A (Or.inl (w11 hw)) Via.refl F14 d6_31 rfl fun T A => ?_
  refine s_aloadN (pc' := 35) A d6_34 rfl rfl rfl ?_
  refine s_getfield (pc' := 38) (host := "") A (Or.inl (w18 hw)) Via.refl F12 d6_35 rfl fun T A => ?_
  refine s_l2i (pc' := 39) (z := (2 : Int32)) A d6_38 rfl (by decide) ?_
  refine s_iloadN (pc' := 40) A d6_39 rfl rfl ?_
  refine s_iand (pc' := 41) (z := (2 : Int32)) A d6_40 rfl (by decide) ?_
  refine s_iaload (pc' := 42) (i := 2) (v := (.int (0 : Int32))) A V11 (by decide) rfl d6_41 rfl ?_
  refine s_ifN (pc' := 45) A d6_42 rfl (by decide) ?_
  refine s_aloadN (pc' := 46) A d6_45 rfl rfl rfl ?_
  refine s_dup (pc' := 47) A d6_46 rfl rfl ?_
  refine s_getfield (pc' := 50) (host := "") A (Or.inl (w18 hw)) Via.refl F12 d6_47 rfl fun T A => ?_
  refine s_lconst (pc' := 51) (z := (1 : Int64)) A d6_50 rfl (by decide) ?_
  refine s_ladd (pc' := 52) (z := (3 : Int64)) A d6_51 rfl (by decide) ?_
  have E15 := (E1.wr W10)
  refine s_putfield (pc' := 55) (host := "") A (Or.inl (w18 hw)) Via.refl F12 E15 (Or.inl (w19 hw)) (w2 hw) (ty := .long) (by decide) rfl rfl ge7 d6_52 rfl fun T h16 A W17 => ?_
  have F18 := F12.same W17
  refine s_goto (pc' := 18) A d6_55 (by decide) (by decide) ?_
  refine s_aloadN (pc' := 19) A d6_18 rfl rfl rfl ?_
  refine s_getfield (pc' := 22) (host := "") A (Or.inl (w18 hw)) Via.refl F18 d6_19 rfl fun T A => ?_
  refine s_aloadN (pc' := 23) A d6_22 rfl rfl rfl ?_
  have F19 := (F13.other W17 (Or.inr (sn_BeginOrder_next_first hw)))
  refine s_getfield (pc' := 26) (host := "") A (Or.inl (w20 hw)) Via.refl F19 d6_23 rfl fun T A => ?_
  refine s_lcmp (pc' := 27) A d6_26 rfl ?_
  refine s_ifN (pc' := 30) A d6_27 rfl (by decide) ?_
  refine s_aloadN (pc' := 31) A d6_30 rfl rfl rfl ?_
  have F20 := (F14.other W17 (Or.inr (sn_BeginOrder_ring_first hw)))
  refine s_getfield (pc' := 34) (host := "") A (Or.inl (w11 hw)) Via.refl F20 d6_31 rfl fun T A => ?_
  refine s_aloadN (pc' := 35) A d6_34 rfl rfl rfl ?_
  refine s_getfield (pc' := 38) (host := "") A (Or.inl (w18 hw)) Via.refl F18 d6_35 rfl fun T A => ?_
  refine s_l2i (pc' := 39) (z := (3 : Int32)) A d6_38 rfl (by decide) ?_
  refine s_iloadN (pc' := 40) A d6_39 rfl rfl ?_
  refine s_iand (pc' := 41) (z := (3 : Int32)) A d6_40 rfl (by decide) ?_
  have V21 := (V11.other W17 (Ne.symm ne6))
  refine s_iaload (pc' := 42) (i := 3) (v := (.int (0 : Int32))) A V21 (by decide) rfl d6_41 rfl ?_
  refine s_ifN (pc' := 45) A d6_42 rfl (by decide) ?_
  refine s_aloadN (pc' := 46) A d6_45 rfl rfl rfl ?_
  refine s_dup (pc' := 47) A d6_46 rfl rfl ?_
  refine s_getfield (pc' := 50) (host := "") A (Or.inl (w18 hw)) Via.refl F18 d6_47 rfl fun T A => ?_
  refine s_lconst (pc' := 51) (z := (1 : Int64)) A d6_50 rfl (by decide) ?_
  refine s_ladd (pc' := 52) (z := (4 : Int64)) A d6_51 rfl (by decide) ?_
  have E22 := (E15.wr W17)
  refine s_putfield (pc' := 55) (host := "") A (Or.inl (w18 hw)) Via.refl F18 E22 (Or.inl (w19 hw)) (w2 hw) (ty := .long) (by decide) rfl rfl ge7 d6_52 rfl fun T h23 A W24 => ?_
  have F25 := F18.same W24
  refine s_goto (pc' := 18) A d6_55 (by decide) (by decide) ?_
  refine s_aloadN (pc' := 19) A d6_18 rfl rfl rfl ?_
  refine s_getfield (pc' := 22) (host := "") A (Or.inl (w18 hw)) Via.refl F25 d6_19 rfl fun T A => ?_
  refine s_aloadN (pc' := 23) A d6_22 rfl rfl rfl ?_
  have F26 := (F19.other W24 (Or.inr (sn_BeginOrder_next_first hw)))
  refine s_getfield (pc' := 26) (host := "") A (Or.inl (w20 hw)) Via.refl F26 d6_23 rfl fun T A => ?_
  refine s_lcmp (pc' := 27) A d6_26 rfl ?_
  refine s_ifN (pc' := 30) A d6_27 rfl (by decide) ?_
  refine s_aloadN (pc' := 31) A d6_30 rfl rfl rfl ?_
  have F27 := (F20.other W24 (Or.inr (sn_BeginOrder_ring_first hw)))
  refine s_getfield (pc' := 34) (host := "") A (Or.inl (w11 hw)) Via.refl F27 d6_31 rfl fun T A => ?_
  refine s_aloadN (pc' := 35) A d6_34 rfl rfl rfl ?_
  refine s_getfield (pc' := 38) (host := "") A (Or.inl (w18 hw)) Via.refl F25 d6_35 rfl fun T A => ?_
  refine s_l2i (pc' := 39) (z := (4 : Int32)) A d6_38 rfl (by decide) ?_
  refine s_iloadN (pc' := 40) A d6_39 rfl rfl ?_
  refine s_iand (pc' := 41) (z := (0 : Int32)) A d6_40 rfl (by decide) ?_
  have V28 := (V21.other W24 (Ne.symm ne6))
  refine s_iaload (pc' := 42) (i := 0) (v := (.int x0)) A V28 (by decide) rfl d6_41 rfl ?_
  refine s_ifY (pc' := 58) A d6_42 ((if0 _ _).trans (feq nz0).2) (by decide) (by decide) ?_
  have K29 := ((((Keep.refl h0 [a, r_ring]).wr W10 (Or.inl (List.mem_of_getElem? (i := 1) rfl))).wr W17 (Or.inl (List.mem_of_getElem? (i := 0) rfl))).wr W24 (Or.inl (List.mem_of_getElem? (i := 0) rfl)))
  have E30 := (E22.wr W24)
  exact r_void A rfl d6_58 (by decide) (by decide) (⟨rfl, K29, ⟨E30, F27, F25, F26, V28, ne6, ge7, ge8⟩⟩)
set_option maxRecDepth 65536 in
set_option maxHeartbeats 40000000 in
theorem bo_remove66 (l : Launch) (Z : State) (a0 : Array Value) (hw : ∀ d ∈ tables_1, d.before a0 Z = true) (n0 : Nat) (h0 : Heap) (Z0 : n0 ≤ h0.size) (a r_ring : Addr) (x0 : Int32) (x1 : Int32) (H : BO Z n0 h0 a r_ring (2 : Int64) (5 : Int64) [.int x0, .int (0 : Int32), .int x1, .int (0 : Int32)]) (nz0 : ¬ x0 = (0 : Int32)) (nz2 : ¬ x1 = (0 : Int32)) :
    Met l Z n0 y6_remove prog_63_method_3_code 4 (Option.none : Option Jvm.ClassFile.FieldType) ({ frames := 0, cells := 0, slots := 0, locals := 0 } : Room) #[(.ref a), (.long (4 : Int64))] h0 (fun v h => v = none ∧ Keep h0 h [a, r_ring] ∧ BO Z n0 h a r_ring (2 : Int64) (5 : Int64) [.int (0 : Int32), .int (0 : Int32), .int x1, .int (0 : Int32)]) := by
  refine met_intro (own := c1_BeginOrder) (plainFor_of_name pn_com_example_wirefram_wirefram_sequence_BeginOrder) rfl Z0 ?_
  intro p e s m below meth c T A hnm
  refine Wp.cast (g' := mkF m 0 #[rv a, jv 4, S2, U0] []) (by first | (simp [entryFrame, mkF, argsToLocals, Value.category, maxLocals, jv, S2, U0, iv, rv]; done) | rfl) ?_
  obtain ⟨E1, F2, F3, F4, V5, ne6, ge7, ge8⟩ := H
  refine s_aloadN (pc' := 1) A d6_0 rfl rfl rfl ?_
  refine s_getfield (pc' := 4) (host := "") A (Or.inl (w11 hw)) Via.refl F2 d6_1 rfl fun T A => ?_
  refine s_arraylength (pc' := 5) (z := (4 : Int32)) A V5 (by show _ = ((4 : Nat) : Int); decide) d6_4 rfl ?_
  refine s_iconst (pc' := 6) (z := (1 : Int32)) A d6_5 rfl (by decide) ?_
  refine s_isub (pc' := 7) (z := (3 : Int32)) A d6_6 rfl (by decide) ?_
  refine s_istoreN (pc' := 8) (Ls' := #[rv a, jv 4, S2, iv 3]) A d6_7 rfl rfl ?_
  refine s_aloadN (pc' := 9) A d6_8 rfl rfl rfl ?_
  refine s_getfield (pc' := 12) (host := "") A (Or.inl (w11 hw)) Via.refl F2 d6_9 rfl fun T A => ?_
  refine s_lloadN (pc' := 13) A d6_12 rfl rfl ?_
  refine s_l2i (pc' := 14) (z := (4 : Int32)) A d6_13 rfl (by decide) ?_
  refine s_iloadN (pc' := 15) A d6_14 rfl rfl ?_
  refine s_iand (pc' := 16) (z := (0 : Int32)) A d6_15 rfl (by decide) ?_
  refine s_iconst (pc' := 17) (z := (0 : Int32)) A d6_16 rfl (by decide) ?_
  refine s_iastore (pc' := 18) (i := 0) A V5 (by decide) (Nat.le_of_ble_eq_true rfl) ge8 d6_17 rfl fun T h9 A W10 V11 => ?_
  have V11 : AA Z h9 r_ring .int [.int (0 : Int32), .int (0 : Int32), .int x1, .int (0 : Int32)] := V11
  refine s_aloadN (pc' := 19) A d6_18 rfl rfl rfl ?_
  have F12 := (F3.other W10 (Or.inl ne6))
  refine s_getfield (pc' := 22) (host := "") A (Or.inl (w18 hw)) Via.refl F12 d6_19 rfl fun T A => ?_
  refine s_aloadN (pc' := 23) A d6_22 rfl rfl rfl ?_
  have F13 := (F4.other W10 (Or.inl ne6))
  refine s_getfield (pc' := 26) (host := "") A (Or.inl (w20 hw)) Via.refl F13 d6_23 rfl fun T A => ?_
  refine s_lcmp (pc' := 27) A d6_26 rfl ?_
  refine s_ifN (pc' := 30) A d6_27 rfl (by decide) ?_
  refine s_aloadN (pc' := 31) A d6_30 rfl rfl rfl ?_
  have F14 := (F2.other W10 (Or.inl ne6))
  refine s_getfield (pc' := 34) (host := "") A (Or.inl (w11 hw)) Via.refl F14 d6_31 rfl fun T A => ?_
  refine s_aloadN (pc' := 35) A d6_34 rfl rfl rfl ?_
  refine s_getfield (pc' := 38) (host := "") A (Or.inl (w18 hw)) Via.refl F12 d6_35 rfl fun T A => ?_
  refine s_l2i (pc' := 39) (z := (2 : Int32)) A d6_38 rfl (by decide) ?_
  refine s_iloadN (pc' := 40) A d6_39 rfl rfl ?_
  refine s_iand (pc' := 41) (z := (2 : Int32)) A d6_40 rfl (by decide) ?_
  refine s_iaload (pc' := 42) (i := 2) (v := (.int x1)) A V11 (by decide) rfl d6_41 rfl ?_
  refine s_ifY (pc' := 58) A d6_42 ((if0 _ _).trans (feq nz2).2) (by decide) (by decide) ?_
  have K15 := ((Keep.refl h0 [a, r_ring]).wr W10 (Or.inl (List.mem_of_getElem? (i := 1) rfl)))
  have E16 := (E1.wr W10)
  exact r_void A rfl d6_58 (by decide) (by decide) (⟨rfl, K15, ⟨E16, F14, F12, F13, V11, ne6, ge7, ge8⟩⟩)
set_option maxRecDepth 65536 in
set_option maxHeartbeats 40000000 in
theorem bo_remove67 (l : Launch) (Z : State) (a0 : Array Value) (hw : ∀ d ∈ tables_1, d.before a0 Z = true) (n0 : Nat) (h0 : Heap) (Z0 : n0 ≤ h0.size) (a r_ring : Addr) (x0 : Int32) (x1 : Int32) (H : BO Z n0 h0 a r_ring (2 : Int64) (5 : Int64) [.int (0 : Int32), .int (0 : Int32), .int x0, .int x1]) (nz2 : ¬ x0 = (0 : Int32)) (nz3 : ¬ x1 = (0 : Int32)) :
    Met l Z n0 y6_remove prog_63_method_3_code 4 (Option.none : Option Jvm.ClassFile.FieldType) ({ frames := 0, cells := 0, slots := 0, locals := 0 } : Room) #[(.ref a), (.long (2 : Int64))] h0 (fun v h => v = none ∧ Keep h0 h [a, r_ring] ∧ BO Z n0 h a r_ring (3 : Int64) (5 : Int64) [.int (0 : Int32), .int (0 : Int32), .int (0 : Int32), .int x1]) := by
  refine met_intro (own := c1_BeginOrder) (plainFor_of_name pn_com_example_wirefram_wirefram_sequence_BeginOrder) rfl Z0 ?_
  intro p e s m below meth c T A hnm
  refine Wp.cast (g' := mkF m 0 #[rv a, jv 2, S2, U0] []) (by first | (simp [entryFrame, mkF, argsToLocals, Value.category, maxLocals, jv, S2, U0, iv, rv]; done) | rfl) ?_
  obtain ⟨E1, F2, F3, F4, V5, ne6, ge7, ge8⟩ := H
  refine s_aloadN (pc' := 1) A d6_0 rfl rfl rfl ?_
  refine s_getfield (pc' := 4) (host := "") A (Or.inl (w11 hw)) Via.refl F2 d6_1 rfl fun T A => ?_
  refine s_arraylength (pc' := 5) (z := (4 : Int32)) A V5 (by show _ = ((4 : Nat) : Int); decide) d6_4 rfl ?_
  refine s_iconst (pc' := 6) (z := (1 : Int32)) A d6_5 rfl (by decide) ?_
  refine s_isub (pc' := 7) (z := (3 : Int32)) A d6_6 rfl (by decide) ?_
  refine s_istoreN (pc' := 8) (Ls' := #[rv a, jv 2, S2, iv 3]) A d6_7 rfl rfl ?_
  refine s_aloadN (pc' := 9) A d6_8 rfl rfl rfl ?_
  refine s_getfield (pc' := 12) (host := "") A (Or.inl (w11 hw)) Via.refl F2 d6_9 rfl fun T A => ?_
  refine s_lloadN (pc' := 13) A d6_12 rfl rfl ?_
  refine s_l2i (pc' := 14) (z := (2 : Int32)) A d6_13 rfl (by decide) ?_
  refine s_iloadN (pc' := 15) A d6_14 rfl rfl ?_
  refine s_iand (pc' := 16) (z := (2 : Int32)) A d6_15 rfl (by decide) ?_
  refine s_iconst (pc' := 17) (z := (0 : Int32)) A d6_16 rfl (by decide) ?_
  refine s_iastore (pc' := 18) (i := 2) A V5 (by decide) (Nat.le_of_ble_eq_true rfl) ge8 d6_17 rfl fun T h9 A W10 V11 => ?_
  have V11 : AA Z h9 r_ring .int [.int (0 : Int32), .int (0 : Int32), .int (0 : Int32), .int x1] := V11
  refine s_aloadN (pc' := 19) A d6_18 rfl rfl rfl ?_
  have F12 := (F3.other W10 (Or.inl ne6))
  refine s_getfield (pc' := 22) (host := "") A (Or.inl (w18 hw)) Via.refl F12 d6_19 rfl fun T A => ?_
  refine s_aloadN (pc' := 23) A d6_22 rfl rfl rfl ?_
  have F13 := (F4.other W10 (Or.inl ne6))
  refine s_getfield (pc' := 26) (host := "") A (Or.inl (w20 hw)) Via.refl F13 d6_23 rfl fun T A => ?_
  refine s_lcmp (pc' := 27) A d6_26 rfl ?_
  refine s_ifN (pc' := 30) A d6_27 rfl (by decide) ?_
  refine s_aloadN (pc' := 31) A d6_30 rfl rfl rfl ?_
  have F14 := (F2.other W10 (Or.inl ne6))
  refine s_getfield (pc' := 34) (host := "") A (Or.inl (w11 hw)) Via.refl F14 d6_31 rfl fun T A => ?_
  refine s_aloadN (pc' := 35) A d6_34 rfl rfl rfl ?_
  refine s_getfield (pc' := 38) (host := "") A (Or.inl (w18 hw)) Via.refl F12 d6_35 rfl fun T A => ?_
  refine s_l2i (pc' := 39) (z := (2 : Int32)) A d6_38 rfl (by decide) ?_
  refine s_iloadN (pc' := 40) A d6_39 rfl rfl ?_
  refine s_iand (pc' := 41) (z := (2 : Int32)) A d6_40 rfl (by decide) ?_
  refine s_iaload (pc' := 42) (i := 2) (v := (.int (0 : Int32))) A V11 (by decide) rfl d6_41 rfl ?_
  refine s_ifN (pc' := 45) A d6_42 rfl (by decide) ?_
  refine s_aloadN (pc' := 46) A d6_45 rfl rfl rfl ?_
  refine s_dup (pc' := 47) A d6_46 rfl rfl ?_
  refine s_getfield (pc' := 50) (host := "") A (Or.inl (w18 hw)) Via.refl F12 d6_47 rfl fun T A => ?_
  refine s_lconst (pc' := 51) (z := (1 : Int64)) A d6_50 rfl (by decide) ?_
  refine s_ladd (pc' := 52) (z := (3 : Int64)) A d6_51 rfl (by decide) ?_
  have E15 := (E1.wr W10)
  refine s_putfield (pc' := 55) (host := "") A (Or.inl (w18 hw)) Via.refl F12 E15 (Or.inl (w19 hw)) (w2 hw) (ty := .long) (by decide) rfl rfl ge7 d6_52 rfl fun T h16 A W17 => ?_
  have F18 := F12.same W17
  refine s_goto (pc' := 18) A d6_55 (by decide) (by decide) ?_
  refine s_aloadN (pc' := 19) A d6_18 rfl rfl rfl ?_
  refine s_getfield (pc' := 22) (host := "") A (Or.inl (w18 hw)) Via.refl F18 d6_19 rfl fun T A => ?_
  refine s_aloadN (pc' := 23) A d6_22 rfl rfl rfl ?_
  have F19 := (F13.other W17 (Or.inr (sn_BeginOrder_next_first hw)))
  refine s_getfield (pc' := 26) (host := "") A (Or.inl (w20 hw)) Via.refl F19 d6_23 rfl fun T A => ?_
  refine s_lcmp (pc' := 27) A d6_26 rfl ?_
  refine s_ifN (pc' := 30) A d6_27 rfl (by decide) ?_
  refine s_aloadN (pc' := 31) A d6_30 rfl rfl rfl ?_
  have F20 := (F14.other W17 (Or.inr (sn_BeginOrder_ring_first hw)))
  refine s_getfield (pc' := 34) (host := "") A (Or.inl (w11 hw)) Via.refl F20 d6_31 rfl fun T A => ?_
  refine s_aloadN (pc' := 35) A d6_34 rfl rfl rfl ?_
  refine s_getfield (pc' := 38) (host := "") A (Or.inl (w18 hw)) Via.refl F18 d6_35 rfl fun T A => ?_
  refine s_l2i (pc' := 39) (z := (3 : Int32)) A d6_38 rfl (by decide) ?_
  refine s_iloadN (pc' := 40) A d6_39 rfl rfl ?_
  refine s_iand (pc' := 41) (z := (3 : Int32)) A d6_40 rfl (by decide) ?_
  have V21 := (V11.other W17 (Ne.symm ne6))
  refine s_iaload (pc' := 42) (i := 3) (v := (.int x1)) A V21 (by decide) rfl d6_41 rfl ?_
  refine s_ifY (pc' := 58) A d6_42 ((if0 _ _).trans (feq nz3).2) (by decide) (by decide) ?_
  have K22 := (((Keep.refl h0 [a, r_ring]).wr W10 (Or.inl (List.mem_of_getElem? (i := 1) rfl))).wr W17 (Or.inl (List.mem_of_getElem? (i := 0) rfl)))
  have E23 := (E15.wr W17)
  exact r_void A rfl d6_58 (by decide) (by decide) (⟨rfl, K22, ⟨E23, F20, F18, F19, V21, ne6, ge7, ge8⟩⟩)
set_option maxRecDepth 65536 in
set_option maxHeartbeats 40000000 in
theorem bo_remove68 (l : Launch) (Z : State) (a0 : Array Value) (hw : ∀ d ∈ tables_1, d.before a0 Z = true) (n0 : Nat) (h0 : Heap) (Z0 : n0 ≤ h0.size) (a r_ring : Addr) (x0 : Int32) (x1 : Int32) (H : BO Z n0 h0 a r_ring (2 : Int64) (5 : Int64) [.int (0 : Int32), .int (0 : Int32), .int x0, .int x1]) (nz2 : ¬ x0 = (0 : Int32)) (nz3 : ¬ x1 = (0 : Int32)) :
    Met l Z n0 y6_remove prog_63_method_3_code 4 (Option.none : Option Jvm.ClassFile.FieldType) ({ frames := 0, cells := 0, slots := 0, locals := 0 } : Room) #[(.ref a), (.long (3 : Int64))] h0 (fun v h => v = none ∧ Keep h0 h [a, r_ring] ∧ BO Z n0 h a r_ring (2 : Int64) (5 : Int64) [.int (0 : Int32), .int (0 : Int32), .int x0, .int (0 : Int32)]) := by
  refine met_intro (own := c1_BeginOrder) (plainFor_of_name pn_com_example_wirefram_wirefram_sequence_BeginOrder) rfl Z0 ?_
  intro p e s m below meth c T A hnm
  refine Wp.cast (g' := mkF m 0 #[rv a, jv 3, S2, U0] []) (by first | (simp [entryFrame, mkF, argsToLocals, Value.category, maxLocals, jv, S2, U0, iv, rv]; done) | rfl) ?_
  obtain ⟨E1, F2, F3, F4, V5, ne6, ge7, ge8⟩ := H
  refine s_aloadN (pc' := 1) A d6_0 rfl rfl rfl ?_
  refine s_getfield (pc' := 4) (host := "") A (Or.inl (w11 hw)) Via.refl F2 d6_1 rfl fun T A => ?_
  refine s_arraylength (pc' := 5) (z := (4 : Int32)) A V5 (by show _ = ((4 : Nat) : Int); decide) d6_4 rfl ?_
  refine s_iconst (pc' := 6) (z := (1 : Int32)) A d6_5 rfl (by decide) ?_
  refine s_isub (pc' := 7) (z := (3 : Int32)) A d6_6 rfl (by decide) ?_
  refine s_istoreN (pc' := 8) (Ls' := #[rv a, jv 3, S2, iv 3]) A d6_7 rfl rfl ?_
  refine s_aloadN (pc' := 9) A d6_8 rfl rfl rfl ?_
  refine s_getfield (pc' := 12) (host := "") A (Or.inl (w11 hw)) Via.refl F2 d6_9 rfl fun T A => ?_
  refine s_lloadN (pc' := 13) A d6_12 rfl rfl ?_
  refine s_l2i (pc' := 14) (z := (3 : Int32)) A d6_13 rfl (by decide) ?_
  refine s_iloadN (pc' := 15) A d6_14 rfl rfl ?_
  refine s_iand (pc' := 16) (z := (3 : Int32)) A d6_15 rfl (by decide) ?_
  refine s_iconst (pc' := 17) (z := (0 : Int32)) A d6_16 rfl (by decide) ?_
  refine s_iastore (pc' := 18) (i := 3) A V5 (by decide) (Nat.le_of_ble_eq_true rfl) ge8 d6_17 rfl fun T h9 A W10 V11 => ?_
  have V11 : AA Z h9 r_ring .int [.int (0 : Int32), .int (0 : Int32), .int x0, .int (0 : Int32)] := V11
  refine s_aloadN (pc' := 19) A d6_18 rfl rfl rfl ?_
  have F12 := (F3.other W10 (Or.inl ne6))
  refine s_getfield (pc' := 22) (host := "") A (Or.inl (w18 hw)) Via.refl F12 d6_19 rfl fun T A => ?_
  refine s_aloadN (pc' := 23) A d6_22 rfl rfl rfl ?_
  have F13 := (F4.other W10 (Or.inl ne6))
  refine s_getfield (pc' := 26) (host := "") A (Or.inl (w20 hw)) Via.refl F13 d6_23 rfl fun T A => ?_
  refine s_lcmp (pc' := 27) A d6_26 rfl ?_
  refine s_ifN (pc' := 30) A d6_27 rfl (by decide) ?_
  refine s_aloadN (pc' := 31) A d6_30 rfl rfl rfl ?_
  have F14 := (F2.other W10 (Or.inl ne6))
  refine s_getfield (pc' := 34) (host := "") A (Or.inl (w11 hw)) Via.refl F14 d6_31 rfl fun T A => ?_
  refine s_aloadN (pc' := 35) A d6_34 rfl rfl rfl ?_
  refine s_getfield (pc' := 38) (host := "") A (Or.inl (w18 hw)) Via.refl F12 d6_35 rfl fun T A => ?_
  refine s_l2i (pc' := 39) (z := (2 : Int32)) A d6_38 rfl (by decide) ?_
  refine s_iloadN (pc' := 40) A d6_39 rfl rfl ?_
  refine s_iand (pc' := 41) (z := (2 : Int32)) A d6_40 rfl (by decide) ?_
  refine s_iaload (pc' := 42) (i := 2) (v := (.int x0)) A V11 (by decide) rfl d6_41 rfl ?_
  refine s_ifY (pc' := 58) A d6_42 ((if0 _ _).trans (feq nz2).2) (by decide) (by decide) ?_
  have K15 := ((Keep.refl h0 [a, r_ring]).wr W10 (Or.inl (List.mem_of_getElem? (i := 1) rfl)))
  have E16 := (E1.wr W10)
  exact r_void A rfl d6_58 (by decide) (by decide) (⟨rfl, K15, ⟨E16, F14, F12, F13, V11, ne6, ge7, ge8⟩⟩)
set_option maxRecDepth 65536 in
set_option maxHeartbeats 40000000 in
theorem bo_remove69 (l : Launch) (Z : State) (a0 : Array Value) (hw : ∀ d ∈ tables_1, d.before a0 Z = true) (n0 : Nat) (h0 : Heap) (Z0 : n0 ≤ h0.size) (a r_ring : Addr) (x0 : Int32) (H : BO Z n0 h0 a r_ring (4 : Int64) (5 : Int64) [.int x0, .int (0 : Int32), .int (0 : Int32), .int (0 : Int32)]) (nz0 : ¬ x0 = (0 : Int32)) :
    Met l Z n0 y6_remove prog_63_method_3_code 4 (Option.none : Option Jvm.ClassFile.FieldType) ({ frames := 0, cells := 0, slots := 0, locals := 0 } : Room) #[(.ref a), (.long (4 : Int64))] h0 (fun v h => v = none ∧ Keep h0 h [a, r_ring] ∧ BO Z n0 h a r_ring (5 : Int64) (5 : Int64) [.int (0 : Int32), .int (0 : Int32), .int (0 : Int32), .int (0 : Int32)]) := by
  refine met_intro (own := c1_BeginOrder) (plainFor_of_name pn_com_example_wirefram_wirefram_sequence_BeginOrder) rfl Z0 ?_
  intro p e s m below meth c T A hnm
  refine Wp.cast (g' := mkF m 0 #[rv a, jv 4, S2, U0] []) (by first | (simp [entryFrame, mkF, argsToLocals, Value.category, maxLocals, jv, S2, U0, iv, rv]; done) | rfl) ?_
  obtain ⟨E1, F2, F3, F4, V5, ne6, ge7, ge8⟩ := H
  refine s_aloadN (pc' := 1) A d6_0 rfl rfl rfl ?_
  refine s_getfield (pc' := 4) (host := "") A (Or.inl (w11 hw)) Via.refl F2 d6_1 rfl fun T A => ?_
  refine s_arraylength (pc' := 5) (z := (4 : Int32)) A V5 (by show _ = ((4 : Nat) : Int); decide) d6_4 rfl ?_
  refine s_iconst (pc' := 6) (z := (1 : Int32)) A d6_5 rfl (by decide) ?_
  refine s_isub (pc' := 7) (z := (3 : Int32)) A d6_6 rfl (by decide) ?_
  refine s_istoreN (pc' := 8) (Ls' := #[rv a, jv 4, S2, iv 3]) A d6_7 rfl rfl ?_
  refine s_aloadN (pc' := 9) A d6_8 rfl rfl rfl ?_
  refine s_getfield (pc' := 12) (host := "") A (Or.inl (w11 hw)) Via.refl F2 d6_9 rfl fun T A => ?_
  refine s_lloadN (pc' := 13) A d6_12 rfl rfl ?_
  refine s_l2i (pc' := 14) (z := (4 : Int32)) A d6_13 rfl (by decide) ?_
  refine s_iloadN (pc' := 15) A d6_14 rfl rfl ?_
  refine s_iand (pc' := 16) (z := (0 : Int32)) A d6_15 rfl (by decide) ?_
  refine s_iconst (pc' := 17) (z := (0 : Int32)) A d6_16 rfl (by decide) ?_
  refine s_iastore (pc' := 18) (i := 0) A V5 (by decide) (Nat.le_of_ble_eq_true rfl) ge8 d6_17 rfl fun T h9 A W10 V11 => ?_
  have V11 : AA Z h9 r_ring .int [.int (0 : Int32), .int (0 : Int32), .int (0 : Int32), .int (0 : Int32)] := V11
  refine s_aloadN (pc' := 19) A d6_18 rfl rfl rfl ?_
  have F12 := (F3.other W10 (Or.inl ne6))
  refine s_getfield (pc' := 22) (host := "") A (Or.inl (w18 hw)) Via.refl F12 d6_19 rfl fun T A => ?_
  refine s_aloadN (pc' := 23) A d6_22 rfl rfl rfl ?_
  have F13 := (F4.other W10 (Or.inl ne6))
  refine s_getfield (pc' := 26) (host := "") A (Or.inl (w20 hw)) Via.refl F13 d6_23 rfl fun T A => ?_
  refine s_lcmp (pc' := 27) A d6_26 rfl ?_
  refine s_ifN (pc' := 30) A d6_27 rfl (by decide) ?_
  refine s_aloadN (pc' := 31) A d6_30 rfl rfl rfl ?_
  have F14 := (F2.other W10 (Or.inl ne6))
  refine s_getfield (pc' := 34) (host := "") A (Or.inl (w11 hw)) Via.refl F14 d6_31 rfl fun T A => ?_
  refine s_aloadN (pc' := 35) A d6_34 rfl rfl rfl ?_
  refine s_getfield (pc' := 38) (host := "") A (Or.inl (w18 hw)) Via.refl F12 d6_35 rfl fun T A => ?_
  refine s_l2i (pc' := 39) (z := (4 : Int32)) A d6_38 rfl (by decide) ?_
  refine s_iloadN (pc' := 40) A d6_39 rfl rfl ?_
  refine s_iand (pc' := 41) (z := (0 : Int32)) A d6_40 rfl (by decide) ?_
  refine s_iaload (pc' := 42) (i := 0) (v := (.int (0 : Int32))) A V11 (by decide) rfl d6_41 rfl ?_
  refine s_ifN (pc' := 45) A d6_42 rfl (by decide) ?_
  refine s_aloadN (pc' := 46) A d6_45 rfl rfl rfl ?_
  refine s_dup (pc' := 47) A d6_46 rfl rfl ?_
  refine s_getfield (pc' := 50) (host := "") A (Or.inl (w18 hw)) Via.refl F12 d6_47 rfl fun T A => ?_
  refine s_lconst (pc' := 51) (z := (1 : Int64)) A d6_50 rfl (by decide) ?_
  refine s_ladd (pc' := 52) (z := (5 : Int64)) A d6_51 rfl (by decide) ?_
  have E15 := (E1.wr W10)
  refine s_putfield (pc' := 55) (host := "") A (Or.inl (w18 hw)) Via.refl F12 E15 (Or.inl (w19 hw)) (w2 hw) (ty := .long) (by decide) rfl rfl ge7 d6_52 rfl fun T h16 A W17 => ?_
  have F18 := F12.same W17
  refine s_goto (pc' := 18) A d6_55 (by decide) (by decide) ?_
  refine s_aloadN (pc' := 19) A d6_18 rfl rfl rfl ?_
  refine s_getfield (pc' := 22) (host := "") A (Or.inl (w18 hw)) Via.refl F18 d6_19 rfl fun T A => ?_
  refine s_aloadN (pc' := 23) A d6_22 rfl rfl rfl ?_
  have F19 := (F13.other W17 (Or.inr (sn_BeginOrder_next_first hw)))
  refine s_getfield (pc' := 26) (host := "") A (Or.inl (w20 hw)) Via.refl F19 d6_23 rfl fun T A => ?_
  refine s_lcmp (pc' := 27) A d6_26 rfl ?_
  refine s_ifY (pc' := 58) A d6_27 (by decide) (by decide) (by decide) ?_
  have K20 := (((Keep.refl h0 [a, r_ring]).wr W10 (Or.inl (List.mem_of_getElem? (i := 1) rfl))).wr W17 (Or.inl (List.mem_of_getElem? (i := 0) rfl)))
  have E21 := (E15.wr W17)
  have F22 := (F14.other W17 (Or.inr (sn_BeginOrder_ring_first hw)))
  have V23 := (V11.other W17 (Ne.symm ne6))
  exact r_void A rfl d6_58 (by decide) (by decide) (⟨rfl, K20, ⟨E21, F22, F18, F19, V23, ne6, ge7, ge8⟩⟩)
set_option maxRecDepth 65536 in
set_option maxHeartbeats 40000000 in
theorem bo_isEmpty70 (l : Launch) (Z : State) (a0 : Array Value) (hw : ∀ d ∈ tables_1, d.before a0 Z = true) (n0 : Nat) (h0 : Heap) (Z0 : n0 ≤ h0.size) (a r_ring : Addr)  (l_ring : List Value) (H : BO Z n0 h0 a r_ring (5 : Int64) (5 : Int64) l_ring) :
    Met l Z n0 y3_isEmpty prog_63_method_4_code 1 (Option.some Jvm.ClassFile.FieldType.boolean) ({ frames := 0, cells := 0, slots := 0, locals := 0 } : Room) #[(.ref a)] h0 (fun v h => v = some (.int (1 : Int32)) ∧ Keep h0 h [a, r_ring] ∧ BO Z n0 h a r_ring (5 : Int64) (5 : Int64) l_ring) := by
  refine met_intro (own := c1_BeginOrder) (plainFor_of_name pn_com_example_wirefram_wirefram_sequence_BeginOrder) rfl Z0 ?_
  intro p e s m below meth c T A hnm
  refine Wp.cast (g' := mkF m 0 #[rv a] []) (by first | (simp [entryFrame, mkF, argsToLocals, Value.category, maxLocals, jv, S2, U0, iv, rv]; done) | rfl) ?_
  obtain ⟨E1, F2, F3, F4, V5, ne6, ge7, ge8⟩ := H
  refine s_aloadN (pc' := 1) A d3_0 rfl rfl rfl ?_
  refine s_getfield (pc' := 4) (host := "") A (Or.inl (w18 hw)) Via.refl F3 d3_1 rfl fun T A => ?_
  refine s_aloadN (pc' := 5) A d3_4 rfl rfl rfl ?_
  refine s_getfield (pc' := 8) (host := "") A (Or.inl (w20 hw)) Via.refl F4 d3_5 rfl fun T A => ?_
  refine s_lcmp (pc' := 9) A d3_8 rfl ?_
  refine s_ifN (pc' := 12) A d3_9 rfl (by decide) ?_
  refine s_iconst (pc' := 13) (z := (1 : Int32)) A d3_12 rfl (by decide) ?_
  refine s_goto (pc' := 17) A d3_13 (by decide) (by decide) ?_
  exact r_bool A rfl (by decide) d3_17 (by decide) (by decide) (⟨rfl, (Keep.refl h0 [a, r_ring]), ⟨E1, F2, F3, F4, V5, ne6, ge7, ge8⟩⟩)
set_option maxRecDepth 65536 in
set_option maxHeartbeats 40000000 in
theorem bo_remove71 (l : Launch) (Z : State) (a0 : Array Value) (hw : ∀ d ∈ tables_1, d.before a0 Z = true) (n0 : Nat) (h0 : Heap) (Z0 : n0 ≤ h0.size) (a r_ring : Addr) (x0 : Int32) (H : BO Z n0 h0 a r_ring (3 : Int64) (5 : Int64) [.int (0 : Int32), .int (0 : Int32), .int (0 : Int32), .int x0]) (nz3 : ¬ x0 = (0 : Int32)) :
    Met l Z n0 y6_remove prog_63_method_3_code 4 (Option.none : Option Jvm.ClassFile.FieldType) ({ frames := 0, cells := 0, slots := 0, locals := 0 } : Room) #[(.ref a), (.long (3 : Int64))] h0 (fun v h => v = none ∧ Keep h0 h [a, r_ring] ∧ BO Z n0 h a r_ring (5 : Int64) (5 : Int64) [.int (0 : Int32), .int (0 : Int32), .int (0 : Int32), .int (0 : Int32)]) := by
  refine met_intro (own := c1_BeginOrder) (plainFor_of_name pn_com_example_wirefram_wirefram_sequence_BeginOrder) rfl Z0 ?_
  intro p e s m below meth c T A hnm
  refine Wp.cast (g' := mkF m 0 #[rv a, jv 3, S2, U0] []) (by first | (simp [entryFrame, mkF, argsToLocals, Value.category, maxLocals, jv, S2, U0, iv, rv]; done) | rfl) ?_
  obtain ⟨E1, F2, F3, F4, V5, ne6, ge7, ge8⟩ := H
  refine s_aloadN (pc' := 1) A d6_0 rfl rfl rfl ?_
  refine s_getfield (pc' := 4) (host := "") A (Or.inl (w11 hw)) Via.refl F2 d6_1 rfl fun T A => ?_
  refine s_arraylength (pc' := 5) (z := (4 : Int32)) A V5 (by show _ = ((4 : Nat) : Int); decide) d6_4 rfl ?_
  refine s_iconst (pc' := 6) (z := (1 : Int32)) A d6_5 rfl (by decide) ?_
  refine s_isub (pc' := 7) (z := (3 : Int32)) A d6_6 rfl (by decide) ?_
  refine s_istoreN (pc' := 8) (Ls' := #[rv a, jv 3, S2, iv 3]) A d6_7 rfl rfl ?_
  refine s_aloadN (pc' := 9) A d6_8 rfl rfl rfl ?_
  refine s_getfield (pc' := 12) (host := "") A (Or.inl (w11 hw)) Via.refl F2 d6_9 rfl fun T A => ?_
  refine s_lloadN (pc' := 13) A d6_12 rfl rfl ?_
  refine s_l2i (pc' := 14) (z := (3 : Int32)) A d6_13 rfl (by decide) ?_
  refine s_iloadN (pc' := 15) A d6_14 rfl rfl ?_
  refine s_iand (pc' := 16) (z := (3 : Int32)) A d6_15 rfl (by decide) ?_
  refine s_iconst (pc' := 17) (z := (0 : Int32)) A d6_16 rfl (by decide) ?_
  refine s_iastore (pc' := 18) (i := 3) A V5 (by decide) (Nat.le_of_ble_eq_true rfl) ge8 d6_17 rfl fun T h9 A W10 V11 => ?_
  have V11 : AA Z h9 r_ring .int [.int (0 : Int32), .int (0 : Int32), .int (0 : Int32), .int (0 : Int32)] := V11
  refine s_aloadN (pc' := 19) A d6_18 rfl rfl rfl ?_
  have F12 := (F3.other W10 (Or.inl ne6))
  refine s_getfield (pc' := 22) (host := "") A (Or.inl (w18 hw)) Via.refl F12 d6_19 rfl fun T A => ?_
  refine s_aloadN (pc' := 23) A d6_22 rfl rfl rfl ?_
  have F13 := (F4.other W10 (Or.inl ne6))
  refine s_getfield (pc' := 26) (host := "") A (Or.inl (w20 hw)) Via.refl F13 d6_23 rfl fun T A => ?_
  refine s_lcmp (pc' := 27) A d6_26 rfl ?_
  refine s_ifN (pc' := 30) A d6_27 rfl (by decide) ?_
  refine s_aloadN (pc' := 31) A d6_30 rfl rfl rfl ?_
  have F14 := (F2.other W10 (Or.inl ne6))
  refine s_getfield (pc' := 34) (host := "") A (Or.inl (w11 hw)) Via.refl F14 d6_31 rfl fun T A => ?_
  refine s_aloadN (pc' := 35) A d6_34 rfl rfl rfl ?_
  refine s_getfield (pc' := 38) (host := "") A (Or.inl (w18 hw)) Via.refl F12 d6_35 rfl fun T A => ?_
  refine s_l2i (pc' := 39) (z := (3 : Int32)) A d6_38 rfl (by decide) ?_
  refine s_iloadN (pc' := 40) A d6_39 rfl rfl ?_
  refine s_iand (pc' := 41) (z := (3 : Int32)) A d6_40 rfl (by decide) ?_
  refine s_iaload (pc' := 42) (i := 3) (v := (.int (0 : Int32))) A V11 (by decide) rfl d6_41 rfl ?_
  refine s_ifN (pc' := 45) A d6_42 rfl (by decide) ?_
  refine s_aloadN (pc' := 46) A d6_45 rfl rfl rfl ?_
  refine s_dup (pc' := 47) A d6_46 rfl rfl ?_
  refine s_getfield (pc' := 50) (host := "") A (Or.inl (w18 hw)) Via.refl F12 d6_47 rfl fun T A => ?_
  refine s_lconst (pc' := 51) (z := (1 : Int64)) A d6_50 rfl (by decide) ?_
  refine s_ladd (pc' := 52) (z := (4 : Int64)) A d6_51 rfl (by decide) ?_
  have E15 := (E1.wr W10)
  refine s_putfield (pc' := 55) (host := "") A (Or.inl (w18 hw)) Via.refl F12 E15 (Or.inl (w19 hw)) (w2 hw) (ty := .long) (by decide) rfl rfl ge7 d6_52 rfl fun T h16 A W17 => ?_
  have F18 := F12.same W17
  refine s_goto (pc' := 18) A d6_55 (by decide) (by decide) ?_
  refine s_aloadN (pc' := 19) A d6_18 rfl rfl rfl ?_
  refine s_getfield (pc' := 22) (host := "") A (Or.inl (w18 hw)) Via.refl F18 d6_19 rfl fun T A => ?_
  refine s_aloadN (pc' := 23) A d6_22 rfl rfl rfl ?_
  have F19 := (F13.other W17 (Or.inr (sn_BeginOrder_next_first hw)))
  refine s_getfield (pc' := 26) (host := "") A (Or.inl (w20 hw)) Via.refl F19 d6_23 rfl fun T A => ?_
  refine s_lcmp (pc' := 27) A d6_26 rfl ?_
  refine s_ifN (pc' := 30) A d6_27 rfl (by decide) ?_
  refine s_aloadN (pc' := 31) A d6_30 rfl rfl rfl ?_
  have F20 := (F14.other W17 (Or.inr (sn_BeginOrder_ring_first hw)))
  refine s_getfield (pc' := 34) (host := "") A (Or.inl (w11 hw)) Via.refl F20 d6_31 rfl fun T A => ?_
  refine s_aloadN (pc' := 35) A d6_34 rfl rfl rfl ?_
  refine s_getfield (pc' := 38) (host := "") A (Or.inl (w18 hw)) Via.refl F18 d6_35 rfl fun T A => ?_
  refine s_l2i (pc' := 39) (z := (4 : Int32)) A d6_38 rfl (by decide) ?_
  refine s_iloadN (pc' := 40) A d6_39 rfl rfl ?_
  refine s_iand (pc' := 41) (z := (0 : Int32)) A d6_40 rfl (by decide) ?_
  have V21 := (V11.other W17 (Ne.symm ne6))
  refine s_iaload (pc' := 42) (i := 0) (v := (.int (0 : Int32))) A V21 (by decide) rfl d6_41 rfl ?_
  refine s_ifN (pc' := 45) A d6_42 rfl (by decide) ?_
  refine s_aloadN (pc' := 46) A d6_45 rfl rfl rfl ?_
  refine s_dup (pc' := 47) A d6_46 rfl rfl ?_
  refine s_getfield (pc' := 50) (host := "") A (Or.inl (w18 hw)) Via.refl F18 d6_47 rfl fun T A => ?_
  refine s_lconst (pc' := 51) (z := (1 : Int64)) A d6_50 rfl (by decide) ?_
  refine s_ladd (pc' := 52) (z := (5 : Int64)) A d6_51 rfl (by decide) ?_
  have E22 := (E15.wr W17)
  refine s_putfield (pc' := 55) (host := "") A (Or.inl (w18 hw)) Via.refl F18 E22 (Or.inl (w19 hw)) (w2 hw) (ty := .long) (by decide) rfl rfl ge7 d6_52 rfl fun T h23 A W24 => ?_
  have F25 := F18.same W24
  refine s_goto (pc' := 18) A d6_55 (by decide) (by decide) ?_
  refine s_aloadN (pc' := 19) A d6_18 rfl rfl rfl ?_
  refine s_getfield (pc' := 22) (host := "") A (Or.inl (w18 hw)) Via.refl F25 d6_19 rfl fun T A => ?_
  refine s_aloadN (pc' := 23) A d6_22 rfl rfl rfl ?_
  have F26 := (F19.other W24 (Or.inr (sn_BeginOrder_next_first hw)))
  refine s_getfield (pc' := 26) (host := "") A (Or.inl (w20 hw)) Via.refl F26 d6_23 rfl fun T A => ?_
  refine s_lcmp (pc' := 27) A d6_26 rfl ?_
  refine s_ifY (pc' := 58) A d6_27 (by decide) (by decide) (by decide) ?_
  have K27 := ((((Keep.refl h0 [a, r_ring]).wr W10 (Or.inl (List.mem_of_getElem? (i := 1) rfl))).wr W17 (Or.inl (List.mem_of_getElem? (i := 0) rfl))).wr W24 (Or.inl (List.mem_of_getElem? (i := 0) rfl)))
  have E28 := (E22.wr W24)
  have F29 := (F20.other W24 (Or.inr (sn_BeginOrder_ring_first hw)))
  have V30 := (V21.other W24 (Ne.symm ne6))
  exact r_void A rfl d6_58 (by decide) (by decide) (⟨rfl, K27, ⟨E28, F29, F25, F26, V30, ne6, ge7, ge8⟩⟩)
set_option maxRecDepth 65536 in
set_option maxHeartbeats 40000000 in
theorem bo_remove72 (l : Launch) (Z : State) (a0 : Array Value) (hw : ∀ d ∈ tables_1, d.before a0 Z = true) (n0 : Nat) (h0 : Heap) (Z0 : n0 ≤ h0.size) (a r_ring : Addr) (x0 : Int32) (H : BO Z n0 h0 a r_ring (2 : Int64) (5 : Int64) [.int (0 : Int32), .int (0 : Int32), .int x0, .int (0 : Int32)]) (nz2 : ¬ x0 = (0 : Int32)) :
    Met l Z n0 y6_remove prog_63_method_3_code 4 (Option.none : Option Jvm.ClassFile.FieldType) ({ frames := 0, cells := 0, slots := 0, locals := 0 } : Room) #[(.ref a), (.long (2 : Int64))] h0 (fun v h => v = none ∧ Keep h0 h [a, r_ring] ∧ BO Z n0 h a r_ring (5 : Int64) (5 : Int64) [.int (0 : Int32), .int (0 : Int32), .int (0 : Int32), .int (0 : Int32)]) := by
  refine met_intro (own := c1_BeginOrder) (plainFor_of_name pn_com_example_wirefram_wirefram_sequence_BeginOrder) rfl Z0 ?_
  intro p e s m below meth c T A hnm
  refine Wp.cast (g' := mkF m 0 #[rv a, jv 2, S2, U0] []) (by first | (simp [entryFrame, mkF, argsToLocals, Value.category, maxLocals, jv, S2, U0, iv, rv]; done) | rfl) ?_
  obtain ⟨E1, F2, F3, F4, V5, ne6, ge7, ge8⟩ := H
  refine s_aloadN (pc' := 1) A d6_0 rfl rfl rfl ?_
  refine s_getfield (pc' := 4) (host := "") A (Or.inl (w11 hw)) Via.refl F2 d6_1 rfl fun T A => ?_
  refine s_arraylength (pc' := 5) (z := (4 : Int32)) A V5 (by show _ = ((4 : Nat) : Int); decide) d6_4 rfl ?_
  refine s_iconst (pc' := 6) (z := (1 : Int32)) A d6_5 rfl (by decide) ?_
  refine s_isub (pc' := 7) (z := (3 : Int32)) A d6_6 rfl (by decide) ?_
  refine s_istoreN (pc' := 8) (Ls' := #[rv a, jv 2, S2, iv 3]) A d6_7 rfl rfl ?_
  refine s_aloadN (pc' := 9) A d6_8 rfl rfl rfl ?_
  refine s_getfield (pc' := 12) (host := "") A (Or.inl (w11 hw)) Via.refl F2 d6_9 rfl fun T A => ?_
  refine s_lloadN (pc' := 13) A d6_12 rfl rfl ?_
  refine s_l2i (pc' := 14) (z := (2 : Int32)) A d6_13 rfl (by decide) ?_
  refine s_iloadN (pc' := 15) A d6_14 rfl rfl ?_
  refine s_iand (pc' := 16) (z := (2 : Int32)) A d6_15 rfl (by decide) ?_
  refine s_iconst (pc' := 17) (z := (0 : Int32)) A d6_16 rfl (by decide) ?_
  refine s_iastore (pc' := 18) (i := 2) A V5 (by decide) (Nat.le_of_ble_eq_true rfl) ge8 d6_17 rfl fun T h9 A W10 V11 => ?_
  have V11 : AA Z h9 r_ring .int [.int (0 : Int32), .int (0 : Int32), .int (0 : Int32), .int (0 : Int32)] := V11
  refine s_aloadN (pc' := 19) A d6_18 rfl rfl rfl ?_
  have F12 := (F3.other W10 (Or.inl ne6))
  refine s_getfield (pc' := 22) (host := "") A (Or.inl (w18 hw)) Via.refl F12 d6_19 rfl fun T A => ?_
  refine s_aloadN (pc' := 23) A d6_22 rfl rfl rfl ?_
  have F13 := (F4.other W10 (Or.inl ne6))
  refine s_getfield (pc' := 26) (host := "") A (Or.inl (w20 hw)) Via.refl F13 d6_23 rfl fun T A => ?_
  refine s_lcmp (pc' := 27) A d6_26 rfl ?_
  refine s_ifN (pc' := 30) A d6_27 rfl (by decide) ?_
  refine s_aloadN (pc' := 31) A d6_30 rfl rfl rfl ?_
  have F14 := (F2.other W10 (Or.inl ne6))
  refine s_getfield (pc' := 34) (host := "") A (Or.inl (w11 hw)) Via.refl F14 d6_31 rfl fun T A => ?_
  refine s_aloadN (pc' := 35) A d6_34 rfl rfl rfl ?_
  refine s_getfield (pc' := 38) (host := "") A (Or.inl (w18 hw)) Via.refl F12 d6_35 rfl fun T A => ?_
  refine s_l2i (pc' := 39) (z := (2 : Int32)) A d6_38 rfl (by decide) ?_
  refine s_iloadN (pc' := 40) A d6_39 rfl rfl ?_
  refine s_iand (pc' := 41) (z := (2 : Int32)) A d6_40 rfl (by decide) ?_
  refine s_iaload (pc' := 42) (i := 2) (v := (.int (0 : Int32))) A V11 (by decide) rfl d6_41 rfl ?_
  refine s_ifN (pc' := 45) A d6_42 rfl (by decide) ?_
  refine s_aloadN (pc' := 46) A d6_45 rfl rfl rfl ?_
  refine s_dup (pc' := 47) A d6_46 rfl rfl ?_
  refine s_getfield (pc' := 50) (host := "") A (Or.inl (w18 hw)) Via.refl F12 d6_47 rfl fun T A => ?_
  refine s_lconst (pc' := 51) (z := (1 : Int64)) A d6_50 rfl (by decide) ?_
  refine s_ladd (pc' := 52) (z := (3 : Int64)) A d6_51 rfl (by decide) ?_
  have E15 := (E1.wr W10)
  refine s_putfield (pc' := 55) (host := "") A (Or.inl (w18 hw)) Via.refl F12 E15 (Or.inl (w19 hw)) (w2 hw) (ty := .long) (by decide) rfl rfl ge7 d6_52 rfl fun T h16 A W17 => ?_
  have F18 := F12.same W17
  refine s_goto (pc' := 18) A d6_55 (by decide) (by decide) ?_
  refine s_aloadN (pc' := 19) A d6_18 rfl rfl rfl ?_
  refine s_getfield (pc' := 22) (host := "") A (Or.inl (w18 hw)) Via.refl F18 d6_19 rfl fun T A => ?_
  refine s_aloadN (pc' := 23) A d6_22 rfl rfl rfl ?_
  have F19 := (F13.other W17 (Or.inr (sn_BeginOrder_next_first hw)))
  refine s_getfield (pc' := 26) (host := "") A (Or.inl (w20 hw)) Via.refl F19 d6_23 rfl fun T A => ?_
  refine s_lcmp (pc' := 27) A d6_26 rfl ?_
  refine s_ifN (pc' := 30) A d6_27 rfl (by decide) ?_
  refine s_aloadN (pc' := 31) A d6_30 rfl rfl rfl ?_
  have F20 := (F14.other W17 (Or.inr (sn_BeginOrder_ring_first hw)))
  refine s_getfield (pc' := 34) (host := "") A (Or.inl (w11 hw)) Via.refl F20 d6_31 rfl fun T A => ?_
  refine s_aloadN (pc' := 35) A d6_34 rfl rfl rfl ?_
  refine s_getfield (pc' := 38) (host := "") A (Or.inl (w18 hw)) Via.refl F18 d6_35 rfl fun T A => ?_
  refine s_l2i (pc' := 39) (z := (3 : Int32)) A d6_38 rfl (by decide) ?_
  refine s_iloadN (pc' := 40) A d6_39 rfl rfl ?_
  refine s_iand (pc' := 41) (z := (3 : Int32)) A d6_40 rfl (by decide) ?_
  have V21 := (V11.other W17 (Ne.symm ne6))
  refine s_iaload (pc' := 42) (i := 3) (v := (.int (0 : Int32))) A V21 (by decide) rfl d6_41 rfl ?_
  refine s_ifN (pc' := 45) A d6_42 rfl (by decide) ?_
  refine s_aloadN (pc' := 46) A d6_45 rfl rfl rfl ?_
  refine s_dup (pc' := 47) A d6_46 rfl rfl ?_
  refine s_getfield (pc' := 50) (host := "") A (Or.inl (w18 hw)) Via.refl F18 d6_47 rfl fun T A => ?_
  refine s_lconst (pc' := 51) (z := (1 : Int64)) A d6_50 rfl (by decide) ?_
  refine s_ladd (pc' := 52) (z := (4 : Int64)) A d6_51 rfl (by decide) ?_
  have E22 := (E15.wr W17)
  refine s_putfield (pc' := 55) (host := "") A (Or.inl (w18 hw)) Via.refl F18 E22 (Or.inl (w19 hw)) (w2 hw) (ty := .long) (by decide) rfl rfl ge7 d6_52 rfl fun T h23 A W24 => ?_
  have F25 := F18.same W24
  refine s_goto (pc' := 18) A d6_55 (by decide) (by decide) ?_
  refine s_aloadN (pc' := 19) A d6_18 rfl rfl rfl ?_
  refine s_getfield (pc' := 22) (host := "") A (Or.inl (w18 hw)) Via.refl F25 d6_19 rfl fun T A => ?_
  refine s_aloadN (pc' := 23) A d6_22 rfl rfl rfl ?_
  have F26 := (F19.other W24 (Or.inr (sn_BeginOrder_next_first hw)))
  refine s_getfield (pc' := 26) (host := "") A (Or.inl (w20 hw)) Via.refl F26 d6_23 rfl fun T A => ?_
  refine s_lcmp (pc' := 27) A d6_26 rfl ?_
  refine s_ifN (pc' := 30) A d6_27 rfl (by decide) ?_
  refine s_aloadN (pc' := 31) A d6_30 rfl rfl rfl ?_
  have F27 := (F20.other W24 (Or.inr (sn_BeginOrder_ring_first hw)))
  refine s_getfield (pc' := 34) (host := "") A (Or.inl (w11 hw)) Via.refl F27 d6_31 rfl fun T A => ?_
  refine s_aloadN (pc' := 35) A d6_34 rfl rfl rfl ?_
  refine s_getfield (pc' := 38) (host := "") A (Or.inl (w18 hw)) Via.refl F25 d6_35 rfl fun T A => ?_
  refine s_l2i (pc' := 39) (z := (4 : Int32)) A d6_38 rfl (by decide) ?_
  refine s_iloadN (pc' := 40) A d6_39 rfl rfl ?_
  refine s_iand (pc' := 41) (z := (0 : Int32)) A d6_40 rfl (by decide) ?_
  have V28 := (V21.other W24 (Ne.symm ne6))
  refine s_iaload (pc' := 42) (i := 0) (v := (.int (0 : Int32))) A V28 (by decide) rfl d6_41 rfl ?_
  refine s_ifN (pc' := 45) A d6_42 rfl (by decide) ?_
  refine s_aloadN (pc' := 46) A d6_45 rfl rfl rfl ?_
  refine s_dup (pc' := 47) A d6_46 rfl rfl ?_
  refine s_getfield (pc' := 50) (host := "") A (Or.inl (w18 hw)) Via.refl F25 d6_47 rfl fun T A => ?_
  refine s_lconst (pc' := 51) (z := (1 : Int64)) A d6_50 rfl (by decide) ?_
  refine s_ladd (pc' := 52) (z := (5 : Int64)) A d6_51 rfl (by decide) ?_
  have E29 := (E22.wr W24)
  refine s_putfield (pc' := 55) (host := "") A (Or.inl (w18 hw)) Via.refl F25 E29 (Or.inl (w19 hw)) (w2 hw) (ty := .long) (by decide) rfl rfl ge7 d6_52 rfl fun T h30 A W31 => ?_
  have F32 := F25.same W31
  refine s_goto (pc' := 18) A d6_55 (by decide) (by decide) ?_
  refine s_aloadN (pc' := 19) A d6_18 rfl rfl rfl ?_
  refine s_getfield (pc' := 22) (host := "") A (Or.inl (w18 hw)) Via.refl F32 d6_19 rfl fun T A => ?_
  refine s_aloadN (pc' := 23) A d6_22 rfl rfl rfl ?_
  have F33 := (F26.other W31 (Or.inr (sn_BeginOrder_next_first hw)))
  refine s_getfield (pc' := 26) (host := "") A (Or.inl (w20 hw)) Via.refl F33 d6_23 rfl fun T A => ?_
  refine s_lcmp (pc' := 27) A d6_26 rfl ?_
  refine s_ifY (pc' := 58) A d6_27 (by decide) (by decide) (by decide) ?_
  have K34 := (((((Keep.refl h0 [a, r_ring]).wr W10 (Or.inl (List.mem_of_getElem? (i := 1) rfl))).wr W17 (Or.inl (List.mem_of_getElem? (i := 0) rfl))).wr W24 (Or.inl (List.mem_of_getElem? (i := 0) rfl))).wr W31 (Or.inl (List.mem_of_getElem? (i := 0) rfl)))
  have E35 := (E29.wr W31)
  have F36 := (F27.other W31 (Or.inr (sn_BeginOrder_ring_first hw)))
  have V37 := (V28.other W31 (Ne.symm ne6))
  exact r_void A rfl d6_58 (by decide) (by decide) (⟨rfl, K34, ⟨E35, F36, F32, F33, V37, ne6, ge7, ge8⟩⟩)
set_option maxRecDepth 65536 in
set_option maxHeartbeats 40000000 in
theorem rm0 (l : Launch) (Z : State) (a0 : Array Value) (hw : ∀ d ∈ tables_1, d.before a0 Z = true) (n0 : Nat) (h0 : Heap) (Z0 : n0 ≤ h0.size) (q0 q1 q2 q3 q4 q5 : Int32)  :
    Met l Z n0 x code maxLocals ret room_1 #[(.int q0), (.int q1), (.int q2), (.int q3), (.int q4), (.int q5)] h0 (fun v h => v = some (.int 1)) := by
  refine met_intro (own := c0_BeginOrderRemovePinLaw) (plainFor_of_name pn_com_example_wirefram_wirefram_sequence_BeginOrderRemovePinLaw) rfl Z0 ?_
  intro p e s m below meth c T A hnm
  refine Wp.cast (g' := mkF m 0 #[iv q0, iv q1, iv q2, iv q3, iv q4, iv q5, U0, U0, U0, U0, U0, U0, U0, U0, U0, U0, U0, U0, U0, U0, U0, U0, U0, U0, U0, U0, U0, U0] []) (by first | (simp [entryFrame, mkF, argsToLocals, Value.category, maxLocals, jv, S2, U0, iv, rv]; done) | rfl) ?_
  refine s_iloadN (pc' := 1) A at_0 rfl rfl ?_
  refine s_iconst (pc' := 2) (z := (1 : Int32)) A at_1 rfl (by decide) ?_
  obtain ⟨na, ena⟩ : ∃ z, z = (ush q0 (1 : Int32)) := ⟨_, rfl⟩
  have fna : 0 ≤ na.toInt := by rw [ena]; have _ := rng32 q0; have _ : (1 : Int32).toInt = 1 := (by decide); have _ := rng32 (ush q0 (1 : Int32)); have _ : (ush q0 (1 : Int32)).toInt = (q0.toInt % 4294967296) / 2 := c_iushr q0 (1 : Int32) 1 (by decide) (by decide); omega
  have zna : ¬ (na + (1 : Int32)) = (0 : Int32) := by intro q; have _ := congrArg Int32.toInt q; have _ := rng32 na; have _ : (1 : Int32).toInt = 1 := (by decide); have _ := rng32 (na + (1 : Int32)); have _ := c_iadd na (1 : Int32); have _ : (0 : Int32).toInt = 0 := (by decide); have _ := fna; omega
  refine s_iushr (pc' := 3) (z := na) A at_2 rfl ena.symm ?_
  refine s_istore (pc' := 5) (Ls' := #[iv q0, iv q1, iv q2, iv q3, iv q4, iv q5, iv na, U0, U0, U0, U0, U0, U0, U0, U0, U0, U0, U0, U0, U0, U0, U0, U0, U0, U0, U0, U0, U0]) A at_3 rfl rfl ?_
  refine s_iloadN (pc' := 6) A at_5 rfl rfl ?_
  refine s_iconst (pc' := 7) (z := (1 : Int32)) A at_6 rfl (by decide) ?_
  obtain ⟨nb, enb⟩ : ∃ z, z = (ush q1 (1 : Int32)) := ⟨_, rfl⟩
  have fnb : 0 ≤ nb.toInt := by rw [enb]; have _ := rng32 q1; have _ : (1 : Int32).toInt = 1 := (by decide); have _ := rng32 (ush q1 (1 : Int32)); have _ : (ush q1 (1 : Int32)).toInt = (q1.toInt % 4294967296) / 2 := c_iushr q1 (1 : Int32) 1 (by decide) (by decide); omega
  have znb : ¬ (nb + (1 : Int32)) = (0 : Int32) := by intro q; have _ := congrArg Int32.toInt q; have _ := rng32 nb; have _ : (1 : Int32).toInt = 1 := (by decide); have _ := rng32 (nb + (1 : Int32)); have _ := c_iadd nb (1 : Int32); have _ : (0 : Int32).toInt = 0 := (by decide); have _ := fnb; omega
  refine s_iushr (pc' := 8) (z := nb) A at_7 rfl enb.symm ?_
  refine s_istore (pc' := 10) (Ls' := #[iv q0, iv q1, iv q2, iv q3, iv q4, iv q5, iv na, iv nb, U0, U0, U0, U0, U0, U0, U0, U0, U0, U0, U0, U0, U0, U0, U0, U0, U0, U0, U0, U0]) A at_8 rfl rfl ?_
  refine s_iloadN (pc' := 11) A at_10 rfl rfl ?_
  refine s_iconst (pc' := 12) (z := (1 : Int32)) A at_11 rfl (by decide) ?_
  obtain ⟨nc, enc⟩ : ∃ z, z = (ush q2 (1 : Int32)) := ⟨_, rfl⟩
  have fnc : 0 ≤ nc.toInt := by rw [enc]; have _ := rng32 q2; have _ : (1 : Int32).toInt = 1 := (by decide); have _ := rng32 (ush q2 (1 : Int32)); have _ : (ush q2 (1 : Int32)).toInt = (q2.toInt % 4294967296) / 2 := c_iushr q2 (1 : Int32) 1 (by decide) (by decide); omega
  have znc : ¬ (nc + (1 : Int32)) = (0 : Int32) := by intro q; have _ := congrArg Int32.toInt q; have _ := rng32 nc; have _ : (1 : Int32).toInt = 1 := (by decide); have _ := rng32 (nc + (1 : Int32)); have _ := c_iadd nc (1 : Int32); have _ : (0 : Int32).toInt = 0 := (by decide); have _ := fnc; omega
  refine s_iushr (pc' := 13) (z := nc) A at_12 rfl enc.symm ?_
  refine s_istore (pc' := 15) (Ls' := #[iv q0, iv q1, iv q2, iv q3, iv q4, iv q5, iv na, iv nb, iv nc, U0, U0, U0, U0, U0, U0, U0, U0, U0, U0, U0, U0, U0, U0, U0, U0, U0, U0, U0]) A at_13 rfl rfl ?_
  refine s_iloadN (pc' := 16) A at_15 rfl rfl ?_
  refine s_iconst (pc' := 17) (z := (1 : Int32)) A at_16 rfl (by decide) ?_
  obtain ⟨nx, enx⟩ : ∃ z, z = (ush q3 (1 : Int32)) := ⟨_, rfl⟩
  have fnx : 0 ≤ nx.toInt := by rw [enx]; have _ := rng32 q3; have _ : (1 : Int32).toInt = 1 := (by decide); have _ := rng32 (ush q3 (1 : Int32)); have _ : (ush q3 (1 : Int32)).toInt = (q3.toInt % 4294967296) / 2 := c_iushr q3 (1 : Int32) 1 (by decide) (by decide); omega
  have znx : ¬ (nx + (1 : Int32)) = (0 : Int32) := by intro q; have _ := congrArg Int32.toInt q; have _ := rng32 nx; have _ : (1 : Int32).toInt = 1 := (by decide); have _ := rng32 (nx + (1 : Int32)); have _ := c_iadd nx (1 : Int32); have _ : (0 : Int32).toInt = 0 := (by decide); have _ := fnx; omega
  refine s_iushr (pc' := 18) (z := nx) A at_17 rfl enx.symm ?_
  refine s_istore (pc' := 20) (Ls' := #[iv q0, iv q1, iv q2, iv q3, iv q4, iv q5, iv na, iv nb, iv nc, iv nx, U0, U0, U0, U0, U0, U0, U0, U0, U0, U0, U0, U0, U0, U0, U0, U0, U0, U0]) A at_18 rfl rfl ?_
  refine s_iload (pc' := 22) A at_20 rfl rfl ?_
  refine s_iconst (pc' := 23) (z := (3 : Int32)) A at_22 rfl (by decide) ?_
  obtain ⟨kk, ekk⟩ : ∃ z, z = (q5 &&& (3 : Int32)) := ⟨_, rfl⟩
  have ckk := own_k q5
  rw [← ekk] at ckk
  refine s_iand (pc' := 24) (z := kk) A at_23 rfl ekk.symm ?_
  refine s_istore (pc' := 26) (Ls' := #[iv q0, iv q1, iv q2, iv q3, iv q4, iv q5, iv na, iv nb, iv nc, iv nx, iv kk, U0, U0, U0, U0, U0, U0, U0, U0, U0, U0, U0, U0, U0, U0, U0, U0, U0]) A at_24 rfl rfl ?_
  refine s_iload (pc' := 28) A at_26 rfl rfl ?_
  refine s_iconst (pc' := 29) (z := (2 : Int32)) A at_28 rfl (by decide) ?_
  refine s_iushr (pc' := 30) (z := (ush q5 (2 : Int32))) A at_29 rfl rfl ?_
  refine s_iconst (pc' := 31) (z := (3 : Int32)) A at_30 rfl (by decide) ?_
  obtain ⟨ww, eww⟩ : ∃ z, z = ((ush q5 (2 : Int32)) % (3 : Int32)) := ⟨_, rfl⟩
  have cww := own_w q5
  rw [← eww] at cww
  refine s_irem (pc' := 32) (z := ww) A at_31 rfl (by decide) eww.symm ?_
  refine s_istore (pc' := 34) (Ls' := #[iv q0, iv q1, iv q2, iv q3, iv q4, iv q5, iv na, iv nb, iv nc, iv nx, iv kk, iv ww, U0, U0, U0, U0, U0, U0, U0, U0, U0, U0, U0, U0, U0, U0, U0, U0]) A at_32 rfl rfl ?_
  refine s_iload (pc' := 36) A at_34 rfl rfl ?_
  refine s_ldcInt (pc' := 38) A at_36 rfl (w0 hw) ?_
  refine s_iand (pc' := 39) (z := (q4 &&& (2147483647 : Int32))) A at_38 rfl rfl ?_
  refine s_bipush (pc' := 41) (z := (6 : Int32)) A at_39 rfl (by decide) ?_
  obtain ⟨pp, epp⟩ : ∃ z, z = ((q4 &&& (2147483647 : Int32)) % (6 : Int32)) := ⟨_, rfl⟩
  have cpp := own_p q4
  rw [← epp] at cpp
  refine s_irem (pc' := 42) (z := pp) A at_41 rfl (by decide) epp.symm ?_
  refine s_istore (pc' := 44) (Ls' := #[iv q0, iv q1, iv q2, iv q3, iv q4, iv q5, iv na, iv nb, iv nc, iv nx, iv kk, iv ww, iv pp, U0, U0, U0, U0, U0, U0, U0, U0, U0, U0, U0, U0, U0, U0, U0]) A at_42 rfl rfl ?_
  refine s_new (pc' := 47) A (w1 hw) (w2 hw) (w3 hw) (by decide) (by decide) at_44 rfl fun T h1 b2 A g3 ge4 X5 E6 D7 => ?_
  have F8 : Fld Z h1 b2 "com/example/wirefram/wirefram/sequence/BeginOrder" "ring" "[I" .null := D7 (Or.inl (w12 hw)) (ty := (.array .int)) (by decide)
  have F9 : Fld Z h1 b2 "com/example/wirefram/wirefram/sequence/BeginOrder" "first" "J" (.long (0 : Int64)) := D7 (Or.inl (w19 hw)) (ty := .long) (by decide)
  have F10 : Fld Z h1 b2 "com/example/wirefram/wirefram/sequence/BeginOrder" "next" "J" (.long (0 : Int64)) := D7 (Or.inl (w21 hw)) (ty := .long) (by decide)
  refine s_dup (pc' := 48) A at_47 rfl rfl ?_
  refine s_special (pc' := 51) (y := y2_init) (argsL := []) (rest := [(.ref b2)]) A (bo_new1 l Z a0 hw n0 h1 A.size b2 E6 F8 F9 F10 ge4) rfl (w4 hw) (w5 hw) (w3 hw) (w6 hw) (by decide) pd___V rfl (W := 1) (by decide) (by decide) (Nat.le_of_eq rfl) (by decide) (by decide) rfl rfl at_48 rfl fun T h15 v16 A Q17 => ?_
  obtain ⟨rfl, K12, r11, H13, bo14⟩ := Q17
  have ne18 : b2 ≠ r11 := Nat.ne_of_lt (Nat.lt_of_lt_of_le E6.lt bo14)
  obtain ⟨E19, F20, F21, F22, V23, ne24, ge25, ge26⟩ := H13
  refine Wp.stk (st' := [(.ref b2)]) rfl ?_
  refine s_astore (pc' := 53) (Ls' := #[iv q0, iv q1, iv q2, iv q3, iv q4, iv q5, iv na, iv nb, iv nc, iv nx, iv kk, iv ww, iv pp, rv b2, U0, U0, U0, U0, U0, U0, U0, U0, U0, U0, U0, U0, U0, U0]) A at_51 rfl rfl rfl ?_
  rcases cww with rfl | rfl | rfl
  ·
   refine s_iload (pc' := 55) A at_53 rfl rfl ?_
   refine s_iconst (pc' := 56) (z := (1 : Int32)) A at_55 rfl (by decide) ?_
   refine s_icmpY (pc' := 73) A at_56 (by decide) (by decide) (by decide) ?_
   refine s_iload (pc' := 75) A at_73 rfl rfl ?_
   refine s_iconst (pc' := 76) (z := (2 : Int32)) A at_75 rfl (by decide) ?_
   refine s_icmpY (pc' := 93) A at_76 (by decide) (by decide) (by decide) ?_
   refine s_aload (pc' := 95) A at_93 rfl rfl rfl ?_
   refine s_virtual (pc' := 98) (y := y3_isEmpty) (argsL := []) (rest := []) (z := y3_isEmpty) A E19 (bo_isEmpty2 l Z a0 hw n0 h15 A.size b2 r11 [.int (0 : Int32), .int (0 : Int32), .int (0 : Int32), .int (0 : Int32)] ⟨E19, F20, F21, F22, V23, ne24, ge25, ge26⟩) (w13 hw) (w14 hw) (nf_same (C := "") (w16 hw)) (w16 hw) (w15 hw) (w3 hw) (w17 hw) (by decide) pd___Z rfl (W := 0) (by decide) (by decide) (Nat.le_of_eq rfl) (by decide) (by decide) rfl rfl at_95 rfl fun T h29 v30 A Q31 => ?_
   obtain ⟨rfl, K27, H28⟩ := Q31
   obtain ⟨E32, F33, F34, F35, V36, ne37, ge38, ge39⟩ := H28
   refine Wp.stk (st' := [(.int (1 : Int32))]) rfl ?_
   refine s_istore (pc' := 100) (Ls' := #[iv q0, iv q1, iv q2, iv q3, iv q4, iv q5, iv na, iv nb, iv nc, iv nx, iv kk, iv 0, iv pp, rv b2, iv 1, U0, U0, U0, U0, U0, U0, U0, U0, U0, U0, U0, U0, U0]) A at_98 rfl rfl ?_
   refine s_iload (pc' := 102) A at_100 rfl rfl ?_
   refine s_i2l (pc' := 103) (z := (0 : Int64)) A at_102 rfl (by decide) ?_
   refine s_lstore (pc' := 105) (Ls' := #[iv q0, iv q1, iv q2, iv q3, iv q4, iv q5, iv na, iv nb, iv nc, iv nx, iv kk, iv 0, iv pp, rv b2, iv 1, jv 0, S2, U0, U0, U0, U0, U0, U0, U0, U0, U0, U0, U0]) A at_103 rfl rfl ?_
   refine s_aload (pc' := 107) A at_105 rfl rfl rfl ?_
   refine s_iload (pc' := 109) A at_107 rfl rfl ?_
   refine s_virtual (pc' := 112) (y := y4_add) (argsL := [(.int na)]) (rest := []) (z := y4_add) A E32 (bo_add3 l Z a0 hw n0 h29 A.size b2 r11 (0 : Int32) (0 : Int32) (0 : Int32) (0 : Int32) na ⟨E32, F33, F34, F35, V36, ne37, ge38, ge39⟩) (w22 hw) (w23 hw) (nf_same (C := "") (w25 hw)) (w25 hw) (w24 hw) (w3 hw) (w26 hw) (by decide) pd__I_J rfl (W := 0) (by decide) (by decide) (Nat.le_of_eq rfl) (by decide) (by decide) rfl rfl at_109 rfl fun T h42 v43 A Q44 => ?_
   obtain ⟨rfl, K40, H41⟩ := Q44
   obtain ⟨E45, F46, F47, F48, V49, ne50, ge51, ge52⟩ := H41
   refine Wp.stk (st' := [(.long (0 : Int64))]) rfl ?_
   refine s_lstore (pc' := 114) (Ls' := #[iv q0, iv q1, iv q2, iv q3, iv q4, iv q5, iv na, iv nb, iv nc, iv nx, iv kk, iv 0, iv pp, rv b2, iv 1, jv 0, S2, jv 0, S2, U0, U0, U0, U0, U0, U0, U0, U0, U0]) A at_112 rfl rfl ?_
   refine s_aload (pc' := 116) A at_114 rfl rfl rfl ?_
   refine s_iload (pc' := 118) A at_116 rfl rfl ?_
   refine s_virtual (pc' := 121) (y := y4_add) (argsL := [(.int nb)]) (rest := []) (z := y4_add) A E45 (bo_add4 l Z a0 hw n0 h42 A.size b2 r11 (na + (1 : Int32)) (0 : Int32) (0 : Int32) (0 : Int32) nb ⟨E45, F46, F47, F48, V49, ne50, ge51, ge52⟩) (w22 hw) (w23 hw) (nf_same (C := "") (w25 hw)) (w25 hw) (w24 hw) (w3 hw) (w26 hw) (by decide) pd__I_J rfl (W := 0) (by decide) (by decide) (Nat.le_of_eq rfl) (by decide) (by decide) rfl rfl at_118 rfl fun T h55 v56 A Q57 => ?_
   obtain ⟨rfl, K53, H54⟩ := Q57
   obtain ⟨E58, F59, F60, F61, V62, ne63, ge64, ge65⟩ := H54
   refine Wp.stk (st' := [(.long (1 : Int64))]) rfl ?_
   refine s_lstore (pc' := 123) (Ls' := #[iv q0, iv q1, iv q2, iv q3, iv q4, iv q5, iv na, iv nb, iv nc, iv nx, iv kk, iv 0, iv pp, rv b2, iv 1, jv 0, S2, jv 0, S2, jv 1, S2, U0, U0, U0, U0, U0, U0, U0]) A at_121 rfl rfl ?_
   refine s_aload (pc' := 125) A at_123 rfl rfl rfl ?_
   refine s_iload (pc' := 127) A at_125 rfl rfl ?_
   refine s_virtual (pc' := 130) (y := y4_add) (argsL := [(.int nc)]) (rest := []) (z := y4_add) A E58 (bo_add5 l Z a0 hw n0 h55 A.size b2 r11 (na + (1 : Int32)) (nb + (1 : Int32)) (0 : Int32) (0 : Int32) nc ⟨E58, F59, F60, F61, V62, ne63, ge64, ge65⟩) (w22 hw) (w23 hw) (nf_same (C := "") (w25 hw)) (w25 hw) (w24 hw) (w3 hw) (w26 hw) (by decide) pd__I_J rfl (W := 0) (by decide) (by decide) (Nat.le_of_eq rfl) (by decide) (by decide) rfl rfl at_127 rfl fun T h68 v69 A Q70 => ?_
   obtain ⟨rfl, K66, H67⟩ := Q70
   obtain ⟨E71, F72, F73, F74, V75, ne76, ge77, ge78⟩ := H67
   refine Wp.stk (st' := [(.long (2 : Int64))]) rfl ?_
   refine s_lstore (pc' := 132) (Ls' := #[iv q0, iv q1, iv q2, iv q3, iv q4, iv q5, iv na, iv nb, iv nc, iv nx, iv kk, iv 0, iv pp, rv b2, iv 1, jv 0, S2, jv 0, S2, jv 1, S2, jv 2, S2, U0, U0, U0, U0, U0]) A at_130 rfl rfl ?_
   refine s_iload (pc' := 134) A at_132 rfl rfl ?_
   refine s_ifN (pc' := 137) A at_134 rfl (by decide) ?_
   refine s_lload (pc' := 139) A at_137 rfl rfl ?_
   refine s_lload (pc' := 141) A at_139 rfl rfl ?_
   refine s_lcmp (pc' := 142) A at_141 rfl ?_
   refine s_ifN (pc' := 145) A at_142 rfl (by decide) ?_
   refine s_lload (pc' := 147) A at_145 rfl rfl ?_
   refine s_lload (pc' := 149) A at_147 rfl rfl ?_
   refine s_lconst (pc' := 150) (z := (1 : Int64)) A at_149 rfl (by decide) ?_
   refine s_ladd (pc' := 151) (z := (1 : Int64)) A at_150 rfl (by decide) ?_
   refine s_lcmp (pc' := 152) A at_151 rfl ?_
   refine s_ifN (pc' := 155) A at_152 rfl (by decide) ?_
   refine s_lload (pc' := 157) A at_155 rfl rfl ?_
   refine s_lload (pc' := 159) A at_157 rfl rfl ?_
   refine s_ldc2Long (pc' := 162) A at_159 rfl (w27 hw) ?_
   refine s_ladd (pc' := 163) (z := (2 : Int64)) A at_162 rfl (by decide) ?_
   refine s_lcmp (pc' := 164) A at_163 rfl ?_
   refine s_ifN (pc' := 167) A at_164 rfl (by decide) ?_
   refine s_iconst (pc' := 168) (z := (1 : Int32)) A at_167 rfl (by decide) ?_
   refine s_goto (pc' := 172) A at_168 (by decide) (by decide) ?_
   refine s_istore (pc' := 174) (Ls' := #[iv q0, iv q1, iv q2, iv q3, iv q4, iv q5, iv na, iv nb, iv nc, iv nx, iv kk, iv 0, iv pp, rv b2, iv 1, jv 0, S2, jv 0, S2, jv 1, S2, jv 2, S2, U0, U0, U0, U0, U0]) A at_172 rfl rfl ?_
   rcases ckk with rfl | rfl | rfl | rfl
   ·
    refine s_iload (pc' := 176) A at_174 rfl rfl ?_
    refine s_ifY (pc' := 194) A at_176 (by decide) (by decide) (by decide) ?_
    refine s_iload (pc' := 196) A at_194 rfl rfl ?_
    refine s_iconst (pc' := 197) (z := (1 : Int32)) A at_196 rfl (by decide) ?_
    refine s_icmpY (pc' := 215) A at_197 (by decide) (by decide) (by decide) ?_
    refine s_iload (pc' := 217) A at_215 rfl rfl ?_
    refine s_iconst (pc' := 218) (z := (2 : Int32)) A at_217 rfl (by decide) ?_
    refine s_icmpY (pc' := 236) A at_218 (by decide) (by decide) (by decide) ?_
    refine s_iload (pc' := 238) A at_236 rfl rfl ?_
    refine s_iload (pc' := 240) A at_238 rfl rfl ?_
    refine s_iconst (pc' := 241) (z := (0 : Int32)) A at_240 rfl (by decide) ?_
    refine s_static (pc' := 244) (y := y1_removed) (argsL := [(.int pp), (.int (0 : Int32)), (.int (0 : Int32))]) (rest := []) A (rmd l Z a0 hw n0 h68 A.size pp (0 : Int32) (0 : Int32) (0 : Int32) (by simp [rmf])) (w37 hw) (w38 hw) (w30 hw) (w39 hw) (by decide) pd__III_Z rfl (W := 0) (by decide) (by decide) (Nat.le_of_eq rfl) (by decide) (by decide) rfl rfl at_241 rfl fun T h79 v80 A Q81 => ?_
    obtain ⟨rfl, eh⟩ := Q81
    rw [eh] at A
    refine Wp.stk (st' := [(.int (0 : Int32))]) rfl ?_
    refine s_istore (pc' := 246) (Ls' := #[iv q0, iv q1, iv q2, iv q3, iv q4, iv q5, iv na, iv nb, iv nc, iv nx, iv 0, iv 0, iv pp, rv b2, iv 1, jv 0, S2, jv 0, S2, jv 1, S2, jv 2, S2, iv 0, U0, U0, U0, U0]) A at_244 rfl rfl ?_
    refine s_iload (pc' := 248) A at_246 rfl rfl ?_
    refine s_iload (pc' := 250) A at_248 rfl rfl ?_
    refine s_iconst (pc' := 251) (z := (1 : Int32)) A at_250 rfl (by decide) ?_
    refine s_static (pc' := 254) (y := y1_removed) (argsL := [(.int pp), (.int (0 : Int32)), (.int (1 : Int32))]) (rest := []) A (rmd l Z a0 hw n0 h68 A.size pp (0 : Int32) (1 : Int32) (0 : Int32) (by simp [rmf])) (w37 hw) (w38 hw) (w30 hw) (w39 hw) (by decide) pd__III_Z rfl (W := 0) (by decide) (by decide) (Nat.le_of_eq rfl) (by decide) (by decide) rfl rfl at_251 rfl fun T h82 v83 A Q84 => ?_
    obtain ⟨rfl, eh⟩ := Q84
    rw [eh] at A
    refine Wp.stk (st' := [(.int (0 : Int32))]) rfl ?_
    refine s_istore (pc' := 256) (Ls' := #[iv q0, iv q1, iv q2, iv q3, iv q4, iv q5, iv na, iv nb, iv nc, iv nx, iv 0, iv 0, iv pp, rv b2, iv 1, jv 0, S2, jv 0, S2, jv 1, S2, jv 2, S2, iv 0, iv 0, U0, U0, U0]) A at_254 rfl rfl ?_
    refine s_iload (pc' := 258) A at_256 rfl rfl ?_
    refine s_iload (pc' := 260) A at_258 rfl rfl ?_
    refine s_iconst (pc' := 261) (z := (2 : Int32)) A at_260 rfl (by decide) ?_
    refine s_static (pc' := 264) (y := y1_removed) (argsL := [(.int pp), (.int (0 : Int32)), (.int (2 : Int32))]) (rest := []) A (rmd l Z a0 hw n0 h68 A.size pp (0 : Int32) (2 : Int32) (0 : Int32) (by simp [rmf])) (w37 hw) (w38 hw) (w30 hw) (w39 hw) (by decide) pd__III_Z rfl (W := 0) (by decide) (by decide) (Nat.le_of_eq rfl) (by decide) (by decide) rfl rfl at_261 rfl fun T h85 v86 A Q87 => ?_
    obtain ⟨rfl, eh⟩ := Q87
    rw [eh] at A
    refine Wp.stk (st' := [(.int (0 : Int32))]) rfl ?_
    refine s_istore (pc' := 266) (Ls' := #[iv q0, iv q1, iv q2, iv q3, iv q4, iv q5, iv na, iv nb, iv nc, iv nx, iv 0, iv 0, iv pp, rv b2, iv 1, jv 0, S2, jv 0, S2, jv 1, S2, jv 2, S2, iv 0, iv 0, iv 0, U0, U0]) A at_264 rfl rfl ?_
    refine s_aload (pc' := 268) A at_266 rfl rfl rfl ?_
    refine s_virtual (pc' := 271) (y := y3_isEmpty) (argsL := []) (rest := []) (z := y3_isEmpty) A E71 (bo_isEmpty6 l Z a0 hw n0 h68 A.size b2 r11 [.int (na + (1 : Int32)), .int (nb + (1 : Int32)), .int (nc + (1 : Int32)), .int (0 : Int32)] ⟨E71, F72, F73, F74, V75, ne76, ge77, ge78⟩) (w13 hw) (w14 hw) (nf_same (C := "") (w16 hw)) (w16 hw) (w15 hw) (w3 hw) (w17 hw) (by decide) pd___Z rfl (W := 0) (by decide) (by decide) (Nat.le_of_eq rfl) (by decide) (by decide) rfl rfl at_268 rfl fun T h90 v91 A Q92 => ?_
    obtain ⟨rfl, K88, H89⟩ := Q92
    obtain ⟨E93, F94, F95, F96, V97, ne98, ge99, ge100⟩ := H89
    refine Wp.stk (st' := [(.int (0 : Int32))]) rfl ?_
    refine s_istore (pc' := 273) (Ls' := #[iv q0, iv q1, iv q2, iv q3, iv q4, iv q5, iv na, iv nb, iv nc, iv nx, iv 0, iv 0, iv pp, rv b2, iv 1, jv 0, S2, jv 0, S2, jv 1, S2, jv 2, S2, iv 0, iv 0, iv 0, iv 0, U0]) A at_271 rfl rfl ?_
    refine s_iload (pc' := 275) A at_273 rfl rfl ?_
    refine s_ifY (pc' := 304) A at_275 (by decide) (by decide) (by decide) ?_
    refine s_iload (pc' := 306) A at_304 rfl rfl ?_
    refine s_ifN (pc' := 309) A at_306 rfl (by decide) ?_
    refine s_iload (pc' := 311) A at_309 rfl rfl ?_
    refine s_istore (pc' := 313) (Ls' := #[iv q0, iv q1, iv q2, iv q3, iv q4, iv q5, iv na, iv nb, iv nc, iv nx, iv 0, iv 0, iv pp, rv b2, iv 1, jv 0, S2, jv 0, S2, jv 1, S2, jv 2, S2, iv 0, iv 0, iv 0, iv 0, iv na]) A at_311 rfl rfl ?_
    refine s_goto (pc' := 332) A at_313 (by decide) (by decide) ?_
    refine s_iload (pc' := 334) A at_332 rfl rfl ?_
    refine s_ifN (pc' := 337) A at_334 rfl (by decide) ?_
    refine s_iload (pc' := 339) A at_337 rfl rfl ?_
    refine s_ifN (pc' := 342) A at_339 rfl (by decide) ?_
    refine s_aload (pc' := 344) A at_342 rfl rfl rfl ?_
    refine s_virtual (pc' := 347) (y := y5_first) (argsL := []) (rest := []) (z := y5_first) A E93 (bo_first7 l Z a0 hw n0 h90 A.size b2 r11 (na + (1 : Int32)) (nb + (1 : Int32)) (nc + (1 : Int32)) (0 : Int32) ⟨E93, F94, F95, F96, V97, ne98, ge99, ge100⟩) (w40 hw) (w41 hw) (nf_same (C := "") (w43 hw)) (w43 hw) (w42 hw) (w3 hw) (w44 hw) (by decide) pd___I rfl (W := 0) (by decide) (by decide) (Nat.le_of_eq rfl) (by decide) (by decide) rfl rfl at_344 rfl fun T h103 v104 A Q105 => ?_
    obtain ⟨rfl, K101, H102⟩ := Q105
    obtain ⟨E106, F107, F108, F109, V110, ne111, ge112, ge113⟩ := H102
    refine Wp.stk (st' := [(.int ((na + (1 : Int32)) - (1 : Int32)))]) rfl ?_
    refine s_iload (pc' := 349) A at_347 rfl rfl ?_
    refine s_icmpN (pc' := 352) A at_349 rfl (teq (show ((na + (1 : Int32)) - (1 : Int32)) = na from (by have _ := rng32 na; have _ : (1 : Int32).toInt = 1 := (by decide); have _ := rng32 (na + (1 : Int32)); have _ := c_iadd na (1 : Int32); have _ := rng32 ((na + (1 : Int32)) - (1 : Int32)); have _ := c_isub (na + (1 : Int32)) (1 : Int32); apply Int32.toInt_inj.mp; omega))).2 ?_
    refine s_iconst (pc' := 353) (z := (1 : Int32)) A at_352 rfl (by decide) ?_
    refine s_goto (pc' := 357) A at_353 (by decide) (by decide) ?_
    exact r_bool A rfl (by decide) at_357 (by decide) (by decide) (rfl)
   ·
    rcases cpp with rfl | rfl | rfl | rfl | rfl | rfl
    ·
     refine s_iload (pc' := 176) A at_174 rfl rfl ?_
     refine s_ifN (pc' := 179) A at_176 rfl (by decide) ?_
     refine s_aload (pc' := 181) A at_179 rfl rfl rfl ?_
     refine s_lload (pc' := 183) A at_181 rfl rfl ?_
     refine s_iload (pc' := 185) A at_183 rfl rfl ?_
     refine s_iconst (pc' := 186) (z := (0 : Int32)) A at_185 rfl (by decide) ?_
     refine s_static (pc' := 189) (y := y0_idx) (argsL := [(.int (0 : Int32)), (.int (0 : Int32))]) (rest := [(.long (0 : Int64)), (.ref b2)]) A (idx l Z a0 hw n0 h68 A.size (0 : Int32) (0 : Int32) (0 : Int32) (by decide)) (w28 hw) (w29 hw) (w30 hw) (w31 hw) (by decide) pd__II_I rfl (W := 3) (by decide) (by decide) (Nat.le_of_eq rfl) (by decide) (by decide) rfl rfl at_186 rfl fun T h114 v115 A Q116 => ?_
     obtain ⟨rfl, eh⟩ := Q116
     rw [eh] at A
     refine Wp.stk (st' := [(.int (0 : Int32)), (.long (0 : Int64)), (.ref b2)]) rfl ?_
     refine s_i2l (pc' := 190) (z := (0 : Int64)) A at_189 rfl (by decide) ?_
     refine s_ladd (pc' := 191) (z := (0 : Int64)) A at_190 rfl (by decide) ?_
     refine s_virtual (pc' := 194) (y := y6_remove) (argsL := [(.long (0 : Int64))]) (rest := []) (z := y6_remove) A E71 (bo_remove8 l Z a0 hw n0 h68 A.size b2 r11 (na + (1 : Int32)) (nb + (1 : Int32)) (nc + (1 : Int32)) ⟨E71, F72, F73, F74, V75, ne76, ge77, ge78⟩ zna znb znc) (w32 hw) (w33 hw) (nf_same (C := "") (w35 hw)) (w35 hw) (w34 hw) (w3 hw) (w36 hw) (by decide) pd__J_V rfl (W := 0) (by decide) (by decide) (Nat.le_of_eq rfl) (by decide) (by decide) rfl rfl at_191 rfl fun T h119 v120 A Q121 => ?_
     obtain ⟨rfl, K117, H118⟩ := Q121
     obtain ⟨E122, F123, F124, F125, V126, ne127, ge128, ge129⟩ := H118
     refine Wp.stk (st' := []) rfl ?_
     refine s_iload (pc' := 196) A at_194 rfl rfl ?_
     refine s_iconst (pc' := 197) (z := (1 : Int32)) A at_196 rfl (by decide) ?_
     refine s_icmpY (pc' := 215) A at_197 (by decide) (by decide) (by decide) ?_
     refine s_iload (pc' := 217) A at_215 rfl rfl ?_
     refine s_iconst (pc' := 218) (z := (2 : Int32)) A at_217 rfl (by decide) ?_
     refine s_icmpY (pc' := 236) A at_218 (by decide) (by decide) (by decide) ?_
     refine s_iload (pc' := 238) A at_236 rfl rfl ?_
     refine s_iload (pc' := 240) A at_238 rfl rfl ?_
     refine s_iconst (pc' := 241) (z := (0 : Int32)) A at_240 rfl (by decide) ?_
     refine s_static (pc' := 244) (y := y1_removed) (argsL := [(.int (0 : Int32)), (.int (1 : Int32)), (.int (0 : Int32))]) (rest := []) A (rmd l Z a0 hw n0 h119 A.size (0 : Int32) (1 : Int32) (0 : Int32) (1 : Int32) (by decide)) (w37 hw) (w38 hw) (w30 hw) (w39 hw) (by decide) pd__III_Z rfl (W := 0) (by decide) (by decide) (Nat.le_of_eq rfl) (by decide) (by decide) rfl rfl at_241 rfl fun T h130 v131 A Q132 => ?_
     obtain ⟨rfl, eh⟩ := Q132
     rw [eh] at A
     refine Wp.stk (st' := [(.int (1 : Int32))]) rfl ?_
     refine s_istore (pc' := 246) (Ls' := #[iv q0, iv q1, iv q2, iv q3, iv q4, iv q5, iv na, iv nb, iv nc, iv nx, iv 1, iv 0, iv 0, rv b2, iv 1, jv 0, S2, jv 0, S2, jv 1, S2, jv 2, S2, iv 1, U0, U0, U0, U0]) A at_244 rfl rfl ?_
     refine s_iload (pc' := 248) A at_246 rfl rfl ?_
     refine s_iload (pc' := 250) A at_248 rfl rfl ?_
     refine s_iconst (pc' := 251) (z := (1 : Int32)) A at_250 rfl (by decide) ?_
     refine s_static (pc' := 254) (y := y1_removed) (argsL := [(.int (0 : Int32)), (.int (1 : Int32)), (.int (1 : Int32))]) (rest := []) A (rmd l Z a0 hw n0 h119 A.size (0 : Int32) (1 : Int32) (1 : Int32) (0 : Int32) (by decide)) (w37 hw) (w38 hw) (w30 hw) (w39 hw) (by decide) pd__III_Z rfl (W := 0) (by decide) (by decide) (Nat.le_of_eq rfl) (by decide) (by decide) rfl rfl at_251 rfl fun T h133 v134 A Q135 => ?_
     obtain ⟨rfl, eh⟩ := Q135
     rw [eh] at A
     refine Wp.stk (st' := [(.int (0 : Int32))]) rfl ?_
     refine s_istore (pc' := 256) (Ls' := #[iv q0, iv q1, iv q2, iv q3, iv q4, iv q5, iv na, iv nb, iv nc, iv nx, iv 1, iv 0, iv 0, rv b2, iv 1, jv 0, S2, jv 0, S2, jv 1, S2, jv 2, S2, iv 1, iv 0, U0, U0, U0]) A at_254 rfl rfl ?_
     refine s_iload (pc' := 258) A at_256 rfl rfl ?_
     refine s_iload (pc' := 260) A at_258 rfl rfl ?_
     refine s_iconst (pc' := 261) (z := (2 : Int32)) A at_260 rfl (by decide) ?_
     refine s_static (pc' := 264) (y := y1_removed) (argsL := [(.int (0 : Int32)), (.int (1 : Int32)), (.int (2 : Int32))]) (rest := []) A (rmd l Z a0 hw n0 h119 A.size (0 : Int32) (1 : Int32) (2 : Int32) (0 : Int32) (by decide)) (w37 hw) (w38 hw) (w30 hw) (w39 hw) (by decide) pd__III_Z rfl (W := 0) (by decide) (by decide) (Nat.le_of_eq rfl) (by decide) (by decide) rfl rfl at_261 rfl fun T h136 v137 A Q138 => ?_
     obtain ⟨rfl, eh⟩ := Q138
     rw [eh] at A
     refine Wp.stk (st' := [(.int (0 : Int32))]) rfl ?_
     refine s_istore (pc' := 266) (Ls' := #[iv q0, iv q1, iv q2, iv q3, iv q4, iv q5, iv na, iv nb, iv nc, iv nx, iv 1, iv 0, iv 0, rv b2, iv 1, jv 0, S2, jv 0, S2, jv 1, S2, jv 2, S2, iv 1, iv 0, iv 0, U0, U0]) A at_264 rfl rfl ?_
     refine s_aload (pc' := 268) A at_266 rfl rfl rfl ?_
     refine s_virtual (pc' := 271) (y := y3_isEmpty) (argsL := []) (rest := []) (z := y3_isEmpty) A E122 (bo_isEmpty9 l Z a0 hw n0 h119 A.size b2 r11 [.int (0 : Int32), .int (nb + (1 : Int32)), .int (nc + (1 : Int32)), .int (0 : Int32)] ⟨E122, F123, F124, F125, V126, ne127, ge128, ge129⟩) (w13 hw) (w14 hw) (nf_same (C := "") (w16 hw)) (w16 hw) (w15 hw) (w3 hw) (w17 hw) (by decide) pd___Z rfl (W := 0) (by decide) (by decide) (Nat.le_of_eq rfl) (by decide) (by decide) rfl rfl at_268 rfl fun T h141 v142 A Q143 => ?_
     obtain ⟨rfl, K139, H140⟩ := Q143
     obtain ⟨E144, F145, F146, F147, V148, ne149, ge150, ge151⟩ := H140
     refine Wp.stk (st' := [(.int (0 : Int32))]) rfl ?_
     refine s_istore (pc' := 273) (Ls' := #[iv q0, iv q1, iv q2, iv q3, iv q4, iv q5, iv na, iv nb, iv nc, iv nx, iv 1, iv 0, iv 0, rv b2, iv 1, jv 0, S2, jv 0, S2, jv 1, S2, jv 2, S2, iv 1, iv 0, iv 0, iv 0, U0]) A at_271 rfl rfl ?_
     refine s_iload (pc' := 275) A at_273 rfl rfl ?_
     refine s_ifN (pc' := 278) A at_275 rfl (by decide) ?_
     refine s_iload (pc' := 280) A at_278 rfl rfl ?_
     refine s_ifY (pc' := 304) A at_280 (by decide) (by decide) (by decide) ?_
     refine s_iload (pc' := 306) A at_304 rfl rfl ?_
     refine s_ifY (pc' := 316) A at_306 (by decide) (by decide) (by decide) ?_
     refine s_iload (pc' := 318) A at_316 rfl rfl ?_
     refine s_ifN (pc' := 321) A at_318 rfl (by decide) ?_
     refine s_iload (pc' := 323) A at_321 rfl rfl ?_
     refine s_istore (pc' := 325) (Ls' := #[iv q0, iv q1, iv q2, iv q3, iv q4, iv q5, iv na, iv nb, iv nc, iv nx, iv 1, iv 0, iv 0, rv b2, iv 1, jv 0, S2, jv 0, S2, jv 1, S2, jv 2, S2, iv 1, iv 0, iv 0, iv 0, iv nb]) A at_323 rfl rfl ?_
     refine s_goto (pc' := 332) A at_325 (by decide) (by decide) ?_
     refine s_iload (pc' := 334) A at_332 rfl rfl ?_
     refine s_ifN (pc' := 337) A at_334 rfl (by decide) ?_
     refine s_iload (pc' := 339) A at_337 rfl rfl ?_
     refine s_ifN (pc' := 342) A at_339 rfl (by decide) ?_
     refine s_aload (pc' := 344) A at_342 rfl rfl rfl ?_
     refine s_virtual (pc' := 347) (y := y5_first) (argsL := []) (rest := []) (z := y5_first) A E144 (bo_first10 l Z a0 hw n0 h141 A.size b2 r11 (0 : Int32) (nb + (1 : Int32)) (nc + (1 : Int32)) (0 : Int32) ⟨E144, F145, F146, F147, V148, ne149, ge150, ge151⟩) (w40 hw) (w41 hw) (nf_same (C := "") (w43 hw)) (w43 hw) (w42 hw) (w3 hw) (w44 hw) (by decide) pd___I rfl (W := 0) (by decide) (by decide) (Nat.le_of_eq rfl) (by decide) (by decide) rfl rfl at_344 rfl fun T h154 v155 A Q156 => ?_
     obtain ⟨rfl, K152, H153⟩ := Q156
     obtain ⟨E157, F158, F159, F160, V161, ne162, ge163, ge164⟩ := H153
     refine Wp.stk (st' := [(.int ((nb + (1 : Int32)) - (1 : Int32)))]) rfl ?_
     refine s_iload (pc' := 349) A at_347 rfl rfl ?_
     refine s_icmpN (pc' := 352) A at_349 rfl (teq (show ((nb + (1 : Int32)) - (1 : Int32)) = nb from (by have _ := rng32 nb; have _ : (1 : Int32).toInt = 1 := (by decide); have _ := rng32 (nb + (1 : Int32)); have _ := c_iadd nb (1 : Int32); have _ := rng32 ((nb + (1 : Int32)) - (1 : Int32)); have _ := c_isub (nb + (1 : Int32)) (1 : Int32); apply Int32.toInt_inj.mp; omega))).2 ?_
     refine s_iconst (pc' := 353) (z := (1 : Int32)) A at_352 rfl (by decide) ?_
     refine s_goto (pc' := 357) A at_353 (by decide) (by decide) ?_
     exact r_bool A rfl (by decide) at_357 (by decide) (by decide) (rfl)
    ·
     refine s_iload (pc' := 176) A at_174 rfl rfl ?_
     refine s_ifN (pc' := 179) A at_176 rfl (by decide) ?_
     refine s_aload (pc' := 181) A at_179 rfl rfl rfl ?_
     refine s_lload (pc' := 183) A at_181 rfl rfl ?_
     refine s_iload (pc' := 185) A at_183 rfl rfl ?_
     refine s_iconst (pc' := 186) (z := (0 : Int32)) A at_185 rfl (by decide) ?_
     refine s_static (pc' := 189) (y := y0_idx) (argsL := [(.int (1 : Int32)), (.int (0 : Int32))]) (rest := [(.long (0 : Int64)), (.ref b2)]) A (idx l Z a0 hw n0 h68 A.size (1 : Int32) (0 : Int32) (0 : Int32) (by decide)) (w28 hw) (w29 hw) (w30 hw) (w31 hw) (by decide) pd__II_I rfl (W := 3) (by decide) (by decide) (Nat.le_of_eq rfl) (by decide) (by decide) rfl rfl at_186 rfl fun T h165 v166 A Q167 => ?_
     obtain ⟨rfl, eh⟩ := Q167
     rw [eh] at A
     refine Wp.stk (st' := [(.int (0 : Int32)), (.long (0 : Int64)), (.ref b2)]) rfl ?_
     refine s_i2l (pc' := 190) (z := (0 : Int64)) A at_189 rfl (by decide) ?_
     refine s_ladd (pc' := 191) (z := (0 : Int64)) A at_190 rfl (by decide) ?_
     refine s_virtual (pc' := 194) (y := y6_remove) (argsL := [(.long (0 : Int64))]) (rest := []) (z := y6_remove) A E71 (bo_remove8 l Z a0 hw n0 h68 A.size b2 r11 (na + (1 : Int32)) (nb + (1 : Int32)) (nc + (1 : Int32)) ⟨E71, F72, F73, F74, V75, ne76, ge77, ge78⟩ zna znb znc) (w32 hw) (w33 hw) (nf_same (C := "") (w35 hw)) (w35 hw) (w34 hw) (w3 hw) (w36 hw) (by decide) pd__J_V rfl (W := 0) (by decide) (by decide) (Nat.le_of_eq rfl) (by decide) (by decide) rfl rfl at_191 rfl fun T h170 v171 A Q172 => ?_
     obtain ⟨rfl, K168, H169⟩ := Q172
     obtain ⟨E173, F174, F175, F176, V177, ne178, ge179, ge180⟩ := H169
     refine Wp.stk (st' := []) rfl ?_
     refine s_iload (pc' := 196) A at_194 rfl rfl ?_
     refine s_iconst (pc' := 197) (z := (1 : Int32)) A at_196 rfl (by decide) ?_
     refine s_icmpY (pc' := 215) A at_197 (by decide) (by decide) (by decide) ?_
     refine s_iload (pc' := 217) A at_215 rfl rfl ?_
     refine s_iconst (pc' := 218) (z := (2 : Int32)) A at_217 rfl (by decide) ?_
     refine s_icmpY (pc' := 236) A at_218 (by decide) (by decide) (by decide) ?_
     refine s_iload (pc' := 238) A at_236 rfl rfl ?_
     refine s_iload (pc' := 240) A at_238 rfl rfl ?_
     refine s_iconst (pc' := 241) (z := (0 : Int32)) A at_240 rfl (by decide) ?_
     refine s_static (pc' := 244) (y := y1_removed) (argsL := [(.int (1 : Int32)), (.int (1 : Int32)), (.int (0 : Int32))]) (rest := []) A (rmd l Z a0 hw n0 h170 A.size (1 : Int32) (1 : Int32) (0 : Int32) (1 : Int32) (by decide)) (w37 hw) (w38 hw) (w30 hw) (w39 hw) (by decide) pd__III_Z rfl (W := 0) (by decide) (by decide) (Nat.le_of_eq rfl) (by decide) (by decide) rfl rfl at_241 rfl fun T h181 v182 A Q183 => ?_
     obtain ⟨rfl, eh⟩ := Q183
     rw [eh] at A
     refine Wp.stk (st' := [(.int (1 : Int32))]) rfl ?_
     refine s_istore (pc' := 246) (Ls' := #[iv q0, iv q1, iv q2, iv q3, iv q4, iv q5, iv na, iv nb, iv nc, iv nx, iv 1, iv 0, iv 1, rv b2, iv 1, jv 0, S2, jv 0, S2, jv 1, S2, jv 2, S2, iv 1, U0, U0, U0, U0]) A at_244 rfl rfl ?_
     refine s_iload (pc' := 248) A at_246 rfl rfl ?_
     refine s_iload (pc' := 250) A at_248 rfl rfl ?_
     refine s_iconst (pc' := 251) (z := (1 : Int32)) A at_250 rfl (by decide) ?_
     refine s_static (pc' := 254) (y := y1_removed) (argsL := [(.int (1 : Int32)), (.int (1 : Int32)), (.int (1 : Int32))]) (rest := []) A (rmd l Z a0 hw n0 h170 A.size (1 : Int32) (1 : Int32) (1 : Int32) (0 : Int32) (by decide)) (w37 hw) (w38 hw) (w30 hw) (w39 hw) (by decide) pd__III_Z rfl (W := 0) (by decide) (by decide) (Nat.le_of_eq rfl) (by decide) (by decide) rfl rfl at_251 rfl fun T h184 v185 A Q186 => ?_
     obtain ⟨rfl, eh⟩ := Q186
     rw [eh] at A
     refine Wp.stk (st' := [(.int (0 : Int32))]) rfl ?_
     refine s_istore (pc' := 256) (Ls' := #[iv q0, iv q1, iv q2, iv q3, iv q4, iv q5, iv na, iv nb, iv nc, iv nx, iv 1, iv 0, iv 1, rv b2, iv 1, jv 0, S2, jv 0, S2, jv 1, S2, jv 2, S2, iv 1, iv 0, U0, U0, U0]) A at_254 rfl rfl ?_
     refine s_iload (pc' := 258) A at_256 rfl rfl ?_
     refine s_iload (pc' := 260) A at_258 rfl rfl ?_
     refine s_iconst (pc' := 261) (z := (2 : Int32)) A at_260 rfl (by decide) ?_
     refine s_static (pc' := 264) (y := y1_removed) (argsL := [(.int (1 : Int32)), (.int (1 : Int32)), (.int (2 : Int32))]) (rest := []) A (rmd l Z a0 hw n0 h170 A.size (1 : Int32) (1 : Int32) (2 : Int32) (0 : Int32) (by decide)) (w37 hw) (w38 hw) (w30 hw) (w39 hw) (by decide) pd__III_Z rfl (W := 0) (by decide) (by decide) (Nat.le_of_eq rfl) (by decide) (by decide) rfl rfl at_261 rfl fun T h187 v188 A Q189 => ?_
     obtain ⟨rfl, eh⟩ := Q189
     rw [eh] at A
     refine Wp.stk (st' := [(.int (0 : Int32))]) rfl ?_
     refine s_istore (pc' := 266) (Ls' := #[iv q0, iv q1, iv q2, iv q3, iv q4, iv q5, iv na, iv nb, iv nc, iv nx, iv 1, iv 0, iv 1, rv b2, iv 1, jv 0, S2, jv 0, S2, jv 1, S2, jv 2, S2, iv 1, iv 0, iv 0, U0, U0]) A at_264 rfl rfl ?_
     refine s_aload (pc' := 268) A at_266 rfl rfl rfl ?_
     refine s_virtual (pc' := 271) (y := y3_isEmpty) (argsL := []) (rest := []) (z := y3_isEmpty) A E173 (bo_isEmpty9 l Z a0 hw n0 h170 A.size b2 r11 [.int (0 : Int32), .int (nb + (1 : Int32)), .int (nc + (1 : Int32)), .int (0 : Int32)] ⟨E173, F174, F175, F176, V177, ne178, ge179, ge180⟩) (w13 hw) (w14 hw) (nf_same (C := "") (w16 hw)) (w16 hw) (w15 hw) (w3 hw) (w17 hw) (by decide) pd___Z rfl (W := 0) (by decide) (by decide) (Nat.le_of_eq rfl) (by decide) (by decide) rfl rfl at_268 rfl fun T h192 v193 A Q194 => ?_
     obtain ⟨rfl, K190, H191⟩ := Q194
     obtain ⟨E195, F196, F197, F198, V199, ne200, ge201, ge202⟩ := H191
     refine Wp.stk (st' := [(.int (0 : Int32))]) rfl ?_
     refine s_istore (pc' := 273) (Ls' := #[iv q0, iv q1, iv q2, iv q3, iv q4, iv q5, iv na, iv nb, iv nc, iv nx, iv 1, iv 0, iv 1, rv b2, iv 1, jv 0, S2, jv 0, S2, jv 1, S2, jv 2, S2, iv 1, iv 0, iv 0, iv 0, U0]) A at_271 rfl rfl ?_
     refine s_iload (pc' := 275) A at_273 rfl rfl ?_
     refine s_ifN (pc' := 278) A at_275 rfl (by decide) ?_
     refine s_iload (pc' := 280) A at_278 rfl rfl ?_
     refine s_ifY (pc' := 304) A at_280 (by decide) (by decide) (by decide) ?_
     refine s_iload (pc' := 306) A at_304 rfl rfl ?_
     refine s_ifY (pc' := 316) A at_306 (by decide) (by decide) (by decide) ?_
     refine s_iload (pc' := 318) A at_316 rfl rfl ?_
     refine s_ifN (pc' := 321) A at_318 rfl (by decide) ?_
     refine s_iload (pc' := 323) A at_321 rfl rfl ?_
     refine s_istore (pc' := 325) (Ls' := #[iv q0, iv q1, iv q2, iv q3, iv q4, iv q5, iv na, iv nb, iv nc, iv nx, iv 1, iv 0, iv 1, rv b2, iv 1, jv 0, S2, jv 0, S2, jv 1, S2, jv 2, S2, iv 1, iv 0, iv 0, iv 0, iv nb]) A at_323 rfl rfl ?_
     refine s_goto (pc' := 332) A at_325 (by decide) (by decide) ?_
     refine s_iload (pc' := 334) A at_332 rfl rfl ?_
     refine s_ifN (pc' := 337) A at_334 rfl (by decide) ?_
     refine s_iload (pc' := 339) A at_337 rfl rfl ?_
     refine s_ifN (pc' := 342) A at_339 rfl (by decide) ?_
     refine s_aload (pc' := 344) A at_342 rfl rfl rfl ?_
     refine s_virtual (pc' := 347) (y := y5_first) (argsL := []) (rest := []) (z := y5_first) A E195 (bo_first10 l Z a0 hw n0 h192 A.size b2 r11 (0 : Int32) (nb + (1 : Int32)) (nc + (1 : Int32)) (0 : Int32) ⟨E195, F196, F197, F198, V199, ne200, ge201, ge202⟩) (w40 hw) (w41 hw) (nf_same (C := "") (w43 hw)) (w43 hw) (w42 hw) (w3 hw) (w44 hw) (by decide) pd___I rfl (W := 0) (by decide) (by decide) (Nat.le_of_eq rfl) (by decide) (by decide) rfl rfl at_344 rfl fun T h205 v206 A Q207 => ?_
     obtain ⟨rfl, K203, H204⟩ := Q207
     obtain ⟨E208, F209, F210, F211, V212, ne213, ge214, ge215⟩ := H204
     refine Wp.stk (st' := [(.int ((nb + (1 : Int32)) - (1 : Int32)))]) rfl ?_
     refine s_iload (pc' := 349) A at_347 rfl rfl ?_
     refine s_icmpN (pc' := 352) A at_349 rfl (teq (show ((nb + (1 : Int32)) - (1 : Int32)) = nb from (by have _ := rng32 nb; have _ : (1 : Int32).toInt = 1 := (by decide); have _ := rng32 (nb + (1 : Int32)); have _ := c_iadd nb (1 : Int32); have _ := rng32 ((nb + (1 : Int32)) - (1 : Int32)); have _ := c_isub (nb + (1 : Int32)) (1 : Int32); apply Int32.toInt_inj.mp; omega))).2 ?_
     refine s_iconst (pc' := 353) (z := (1 : Int32)) A at_352 rfl (by decide) ?_
     refine s_goto (pc' := 357) A at_353 (by decide) (by decide) ?_
     exact r_bool A rfl (by decide) at_357 (by decide) (by decide) (rfl)
    ·
     refine s_iload (pc' := 176) A at_174 rfl rfl ?_
     refine s_ifN (pc' := 179) A at_176 rfl (by decide) ?_
     refine s_aload (pc' := 181) A at_179 rfl rfl rfl ?_
     refine s_lload (pc' := 183) A at_181 rfl rfl ?_
     refine s_iload (pc' := 185) A at_183 rfl rfl ?_
     refine s_iconst (pc' := 186) (z := (0 : Int32)) A at_185 rfl (by decide) ?_
     refine s_static (pc' := 189) (y := y0_idx) (argsL := [(.int (2 : Int32)), (.int (0 : Int32))]) (rest := [(.long (0 : Int64)), (.ref b2)]) A (idx l Z a0 hw n0 h68 A.size (2 : Int32) (0 : Int32) (1 : Int32) (by decide)) (w28 hw) (w29 hw) (w30 hw) (w31 hw) (by decide) pd__II_I rfl (W := 3) (by decide) (by decide) (Nat.le_of_eq rfl) (by decide) (by decide) rfl rfl at_186 rfl fun T h216 v217 A Q218 => ?_
     obtain ⟨rfl, eh⟩ := Q218
     rw [eh] at A
     refine Wp.stk (st' := [(.int (1 : Int32)), (.long (0 : Int64)), (.ref b2)]) rfl ?_
     refine s_i2l (pc' := 190) (z := (1 : Int64)) A at_189 rfl (by decide) ?_
     refine s_ladd (pc' := 191) (z := (1 : Int64)) A at_190 rfl (by decide) ?_
     refine s_virtual (pc' := 194) (y := y6_remove) (argsL := [(.long (1 : Int64))]) (rest := []) (z := y6_remove) A E71 (bo_remove11 l Z a0 hw n0 h68 A.size b2 r11 (na + (1 : Int32)) (nb + (1 : Int32)) (nc + (1 : Int32)) ⟨E71, F72, F73, F74, V75, ne76, ge77, ge78⟩ zna znb znc) (w32 hw) (w33 hw) (nf_same (C := "") (w35 hw)) (w35 hw) (w34 hw) (w3 hw) (w36 hw) (by decide) pd__J_V rfl (W := 0) (by decide) (by decide) (Nat.le_of_eq rfl) (by decide) (by decide) rfl rfl at_191 rfl fun T h221 v222 A Q223 => ?_
     obtain ⟨rfl, K219, H220⟩ := Q223
     obtain ⟨E224, F225, F226, F227, V228, ne229, ge230, ge231⟩ := H220
     refine Wp.stk (st' := []) rfl ?_
     refine s_iload (pc' := 196) A at_194 rfl rfl ?_
     refine s_iconst (pc' := 197) (z := (1 : Int32)) A at_196 rfl (by decide) ?_
     refine s_icmpY (pc' := 215) A at_197 (by decide) (by decide) (by decide) ?_
     refine s_iload (pc' := 217) A at_215 rfl rfl ?_
     refine s_iconst (pc' := 218) (z := (2 : Int32)) A at_217 rfl (by decide) ?_
     refine s_icmpY (pc' := 236) A at_218 (by decide) (by decide) (by decide) ?_
     refine s_iload (pc' := 238) A at_236 rfl rfl ?_
     refine s_iload (pc' := 240) A at_238 rfl rfl ?_
     refine s_iconst (pc' := 241) (z := (0 : Int32)) A at_240 rfl (by decide) ?_
     refine s_static (pc' := 244) (y := y1_removed) (argsL := [(.int (2 : Int32)), (.int (1 : Int32)), (.int (0 : Int32))]) (rest := []) A (rmd l Z a0 hw n0 h221 A.size (2 : Int32) (1 : Int32) (0 : Int32) (0 : Int32) (by decide)) (w37 hw) (w38 hw) (w30 hw) (w39 hw) (by decide) pd__III_Z rfl (W := 0) (by decide) (by decide) (Nat.le_of_eq rfl) (by decide) (by decide) rfl rfl at_241 rfl fun T h232 v233 A Q234 => ?_
     obtain ⟨rfl, eh⟩ := Q234
     rw [eh] at A
     refine Wp.stk (st' := [(.int (0 : Int32))]) rfl ?_
     refine s_istore (pc' := 246) (Ls' := #[iv q0, iv q1, iv q2, iv q3, iv q4, iv q5, iv na, iv nb, iv nc, iv nx, iv 1, iv 0, iv 2, rv b2, iv 1, jv 0, S2, jv 0, S2, jv 1, S2, jv 2, S2, iv 0, U0, U0, U0, U0]) A at_244 rfl rfl ?_
     refine s_iload (pc' := 248) A at_246 rfl rfl ?_
     refine s_iload (pc' := 250) A at_248 rfl rfl ?_
     refine s_iconst (pc' := 251) (z := (1 : Int32)) A at_250 rfl (by decide) ?_
     refine s_static (pc' := 254) (y := y1_removed) (argsL := [(.int (2 : Int32)), (.int (1 : Int32)), (.int (1 : Int32))]) (rest := []) A (rmd l Z a0 hw n0 h221 A.size (2 : Int32) (1 : Int32) (1 : Int32) (1 : Int32) (by decide)) (w37 hw) (w38 hw) (w30 hw) (w39 hw) (by decide) pd__III_Z rfl (W := 0) (by decide) (by decide) (Nat.le_of_eq rfl) (by decide) (by decide) rfl rfl at_251 rfl fun T h235 v236 A Q237 => ?_
     obtain ⟨rfl, eh⟩ := Q237
     rw [eh] at A
     refine Wp.stk (st' := [(.int (1 : Int32))]) rfl ?_
     refine s_istore (pc' := 256) (Ls' := #[iv q0, iv q1, iv q2, iv q3, iv q4, iv q5, iv na, iv nb, iv nc, iv nx, iv 1, iv 0, iv 2, rv b2, iv 1, jv 0, S2, jv 0, S2, jv 1, S2, jv 2, S2, iv 0, iv 1, U0, U0, U0]) A at_254 rfl rfl ?_
     refine s_iload (pc' := 258) A at_256 rfl rfl ?_
     refine s_iload (pc' := 260) A at_258 rfl rfl ?_
     refine s_iconst (pc' := 261) (z := (2 : Int32)) A at_260 rfl (by decide) ?_
     refine s_static (pc' := 264) (y := y1_removed) (argsL := [(.int (2 : Int32)), (.int (1 : Int32)), (.int (2 : Int32))]) (rest := []) A (rmd l Z a0 hw n0 h221 A.size (2 : Int32) (1 : Int32) (2 : Int32) (0 : Int32) (by decide)) (w37 hw) (w38 hw) (w30 hw) (w39 hw) (by decide) pd__III_Z rfl (W := 0) (by decide) (by decide) (Nat.le_of_eq rfl) (by decide) (by decide) rfl rfl at_261 rfl fun T h238 v239 A Q240 => ?_
     obtain ⟨rfl, eh⟩ := Q240
     rw [eh] at A
     refine Wp.stk (st' := [(.int (0 : Int32))]) rfl ?_
     refine s_istore (pc' := 266) (Ls' := #[iv q0, iv q1, iv q2, iv q3, iv q4, iv q5, iv na, iv nb, iv nc, iv nx, iv 1, iv 0, iv 2, rv b2, iv 1, jv 0, S2, jv 0, S2, jv 1, S2, jv 2, S2, iv 0, iv 1, iv 0, U0, U0]) A at_264 rfl rfl ?_
     refine s_aload (pc' := 268) A at_266 rfl rfl rfl ?_
     refine s_virtual (pc' := 271) (y := y3_isEmpty) (argsL := []) (rest := []) (z := y3_isEmpty) A E224 (bo_isEmpty6 l Z a0 hw n0 h221 A.size b2 r11 [.int (na + (1 : Int32)), .int (0 : Int32), .int (nc + (1 : Int32)), .int (0 : Int32)] ⟨E224, F225, F226, F227, V228, ne229, ge230, ge231⟩) (w13 hw) (w14 hw) (nf_same (C := "") (w16 hw)) (w16 hw) (w15 hw) (w3 hw) (w17 hw) (by decide) pd___Z rfl (W := 0) (by decide) (by decide) (Nat.le_of_eq rfl) (by decide) (by decide) rfl rfl at_268 rfl fun T h243 v244 A Q245 => ?_
     obtain ⟨rfl, K241, H242⟩ := Q245
     obtain ⟨E246, F247, F248, F249, V250, ne251, ge252, ge253⟩ := H242
     refine Wp.stk (st' := [(.int (0 : Int32))]) rfl ?_
     refine s_istore (pc' := 273) (Ls' := #[iv q0, iv q1, iv q2, iv q3, iv q4, iv q5, iv na, iv nb, iv nc, iv nx, iv 1, iv 0, iv 2, rv b2, iv 1, jv 0, S2, jv 0, S2, jv 1, S2, jv 2, S2, iv 0, iv 1, iv 0, iv 0, U0]) A at_271 rfl rfl ?_
     refine s_iload (pc' := 275) A at_273 rfl rfl ?_
     refine s_ifY (pc' := 304) A at_275 (by decide) (by decide) (by decide) ?_
     refine s_iload (pc' := 306) A at_304 rfl rfl ?_
     refine s_ifN (pc' := 309) A at_306 rfl (by decide) ?_
     refine s_iload (pc' := 311) A at_309 rfl rfl ?_
     refine s_istore (pc' := 313) (Ls' := #[iv q0, iv q1, iv q2, iv q3, iv q4, iv q5, iv na, iv nb, iv nc, iv nx, iv 1, iv 0, iv 2, rv b2, iv 1, jv 0, S2, jv 0, S2, jv 1, S2, jv 2, S2, iv 0, iv 1, iv 0, iv 0, iv na]) A at_311 rfl rfl ?_
     refine s_goto (pc' := 332) A at_313 (by decide) (by decide) ?_
     refine s_iload (pc' := 334) A at_332 rfl rfl ?_
     refine s_ifN (pc' := 337) A at_334 rfl (by decide) ?_
     refine s_iload (pc' := 339) A at_337 rfl rfl ?_
     refine s_ifN (pc' := 342) A at_339 rfl (by decide) ?_
     refine s_aload (pc' := 344) A at_342 rfl rfl rfl ?_
     refine s_virtual (pc' := 347) (y := y5_first) (argsL := []) (rest := []) (z := y5_first) A E246 (bo_first7 l Z a0 hw n0 h243 A.size b2 r11 (na + (1 : Int32)) (0 : Int32) (nc + (1 : Int32)) (0 : Int32) ⟨E246, F247, F248, F249, V250, ne251, ge252, ge253⟩) (w40 hw) (w41 hw) (nf_same (C := "") (w43 hw)) (w43 hw) (w42 hw) (w3 hw) (w44 hw) (by decide) pd___I rfl (W := 0) (by decide) (by decide) (Nat.le_of_eq rfl) (by decide) (by decide) rfl rfl at_344 rfl fun T h256 v257 A Q258 => ?_
     obtain ⟨rfl, K254, H255⟩ := Q258
     obtain ⟨E259, F260, F261, F262, V263, ne264, ge265, ge266⟩ := H255
     refine Wp.stk (st' := [(.int ((na + (1 : Int32)) - (1 : Int32)))]) rfl ?_
     refine s_iload (pc' := 349) A at_347 rfl rfl ?_
     refine s_icmpN (pc' := 352) A at_349 rfl (teq (show ((na + (1 : Int32)) - (1 : Int32)) = na from (by have _ := rng32 na; have _ : (1 : Int32).toInt = 1 := (by decide); have _ := rng32 (na + (1 : Int32)); have _ := c_iadd na (1 : Int32); have _ := rng32 ((na + (1 : Int32)) - (1 : Int32)); have _ := c_isub (na + (1 : Int32)) (1 : Int32); apply Int32.toInt_inj.mp; omega))).2 ?_
     refine s_iconst (pc' := 353) (z := (1 : Int32)) A at_352 rfl (by decide) ?_
     refine s_goto (pc' := 357) A at_353 (by decide) (by decide) ?_
     exact r_bool A rfl (by decide) at_357 (by decide) (by decide) (rfl)
    ·
     refine s_iload (pc' := 176) A at_174 rfl rfl ?_
     refine s_ifN (pc' := 179) A at_176 rfl (by decide) ?_
     refine s_aload (pc' := 181) A at_179 rfl rfl rfl ?_
     refine s_lload (pc' := 183) A at_181 rfl rfl ?_
     refine s_iload (pc' := 185) A at_183 rfl rfl ?_
     refine s_iconst (pc' := 186) (z := (0 : Int32)) A at_185 rfl (by decide) ?_
     refine s_static (pc' := 189) (y := y0_idx) (argsL := [(.int (3 : Int32)), (.int (0 : Int32))]) (rest := [(.long (0 : Int64)), (.ref b2)]) A (idx l Z a0 hw n0 h68 A.size (3 : Int32) (0 : Int32) (1 : Int32) (by decide)) (w28 hw) (w29 hw) (w30 hw) (w31 hw) (by decide) pd__II_I rfl (W := 3) (by decide) (by decide) (Nat.le_of_eq rfl) (by decide) (by decide) rfl rfl at_186 rfl fun T h267 v268 A Q269 => ?_
     obtain ⟨rfl, eh⟩ := Q269
     rw [eh] at A
     refine Wp.stk (st' := [(.int (1 : Int32)), (.long (0 : Int64)), (.ref b2)]) rfl ?_
     refine s_i2l (pc' := 190) (z := (1 : Int64)) A at_189 rfl (by decide) ?_
     refine s_ladd (pc' := 191) (z := (1 : Int64)) A at_190 rfl (by decide) ?_
     refine s_virtual (pc' := 194) (y := y6_remove) (argsL := [(.long (1 : Int64))]) (rest := []) (z := y6_remove) A E71 (bo_remove11 l Z a0 hw n0 h68 A.size b2 r11 (na + (1 : Int32)) (nb + (1 : Int32)) (nc + (1 : Int32)) ⟨E71, F72, F73, F74, V75, ne76, ge77, ge78⟩ zna znb znc) (w32 hw) (w33 hw) (nf_same (C := "") (w35 hw)) (w35 hw) (w34 hw) (w3 hw) (w36 hw) (by decide) pd__J_V rfl (W := 0) (by decide) (by decide) (Nat.le_of_eq rfl) (by decide) (by decide) rfl rfl at_191 rfl fun T h272 v273 A Q274 => ?_
     obtain ⟨rfl, K270, H271⟩ := Q274
     obtain ⟨E275, F276, F277, F278, V279, ne280, ge281, ge282⟩ := H271
     refine Wp.stk (st' := []) rfl ?_
     refine s_iload (pc' := 196) A at_194 rfl rfl ?_
     refine s_iconst (pc' := 197) (z := (1 : Int32)) A at_196 rfl (by decide) ?_
     refine s_icmpY (pc' := 215) A at_197 (by decide) (by decide) (by decide) ?_
     refine s_iload (pc' := 217) A at_215 rfl rfl ?_
     refine s_iconst (pc' := 218) (z := (2 : Int32)) A at_217 rfl (by decide) ?_
     refine s_icmpY (pc' := 236) A at_218 (by decide) (by decide) (by decide) ?_
     refine s_iload (pc' := 238) A at_236 rfl rfl ?_
     refine s_iload (pc' := 240) A at_238 rfl rfl ?_
     refine s_iconst (pc' := 241) (z := (0 : Int32)) A at_240 rfl (by decide) ?_
     refine s_static (pc' := 244) (y := y1_removed) (argsL := [(.int (3 : Int32)), (.int (1 : Int32)), (.int (0 : Int32))]) (rest := []) A (rmd l Z a0 hw n0 h272 A.size (3 : Int32) (1 : Int32) (0 : Int32) (0 : Int32) (by decide)) (w37 hw) (w38 hw) (w30 hw) (w39 hw) (by decide) pd__III_Z rfl (W := 0) (by decide) (by decide) (Nat.le_of_eq rfl) (by decide) (by decide) rfl rfl at_241 rfl fun T h283 v284 A Q285 => ?_
     obtain ⟨rfl, eh⟩ := Q285
     rw [eh] at A
     refine Wp.stk (st' := [(.int (0 : Int32))]) rfl ?_
     refine s_istore (pc' := 246) (Ls' := #[iv q0, iv q1, iv q2, iv q3, iv q4, iv q5, iv na, iv nb, iv nc, iv nx, iv 1, iv 0, iv 3, rv b2, iv 1, jv 0, S2, jv 0, S2, jv 1, S2, jv 2, S2, iv 0, U0, U0, U0, U0]) A at_244 rfl rfl ?_
     refine s_iload (pc' := 248) A at_246 rfl rfl ?_
     refine s_iload (pc' := 250) A at_248 rfl rfl ?_
     refine s_iconst (pc' := 251) (z := (1 : Int32)) A at_250 rfl (by decide) ?_
     refine s_static (pc' := 254) (y := y1_removed) (argsL := [(.int (3 : Int32)), (.int (1 : Int32)), (.int (1 : Int32))]) (rest := []) A (rmd l Z a0 hw n0 h272 A.size (3 : Int32) (1 : Int32) (1 : Int32) (1 : Int32) (by decide)) (w37 hw) (w38 hw) (w30 hw) (w39 hw) (by decide) pd__III_Z rfl (W := 0) (by decide) (by decide) (Nat.le_of_eq rfl) (by decide) (by decide) rfl rfl at_251 rfl fun T h286 v287 A Q288 => ?_
     obtain ⟨rfl, eh⟩ := Q288
     rw [eh] at A
     refine Wp.stk (st' := [(.int (1 : Int32))]) rfl ?_
     refine s_istore (pc' := 256) (Ls' := #[iv q0, iv q1, iv q2, iv q3, iv q4, iv q5, iv na, iv nb, iv nc, iv nx, iv 1, iv 0, iv 3, rv b2, iv 1, jv 0, S2, jv 0, S2, jv 1, S2, jv 2, S2, iv 0, iv 1, U0, U0, U0]) A at_254 rfl rfl ?_
     refine s_iload (pc' := 258) A at_256 rfl rfl ?_
     refine s_iload (pc' := 260) A at_258 rfl rfl ?_
     refine s_iconst (pc' := 261) (z := (2 : Int32)) A at_260 rfl (by decide) ?_
     refine s_static (pc' := 264) (y := y1_removed) (argsL := [(.int (3 : Int32)), (.int (1 : Int32)), (.int (2 : Int32))]) (rest := []) A (rmd l Z a0 hw n0 h272 A.size (3 : Int32) (1 : Int32) (2 : Int32) (0 : Int32) (by decide)) (w37 hw) (w38 hw) (w30 hw) (w39 hw) (by decide) pd__III_Z rfl (W := 0) (by decide) (by decide) (Nat.le_of_eq rfl) (by decide) (by decide) rfl rfl at_261 rfl fun T h289 v290 A Q291 => ?_
     obtain ⟨rfl, eh⟩ := Q291
     rw [eh] at A
     refine Wp.stk (st' := [(.int (0 : Int32))]) rfl ?_
     refine s_istore (pc' := 266) (Ls' := #[iv q0, iv q1, iv q2, iv q3, iv q4, iv q5, iv na, iv nb, iv nc, iv nx, iv 1, iv 0, iv 3, rv b2, iv 1, jv 0, S2, jv 0, S2, jv 1, S2, jv 2, S2, iv 0, iv 1, iv 0, U0, U0]) A at_264 rfl rfl ?_
     refine s_aload (pc' := 268) A at_266 rfl rfl rfl ?_
     refine s_virtual (pc' := 271) (y := y3_isEmpty) (argsL := []) (rest := []) (z := y3_isEmpty) A E275 (bo_isEmpty6 l Z a0 hw n0 h272 A.size b2 r11 [.int (na + (1 : Int32)), .int (0 : Int32), .int (nc + (1 : Int32)), .int (0 : Int32)] ⟨E275, F276, F277, F278, V279, ne280, ge281, ge282⟩) (w13 hw) (w14 hw) (nf_same (C := "") (w16 hw)) (w16 hw) (w15 hw) (w3 hw) (w17 hw) (by decide) pd___Z rfl (W := 0) (by decide) (by decide) (Nat.le_of_eq rfl) (by decide) (by decide) rfl rfl at_268 rfl fun T h294 v295 A Q296 => ?_
     obtain ⟨rfl, K292, H293⟩ := Q296
     obtain ⟨E297, F298, F299, F300, V301, ne302, ge303, ge304⟩ := H293
     refine Wp.stk (st' := [(.int (0 : Int32))]) rfl ?_
     refine s_istore (pc' := 273) (Ls' := #[iv q0, iv q1, iv q2, iv q3, iv q4, iv q5, iv na, iv nb, iv nc, iv nx, iv 1, iv 0, iv 3, rv b2, iv 1, jv 0, S2, jv 0, S2, jv 1, S2, jv 2, S2, iv 0, iv 1, iv 0, iv 0, U0]) A at_271 rfl rfl ?_
     refine s_iload (pc' := 275) A at_273 rfl rfl ?_
     refine s_ifY (pc' := 304) A at_275 (by decide) (by decide) (by decide) ?_
     refine s_iload (pc' := 306) A at_304 rfl rfl ?_
     refine s_ifN (pc' := 309) A at_306 rfl (by decide) ?_
     refine s_iload (pc' := 311) A at_309 rfl rfl ?_
     refine s_istore (pc' := 313) (Ls' := #[iv q0, iv q1, iv q2, iv q3, iv q4, iv q5, iv na, iv nb, iv nc, iv nx, iv 1, iv 0, iv 3, rv b2, iv 1, jv 0, S2, jv 0, S2, jv 1, S2, jv 2, S2, iv 0, iv 1, iv 0, iv 0, iv na]) A at_311 rfl rfl ?_
     refine s_goto (pc' := 332) A at_313 (by decide) (by decide) ?_
     refine s_iload (pc' := 334) A at_332 rfl rfl ?_
     refine s_ifN (pc' := 337) A at_334 rfl (by decide) ?_
     refine s_iload (pc' := 339) A at_337 rfl rfl ?_
     refine s_ifN (pc' := 342) A at_339 rfl (by decide) ?_
     refine s_aload (pc' := 344) A at_342 rfl rfl rfl ?_
     refine s_virtual (pc' := 347) (y := y5_first) (argsL := []) (rest := []) (z := y5_first) A E297 (bo_first7 l Z a0 hw n0 h294 A.size b2 r11 (na + (1 : Int32)) (0 : Int32) (nc + (1 : Int32)) (0 : Int32) ⟨E297, F298, F299, F300, V301, ne302, ge303, ge304⟩) (w40 hw) (w41 hw) (nf_same (C := "") (w43 hw)) (w43 hw) (w42 hw) (w3 hw) (w44 hw) (by decide) pd___I rfl (W := 0) (by decide) (by decide) (Nat.le_of_eq rfl) (by decide) (by decide) rfl rfl at_344 rfl fun T h307 v308 A Q309 => ?_
     obtain ⟨rfl, K305, H306⟩ := Q309
     obtain ⟨E310, F311, F312, F313, V314, ne315, ge316, ge317⟩ := H306
     refine Wp.stk (st' := [(.int ((na + (1 : Int32)) - (1 : Int32)))]) rfl ?_
     refine s_iload (pc' := 349) A at_347 rfl rfl ?_
     refine s_icmpN (pc' := 352) A at_349 rfl (teq (show ((na + (1 : Int32)) - (1 : Int32)) = na from (by have _ := rng32 na; have _ : (1 : Int32).toInt = 1 := (by decide); have _ := rng32 (na + (1 : Int32)); have _ := c_iadd na (1 : Int32); have _ := rng32 ((na + (1 : Int32)) - (1 : Int32)); have _ := c_isub (na + (1 : Int32)) (1 : Int32); apply Int32.toInt_inj.mp; omega))).2 ?_
     refine s_iconst (pc' := 353) (z := (1 : Int32)) A at_352 rfl (by decide) ?_
     refine s_goto (pc' := 357) A at_353 (by decide) (by decide) ?_
     exact r_bool A rfl (by decide) at_357 (by decide) (by decide) (rfl)
    ·
     refine s_iload (pc' := 176) A at_174 rfl rfl ?_
     refine s_ifN (pc' := 179) A at_176 rfl (by decide) ?_
     refine s_aload (pc' := 181) A at_179 rfl rfl rfl ?_
     refine s_lload (pc' := 183) A at_181 rfl rfl ?_
     refine s_iload (pc' := 185) A at_183 rfl rfl ?_
     refine s_iconst (pc' := 186) (z := (0 : Int32)) A at_185 rfl (by decide) ?_
     refine s_static (pc' := 189) (y := y0_idx) (argsL := [(.int (4 : Int32)), (.int (0 : Int32))]) (rest := [(.long (0 : Int64)), (.ref b2)]) A (idx l Z a0 hw n0 h68 A.size (4 : Int32) (0 : Int32) (2 : Int32) (by decide)) (w28 hw) (w29 hw) (w30 hw) (w31 hw) (by decide) pd__II_I rfl (W := 3) (by decide) (by decide) (Nat.le_of_eq rfl) (by decide) (by decide) rfl rfl at_186 rfl fun T h318 v319 A Q320 => ?_
     obtain ⟨rfl, eh⟩ := Q320
     rw [eh] at A
     refine Wp.stk (st' := [(.int (2 : Int32)), (.long (0 : Int64)), (.ref b2)]) rfl ?_
     refine s_i2l (pc' := 190) (z := (2 : Int64)) A at_189 rfl (by decide) ?_
     refine s_ladd (pc' := 191) (z := (2 : Int64)) A at_190 rfl (by decide) ?_
     refine s_virtual (pc' := 194) (y := y6_remove) (argsL := [(.long (2 : Int64))]) (rest := []) (z := y6_remove) A E71 (bo_remove12 l Z a0 hw n0 h68 A.size b2 r11 (na + (1 : Int32)) (nb + (1 : Int32)) (nc + (1 : Int32)) ⟨E71, F72, F73, F74, V75, ne76, ge77, ge78⟩ zna znb znc) (w32 hw) (w33 hw) (nf_same (C := "") (w35 hw)) (w35 hw) (w34 hw) (w3 hw) (w36 hw) (by decide) pd__J_V rfl (W := 0) (by decide) (by decide) (Nat.le_of_eq rfl) (by decide) (by decide) rfl rfl at_191 rfl fun T h323 v324 A Q325 => ?_
     obtain ⟨rfl, K321, H322⟩ := Q325
     obtain ⟨E326, F327, F328, F329, V330, ne331, ge332, ge333⟩ := H322
     refine Wp.stk (st' := []) rfl ?_
     refine s_iload (pc' := 196) A at_194 rfl rfl ?_
     refine s_iconst (pc' := 197) (z := (1 : Int32)) A at_196 rfl (by decide) ?_
     refine s_icmpY (pc' := 215) A at_197 (by decide) (by decide) (by decide) ?_
     refine s_iload (pc' := 217) A at_215 rfl rfl ?_
     refine s_iconst (pc' := 218) (z := (2 : Int32)) A at_217 rfl (by decide) ?_
     refine s_icmpY (pc' := 236) A at_218 (by decide) (by decide) (by decide) ?_
     refine s_iload (pc' := 238) A at_236 rfl rfl ?_
     refine s_iload (pc' := 240) A at_238 rfl rfl ?_
     refine s_iconst (pc' := 241) (z := (0 : Int32)) A at_240 rfl (by decide) ?_
     refine s_static (pc' := 244) (y := y1_removed) (argsL := [(.int (4 : Int32)), (.int (1 : Int32)), (.int (0 : Int32))]) (rest := []) A (rmd l Z a0 hw n0 h323 A.size (4 : Int32) (1 : Int32) (0 : Int32) (0 : Int32) (by decide)) (w37 hw) (w38 hw) (w30 hw) (w39 hw) (by decide) pd__III_Z rfl (W := 0) (by decide) (by decide) (Nat.le_of_eq rfl) (by decide) (by decide) rfl rfl at_241 rfl fun T h334 v335 A Q336 => ?_
     obtain ⟨rfl, eh⟩ := Q336
     rw [eh] at A
     refine Wp.stk (st' := [(.int (0 : Int32))]) rfl ?_
     refine s_istore (pc' := 246) (Ls' := #[iv q0, iv q1, iv q2, iv q3, iv q4, iv q5, iv na, iv nb, iv nc, iv nx, iv 1, iv 0, iv 4, rv b2, iv 1, jv 0, S2, jv 0, S2, jv 1, S2, jv 2, S2, iv 0, U0, U0, U0, U0]) A at_244 rfl rfl ?_
     refine s_iload (pc' := 248) A at_246 rfl rfl ?_
     refine s_iload (pc' := 250) A at_248 rfl rfl ?_
     refine s_iconst (pc' := 251) (z := (1 : Int32)) A at_250 rfl (by decide) ?_
     refine s_static (pc' := 254) (y := y1_removed) (argsL := [(.int (4 : Int32)), (.int (1 : Int32)), (.int (1 : Int32))]) (rest := []) A (rmd l Z a0 hw n0 h323 A.size (4 : Int32) (1 : Int32) (1 : Int32) (0 : Int32) (by decide)) (w37 hw) (w38 hw) (w30 hw) (w39 hw) (by decide) pd__III_Z rfl (W := 0) (by decide) (by decide) (Nat.le_of_eq rfl) (by decide) (by decide) rfl rfl at_251 rfl fun T h337 v338 A Q339 => ?_
     obtain ⟨rfl, eh⟩ := Q339
     rw [eh] at A
     refine Wp.stk (st' := [(.int (0 : Int32))]) rfl ?_
     refine s_istore (pc' := 256) (Ls' := #[iv q0, iv q1, iv q2, iv q3, iv q4, iv q5, iv na, iv nb, iv nc, iv nx, iv 1, iv 0, iv 4, rv b2, iv 1, jv 0, S2, jv 0, S2, jv 1, S2, jv 2, S2, iv 0, iv 0, U0, U0, U0]) A at_254 rfl rfl ?_
     refine s_iload (pc' := 258) A at_256 rfl rfl ?_
     refine s_iload (pc' := 260) A at_258 rfl rfl ?_
     refine s_iconst (pc' := 261) (z := (2 : Int32)) A at_260 rfl (by decide) ?_
     refine s_static (pc' := 264) (y := y1_removed) (argsL := [(.int (4 : Int32)), (.int (1 : Int32)), (.int (2 : Int32))]) (rest := []) A (rmd l Z a0 hw n0 h323 A.size (4 : Int32) (1 : Int32) (2 : Int32) (1 : Int32) (by decide)) (w37 hw) (w38 hw) (w30 hw) (w39 hw) (by decide) pd__III_Z rfl (W := 0) (by decide) (by decide) (Nat.le_of_eq rfl) (by decide) (by decide) rfl rfl at_261 rfl fun T h340 v341 A Q342 => ?_
     obtain ⟨rfl, eh⟩ := Q342
     rw [eh] at A
     refine Wp.stk (st' := [(.int (1 : Int32))]) rfl ?_
     refine s_istore (pc' := 266) (Ls' := #[iv q0, iv q1, iv q2, iv q3, iv q4, iv q5, iv na, iv nb, iv nc, iv nx, iv 1, iv 0, iv 4, rv b2, iv 1, jv 0, S2, jv 0, S2, jv 1, S2, jv 2, S2, iv 0, iv 0, iv 1, U0, U0]) A at_264 rfl rfl ?_
     refine s_aload (pc' := 268) A at_266 rfl rfl rfl ?_
     refine s_virtual (pc' := 271) (y := y3_isEmpty) (argsL := []) (rest := []) (z := y3_isEmpty) A E326 (bo_isEmpty6 l Z a0 hw n0 h323 A.size b2 r11 [.int (na + (1 : Int32)), .int (nb + (1 : Int32)), .int (0 : Int32), .int (0 : Int32)] ⟨E326, F327, F328, F329, V330, ne331, ge332, ge333⟩) (w13 hw) (w14 hw) (nf_same (C := "") (w16 hw)) (w16 hw) (w15 hw) (w3 hw) (w17 hw) (by decide) pd___Z rfl (W := 0) (by decide) (by decide) (Nat.le_of_eq rfl) (by decide) (by decide) rfl rfl at_268 rfl fun T h345 v346 A Q347 => ?_
     obtain ⟨rfl, K343, H344⟩ := Q347
     obtain ⟨E348, F349, F350, F351, V352, ne353, ge354, ge355⟩ := H344
     refine Wp.stk (st' := [(.int (0 : Int32))]) rfl ?_
     refine s_istore (pc' := 273) (Ls' := #[iv q0, iv q1, iv q2, iv q3, iv q4, iv q5, iv na, iv nb, iv nc, iv nx, iv 1, iv 0, iv 4, rv b2, iv 1, jv 0, S2, jv 0, S2, jv 1, S2, jv 2, S2, iv 0, iv 0, iv 1, iv 0, U0]) A at_271 rfl rfl ?_
     refine s_iload (pc' := 275) A at_273 rfl rfl ?_
     refine s_ifY (pc' := 304) A at_275 (by decide) (by decide) (by decide) ?_
     refine s_iload (pc' := 306) A at_304 rfl rfl ?_
     refine s_ifN (pc' := 309) A at_306 rfl (by decide) ?_
     refine s_iload (pc' := 311) A at_309 rfl rfl ?_
     refine s_istore (pc' := 313) (Ls' := #[iv q0, iv q1, iv q2, iv q3, iv q4, iv q5, iv na, iv nb, iv nc, iv nx, iv 1, iv 0, iv 4, rv b2, iv 1, jv 0, S2, jv 0, S2, jv 1, S2, jv 2, S2, iv 0, iv 0, iv 1, iv 0, iv na]) A at_311 rfl rfl ?_
     refine s_goto (pc' := 332) A at_313 (by decide) (by decide) ?_
     refine s_iload (pc' := 334) A at_332 rfl rfl ?_
     refine s_ifN (pc' := 337) A at_334 rfl (by decide) ?_
     refine s_iload (pc' := 339) A at_337 rfl rfl ?_
     refine s_ifN (pc' := 342) A at_339 rfl (by decide) ?_
     refine s_aload (pc' := 344) A at_342 rfl rfl rfl ?_
     refine s_virtual (pc' := 347) (y := y5_first) (argsL := []) (rest := []) (z := y5_first) A E348 (bo_first7 l Z a0 hw n0 h345 A.size b2 r11 (na + (1 : Int32)) (nb + (1 : Int32)) (0 : Int32) (0 : Int32) ⟨E348, F349, F350, F351, V352, ne353, ge354, ge355⟩) (w40 hw) (w41 hw) (nf_same (C := "") (w43 hw)) (w43 hw) (w42 hw) (w3 hw) (w44 hw) (by decide) pd___I rfl (W := 0) (by decide) (by decide) (Nat.le_of_eq rfl) (by decide) (by decide) rfl rfl at_344 rfl fun T h358 v359 A Q360 => ?_
     obtain ⟨rfl, K356, H357⟩ := Q360
     obtain ⟨E361, F362, F363, F364, V365, ne366, ge367, ge368⟩ := H357
     refine Wp.stk (st' := [(.int ((na + (1 : Int32)) - (1 : Int32)))]) rfl ?_
     refine s_iload (pc' := 349) A at_347 rfl rfl ?_
     refine s_icmpN (pc' := 352) A at_349 rfl (teq (show ((na + (1 : Int32)) - (1 : Int32)) = na from (by have _ := rng32 na; have _ : (1 : Int32).toInt = 1 := (by decide); have _ := rng32 (na + (1 : Int32)); have _ := c_iadd na (1 : Int32); have _ := rng32 ((na + (1 : Int32)) - (1 : Int32)); have _ := c_isub (na + (1 : Int32)) (1 : Int32); apply Int32.toInt_inj.mp; omega))).2 ?_
     refine s_iconst (pc' := 353) (z := (1 : Int32)) A at_352 rfl (by decide) ?_
     refine s_goto (pc' := 357) A at_353 (by decide) (by decide) ?_
     exact r_bool A rfl (by decide) at_357 (by decide) (by decide) (rfl)
    ·
     refine s_iload (pc' := 176) A at_174 rfl rfl ?_
     refine s_ifN (pc' := 179) A at_176 rfl (by decide) ?_
     refine s_aload (pc' := 181) A at_179 rfl rfl rfl ?_
     refine s_lload (pc' := 183) A at_181 rfl rfl ?_
     refine s_iload (pc' := 185) A at_183 rfl rfl ?_
     refine s_iconst (pc' := 186) (z := (0 : Int32)) A at_185 rfl (by decide) ?_
     refine s_static (pc' := 189) (y := y0_idx) (argsL := [(.int (5 : Int32)), (.int (0 : Int32))]) (rest := [(.long (0 : Int64)), (.ref b2)]) A (idx l Z a0 hw n0 h68 A.size (5 : Int32) (0 : Int32) (2 : Int32) (by decide)) (w28 hw) (w29 hw) (w30 hw) (w31 hw) (by decide) pd__II_I rfl (W := 3) (by decide) (by decide) (Nat.le_of_eq rfl) (by decide) (by decide) rfl rfl at_186 rfl fun T h369 v370 A Q371 => ?_
     obtain ⟨rfl, eh⟩ := Q371
     rw [eh] at A
     refine Wp.stk (st' := [(.int (2 : Int32)), (.long (0 : Int64)), (.ref b2)]) rfl ?_
     refine s_i2l (pc' := 190) (z := (2 : Int64)) A at_189 rfl (by decide) ?_
     refine s_ladd (pc' := 191) (z := (2 : Int64)) A at_190 rfl (by decide) ?_
     refine s_virtual (pc' := 194) (y := y6_remove) (argsL := [(.long (2 : Int64))]) (rest := []) (z := y6_remove) A E71 (bo_remove12 l Z a0 hw n0 h68 A.size b2 r11 (na + (1 : Int32)) (nb + (1 : Int32)) (nc + (1 : Int32)) ⟨E71, F72, F73, F74, V75, ne76, ge77, ge78⟩ zna znb znc) (w32 hw) (w33 hw) (nf_same (C := "") (w35 hw)) (w35 hw) (w34 hw) (w3 hw) (w36 hw) (by decide) pd__J_V rfl (W := 0) (by decide) (by decide) (Nat.le_of_eq rfl) (by decide) (by decide) rfl rfl at_191 rfl fun T h374 v375 A Q376 => ?_
     obtain ⟨rfl, K372, H373⟩ := Q376
     obtain ⟨E377, F378, F379, F380, V381, ne382, ge383, ge384⟩ := H373
     refine Wp.stk (st' := []) rfl ?_
     refine s_iload (pc' := 196) A at_194 rfl rfl ?_
     refine s_iconst (pc' := 197) (z := (1 : Int32)) A at_196 rfl (by decide) ?_
     refine s_icmpY (pc' := 215) A at_197 (by decide) (by decide) (by decide) ?_
     refine s_iload (pc' := 217) A at_215 rfl rfl ?_
     refine s_iconst (pc' := 218) (z := (2 : Int32)) A at_217 rfl (by decide) ?_
     refine s_icmpY (pc' := 236) A at_218 (by decide) (by decide) (by decide) ?_
     refine s_iload (pc' := 238) A at_236 rfl rfl ?_
     refine s_iload (pc' := 240) A at_238 rfl rfl ?_
     refine s_iconst (pc' := 241) (z := (0 : Int32)) A at_240 rfl (by decide) ?_
     refine s_static (pc' := 244) (y := y1_removed) (argsL := [(.int (5 : Int32)), (.int (1 : Int32)), (.int (0 : Int32))]) (rest := []) A (rmd l Z a0 hw n0 h374 A.size (5 : Int32) (1 : Int32) (0 : Int32) (0 : Int32) (by decide)) (w37 hw) (w38 hw) (w30 hw) (w39 hw) (by decide) pd__III_Z rfl (W := 0) (by decide) (by decide) (Nat.le_of_eq rfl) (by decide) (by decide) rfl rfl at_241 rfl fun T h385 v386 A Q387 => ?_
     obtain ⟨rfl, eh⟩ := Q387
     rw [eh] at A
     refine Wp.stk (st' := [(.int (0 : Int32))]) rfl ?_
     refine s_istore (pc' := 246) (Ls' := #[iv q0, iv q1, iv q2, iv q3, iv q4, iv q5, iv na, iv nb, iv nc, iv nx, iv 1, iv 0, iv 5, rv b2, iv 1, jv 0, S2, jv 0, S2, jv 1, S2, jv 2, S2, iv 0, U0, U0, U0, U0]) A at_244 rfl rfl ?_
     refine s_iload (pc' := 248) A at_246 rfl rfl ?_
     refine s_iload (pc' := 250) A at_248 rfl rfl ?_
     refine s_iconst (pc' := 251) (z := (1 : Int32)) A at_250 rfl (by decide) ?_
     refine s_static (pc' := 254) (y := y1_removed) (argsL := [(.int (5 : Int32)), (.int (1 : Int32)), (.int (1 : Int32))]) (rest := []) A (rmd l Z a0 hw n0 h374 A.size (5 : Int32) (1 : Int32) (1 : Int32) (0 : Int32) (by decide)) (w37 hw) (w38 hw) (w30 hw) (w39 hw) (by decide) pd__III_Z rfl (W := 0) (by decide) (by decide) (Nat.le_of_eq rfl) (by decide) (by decide) rfl rfl at_251 rfl fun T h388 v389 A Q390 => ?_
     obtain ⟨rfl, eh⟩ := Q390
     rw [eh] at A
     refine Wp.stk (st' := [(.int (0 : Int32))]) rfl ?_
     refine s_istore (pc' := 256) (Ls' := #[iv q0, iv q1, iv q2, iv q3, iv q4, iv q5, iv na, iv nb, iv nc, iv nx, iv 1, iv 0, iv 5, rv b2, iv 1, jv 0, S2, jv 0, S2, jv 1, S2, jv 2, S2, iv 0, iv 0, U0, U0, U0]) A at_254 rfl rfl ?_
     refine s_iload (pc' := 258) A at_256 rfl rfl ?_
     refine s_iload (pc' := 260) A at_258 rfl rfl ?_
     refine s_iconst (pc' := 261) (z := (2 : Int32)) A at_260 rfl (by decide) ?_
     refine s_static (pc' := 264) (y := y1_removed) (argsL := [(.int (5 : Int32)), (.int (1 : Int32)), (.int (2 : Int32))]) (rest := []) A (rmd l Z a0 hw n0 h374 A.size (5 : Int32) (1 : Int32) (2 : Int32) (1 : Int32) (by decide)) (w37 hw) (w38 hw) (w30 hw) (w39 hw) (by decide) pd__III_Z rfl (W := 0) (by decide) (by decide) (Nat.le_of_eq rfl) (by decide) (by decide) rfl rfl at_261 rfl fun T h391 v392 A Q393 => ?_
     obtain ⟨rfl, eh⟩ := Q393
     rw [eh] at A
     refine Wp.stk (st' := [(.int (1 : Int32))]) rfl ?_
     refine s_istore (pc' := 266) (Ls' := #[iv q0, iv q1, iv q2, iv q3, iv q4, iv q5, iv na, iv nb, iv nc, iv nx, iv 1, iv 0, iv 5, rv b2, iv 1, jv 0, S2, jv 0, S2, jv 1, S2, jv 2, S2, iv 0, iv 0, iv 1, U0, U0]) A at_264 rfl rfl ?_
     refine s_aload (pc' := 268) A at_266 rfl rfl rfl ?_
     refine s_virtual (pc' := 271) (y := y3_isEmpty) (argsL := []) (rest := []) (z := y3_isEmpty) A E377 (bo_isEmpty6 l Z a0 hw n0 h374 A.size b2 r11 [.int (na + (1 : Int32)), .int (nb + (1 : Int32)), .int (0 : Int32), .int (0 : Int32)] ⟨E377, F378, F379, F380, V381, ne382, ge383, ge384⟩) (w13 hw) (w14 hw) (nf_same (C := "") (w16 hw)) (w16 hw) (w15 hw) (w3 hw) (w17 hw) (by decide) pd___Z rfl (W := 0) (by decide) (by decide) (Nat.le_of_eq rfl) (by decide) (by decide) rfl rfl at_268 rfl fun T h396 v397 A Q398 => ?_
     obtain ⟨rfl, K394, H395⟩ := Q398
     obtain ⟨E399, F400, F401, F402, V403, ne404, ge405, ge406⟩ := H395
     refine Wp.stk (st' := [(.int (0 : Int32))]) rfl ?_
     refine s_istore (pc' := 273) (Ls' := #[iv q0, iv q1, iv q2, iv q3, iv q4, iv q5, iv na, iv nb, iv nc, iv nx, iv 1, iv 0, iv 5, rv b2, iv 1, jv 0, S2, jv 0, S2, jv 1, S2, jv 2, S2, iv 0, iv 0, iv 1, iv 0, U0]) A at_271 rfl rfl ?_
     refine s_iload (pc' := 275) A at_273 rfl rfl ?_
     refine s_ifY (pc' := 304) A at_275 (by decide) (by decide) (by decide) ?_
     refine s_iload (pc' := 306) A at_304 rfl rfl ?_
     refine s_ifN (pc' := 309) A at_306 rfl (by decide) ?_
     refine s_iload (pc' := 311) A at_309 rfl rfl ?_
     refine s_istore (pc' := 313) (Ls' := #[iv q0, iv q1, iv q2, iv q3, iv q4, iv q5, iv na, iv nb, iv nc, iv nx, iv 1, iv 0, iv 5, rv b2, iv 1, jv 0, S2, jv 0, S2, jv 1, S2, jv 2, S2, iv 0, iv 0, iv 1, iv 0, iv na]) A at_311 rfl rfl ?_
     refine s_goto (pc' := 332) A at_313 (by decide) (by decide) ?_
     refine s_iload (pc' := 334) A at_332 rfl rfl ?_
     refine s_ifN (pc' := 337) A at_334 rfl (by decide) ?_
     refine s_iload (pc' := 339) A at_337 rfl rfl ?_
     refine s_ifN (pc' := 342) A at_339 rfl (by decide) ?_
     refine s_aload (pc' := 344) A at_342 rfl rfl rfl ?_
     refine s_virtual (pc' := 347) (y := y5_first) (argsL := []) (rest := []) (z := y5_first) A E399 (bo_first7 l Z a0 hw n0 h396 A.size b2 r11 (na + (1 : Int32)) (nb + (1 : Int32)) (0 : Int32) (0 : Int32) ⟨E399, F400, F401, F402, V403, ne404, ge405, ge406⟩) (w40 hw) (w41 hw) (nf_same (C := "") (w43 hw)) (w43 hw) (w42 hw) (w3 hw) (w44 hw) (by decide) pd___I rfl (W := 0) (by decide) (by decide) (Nat.le_of_eq rfl) (by decide) (by decide) rfl rfl at_344 rfl fun T h409 v410 A Q411 => ?_
     obtain ⟨rfl, K407, H408⟩ := Q411
     obtain ⟨E412, F413, F414, F415, V416, ne417, ge418, ge419⟩ := H408
     refine Wp.stk (st' := [(.int ((na + (1 : Int32)) - (1 : Int32)))]) rfl ?_
     refine s_iload (pc' := 349) A at_347 rfl rfl ?_
     refine s_icmpN (pc' := 352) A at_349 rfl (teq (show ((na + (1 : Int32)) - (1 : Int32)) = na from (by have _ := rng32 na; have _ : (1 : Int32).toInt = 1 := (by decide); have _ := rng32 (na + (1 : Int32)); have _ := c_iadd na (1 : Int32); have _ := rng32 ((na + (1 : Int32)) - (1 : Int32)); have _ := c_isub (na + (1 : Int32)) (1 : Int32); apply Int32.toInt_inj.mp; omega))).2 ?_
     refine s_iconst (pc' := 353) (z := (1 : Int32)) A at_352 rfl (by decide) ?_
     refine s_goto (pc' := 357) A at_353 (by decide) (by decide) ?_
     exact r_bool A rfl (by decide) at_357 (by decide) (by decide) (rfl)
   ·
    rcases cpp with rfl | rfl | rfl | rfl | rfl | rfl
    ·
     refine s_iload (pc' := 176) A at_174 rfl rfl ?_
     refine s_ifN (pc' := 179) A at_176 rfl (by decide) ?_
     refine s_aload (pc' := 181) A at_179 rfl rfl rfl ?_
     refine s_lload (pc' := 183) A at_181 rfl rfl ?_
     refine s_iload (pc' := 185) A at_183 rfl rfl ?_
     refine s_iconst (pc' := 186) (z := (0 : Int32)) A at_185 rfl (by decide) ?_
     refine s_static (pc' := 189) (y := y0_idx) (argsL := [(.int (0 : Int32)), (.int (0 : Int32))]) (rest := [(.long (0 : Int64)), (.ref b2)]) A (idx l Z a0 hw n0 h68 A.size (0 : Int32) (0 : Int32) (0 : Int32) (by decide)) (w28 hw) (w29 hw) (w30 hw) (w31 hw) (by decide) pd__II_I rfl (W := 3) (by decide) (by decide) (Nat.le_of_eq rfl) (by decide) (by decide) rfl rfl at_186 rfl fun T h420 v421 A Q422 => ?_
     obtain ⟨rfl, eh⟩ := Q422
     rw [eh] at A
     refine Wp.stk (st' := [(.int (0 : Int32)), (.long (0 : Int64)), (.ref b2)]) rfl ?_
     refine s_i2l (pc' := 190) (z := (0 : Int64)) A at_189 rfl (by decide) ?_
     refine s_ladd (pc' := 191) (z := (0 : Int64)) A at_190 rfl (by decide) ?_
     refine s_virtual (pc' := 194) (y := y6_remove) (argsL := [(.long (0 : Int64))]) (rest := []) (z := y6_remove) A E71 (bo_remove8 l Z a0 hw n0 h68 A.size b2 r11 (na + (1 : Int32)) (nb + (1 : Int32)) (nc + (1 : Int32)) ⟨E71, F72, F73, F74, V75, ne76, ge77, ge78⟩ zna znb znc) (w32 hw) (w33 hw) (nf_same (C := "") (w35 hw)) (w35 hw) (w34 hw) (w3 hw) (w36 hw) (by decide) pd__J_V rfl (W := 0) (by decide) (by decide) (Nat.le_of_eq rfl) (by decide) (by decide) rfl rfl at_191 rfl fun T h425 v426 A Q427 => ?_
     obtain ⟨rfl, K423, H424⟩ := Q427
     obtain ⟨E428, F429, F430, F431, V432, ne433, ge434, ge435⟩ := H424
     refine Wp.stk (st' := []) rfl ?_
     refine s_iload (pc' := 196) A at_194 rfl rfl ?_
     refine s_iconst (pc' := 197) (z := (1 : Int32)) A at_196 rfl (by decide) ?_
     refine s_icmpN (pc' := 200) A at_197 rfl (by decide) ?_
     refine s_aload (pc' := 202) A at_200 rfl rfl rfl ?_
     refine s_lload (pc' := 204) A at_202 rfl rfl ?_
     refine s_iload (pc' := 206) A at_204 rfl rfl ?_
     refine s_iconst (pc' := 207) (z := (1 : Int32)) A at_206 rfl (by decide) ?_
     refine s_static (pc' := 210) (y := y0_idx) (argsL := [(.int (0 : Int32)), (.int (1 : Int32))]) (rest := [(.long (0 : Int64)), (.ref b2)]) A (idx l Z a0 hw n0 h425 A.size (0 : Int32) (1 : Int32) (1 : Int32) (by decide)) (w28 hw) (w29 hw) (w30 hw) (w31 hw) (by decide) pd__II_I rfl (W := 3) (by decide) (by decide) (Nat.le_of_eq rfl) (by decide) (by decide) rfl rfl at_207 rfl fun T h436 v437 A Q438 => ?_
     obtain ⟨rfl, eh⟩ := Q438
     rw [eh] at A
     refine Wp.stk (st' := [(.int (1 : Int32)), (.long (0 : Int64)), (.ref b2)]) rfl ?_
     refine s_i2l (pc' := 211) (z := (1 : Int64)) A at_210 rfl (by decide) ?_
     refine s_ladd (pc' := 212) (z := (1 : Int64)) A at_211 rfl (by decide) ?_
     refine s_virtual (pc' := 215) (y := y6_remove) (argsL := [(.long (1 : Int64))]) (rest := []) (z := y6_remove) A E428 (bo_remove13 l Z a0 hw n0 h425 A.size b2 r11 (nb + (1 : Int32)) (nc + (1 : Int32)) ⟨E428, F429, F430, F431, V432, ne433, ge434, ge435⟩ znb znc) (w32 hw) (w33 hw) (nf_same (C := "") (w35 hw)) (w35 hw) (w34 hw) (w3 hw) (w36 hw) (by decide) pd__J_V rfl (W := 0) (by decide) (by decide) (Nat.le_of_eq rfl) (by decide) (by decide) rfl rfl at_212 rfl fun T h441 v442 A Q443 => ?_
     obtain ⟨rfl, K439, H440⟩ := Q443
     obtain ⟨E444, F445, F446, F447, V448, ne449, ge450, ge451⟩ := H440
     refine Wp.stk (st' := []) rfl ?_
     refine s_iload (pc' := 217) A at_215 rfl rfl ?_
     refine s_iconst (pc' := 218) (z := (2 : Int32)) A at_217 rfl (by decide) ?_
     refine s_icmpY (pc' := 236) A at_218 (by decide) (by decide) (by decide) ?_
     refine s_iload (pc' := 238) A at_236 rfl rfl ?_
     refine s_iload (pc' := 240) A at_238 rfl rfl ?_
     refine s_iconst (pc' := 241) (z := (0 : Int32)) A at_240 rfl (by decide) ?_
     refine s_static (pc' := 244) (y := y1_removed) (argsL := [(.int (0 : Int32)), (.int (2 : Int32)), (.int (0 : Int32))]) (rest := []) A (rmd l Z a0 hw n0 h441 A.size (0 : Int32) (2 : Int32) (0 : Int32) (1 : Int32) (by decide)) (w37 hw) (w38 hw) (w30 hw) (w39 hw) (by decide) pd__III_Z rfl (W := 0) (by decide) (by decide) (Nat.le_of_eq rfl) (by decide) (by decide) rfl rfl at_241 rfl fun T h452 v453 A Q454 => ?_
     obtain ⟨rfl, eh⟩ := Q454
     rw [eh] at A
     refine Wp.stk (st' := [(.int (1 : Int32))]) rfl ?_
     refine s_istore (pc' := 246) (Ls' := #[iv q0, iv q1, iv q2, iv q3, iv q4, iv q5, iv na, iv nb, iv nc, iv nx, iv 2, iv 0, iv 0, rv b2, iv 1, jv 0, S2, jv 0, S2, jv 1, S2, jv 2, S2, iv 1, U0, U0, U0, U0]) A at_244 rfl rfl ?_
     refine s_iload (pc' := 248) A at_246 rfl rfl ?_
     refine s_iload (pc' := 250) A at_248 rfl rfl ?_
     refine s_iconst (pc' := 251) (z := (1 : Int32)) A at_250 rfl (by decide) ?_
     refine s_static (pc' := 254) (y := y1_removed) (argsL := [(.int (0 : Int32)), (.int (2 : Int32)), (.int (1 : Int32))]) (rest := []) A (rmd l Z a0 hw n0 h441 A.size (0 : Int32) (2 : Int32) (1 : Int32) (1 : Int32) (by decide)) (w37 hw) (w38 hw) (w30 hw) (w39 hw) (by decide) pd__III_Z rfl (W := 0) (by decide) (by decide) (Nat.le_of_eq rfl) (by decide) (by decide) rfl rfl at_251 rfl fun T h455 v456 A Q457 => ?_
     obtain ⟨rfl, eh⟩ := Q457
     rw [eh] at A
     refine Wp.stk (st' := [(.int (1 : Int32))]) rfl ?_
     refine s_istore (pc' := 256) (Ls' := #[iv q0, iv q1, iv q2, iv q3, iv q4, iv q5, iv na, iv nb, iv nc, iv nx, iv 2, iv 0, iv 0, rv b2, iv 1, jv 0, S2, jv 0, S2, jv 1, S2, jv 2, S2, iv 1, iv 1, U0, U0, U0]) A at_254 rfl rfl ?_
     refine s_iload (pc' := 258) A at_256 rfl rfl ?_
     refine s_iload (pc' := 260) A at_258 rfl rfl ?_
     refine s_iconst (pc' := 261) (z := (2 : Int32)) A at_260 rfl (by decide) ?_
     refine s_static (pc' := 264) (y := y1_removed) (argsL := [(.int (0 : Int32)), (.int (2 : Int32)), (.int (2 : Int32))]) (rest := []) A (rmd l Z a0 hw n0 h441 A.size (0 : Int32) (2 : Int32) (2 : Int32) (0 : Int32) (by decide)) (w37 hw) (w38 hw) (w30 hw) (w39 hw) (by decide) pd__III_Z rfl (W := 0) (by decide) (by decide) (Nat.le_of_eq rfl) (by decide) (by decide) rfl rfl at_261 rfl fun T h458 v459 A Q460 => ?_
     obtain ⟨rfl, eh⟩ := Q460
     rw [eh] at A
     refine Wp.stk (st' := [(.int (0 : Int32))]) rfl ?_
     refine s_istore (pc' := 266) (Ls' := #[iv q0, iv q1, iv q2, iv q3, iv q4, iv q5, iv na, iv nb, iv nc, iv nx, iv 2, iv 0, iv 0, rv b2, iv 1, jv 0, S2, jv 0, S2, jv 1, S2, jv 2, S2, iv 1, iv 1, iv 0, U0, U0]) A at_264 rfl rfl ?_
     refine s_aload (pc' := 268) A at_266 rfl rfl rfl ?_
     refine s_virtual (pc' := 271) (y := y3_isEmpty) (argsL := []) (rest := []) (z := y3_isEmpty) A E444 (bo_isEmpty14 l Z a0 hw n0 h441 A.size b2 r11 [.int (0 : Int32), .int (0 : Int32), .int (nc + (1 : Int32)), .int (0 : Int32)] ⟨E444, F445, F446, F447, V448, ne449, ge450, ge451⟩) (w13 hw) (w14 hw) (nf_same (C := "") (w16 hw)) (w16 hw) (w15 hw) (w3 hw) (w17 hw) (by decide) pd___Z rfl (W := 0) (by decide) (by decide) (Nat.le_of_eq rfl) (by decide) (by decide) rfl rfl at_268 rfl fun T h463 v464 A Q465 => ?_
     obtain ⟨rfl, K461, H462⟩ := Q465
     obtain ⟨E466, F467, F468, F469, V470, ne471, ge472, ge473⟩ := H462
     refine Wp.stk (st' := [(.int (0 : Int32))]) rfl ?_
     refine s_istore (pc' := 273) (Ls' := #[iv q0, iv q1, iv q2, iv q3, iv q4, iv q5, iv na, iv nb, iv nc, iv nx, iv 2, iv 0, iv 0, rv b2, iv 1, jv 0, S2, jv 0, S2, jv 1, S2, jv 2, S2, iv 1, iv 1, iv 0, iv 0, U0]) A at_271 rfl rfl ?_
     refine s_iload (pc' := 275) A at_273 rfl rfl ?_
     refine s_ifN (pc' := 278) A at_275 rfl (by decide) ?_
     refine s_iload (pc' := 280) A at_278 rfl rfl ?_
     refine s_ifN (pc' := 283) A at_280 rfl (by decide) ?_
     refine s_iload (pc' := 285) A at_283 rfl rfl ?_
     refine s_ifY (pc' := 304) A at_285 (by decide) (by decide) (by decide) ?_
     refine s_iload (pc' := 306) A at_304 rfl rfl ?_
     refine s_ifY (pc' := 316) A at_306 (by decide) (by decide) (by decide) ?_
     refine s_iload (pc' := 318) A at_316 rfl rfl ?_
     refine s_ifY (pc' := 328) A at_318 (by decide) (by decide) (by decide) ?_
     refine s_iload (pc' := 330) A at_328 rfl rfl ?_
     refine s_istore (pc' := 332) (Ls' := #[iv q0, iv q1, iv q2, iv q3, iv q4, iv q5, iv na, iv nb, iv nc, iv nx, iv 2, iv 0, iv 0, rv b2, iv 1, jv 0, S2, jv 0, S2, jv 1, S2, jv 2, S2, iv 1, iv 1, iv 0, iv 0, iv nc]) A at_330 rfl rfl ?_
     refine s_iload (pc' := 334) A at_332 rfl rfl ?_
     refine s_ifN (pc' := 337) A at_334 rfl (by decide) ?_
     refine s_iload (pc' := 339) A at_337 rfl rfl ?_
     refine s_ifN (pc' := 342) A at_339 rfl (by decide) ?_
     refine s_aload (pc' := 344) A at_342 rfl rfl rfl ?_
     refine s_virtual (pc' := 347) (y := y5_first) (argsL := []) (rest := []) (z := y5_first) A E466 (bo_first15 l Z a0 hw n0 h463 A.size b2 r11 (0 : Int32) (0 : Int32) (nc + (1 : Int32)) (0 : Int32) ⟨E466, F467, F468, F469, V470, ne471, ge472, ge473⟩) (w40 hw) (w41 hw) (nf_same (C := "") (w43 hw)) (w43 hw) (w42 hw) (w3 hw) (w44 hw) (by decide) pd___I rfl (W := 0) (by decide) (by decide) (Nat.le_of_eq rfl) (by decide) (by decide) rfl rfl at_344 rfl fun T h476 v477 A Q478 => ?_
     obtain ⟨rfl, K474, H475⟩ := Q478
     obtain ⟨E479, F480, F481, F482, V483, ne484, ge485, ge486⟩ := H475
     refine Wp.stk (st' := [(.int ((nc + (1 : Int32)) - (1 : Int32)))]) rfl ?_
     refine s_iload (pc' := 349) A at_347 rfl rfl ?_
     refine s_icmpN (pc' := 352) A at_349 rfl (teq (show ((nc + (1 : Int32)) - (1 : Int32)) = nc from (by have _ := rng32 nc; have _ : (1 : Int32).toInt = 1 := (by decide); have _ := rng32 (nc + (1 : Int32)); have _ := c_iadd nc (1 : Int32); have _ := rng32 ((nc + (1 : Int32)) - (1 : Int32)); have _ := c_isub (nc + (1 : Int32)) (1 : Int32); apply Int32.toInt_inj.mp; omega))).2 ?_
     refine s_iconst (pc' := 353) (z := (1 : Int32)) A at_352 rfl (by decide) ?_
     refine s_goto (pc' := 357) A at_353 (by decide) (by decide) ?_
     exact r_bool A rfl (by decide) at_357 (by decide) (by decide) (rfl)
    ·
     refine s_iload (pc' := 176) A at_174 rfl rfl ?_
     refine s_ifN (pc' := 179) A at_176 rfl (by decide) ?_
     refine s_aload (pc' := 181) A at_179 rfl rfl rfl ?_
     refine s_lload (pc' := 183) A at_181 rfl rfl ?_
     refine s_iload (pc' := 185) A at_183 rfl rfl ?_
     refine s_iconst (pc' := 186) (z := (0 : Int32)) A at_185 rfl (by decide) ?_
     refine s_static (pc' := 189) (y := y0_idx) (argsL := [(.int (1 : Int32)), (.int (0 : Int32))]) (rest := [(.long (0 : Int64)), (.ref b2)]) A (idx l Z a0 hw n0 h68 A.size (1 : Int32) (0 : Int32) (0 : Int32) (by decide)) (w28 hw) (w29 hw) (w30 hw) (w31 hw) (by decide) pd__II_I rfl (W := 3) (by decide) (by decide) (Nat.le_of_eq rfl) (by decide) (by decide) rfl rfl at_186 rfl fun T h487 v488 A Q489 => ?_
     obtain ⟨rfl, eh⟩ := Q489
     rw [eh] at A
     refine Wp.stk (st' := [(.int (0 : Int32)), (.long (0 : Int64)), (.ref b2)]) rfl ?_
     refine s_i2l (pc' := 190) (z := (0 : Int64)) A at_189 rfl (by decide) ?_
     refine s_ladd (pc' := 191) (z := (0 : Int64)) A at_190 rfl (by decide) ?_
     refine s_virtual (pc' := 194) (y := y6_remove) (argsL := [(.long (0 : Int64))]) (rest := []) (z := y6_remove) A E71 (bo_remove8 l Z a0 hw n0 h68 A.size b2 r11 (na + (1 : Int32)) (nb + (1 : Int32)) (nc + (1 : Int32)) ⟨E71, F72, F73, F74, V75, ne76, ge77, ge78⟩ zna znb znc) (w32 hw) (w33 hw) (nf_same (C := "") (w35 hw)) (w35 hw) (w34 hw) (w3 hw) (w36 hw) (by decide) pd__J_V rfl (W := 0) (by decide) (by decide) (Nat.le_of_eq rfl) (by decide) (by decide) rfl rfl at_191 rfl fun T h492 v493 A Q494 => ?_
     obtain ⟨rfl, K490, H491⟩ := Q494
     obtain ⟨E495, F496, F497, F498, V499, ne500, ge501, ge502⟩ := H491
     refine Wp.stk (st' := []) rfl ?_
     refine s_iload (pc' := 196) A at_194 rfl rfl ?_
     refine s_iconst (pc' := 197) (z := (1 : Int32)) A at_196 rfl (by decide) ?_
     refine s_icmpN (pc' := 200) A at_197 rfl (by decide) ?_
     refine s_aload (pc' := 202) A at_200 rfl rfl rfl ?_
     refine s_lload (pc' := 204) A at_202 rfl rfl ?_
     refine s_iload (pc' := 206) A at_204 rfl rfl ?_
     refine s_iconst (pc' := 207) (z := (1 : Int32)) A at_206 rfl (by decide) ?_
     refine s_static (pc' := 210) (y := y0_idx) (argsL := [(.int (1 : Int32)), (.int (1 : Int32))]) (rest := [(.long (0 : Int64)), (.ref b2)]) A (idx l Z a0 hw n0 h492 A.size (1 : Int32) (1 : Int32) (2 : Int32) (by decide)) (w28 hw) (w29 hw) (w30 hw) (w31 hw) (by decide) pd__II_I rfl (W := 3) (by decide) (by decide) (Nat.le_of_eq rfl) (by decide) (by decide) rfl rfl at_207 rfl fun T h503 v504 A Q505 => ?_
     obtain ⟨rfl, eh⟩ := Q505
     rw [eh] at A
     refine Wp.stk (st' := [(.int (2 : Int32)), (.long (0 : Int64)), (.ref b2)]) rfl ?_
     refine s_i2l (pc' := 211) (z := (2 : Int64)) A at_210 rfl (by decide) ?_
     refine s_ladd (pc' := 212) (z := (2 : Int64)) A at_211 rfl (by decide) ?_
     refine s_virtual (pc' := 215) (y := y6_remove) (argsL := [(.long (2 : Int64))]) (rest := []) (z := y6_remove) A E495 (bo_remove16 l Z a0 hw n0 h492 A.size b2 r11 (nb + (1 : Int32)) (nc + (1 : Int32)) ⟨E495, F496, F497, F498, V499, ne500, ge501, ge502⟩ znb znc) (w32 hw) (w33 hw) (nf_same (C := "") (w35 hw)) (w35 hw) (w34 hw) (w3 hw) (w36 hw) (by decide) pd__J_V rfl (W := 0) (by decide) (by decide) (Nat.le_of_eq rfl) (by decide) (by decide) rfl rfl at_212 rfl fun T h508 v509 A Q510 => ?_
     obtain ⟨rfl, K506, H507⟩ := Q510
     obtain ⟨E511, F512, F513, F514, V515, ne516, ge517, ge518⟩ := H507
     refine Wp.stk (st' := []) rfl ?_
     refine s_iload (pc' := 217) A at_215 rfl rfl ?_
     refine s_iconst (pc' := 218) (z := (2 : Int32)) A at_217 rfl (by decide) ?_
     refine s_icmpY (pc' := 236) A at_218 (by decide) (by decide) (by decide) ?_
     refine s_iload (pc' := 238) A at_236 rfl rfl ?_
     refine s_iload (pc' := 240) A at_238 rfl rfl ?_
     refine s_iconst (pc' := 241) (z := (0 : Int32)) A at_240 rfl (by decide) ?_
     refine s_static (pc' := 244) (y := y1_removed) (argsL := [(.int (1 : Int32)), (.int (2 : Int32)), (.int (0 : Int32))]) (rest := []) A (rmd l Z a0 hw n0 h508 A.size (1 : Int32) (2 : Int32) (0 : Int32) (1 : Int32) (by decide)) (w37 hw) (w38 hw) (w30 hw) (w39 hw) (by decide) pd__III_Z rfl (W := 0) (by decide) (by decide) (Nat.le_of_eq rfl) (by decide) (by decide) rfl rfl at_241 rfl fun T h519 v520 A Q521 => ?_
     obtain ⟨rfl, eh⟩ := Q521
     rw [eh] at A
     refine Wp.stk (st' := [(.int (1 : Int32))]) rfl ?_
     refine s_istore (pc' := 246) (Ls' := #[iv q0, iv q1, iv q2, iv q3, iv q4, iv q5, iv na, iv nb, iv nc, iv nx, iv 2, iv 0, iv 1, rv b2, iv 1, jv 0, S2, jv 0, S2, jv 1, S2, jv 2, S2, iv 1, U0, U0, U0, U0]) A at_244 rfl rfl ?_
     refine s_iload (pc' := 248) A at_246 rfl rfl ?_
     refine s_iload (pc' := 250) A at_248 rfl rfl ?_
     refine s_iconst (pc' := 251) (z := (1 : Int32)) A at_250 rfl (by decide) ?_
     refine s_static (pc' := 254) (y := y1_removed) (argsL := [(.int (1 : Int32)), (.int (2 : Int32)), (.int (1 : Int32))]) (rest := []) A (rmd l Z a0 hw n0 h508 A.size (1 : Int32) (2 : Int32) (1 : Int32) (0 : Int32) (by decide)) (w37 hw) (w38 hw) (w30 hw) (w39 hw) (by decide) pd__III_Z rfl (W := 0) (by decide) (by decide) (Nat.le_of_eq rfl) (by decide) (by decide) rfl rfl at_251 rfl fun T h522 v523 A Q524 => ?_
     obtain ⟨rfl, eh⟩ := Q524
     rw [eh] at A
     refine Wp.stk (st' := [(.int (0 : Int32))]) rfl ?_
     refine s_istore (pc' := 256) (Ls' := #[iv q0, iv q1, iv q2, iv q3, iv q4, iv q5, iv na, iv nb, iv nc, iv nx, iv 2, iv 0, iv 1, rv b2, iv 1, jv 0, S2, jv 0, S2, jv 1, S2, jv 2, S2, iv 1, iv 0, U0, U0, U0]) A at_254 rfl rfl ?_
     refine s_iload (pc' := 258) A at_256 rfl rfl ?_
     refine s_iload (pc' := 260) A at_258 rfl rfl ?_
     refine s_iconst (pc' := 261) (z := (2 : Int32)) A at_260 rfl (by decide) ?_
     refine s_static (pc' := 264) (y := y1_removed) (argsL := [(.int (1 : Int32)), (.int (2 : Int32)), (.int (2 : Int32))]) (rest := []) A (rmd l Z a0 hw n0 h508 A.size (1 : Int32) (2 : Int32) (2 : Int32) (1 : Int32) (by decide)) (w37 hw) (w38 hw) (w30 hw) (w39 hw) (by decide) pd__III_Z rfl (W := 0) (by decide) (by decide) (Nat.le_of_eq rfl) (by decide) (by decide) rfl rfl at_261 rfl fun T h525 v526 A Q527 => ?_
     obtain ⟨rfl, eh⟩ := Q527
     rw [eh] at A
     refine Wp.stk (st' := [(.int (1 : Int32))]) rfl ?_
     refine s_istore (pc' := 266) (Ls' := #[iv q0, iv q1, iv q2, iv q3, iv q4, iv q5, iv na, iv nb, iv nc, iv nx, iv 2, iv 0, iv 1, rv b2, iv 1, jv 0, S2, jv 0, S2, jv 1, S2, jv 2, S2, iv 1, iv 0, iv 1, U0, U0]) A at_264 rfl rfl ?_
     refine s_aload (pc' := 268) A at_266 rfl rfl rfl ?_
     refine s_virtual (pc' := 271) (y := y3_isEmpty) (argsL := []) (rest := []) (z := y3_isEmpty) A E511 (bo_isEmpty9 l Z a0 hw n0 h508 A.size b2 r11 [.int (0 : Int32), .int (nb + (1 : Int32)), .int (0 : Int32), .int (0 : Int32)] ⟨E511, F512, F513, F514, V515, ne516, ge517, ge518⟩) (w13 hw) (w14 hw) (nf_same (C := "") (w16 hw)) (w16 hw) (w15 hw) (w3 hw) (w17 hw) (by decide) pd___Z rfl (W := 0) (by decide) (by decide) (Nat.le_of_eq rfl) (by decide) (by decide) rfl rfl at_268 rfl fun T h530 v531 A Q532 => ?_
     obtain ⟨rfl, K528, H529⟩ := Q532
     obtain ⟨E533, F534, F535, F536, V537, ne538, ge539, ge540⟩ := H529
     refine Wp.stk (st' := [(.int (0 : Int32))]) rfl ?_
     refine s_istore (pc' := 273) (Ls' := #[iv q0, iv q1, iv q2, iv q3, iv q4, iv q5, iv na, iv nb, iv nc, iv nx, iv 2, iv 0, iv 1, rv b2, iv 1, jv 0, S2, jv 0, S2, jv 1, S2, jv 2, S2, iv 1, iv 0, iv 1, iv 0, U0]) A at_271 rfl rfl ?_
     refine s_iload (pc' := 275) A at_273 rfl rfl ?_
     refine s_ifN (pc' := 278) A at_275 rfl (by decide) ?_
     refine s_iload (pc' := 280) A at_278 rfl rfl ?_
     refine s_ifY (pc' := 304) A at_280 (by decide) (by decide) (by decide) ?_
     refine s_iload (pc' := 306) A at_304 rfl rfl ?_
     refine s_ifY (pc' := 316) A at_306 (by decide) (by decide) (by decide) ?_
     refine s_iload (pc' := 318) A at_316 rfl rfl ?_
     refine s_ifN (pc' := 321) A at_318 rfl (by decide) ?_
     refine s_iload (pc' := 323) A at_321 rfl rfl ?_
     refine s_istore (pc' := 325) (Ls' := #[iv q0, iv q1, iv q2, iv q3, iv q4, iv q5, iv na, iv nb, iv nc, iv nx, iv 2, iv 0, iv 1, rv b2, iv 1, jv 0, S2, jv 0, S2, jv 1, S2, jv 2, S2, iv 1, iv 0, iv 1, iv 0, iv nb]) A at_323 rfl rfl ?_
     refine s_goto (pc' := 332) A at_325 (by decide) (by decide) ?_
     refine s_iload (pc' := 334) A at_332 rfl rfl ?_
     refine s_ifN (pc' := 337) A at_334 rfl (by decide) ?_
     refine s_iload (pc' := 339) A at_337 rfl rfl ?_
     refine s_ifN (pc' := 342) A at_339 rfl (by decide) ?_
     refine s_aload (pc' := 344) A at_342 rfl rfl rfl ?_
     refine s_virtual (pc' := 347) (y := y5_first) (argsL := []) (rest := []) (z := y5_first) A E533 (bo_first10 l Z a0 hw n0 h530 A.size b2 r11 (0 : Int32) (nb + (1 : Int32)) (0 : Int32) (0 : Int32) ⟨E533, F534, F535, F536, V537, ne538, ge539, ge540⟩) (w40 hw) (w41 hw) (nf_same (C := "") (w43 hw)) (w43 hw) (w42 hw) (w3 hw) (w44 hw) (by decide) pd___I rfl (W := 0) (by decide) (by decide) (Nat.le_of_eq rfl) (by decide) (by decide) rfl rfl at_344 rfl fun T h543 v544 A Q545 => ?_
     obtain ⟨rfl, K541, H542⟩ := Q545
     obtain ⟨E546, F547, F548, F549, V550, ne551, ge552, ge553⟩ := H542
     refine Wp.stk (st' := [(.int ((nb + (1 : Int32)) - (1 : Int32)))]) rfl ?_
     refine s_iload (pc' := 349) A at_347 rfl rfl ?_
     refine s_icmpN (pc' := 352) A at_349 rfl (teq (show ((nb + (1 : Int32)) - (1 : Int32)) = nb from (by have _ := rng32 nb; have _ : (1 : Int32).toInt = 1 := (by decide); have _ := rng32 (nb + (1 : Int32)); have _ := c_iadd nb (1 : Int32); have _ := rng32 ((nb + (1 : Int32)) - (1 : Int32)); have _ := c_isub (nb + (1 : Int32)) (1 : Int32); apply Int32.toInt_inj.mp; omega))).2 ?_
     refine s_iconst (pc' := 353) (z := (1 : Int32)) A at_352 rfl (by decide) ?_
     refine s_goto (pc' := 357) A at_353 (by decide) (by decide) ?_
     exact r_bool A rfl (by decide) at_357 (by decide) (by decide) (rfl)
    ·
     refine s_iload (pc' := 176) A at_174 rfl rfl ?_
     refine s_ifN (pc' := 179) A at_176 rfl (by decide) ?_
     refine s_aload (pc' := 181) A at_179 rfl rfl rfl ?_
     refine s_lload (pc' := 183) A at_181 rfl rfl ?_
     refine s_iload (pc' := 185) A at_183 rfl rfl ?_
     refine s_iconst (pc' := 186) (z := (0 : Int32)) A at_185 rfl (by decide) ?_
     refine s_static (pc' := 189) (y := y0_idx) (argsL := [(.int (2 : Int32)), (.int (0 : Int32))]) (rest := [(.long (0 : Int64)), (.ref b2)]) A (idx l Z a0 hw n0 h68 A.size (2 : Int32) (0 : Int32) (1 : Int32) (by decide)) (w28 hw) (w29 hw) (w30 hw) (w31 hw) (by decide) pd__II_I rfl (W := 3) (by decide) (by decide) (Nat.le_of_eq rfl) (by decide) (by decide) rfl rfl at_186 rfl fun T h554 v555 A Q556 => ?_
     obtain ⟨rfl, eh⟩ := Q556
     rw [eh] at A
     refine Wp.stk (st' := [(.int (1 : Int32)), (.long (0 : Int64)), (.ref b2)]) rfl ?_
     refine s_i2l (pc' := 190) (z := (1 : Int64)) A at_189 rfl (by decide) ?_
     refine s_ladd (pc' := 191) (z := (1 : Int64)) A at_190 rfl (by decide) ?_
     refine s_virtual (pc' := 194) (y := y6_remove) (argsL := [(.long (1 : Int64))]) (rest := []) (z := y6_remove) A E71 (bo_remove11 l Z a0 hw n0 h68 A.size b2 r11 (na + (1 : Int32)) (nb + (1 : Int32)) (nc + (1 : Int32)) ⟨E71, F72, F73, F74, V75, ne76, ge77, ge78⟩ zna znb znc) (w32 hw) (w33 hw) (nf_same (C := "") (w35 hw)) (w35 hw) (w34 hw) (w3 hw) (w36 hw) (by decide) pd__J_V rfl (W := 0) (by decide) (by decide) (Nat.le_of_eq rfl) (by decide) (by decide) rfl rfl at_191 rfl fun T h559 v560 A Q561 => ?_
     obtain ⟨rfl, K557, H558⟩ := Q561
     obtain ⟨E562, F563, F564, F565, V566, ne567, ge568, ge569⟩ := H558
     refine Wp.stk (st' := []) rfl ?_
     refine s_iload (pc' := 196) A at_194 rfl rfl ?_
     refine s_iconst (pc' := 197) (z := (1 : Int32)) A at_196 rfl (by decide) ?_
     refine s_icmpN (pc' := 200) A at_197 rfl (by decide) ?_
     refine s_aload (pc' := 202) A at_200 rfl rfl rfl ?_
     refine s_lload (pc' := 204) A at_202 rfl rfl ?_
     refine s_iload (pc' := 206) A at_204 rfl rfl ?_
     refine s_iconst (pc' := 207) (z := (1 : Int32)) A at_206 rfl (by decide) ?_
     refine s_static (pc' := 210) (y := y0_idx) (argsL := [(.int (2 : Int32)), (.int (1 : Int32))]) (rest := [(.long (0 : Int64)), (.ref b2)]) A (idx l Z a0 hw n0 h559 A.size (2 : Int32) (1 : Int32) (0 : Int32) (by decide)) (w28 hw) (w29 hw) (w30 hw) (w31 hw) (by decide) pd__II_I rfl (W := 3) (by decide) (by decide) (Nat.le_of_eq rfl) (by decide) (by decide) rfl rfl at_207 rfl fun T h570 v571 A Q572 => ?_
     obtain ⟨rfl, eh⟩ := Q572
     rw [eh] at A
     refine Wp.stk (st' := [(.int (0 : Int32)), (.long (0 : Int64)), (.ref b2)]) rfl ?_
     refine s_i2l (pc' := 211) (z := (0 : Int64)) A at_210 rfl (by decide) ?_
     refine s_ladd (pc' := 212) (z := (0 : Int64)) A at_211 rfl (by decide) ?_
     refine s_virtual (pc' := 215) (y := y6_remove) (argsL := [(.long (0 : Int64))]) (rest := []) (z := y6_remove) A E562 (bo_remove17 l Z a0 hw n0 h559 A.size b2 r11 (na + (1 : Int32)) (nc + (1 : Int32)) ⟨E562, F563, F564, F565, V566, ne567, ge568, ge569⟩ zna znc) (w32 hw) (w33 hw) (nf_same (C := "") (w35 hw)) (w35 hw) (w34 hw) (w3 hw) (w36 hw) (by decide) pd__J_V rfl (W := 0) (by decide) (by decide) (Nat.le_of_eq rfl) (by decide) (by decide) rfl rfl at_212 rfl fun T h575 v576 A Q577 => ?_
     obtain ⟨rfl, K573, H574⟩ := Q577
     obtain ⟨E578, F579, F580, F581, V582, ne583, ge584, ge585⟩ := H574
     refine Wp.stk (st' := []) rfl ?_
     refine s_iload (pc' := 217) A at_215 rfl rfl ?_
     refine s_iconst (pc' := 218) (z := (2 : Int32)) A at_217 rfl (by decide) ?_
     refine s_icmpY (pc' := 236) A at_218 (by decide) (by decide) (by decide) ?_
     refine s_iload (pc' := 238) A at_236 rfl rfl ?_
     refine s_iload (pc' := 240) A at_238 rfl rfl ?_
     refine s_iconst (pc' := 241) (z := (0 : Int32)) A at_240 rfl (by decide) ?_
     refine s_static (pc' := 244) (y := y1_removed) (argsL := [(.int (2 : Int32)), (.int (2 : Int32)), (.int (0 : Int32))]) (rest := []) A (rmd l Z a0 hw n0 h575 A.size (2 : Int32) (2 : Int32) (0 : Int32) (1 : Int32) (by decide)) (w37 hw) (w38 hw) (w30 hw) (w39 hw) (by decide) pd__III_Z rfl (W := 0) (by decide) (by decide) (Nat.le_of_eq rfl) (by decide) (by decide) rfl rfl at_241 rfl fun T h586 v587 A Q588 => ?_
     obtain ⟨rfl, eh⟩ := Q588
     rw [eh] at A
     refine Wp.stk (st' := [(.int (1 : Int32))]) rfl ?_
     refine s_istore (pc' := 246) (Ls' := #[iv q0, iv q1, iv q2, iv q3, iv q4, iv q5, iv na, iv nb, iv nc, iv nx, iv 2, iv 0, iv 2, rv b2, iv 1, jv 0, S2, jv 0, S2, jv 1, S2, jv 2, S2, iv 1, U0, U0, U0, U0]) A at_244 rfl rfl ?_
     refine s_iload (pc' := 248) A at_246 rfl rfl ?_
     refine s_iload (pc' := 250) A at_248 rfl rfl ?_
     refine s_iconst (pc' := 251) (z := (1 : Int32)) A at_250 rfl (by decide) ?_
     refine s_static (pc' := 254) (y := y1_removed) (argsL := [(.int (2 : Int32)), (.int (2 : Int32)), (.int (1 : Int32))]) (rest := []) A (rmd l Z a0 hw n0 h575 A.size (2 : Int32) (2 : Int32) (1 : Int32) (1 : Int32) (by decide)) (w37 hw) (w38 hw) (w30 hw) (w39 hw) (by decide) pd__III_Z rfl (W := 0) (by decide) (by decide) (Nat.le_of_eq rfl) (by decide) (by decide) rfl rfl at_251 rfl fun T h589 v590 A Q591 => ?_
     obtain ⟨rfl, eh⟩ := Q591
     rw [eh] at A
     refine Wp.stk (st' := [(.int (1 : Int32))]) rfl ?_
     refine s_istore (pc' := 256) (Ls' := #[iv q0, iv q1, iv q2, iv q3, iv q4, iv q5, iv na, iv nb, iv nc, iv nx, iv 2, iv 0, iv 2, rv b2, iv 1, jv 0, S2, jv 0, S2, jv 1, S2, jv 2, S2, iv 1, iv 1, U0, U0, U0]) A at_254 rfl rfl ?_
     refine s_iload (pc' := 258) A at_256 rfl rfl ?_
     refine s_iload (pc' := 260) A at_258 rfl rfl ?_
     refine s_iconst (pc' := 261) (z := (2 : Int32)) A at_260 rfl (by decide) ?_
     refine s_static (pc' := 264) (y := y1_removed) (argsL := [(.int (2 : Int32)), (.int (2 : Int32)), (.int (2 : Int32))]) (rest := []) A (rmd l Z a0 hw n0 h575 A.size (2 : Int32) (2 : Int32) (2 : Int32) (0 : Int32) (by decide)) (w37 hw) (w38 hw) (w30 hw) (w39 hw) (by decide) pd__III_Z rfl (W := 0) (by decide) (by decide) (Nat.le_of_eq rfl) (by decide) (by decide) rfl rfl at_261 rfl fun T h592 v593 A Q594 => ?_
     obtain ⟨rfl, eh⟩ := Q594
     rw [eh] at A
     refine Wp.stk (st' := [(.int (0 : Int32))]) rfl ?_
     refine s_istore (pc' := 266) (Ls' := #[iv q0, iv q1, iv q2, iv q3, iv q4, iv q5, iv na, iv nb, iv nc, iv nx, iv 2, iv 0, iv 2, rv b2, iv 1, jv 0, S2, jv 0, S2, jv 1, S2, jv 2, S2, iv 1, iv 1, iv 0, U0, U0]) A at_264 rfl rfl ?_
     refine s_aload (pc' := 268) A at_266 rfl rfl rfl ?_
     refine s_virtual (pc' := 271) (y := y3_isEmpty) (argsL := []) (rest := []) (z := y3_isEmpty) A E578 (bo_isEmpty14 l Z a0 hw n0 h575 A.size b2 r11 [.int (0 : Int32), .int (0 : Int32), .int (nc + (1 : Int32)), .int (0 : Int32)] ⟨E578, F579, F580, F581, V582, ne583, ge584, ge585⟩) (w13 hw) (w14 hw) (nf_same (C := "") (w16 hw)) (w16 hw) (w15 hw) (w3 hw) (w17 hw) (by decide) pd___Z rfl (W := 0) (by decide) (by decide) (Nat.le_of_eq rfl) (by decide) (by decide) rfl rfl at_268 rfl fun T h597 v598 A Q599 => ?_
     obtain ⟨rfl, K595, H596⟩ := Q599
     obtain ⟨E600, F601, F602, F603, V604, ne605, ge606, ge607⟩ := H596
     refine Wp.stk (st' := [(.int (0 : Int32))]) rfl ?_
     refine s_istore (pc' := 273) (Ls' := #[iv q0, iv q1, iv q2, iv q3, iv q4, iv q5, iv na, iv nb, iv nc, iv nx, iv 2, iv 0, iv 2, rv b2, iv 1, jv 0, S2, jv 0, S2, jv 1, S2, jv 2, S2, iv 1, iv 1, iv 0, iv 0, U0]) A at_271 rfl rfl ?_
     refine s_iload (pc' := 275) A at_273 rfl rfl ?_
     refine s_ifN (pc' := 278) A at_275 rfl (by decide) ?_
     refine s_iload (pc' := 280) A at_278 rfl rfl ?_
     refine s_ifN (pc' := 283) A at_280 rfl (by decide) ?_
     refine s_iload (pc' := 285) A at_283 rfl rfl ?_
     refine s_ifY (pc' := 304) A at_285 (by decide) (by decide) (by decide) ?_
     refine s_iload (pc' := 306) A at_304 rfl rfl ?_
     refine s_ifY (pc' := 316) A at_306 (by decide) (by decide) (by decide) ?_
     refine s_iload (pc' := 318) A at_316 rfl rfl ?_
     refine s_ifY (pc' := 328) A at_318 (by decide) (by decide) (by decide) ?_
     refine s_iload (pc' := 330) A at_328 rfl rfl ?_
     refine s_istore (pc' := 332) (Ls' := #[iv q0, iv q1, iv q2, iv q3, iv q4, iv q5, iv na, iv nb, iv nc, iv nx, iv 2, iv 0, iv 2, rv b2, iv 1, jv 0, S2, jv 0, S2, jv 1, S2, jv 2, S2, iv 1, iv 1, iv 0, iv 0, iv nc]) A at_330 rfl rfl ?_
     refine s_iload (pc' := 334) A at_332 rfl rfl ?_
     refine s_ifN (pc' := 337) A at_334 rfl (by decide) ?_
     refine s_iload (pc' := 339) A at_337 rfl rfl ?_
     refine s_ifN (pc' := 342) A at_339 rfl (by decide) ?_
     refine s_aload (pc' := 344) A at_342 rfl rfl rfl ?_
     refine s_virtual (pc' := 347) (y := y5_first) (argsL := []) (rest := []) (z := y5_first) A E600 (bo_first15 l Z a0 hw n0 h597 A.size b2 r11 (0 : Int32) (0 : Int32) (nc + (1 : Int32)) (0 : Int32) ⟨E600, F601, F602, F603, V604, ne605, ge606, ge607⟩) (w40 hw) (w41 hw) (nf_same (C := "") (w43 hw)) (w43 hw) (w42 hw) (w3 hw) (w44 hw) (by decide) pd___I rfl (W := 0) (by decide) (by decide) (Nat.le_of_eq rfl) (by decide) (by decide) rfl rfl at_344 rfl fun T h610 v611 A Q612 => ?_
     obtain ⟨rfl, K608, H609⟩ := Q612
     obtain ⟨E613, F614, F615, F616, V617, ne618, ge619, ge620⟩ := H609
     refine Wp.stk (st' := [(.int ((nc + (1 : Int32)) - (1 : Int32)))]) rfl ?_
     refine s_iload (pc' := 349) A at_347 rfl rfl ?_
     refine s_icmpN (pc' := 352) A at_349 rfl (teq (show ((nc + (1 : Int32)) - (1 : Int32)) = nc from (by have _ := rng32 nc; have _ : (1 : Int32).toInt = 1 := (by decide); have _ := rng32 (nc + (1 : Int32)); have _ := c_iadd nc (1 : Int32); have _ := rng32 ((nc + (1 : Int32)) - (1 : Int32)); have _ := c_isub (nc + (1 : Int32)) (1 : Int32); apply Int32.toInt_inj.mp; omega))).2 ?_
     refine s_iconst (pc' := 353) (z := (1 : Int32)) A at_352 rfl (by decide) ?_
     refine s_goto (pc' := 357) A at_353 (by decide) (by decide) ?_
     exact r_bool A rfl (by decide) at_357 (by decide) (by decide) (rfl)
    ·
     refine s_iload (pc' := 176) A at_174 rfl rfl ?_
     refine s_ifN (pc' := 179) A at_176 rfl (by decide) ?_
     refine s_aload (pc' := 181) A at_179 rfl rfl rfl ?_
     refine s_lload (pc' := 183) A at_181 rfl rfl ?_
     refine s_iload (pc' := 185) A at_183 rfl rfl ?_
     refine s_iconst (pc' := 186) (z := (0 : Int32)) A at_185 rfl (by decide) ?_
     refine s_static (pc' := 189) (y := y0_idx) (argsL := [(.int (3 : Int32)), (.int (0 : Int32))]) (rest := [(.long (0 : Int64)), (.ref b2)]) A (idx l Z a0 hw n0 h68 A.size (3 : Int32) (0 : Int32) (1 : Int32) (by decide)) (w28 hw) (w29 hw) (w30 hw) (w31 hw) (by decide) pd__II_I rfl (W := 3) (by decide) (by decide) (Nat.le_of_eq rfl) (by decide) (by decide) rfl rfl at_186 rfl fun T h621 v622 A Q623 => ?_
     obtain ⟨rfl, eh⟩ := Q623
     rw [eh] at A
     refine Wp.stk (st' := [(.int (1 : Int32)), (.long (0 : Int64)), (.ref b2)]) rfl ?_
     refine s_i2l (pc' := 190) (z := (1 : Int64)) A at_189 rfl (by decide) ?_
     refine s_ladd (pc' := 191) (z := (1 : Int64)) A at_190 rfl (by decide) ?_
     refine s_virtual (pc' := 194) (y := y6_remove) (argsL := [(.long (1 : Int64))]) (rest := []) (z := y6_remove) A E71 (bo_remove11 l Z a0 hw n0 h68 A.size b2 r11 (na + (1 : Int32)) (nb + (1 : Int32)) (nc + (1 : Int32)) ⟨E71, F72, F73, F74, V75, ne76, ge77, ge78⟩ zna znb znc) (w32 hw) (w33 hw) (nf_same (C := "") (w35 hw)) (w35 hw) (w34 hw) (w3 hw) (w36 hw) (by decide) pd__J_V rfl (W := 0) (by decide) (by decide) (Nat.le_of_eq rfl) (by decide) (by decide) rfl rfl at_191 rfl fun T h626 v627 A Q628 => ?_
     obtain ⟨rfl, K624, H625⟩ := Q628
     obtain ⟨E629, F630, F631, F632, V633, ne634, ge635, ge636⟩ := H625
     refine Wp.stk (st' := []) rfl ?_
     refine s_iload (pc' := 196) A at_194 rfl rfl ?_
     refine s_iconst (pc' := 197) (z := (1 : Int32)) A at_196 rfl (by decide) ?_
     refine s_icmpN (pc' := 200) A at_197 rfl (by decide) ?_
     refine s_aload (pc' := 202) A at_200 rfl rfl rfl ?_
     refine s_lload (pc' := 204) A at_202 rfl rfl ?_
     refine s_iload (pc' := 206) A at_204 rfl rfl ?_
     refine s_iconst (pc' := 207) (z := (1 : Int32)) A at_206 rfl (by decide) ?_
     refine s_static (pc' := 210) (y := y0_idx) (argsL := [(.int (3 : Int32)), (.int (1 : Int32))]) (rest := [(.long (0 : Int64)), (.ref b2)]) A (idx l Z a0 hw n0 h626 A.size (3 : Int32) (1 : Int32) (2 : Int32) (by decide)) (w28 hw) (w29 hw) (w30 hw) (w31 hw) (by decide) pd__II_I rfl (W := 3) (by decide) (by decide) (Nat.le_of_eq rfl) (by decide) (by decide) rfl rfl at_207 rfl fun T h637 v638 A Q639 => ?_
     obtain ⟨rfl, eh⟩ := Q639
     rw [eh] at A
     refine Wp.stk (st' := [(.int (2 : Int32)), (.long (0 : Int64)), (.ref b2)]) rfl ?_
     refine s_i2l (pc' := 211) (z := (2 : Int64)) A at_210 rfl (by decide) ?_
     refine s_ladd (pc' := 212) (z := (2 : Int64)) A at_211 rfl (by decide) ?_
     refine s_virtual (pc' := 215) (y := y6_remove) (argsL := [(.long (2 : Int64))]) (rest := []) (z := y6_remove) A E629 (bo_remove18 l Z a0 hw n0 h626 A.size b2 r11 (na + (1 : Int32)) (nc + (1 : Int32)) ⟨E629, F630, F631, F632, V633, ne634, ge635, ge636⟩ zna znc) (w32 hw) (w33 hw) (nf_same (C := "") (w35 hw)) (w35 hw) (w34 hw) (w3 hw) (w36 hw) (by decide) pd__J_V rfl (W := 0) (by decide) (by decide) (Nat.le_of_eq rfl) (by decide) (by decide) rfl rfl at_212 rfl fun T h642 v643 A Q644 => ?_
     obtain ⟨rfl, K640, H641⟩ := Q644
     obtain ⟨E645, F646, F647, F648, V649, ne650, ge651, ge652⟩ := H641
     refine Wp.stk (st' := []) rfl ?_
     refine s_iload (pc' := 217) A at_215 rfl rfl ?_
     refine s_iconst (pc' := 218) (z := (2 : Int32)) A at_217 rfl (by decide) ?_
     refine s_icmpY (pc' := 236) A at_218 (by decide) (by decide) (by decide) ?_
     refine s_iload (pc' := 238) A at_236 rfl rfl ?_
     refine s_iload (pc' := 240) A at_238 rfl rfl ?_
     refine s_iconst (pc' := 241) (z := (0 : Int32)) A at_240 rfl (by decide) ?_
     refine s_static (pc' := 244) (y := y1_removed) (argsL := [(.int (3 : Int32)), (.int (2 : Int32)), (.int (0 : Int32))]) (rest := []) A (rmd l Z a0 hw n0 h642 A.size (3 : Int32) (2 : Int32) (0 : Int32) (0 : Int32) (by decide)) (w37 hw) (w38 hw) (w30 hw) (w39 hw) (by decide) pd__III_Z rfl (W := 0) (by decide) (by decide) (Nat.le_of_eq rfl) (by decide) (by decide) rfl rfl at_241 rfl fun T h653 v654 A Q655 => ?_
     obtain ⟨rfl, eh⟩ := Q655
     rw [eh] at A
     refine Wp.stk (st' := [(.int (0 : Int32))]) rfl ?_
     refine s_istore (pc' := 246) (Ls' := #[iv q0, iv q1, iv q2, iv q3, iv q4, iv q5, iv na, iv nb, iv nc, iv nx, iv 2, iv 0, iv 3, rv b2, iv 1, jv 0, S2, jv 0, S2, jv 1, S2, jv 2, S2, iv 0, U0, U0, U0, U0]) A at_244 rfl rfl ?_
     refine s_iload (pc' := 248) A at_246 rfl rfl ?_
     refine s_iload (pc' := 250) A at_248 rfl rfl ?_
     refine s_iconst (pc' := 251) (z := (1 : Int32)) A at_250 rfl (by decide) ?_
     refine s_static (pc' := 254) (y := y1_removed) (argsL := [(.int (3 : Int32)), (.int (2 : Int32)), (.int (1 : Int32))]) (rest := []) A (rmd l Z a0 hw n0 h642 A.size (3 : Int32) (2 : Int32) (1 : Int32) (1 : Int32) (by decide)) (w37 hw) (w38 hw) (w30 hw) (w39 hw) (by decide) pd__III_Z rfl (W := 0) (by decide) (by decide) (Nat.le_of_eq rfl) (by decide) (by decide) rfl rfl at_251 rfl fun T h656 v657 A Q658 => ?_
     obtain ⟨rfl, eh⟩ := Q658
     rw [eh] at A
     refine Wp.stk (st' := [(.int (1 : Int32))]) rfl ?_
     refine s_istore (pc' := 256) (Ls' := #[iv q0, iv q1, iv q2, iv q3, iv q4, iv q5, iv na, iv nb, iv nc, iv nx, iv 2, iv 0, iv 3, rv b2, iv 1, jv 0, S2, jv 0, S2, jv 1, S2, jv 2, S2, iv 0, iv 1, U0, U0, U0]) A at_254 rfl rfl ?_
     refine s_iload (pc' := 258) A at_256 rfl rfl ?_
     refine s_iload (pc' := 260) A at_258 rfl rfl ?_
     refine s_iconst (pc' := 261) (z := (2 : Int32)) A at_260 rfl (by decide) ?_
     refine s_static (pc' := 264) (y := y1_removed) (argsL := [(.int (3 : Int32)), (.int (2 : Int32)), (.int (2 : Int32))]) (rest := []) A (rmd l Z a0 hw n0 h642 A.size (3 : Int32) (2 : Int32) (2 : Int32) (1 : Int32) (by decide)) (w37 hw) (w38 hw) (w30 hw) (w39 hw) (by decide) pd__III_Z rfl (W := 0) (by decide) (by decide) (Nat.le_of_eq rfl) (by decide) (by decide) rfl rfl at_261 rfl fun T h659 v660 A Q661 => ?_
     obtain ⟨rfl, eh⟩ := Q661
     rw [eh] at A
     refine Wp.stk (st' := [(.int (1 : Int32))]) rfl ?_
     refine s_istore (pc' := 266) (Ls' := #[iv q0, iv q1, iv q2, iv q3, iv q4, iv q5, iv na, iv nb, iv nc, iv nx, iv 2, iv 0, iv 3, rv b2, iv 1, jv 0, S2, jv 0, S2, jv 1, S2, jv 2, S2, iv 0, iv 1, iv 1, U0, U0]) A at_264 rfl rfl ?_
     refine s_aload (pc' := 268) A at_266 rfl rfl rfl ?_
     refine s_virtual (pc' := 271) (y := y3_isEmpty) (argsL := []) (rest := []) (z := y3_isEmpty) A E645 (bo_isEmpty6 l Z a0 hw n0 h642 A.size b2 r11 [.int (na + (1 : Int32)), .int (0 : Int32), .int (0 : Int32), .int (0 : Int32)] ⟨E645, F646, F647, F648, V649, ne650, ge651, ge652⟩) (w13 hw) (w14 hw) (nf_same (C := "") (w16 hw)) (w16 hw) (w15 hw) (w3 hw) (w17 hw) (by decide) pd___Z rfl (W := 0) (by decide) (by decide) (Nat.le_of_eq rfl) (by decide) (by decide) rfl rfl at_268 rfl fun T h664 v665 A Q666 => ?_
     obtain ⟨rfl, K662, H663⟩ := Q666
     obtain ⟨E667, F668, F669, F670, V671, ne672, ge673, ge674⟩ := H663
     refine Wp.stk (st' := [(.int (0 : Int32))]) rfl ?_
     refine s_istore (pc' := 273) (Ls' := #[iv q0, iv q1, iv q2, iv q3, iv q4, iv q5, iv na, iv nb, iv nc, iv nx, iv 2, iv 0, iv 3, rv b2, iv 1, jv 0, S2, jv 0, S2, jv 1, S2, jv 2, S2, iv 0, iv 1, iv 1, iv 0, U0]) A at_271 rfl rfl ?_
     refine s_iload (pc' := 275) A at_273 rfl rfl ?_
     refine s_ifY (pc' := 304) A at_275 (by decide) (by decide) (by decide) ?_
     refine s_iload (pc' := 306) A at_304 rfl rfl ?_
     refine s_ifN (pc' := 309) A at_306 rfl (by decide) ?_
     refine s_iload (pc' := 311) A at_309 rfl rfl ?_
     refine s_istore (pc' := 313) (Ls' := #[iv q0, iv q1, iv q2, iv q3, iv q4, iv q5, iv na, iv nb, iv nc, iv nx, iv 2, iv 0, iv 3, rv b2, iv 1, jv 0, S2, jv 0, S2, jv 1, S2, jv 2, S2, iv 0, iv 1, iv 1, iv 0, iv na]) A at_311 rfl rfl ?_
     refine s_goto (pc' := 332) A at_313 (by decide) (by decide) ?_
     refine s_iload (pc' := 334) A at_332 rfl rfl ?_
     refine s_ifN (pc' := 337) A at_334 rfl (by decide) ?_
     refine s_iload (pc' := 339) A at_337 rfl rfl ?_
     refine s_ifN (pc' := 342) A at_339 rfl (by decide) ?_
     refine s_aload (pc' := 344) A at_342 rfl rfl rfl ?_
     refine s_virtual (pc' := 347) (y := y5_first) (argsL := []) (rest := []) (z := y5_first) A E667 (bo_first7 l Z a0 hw n0 h664 A.size b2 r11 (na + (1 : Int32)) (0 : Int32) (0 : Int32) (0 : Int32) ⟨E667, F668, F669, F670, V671, ne672, ge673, ge674⟩) (w40 hw) (w41 hw) (nf_same (C := "") (w43 hw)) (w43 hw) (w42 hw) (w3 hw) (w44 hw) (by decide) pd___I rfl (W := 0) (by decide) (by decide) (Nat.le_of_eq rfl) (by decide) (by decide) rfl rfl at_344 rfl fun T h677 v678 A Q679 => ?_
     obtain ⟨rfl, K675, H676⟩ := Q679
     obtain ⟨E680, F681, F682, F683, V684, ne685, ge686, ge687⟩ := H676
     refine Wp.stk (st' := [(.int ((na + (1 : Int32)) - (1 : Int32)))]) rfl ?_
     refine s_iload (pc' := 349) A at_347 rfl rfl ?_
     refine s_icmpN (pc' := 352) A at_349 rfl (teq (show ((na + (1 : Int32)) - (1 : Int32)) = na from (by have _ := rng32 na; have _ : (1 : Int32).toInt = 1 := (by decide); have _ := rng32 (na + (1 : Int32)); have _ := c_iadd na (1 : Int32); have _ := rng32 ((na + (1 : Int32)) - (1 : Int32)); have _ := c_isub (na + (1 : Int32)) (1 : Int32); apply Int32.toInt_inj.mp; omega))).2 ?_
     refine s_iconst (pc' := 353) (z := (1 : Int32)) A at_352 rfl (by decide) ?_
     refine s_goto (pc' := 357) A at_353 (by decide) (by decide) ?_
     exact r_bool A rfl (by decide) at_357 (by decide) (by decide) (rfl)
    ·
     refine s_iload (pc' := 176) A at_174 rfl rfl ?_
     refine s_ifN (pc' := 179) A at_176 rfl (by decide) ?_
     refine s_aload (pc' := 181) A at_179 rfl rfl rfl ?_
     refine s_lload (pc' := 183) A at_181 rfl rfl ?_
     refine s_iload (pc' := 185) A at_183 rfl rfl ?_
     refine s_iconst (pc' := 186) (z := (0 : Int32)) A at_185 rfl (by decide) ?_
     refine s_static (pc' := 189) (y := y0_idx) (argsL := [(.int (4 : Int32)), (.int (0 : Int32))]) (rest := [(.long (0 : Int64)), (.ref b2)]) A (idx l Z a0 hw n0 h68 A.size (4 : Int32) (0 : Int32) (2 : Int32) (by decide)) (w28 hw) (w29 hw) (w30 hw) (w31 hw) (by decide) pd__II_I rfl (W := 3) (by decide) (by decide) (Nat.le_of_eq rfl) (by decide) (by decide) rfl rfl at_186 rfl fun T h688 v689 A Q690 => ?_
     obtain ⟨rfl, eh⟩ := Q690
     rw [eh] at A
     refine Wp.stk (st' := [(.int (2 : Int32)), (.long (0 : Int64)), (.ref b2)]) rfl ?_
     refine s_i2l (pc' := 190) (z := (2 : Int64)) A at_189 rfl (by decide) ?_
     refine s_ladd (pc' := 191) (z := (2 : Int64)) A at_190 rfl (by decide) ?_
     refine s_virtual (pc' := 194) (y := y6_remove) (argsL := [(.long (2 : Int64))]) (rest := []) (z := y6_remove) A E71 (bo_remove12 l Z a0 hw n0 h68 A.size b2 r11 (na + (1 : Int32)) (nb + (1 : Int32)) (nc + (1 : Int32)) ⟨E71, F72, F73, F74, V75, ne76, ge77, ge78⟩ zna znb znc) (w32 hw) (w33 hw) (nf_same (C := "") (w35 hw)) (w35 hw) (w34 hw) (w3 hw) (w36 hw) (by decide) pd__J_V rfl (W := 0) (by decide) (by decide) (Nat.le_of_eq rfl) (by decide) (by decide) rfl rfl at_191 rfl fun T h693 v694 A Q695 => ?_
     obtain ⟨rfl, K691, H692⟩ := Q695
     obtain ⟨E696, F697, F698, F699, V700, ne701, ge702, ge703⟩ := H692
     refine Wp.stk (st' := []) rfl ?_
     refine s_iload (pc' := 196) A at_194 rfl rfl ?_
     refine s_iconst (pc' := 197) (z := (1 : Int32)) A at_196 rfl (by decide) ?_
     refine s_icmpN (pc' := 200) A at_197 rfl (by decide) ?_
     refine s_aload (pc' := 202) A at_200 rfl rfl rfl ?_
     refine s_lload (pc' := 204) A at_202 rfl rfl ?_
     refine s_iload (pc' := 206) A at_204 rfl rfl ?_
     refine s_iconst (pc' := 207) (z := (1 : Int32)) A at_206 rfl (by decide) ?_
     refine s_static (pc' := 210) (y := y0_idx) (argsL := [(.int (4 : Int32)), (.int (1 : Int32))]) (rest := [(.long (0 : Int64)), (.ref b2)]) A (idx l Z a0 hw n0 h693 A.size (4 : Int32) (1 : Int32) (0 : Int32) (by decide)) (w28 hw) (w29 hw) (w30 hw) (w31 hw) (by decide) pd__II_I rfl (W := 3) (by decide) (by decide) (Nat.le_of_eq rfl) (by decide) (by decide) rfl rfl at_207 rfl fun T h704 v705 A Q706 => ?_
     obtain ⟨rfl, eh⟩ := Q706
     rw [eh] at A
     refine Wp.stk (st' := [(.int (0 : Int32)), (.long (0 : Int64)), (.ref b2)]) rfl ?_
     refine s_i2l (pc' := 211) (z := (0 : Int64)) A at_210 rfl (by decide) ?_
     refine s_ladd (pc' := 212) (z := (0 : Int64)) A at_211 rfl (by decide) ?_
     refine s_virtual (pc' := 215) (y := y6_remove) (argsL := [(.long (0 : Int64))]) (rest := []) (z := y6_remove) A E696 (bo_remove19 l Z a0 hw n0 h693 A.size b2 r11 (na + (1 : Int32)) (nb + (1 : Int32)) ⟨E696, F697, F698, F699, V700, ne701, ge702, ge703⟩ zna znb) (w32 hw) (w33 hw) (nf_same (C := "") (w35 hw)) (w35 hw) (w34 hw) (w3 hw) (w36 hw) (by decide) pd__J_V rfl (W := 0) (by decide) (by decide) (Nat.le_of_eq rfl) (by decide) (by decide) rfl rfl at_212 rfl fun T h709 v710 A Q711 => ?_
     obtain ⟨rfl, K707, H708⟩ := Q711
     obtain ⟨E712, F713, F714, F715, V716, ne717, ge718, ge719⟩ := H708
     refine Wp.stk (st' := []) rfl ?_
     refine s_iload (pc' := 217) A at_215 rfl rfl ?_
     refine s_iconst (pc' := 218) (z := (2 : Int32)) A at_217 rfl (by decide) ?_
     refine s_icmpY (pc' := 236) A at_218 (by decide) (by decide) (by decide) ?_
     refine s_iload (pc' := 238) A at_236 rfl rfl ?_
     refine s_iload (pc' := 240) A at_238 rfl rfl ?_
     refine s_iconst (pc' := 241) (z := (0 : Int32)) A at_240 rfl (by decide) ?_
     refine s_static (pc' := 244) (y := y1_removed) (argsL := [(.int (4 : Int32)), (.int (2 : Int32)), (.int (0 : Int32))]) (rest := []) A (rmd l Z a0 hw n0 h709 A.size (4 : Int32) (2 : Int32) (0 : Int32) (1 : Int32) (by decide)) (w37 hw) (w38 hw) (w30 hw) (w39 hw) (by decide) pd__III_Z rfl (W := 0) (by decide) (by decide) (Nat.le_of_eq rfl) (by decide) (by decide) rfl rfl at_241 rfl fun T h720 v721 A Q722 => ?_
     obtain ⟨rfl, eh⟩ := Q722
     rw [eh] at A
     refine Wp.stk (st' := [(.int (1 : Int32))]) rfl ?_
     refine s_istore (pc' := 246) (Ls' := #[iv q0, iv q1, iv q2, iv q3, iv q4, iv q5, iv na, iv nb, iv nc, iv nx, iv 2, iv 0, iv 4, rv b2, iv 1, jv 0, S2, jv 0, S2, jv 1, S2, jv 2, S2, iv 1, U0, U0, U0, U0]) A at_244 rfl rfl ?_
     refine s_iload (pc' := 248) A at_246 rfl rfl ?_
     refine s_iload (pc' := 250) A at_248 rfl rfl ?_
     refine s_iconst (pc' := 251) (z := (1 : Int32)) A at_250 rfl (by decide) ?_
     refine s_static (pc' := 254) (y := y1_removed) (argsL := [(.int (4 : Int32)), (.int (2 : Int32)), (.int (1 : Int32))]) (rest := []) A (rmd l Z a0 hw n0 h709 A.size (4 : Int32) (2 : Int32) (1 : Int32) (0 : Int32) (by decide)) (w37 hw) (w38 hw) (w30 hw) (w39 hw) (by decide) pd__III_Z rfl (W := 0) (by decide) (by decide) (Nat.le_of_eq rfl) (by decide) (by decide) rfl rfl at_251 rfl fun T h723 v724 A Q725 => ?_
     obtain ⟨rfl, eh⟩ := Q725
     rw [eh] at A
     refine Wp.stk (st' := [(.int (0 : Int32))]) rfl ?_
     refine s_istore (pc' := 256) (Ls' := #[iv q0, iv q1, iv q2, iv q3, iv q4, iv q5, iv na, iv nb, iv nc, iv nx, iv 2, iv 0, iv 4, rv b2, iv 1, jv 0, S2, jv 0, S2, jv 1, S2, jv 2, S2, iv 1, iv 0, U0, U0, U0]) A at_254 rfl rfl ?_
     refine s_iload (pc' := 258) A at_256 rfl rfl ?_
     refine s_iload (pc' := 260) A at_258 rfl rfl ?_
     refine s_iconst (pc' := 261) (z := (2 : Int32)) A at_260 rfl (by decide) ?_
     refine s_static (pc' := 264) (y := y1_removed) (argsL := [(.int (4 : Int32)), (.int (2 : Int32)), (.int (2 : Int32))]) (rest := []) A (rmd l Z a0 hw n0 h709 A.size (4 : Int32) (2 : Int32) (2 : Int32) (1 : Int32) (by decide)) (w37 hw) (w38 hw) (w30 hw) (w39 hw) (by decide) pd__III_Z rfl (W := 0) (by decide) (by decide) (Nat.le_of_eq rfl) (by decide) (by decide) rfl rfl at_261 rfl fun T h726 v727 A Q728 => ?_
     obtain ⟨rfl, eh⟩ := Q728
     rw [eh] at A
     refine Wp.stk (st' := [(.int (1 : Int32))]) rfl ?_
     refine s_istore (pc' := 266) (Ls' := #[iv q0, iv q1, iv q2, iv q3, iv q4, iv q5, iv na, iv nb, iv nc, iv nx, iv 2, iv 0, iv 4, rv b2, iv 1, jv 0, S2, jv 0, S2, jv 1, S2, jv 2, S2, iv 1, iv 0, iv 1, U0, U0]) A at_264 rfl rfl ?_
     refine s_aload (pc' := 268) A at_266 rfl rfl rfl ?_
     refine s_virtual (pc' := 271) (y := y3_isEmpty) (argsL := []) (rest := []) (z := y3_isEmpty) A E712 (bo_isEmpty9 l Z a0 hw n0 h709 A.size b2 r11 [.int (0 : Int32), .int (nb + (1 : Int32)), .int (0 : Int32), .int (0 : Int32)] ⟨E712, F713, F714, F715, V716, ne717, ge718, ge719⟩) (w13 hw) (w14 hw) (nf_same (C := "") (w16 hw)) (w16 hw) (w15 hw) (w3 hw) (w17 hw) (by decide) pd___Z rfl (W := 0) (by decide) (by decide) (Nat.le_of_eq rfl) (by decide) (by decide) rfl rfl at_268 rfl fun T h731 v732 A Q733 => ?_
     obtain ⟨rfl, K729, H730⟩ := Q733
     obtain ⟨E734, F735, F736, F737, V738, ne739, ge740, ge741⟩ := H730
     refine Wp.stk (st' := [(.int (0 : Int32))]) rfl ?_
     refine s_istore (pc' := 273) (Ls' := #[iv q0, iv q1, iv q2, iv q3, iv q4, iv q5, iv na, iv nb, iv nc, iv nx, iv 2, iv 0, iv 4, rv b2, iv 1, jv 0, S2, jv 0, S2, jv 1, S2, jv 2, S2, iv 1, iv 0, iv 1, iv 0, U0]) A at_271 rfl rfl ?_
     refine s_iload (pc' := 275) A at_273 rfl rfl ?_
     refine s_ifN (pc' := 278) A at_275 rfl (by decide) ?_
     refine s_iload (pc' := 280) A at_278 rfl rfl ?_
     refine s_ifY (pc' := 304) A at_280 (by decide) (by decide) (by decide) ?_
     refine s_iload (pc' := 306) A at_304 rfl rfl ?_
     refine s_ifY (pc' := 316) A at_306 (by decide) (by decide) (by decide) ?_
     refine s_iload (pc' := 318) A at_316 rfl rfl ?_
     refine s_ifN (pc' := 321) A at_318 rfl (by decide) ?_
     refine s_iload (pc' := 323) A at_321 rfl rfl ?_
     refine s_istore (pc' := 325) (Ls' := #[iv q0, iv q1, iv q2, iv q3, iv q4, iv q5, iv na, iv nb, iv nc, iv nx, iv 2, iv 0, iv 4, rv b2, iv 1, jv 0, S2, jv 0, S2, jv 1, S2, jv 2, S2, iv 1, iv 0, iv 1, iv 0, iv nb]) A at_323 rfl rfl ?_
     refine s_goto (pc' := 332) A at_325 (by decide) (by decide) ?_
     refine s_iload (pc' := 334) A at_332 rfl rfl ?_
     refine s_ifN (pc' := 337) A at_334 rfl (by decide) ?_
     refine s_iload (pc' := 339) A at_337 rfl rfl ?_
     refine s_ifN (pc' := 342) A at_339 rfl (by decide) ?_
     refine s_aload (pc' := 344) A at_342 rfl rfl rfl ?_
     refine s_virtual (pc' := 347) (y := y5_first) (argsL := []) (rest := []) (z := y5_first) A E734 (bo_first10 l Z a0 hw n0 h731 A.size b2 r11 (0 : Int32) (nb + (1 : Int32)) (0 : Int32) (0 : Int32) ⟨E734, F735, F736, F737, V738, ne739, ge740, ge741⟩) (w40 hw) (w41 hw) (nf_same (C := "") (w43 hw)) (w43 hw) (w42 hw) (w3 hw) (w44 hw) (by decide) pd___I rfl (W := 0) (by decide) (by decide) (Nat.le_of_eq rfl) (by decide) (by decide) rfl rfl at_344 rfl fun T h744 v745 A Q746 => ?_
     obtain ⟨rfl, K742, H743⟩ := Q746
     obtain ⟨E747, F748, F749, F750, V751, ne752, ge753, ge754⟩ := H743
     refine Wp.stk (st' := [(.int ((nb + (1 : Int32)) - (1 : Int32)))]) rfl ?_
     refine s_iload (pc' := 349) A at_347 rfl rfl ?_
     refine s_icmpN (pc' := 352) A at_349 rfl (teq (show ((nb + (1 : Int32)) - (1 : Int32)) = nb from (by have _ := rng32 nb; have _ : (1 : Int32).toInt = 1 := (by decide); have _ := rng32 (nb + (1 : Int32)); have _ := c_iadd nb (1 : Int32); have _ := rng32 ((nb + (1 : Int32)) - (1 : Int32)); have _ := c_isub (nb + (1 : Int32)) (1 : Int32); apply Int32.toInt_inj.mp; omega))).2 ?_
     refine s_iconst (pc' := 353) (z := (1 : Int32)) A at_352 rfl (by decide) ?_
     refine s_goto (pc' := 357) A at_353 (by decide) (by decide) ?_
     exact r_bool A rfl (by decide) at_357 (by decide) (by decide) (rfl)
    ·
     refine s_iload (pc' := 176) A at_174 rfl rfl ?_
     refine s_ifN (pc' := 179) A at_176 rfl (by decide) ?_
     refine s_aload (pc' := 181) A at_179 rfl rfl rfl ?_
     refine s_lload (pc' := 183) A at_181 rfl rfl ?_
     refine s_iload (pc' := 185) A at_183 rfl rfl ?_
     refine s_iconst (pc' := 186) (z := (0 : Int32)) A at_185 rfl (by decide) ?_
     refine s_static (pc' := 189) (y := y0_idx) (argsL := [(.int (5 : Int32)), (.int (0 : Int32))]) (rest := [(.long (0 : Int64)), (.ref b2)]) A (idx l Z a0 hw n0 h68 A.size (5 : Int32) (0 : Int32) (2 : Int32) (by decide)) (w28 hw) (w29 hw) (w30 hw) (w31 hw) (by decide) pd__II_I rfl (W := 3) (by decide) (by decide) (Nat.le_of_eq rfl) (by decide) (by decide) rfl rfl at_186 rfl fun T h755 v756 A Q757 => ?_
     obtain ⟨rfl, eh⟩ := Q757
     rw [eh] at A
     refine Wp.stk (st' := [(.int (2 : Int32)), (.long (0 : Int64)), (.ref b2)]) rfl ?_
     refine s_i2l (pc' := 190) (z := (2 : Int64)) A at_189 rfl (by decide) ?_
     refine s_ladd (pc' := 191) (z := (2 : Int64)) A at_190 rfl (by decide) ?_
     refine s_virtual (pc' := 194) (y := y6_remove) (argsL := [(.long (2 : Int64))]) (rest := []) (z := y6_remove) A E71 (bo_remove12 l Z a0 hw n0 h68 A.size b2 r11 (na + (1 : Int32)) (nb + (1 : Int32)) (nc + (1 : Int32)) ⟨E71, F72, F73, F74, V75, ne76, ge77, ge78⟩ zna znb znc) (w32 hw) (w33 hw) (nf_same (C := "") (w35 hw)) (w35 hw) (w34 hw) (w3 hw) (w36 hw) (by decide) pd__J_V rfl (W := 0) (by decide) (by decide) (Nat.le_of_eq rfl) (by decide) (by decide) rfl rfl at_191 rfl fun T h760 v761 A Q762 => ?_
     obtain ⟨rfl, K758, H759⟩ := Q762
     obtain ⟨E763, F764, F765, F766, V767, ne768, ge769, ge770⟩ := H759
     refine Wp.stk (st' := []) rfl ?_
     refine s_iload (pc' := 196) A at_194 rfl rfl ?_
     refine s_iconst (pc' := 197) (z := (1 : Int32)) A at_196 rfl (by decide) ?_
     refine s_icmpN (pc' := 200) A at_197 rfl (by decide) ?_
     refine s_aload (pc' := 202) A at_200 rfl rfl rfl ?_
     refine s_lload (pc' := 204) A at_202 rfl rfl ?_
     refine s_iload (pc' := 206) A at_204 rfl rfl ?_
     refine s_iconst (pc' := 207) (z := (1 : Int32)) A at_206 rfl (by decide) ?_
     refine s_static (pc' := 210) (y := y0_idx) (argsL := [(.int (5 : Int32)), (.int (1 : Int32))]) (rest := [(.long (0 : Int64)), (.ref b2)]) A (idx l Z a0 hw n0 h760 A.size (5 : Int32) (1 : Int32) (1 : Int32) (by decide)) (w28 hw) (w29 hw) (w30 hw) (w31 hw) (by decide) pd__II_I rfl (W := 3) (by decide) (by decide) (Nat.le_of_eq rfl) (by decide) (by decide) rfl rfl at_207 rfl fun T h771 v772 A Q773 => ?_
     obtain ⟨rfl, eh⟩ := Q773
     rw [eh] at A
     refine Wp.stk (st' := [(.int (1 : Int32)), (.long (0 : Int64)), (.ref b2)]) rfl ?_
     refine s_i2l (pc' := 211) (z := (1 : Int64)) A at_210 rfl (by decide) ?_
     refine s_ladd (pc' := 212) (z := (1 : Int64)) A at_211 rfl (by decide) ?_
     refine s_virtual (pc' := 215) (y := y6_remove) (argsL := [(.long (1 : Int64))]) (rest := []) (z := y6_remove) A E763 (bo_remove20 l Z a0 hw n0 h760 A.size b2 r11 (na + (1 : Int32)) (nb + (1 : Int32)) ⟨E763, F764, F765, F766, V767, ne768, ge769, ge770⟩ zna znb) (w32 hw) (w33 hw) (nf_same (C := "") (w35 hw)) (w35 hw) (w34 hw) (w3 hw) (w36 hw) (by decide) pd__J_V rfl (W := 0) (by decide) (by decide) (Nat.le_of_eq rfl) (by decide) (by decide) rfl rfl at_212 rfl fun T h776 v777 A Q778 => ?_
     obtain ⟨rfl, K774, H775⟩ := Q778
     obtain ⟨E779, F780, F781, F782, V783, ne784, ge785, ge786⟩ := H775
     refine Wp.stk (st' := []) rfl ?_
     refine s_iload (pc' := 217) A at_215 rfl rfl ?_
     refine s_iconst (pc' := 218) (z := (2 : Int32)) A at_217 rfl (by decide) ?_
     refine s_icmpY (pc' := 236) A at_218 (by decide) (by decide) (by decide) ?_
     refine s_iload (pc' := 238) A at_236 rfl rfl ?_
     refine s_iload (pc' := 240) A at_238 rfl rfl ?_
     refine s_iconst (pc' := 241) (z := (0 : Int32)) A at_240 rfl (by decide) ?_
     refine s_static (pc' := 244) (y := y1_removed) (argsL := [(.int (5 : Int32)), (.int (2 : Int32)), (.int (0 : Int32))]) (rest := []) A (rmd l Z a0 hw n0 h776 A.size (5 : Int32) (2 : Int32) (0 : Int32) (0 : Int32) (by decide)) (w37 hw) (w38 hw) (w30 hw) (w39 hw) (by decide) pd__III_Z rfl (W := 0) (by decide) (by decide) (Nat.le_of_eq rfl) (by decide) (by decide) rfl rfl at_241 rfl fun T h787 v788 A Q789 => ?_
     obtain ⟨rfl, eh⟩ := Q789
     rw [eh] at A
     refine Wp.stk (st' := [(.int (0 : Int32))]) rfl ?_
     refine s_istore (pc' := 246) (Ls' := #[iv q0, iv q1, iv q2, iv q3, iv q4, iv q5, iv na, iv nb, iv nc, iv nx, iv 2, iv 0, iv 5, rv b2, iv 1, jv 0, S2, jv 0, S2, jv 1, S2, jv 2, S2, iv 0, U0, U0, U0, U0]) A at_244 rfl rfl ?_
     refine s_iload (pc' := 248) A at_246 rfl rfl ?_
     refine s_iload (pc' := 250) A at_248 rfl rfl ?_
     refine s_iconst (pc' := 251) (z := (1 : Int32)) A at_250 rfl (by decide) ?_
     refine s_static (pc' := 254) (y := y1_removed) (argsL := [(.int (5 : Int32)), (.int (2 : Int32)), (.int (1 : Int32))]) (rest := []) A (rmd l Z a0 hw n0 h776 A.size (5 : Int32) (2 : Int32) (1 : Int32) (1 : Int32) (by decide)) (w37 hw) (w38 hw) (w30 hw) (w39 hw) (by decide) pd__III_Z rfl (W := 0) (by decide) (by decide) (Nat.le_of_eq rfl) (by decide) (by decide) rfl rfl at_251 rfl fun T h790 v791 A Q792 => ?_
     obtain ⟨rfl, eh⟩ := Q792
     rw [eh] at A
     refine Wp.stk (st' := [(.int (1 : Int32))]) rfl ?_
     refine s_istore (pc' := 256) (Ls' := #[iv q0, iv q1, iv q2, iv q3, iv q4, iv q5, iv na, iv nb, iv nc, iv nx, iv 2, iv 0, iv 5, rv b2, iv 1, jv 0, S2, jv 0, S2, jv 1, S2, jv 2, S2, iv 0, iv 1, U0, U0, U0]) A at_254 rfl rfl ?_
     refine s_iload (pc' := 258) A at_256 rfl rfl ?_
     refine s_iload (pc' := 260) A at_258 rfl rfl ?_
     refine s_iconst (pc' := 261) (z := (2 : Int32)) A at_260 rfl (by decide) ?_
     refine s_static (pc' := 264) (y := y1_removed) (argsL := [(.int (5 : Int32)), (.int (2 : Int32)), (.int (2 : Int32))]) (rest := []) A (rmd l Z a0 hw n0 h776 A.size (5 : Int32) (2 : Int32) (2 : Int32) (1 : Int32) (by decide)) (w37 hw) (w38 hw) (w30 hw) (w39 hw) (by decide) pd__III_Z rfl (W := 0) (by decide) (by decide) (Nat.le_of_eq rfl) (by decide) (by decide) rfl rfl at_261 rfl fun T h793 v794 A Q795 => ?_
     obtain ⟨rfl, eh⟩ := Q795
     rw [eh] at A
     refine Wp.stk (st' := [(.int (1 : Int32))]) rfl ?_
     refine s_istore (pc' := 266) (Ls' := #[iv q0, iv q1, iv q2, iv q3, iv q4, iv q5, iv na, iv nb, iv nc, iv nx, iv 2, iv 0, iv 5, rv b2, iv 1, jv 0, S2, jv 0, S2, jv 1, S2, jv 2, S2, iv 0, iv 1, iv 1, U0, U0]) A at_264 rfl rfl ?_
     refine s_aload (pc' := 268) A at_266 rfl rfl rfl ?_
     refine s_virtual (pc' := 271) (y := y3_isEmpty) (argsL := []) (rest := []) (z := y3_isEmpty) A E779 (bo_isEmpty6 l Z a0 hw n0 h776 A.size b2 r11 [.int (na + (1 : Int32)), .int (0 : Int32), .int (0 : Int32), .int (0 : Int32)] ⟨E779, F780, F781, F782, V783, ne784, ge785, ge786⟩) (w13 hw) (w14 hw) (nf_same (C := "") (w16 hw)) (w16 hw) (w15 hw) (w3 hw) (w17 hw) (by decide) pd___Z rfl (W := 0) (by decide) (by decide) (Nat.le_of_eq rfl) (by decide) (by decide) rfl rfl at_268 rfl fun T h798 v799 A Q800 => ?_
     obtain ⟨rfl, K796, H797⟩ := Q800
     obtain ⟨E801, F802, F803, F804, V805, ne806, ge807, ge808⟩ := H797
     refine Wp.stk (st' := [(.int (0 : Int32))]) rfl ?_
     refine s_istore (pc' := 273) (Ls' := #[iv q0, iv q1, iv q2, iv q3, iv q4, iv q5, iv na, iv nb, iv nc, iv nx, iv 2, iv 0, iv 5, rv b2, iv 1, jv 0, S2, jv 0, S2, jv 1, S2, jv 2, S2, iv 0, iv 1, iv 1, iv 0, U0]) A at_271 rfl rfl ?_
     refine s_iload (pc' := 275) A at_273 rfl rfl ?_
     refine s_ifY (pc' := 304) A at_275 (by decide) (by decide) (by decide) ?_
     refine s_iload (pc' := 306) A at_304 rfl rfl ?_
     refine s_ifN (pc' := 309) A at_306 rfl (by decide) ?_
     refine s_iload (pc' := 311) A at_309 rfl rfl ?_
     refine s_istore (pc' := 313) (Ls' := #[iv q0, iv q1, iv q2, iv q3, iv q4, iv q5, iv na, iv nb, iv nc, iv nx, iv 2, iv 0, iv 5, rv b2, iv 1, jv 0, S2, jv 0, S2, jv 1, S2, jv 2, S2, iv 0, iv 1, iv 1, iv 0, iv na]) A at_311 rfl rfl ?_
     refine s_goto (pc' := 332) A at_313 (by decide) (by decide) ?_
     refine s_iload (pc' := 334) A at_332 rfl rfl ?_
     refine s_ifN (pc' := 337) A at_334 rfl (by decide) ?_
     refine s_iload (pc' := 339) A at_337 rfl rfl ?_
     refine s_ifN (pc' := 342) A at_339 rfl (by decide) ?_
     refine s_aload (pc' := 344) A at_342 rfl rfl rfl ?_
     refine s_virtual (pc' := 347) (y := y5_first) (argsL := []) (rest := []) (z := y5_first) A E801 (bo_first7 l Z a0 hw n0 h798 A.size b2 r11 (na + (1 : Int32)) (0 : Int32) (0 : Int32) (0 : Int32) ⟨E801, F802, F803, F804, V805, ne806, ge807, ge808⟩) (w40 hw) (w41 hw) (nf_same (C := "") (w43 hw)) (w43 hw) (w42 hw) (w3 hw) (w44 hw) (by decide) pd___I rfl (W := 0) (by decide) (by decide) (Nat.le_of_eq rfl) (by decide) (by decide) rfl rfl at_344 rfl fun T h811 v812 A Q813 => ?_
     obtain ⟨rfl, K809, H810⟩ := Q813
     obtain ⟨E814, F815, F816, F817, V818, ne819, ge820, ge821⟩ := H810
     refine Wp.stk (st' := [(.int ((na + (1 : Int32)) - (1 : Int32)))]) rfl ?_
     refine s_iload (pc' := 349) A at_347 rfl rfl ?_
     refine s_icmpN (pc' := 352) A at_349 rfl (teq (show ((na + (1 : Int32)) - (1 : Int32)) = na from (by have _ := rng32 na; have _ : (1 : Int32).toInt = 1 := (by decide); have _ := rng32 (na + (1 : Int32)); have _ := c_iadd na (1 : Int32); have _ := rng32 ((na + (1 : Int32)) - (1 : Int32)); have _ := c_isub (na + (1 : Int32)) (1 : Int32); apply Int32.toInt_inj.mp; omega))).2 ?_
     refine s_iconst (pc' := 353) (z := (1 : Int32)) A at_352 rfl (by decide) ?_
     refine s_goto (pc' := 357) A at_353 (by decide) (by decide) ?_
     exact r_bool A rfl (by decide) at_357 (by decide) (by decide) (rfl)
   ·
    rcases cpp with rfl | rfl | rfl | rfl | rfl | rfl
    ·
     refine s_iload (pc' := 176) A at_174 rfl rfl ?_
     refine s_ifN (pc' := 179) A at_176 rfl (by decide) ?_
     refine s_aload (pc' := 181) A at_179 rfl rfl rfl ?_
     refine s_lload (pc' := 183) A at_181 rfl rfl ?_
     refine s_iload (pc' := 185) A at_183 rfl rfl ?_
     refine s_iconst (pc' := 186) (z := (0 : Int32)) A at_185 rfl (by decide) ?_
     refine s_static (pc' := 189) (y := y0_idx) (argsL := [(.int (0 : Int32)), (.int (0 : Int32))]) (rest := [(.long (0 : Int64)), (.ref b2)]) A (idx l Z a0 hw n0 h68 A.size (0 : Int32) (0 : Int32) (0 : Int32) (by decide)) (w28 hw) (w29 hw) (w30 hw) (w31 hw) (by decide) pd__II_I rfl (W := 3) (by decide) (by decide) (Nat.le_of_eq rfl) (by decide) (by decide) rfl rfl at_186 rfl fun T h822 v823 A Q824 => ?_
     obtain ⟨rfl, eh⟩ := Q824
     rw [eh] at A
     refine Wp.stk (st' := [(.int (0 : Int32)), (.long (0 : Int64)), (.ref b2)]) rfl ?_
     refine s_i2l (pc' := 190) (z := (0 : Int64)) A at_189 rfl (by decide) ?_
     refine s_ladd (pc' := 191) (z := (0 : Int64)) A at_190 rfl (by decide) ?_
     refine s_virtual (pc' := 194) (y := y6_remove) (argsL := [(.long (0 : Int64))]) (rest := []) (z := y6_remove) A E71 (bo_remove8 l Z a0 hw n0 h68 A.size b2 r11 (na + (1 : Int32)) (nb + (1 : Int32)) (nc + (1 : Int32)) ⟨E71, F72, F73, F74, V75, ne76, ge77, ge78⟩ zna znb znc) (w32 hw) (w33 hw) (nf_same (C := "") (w35 hw)) (w35 hw) (w34 hw) (w3 hw) (w36 hw) (by decide) pd__J_V rfl (W := 0) (by decide) (by decide) (Nat.le_of_eq rfl) (by decide) (by decide) rfl rfl at_191 rfl fun T h827 v828 A Q829 => ?_
     obtain ⟨rfl, K825, H826⟩ := Q829
     obtain ⟨E830, F831, F832, F833, V834, ne835, ge836, ge837⟩ := H826
     refine Wp.stk (st' := []) rfl ?_
     refine s_iload (pc' := 196) A at_194 rfl rfl ?_
     refine s_iconst (pc' := 197) (z := (1 : Int32)) A at_196 rfl (by decide) ?_
     refine s_icmpN (pc' := 200) A at_197 rfl (by decide) ?_
     refine s_aload (pc' := 202) A at_200 rfl rfl rfl ?_
     refine s_lload (pc' := 204) A at_202 rfl rfl ?_
     refine s_iload (pc' := 206) A at_204 rfl rfl ?_
     refine s_iconst (pc' := 207) (z := (1 : Int32)) A at_206 rfl (by decide) ?_
     refine s_static (pc' := 210) (y := y0_idx) (argsL := [(.int (0 : Int32)), (.int (1 : Int32))]) (rest := [(.long (0 : Int64)), (.ref b2)]) A (idx l Z a0 hw n0 h827 A.size (0 : Int32) (1 : Int32) (1 : Int32) (by decide)) (w28 hw) (w29 hw) (w30 hw) (w31 hw) (by decide) pd__II_I rfl (W := 3) (by decide) (by decide) (Nat.le_of_eq rfl) (by decide) (by decide) rfl rfl at_207 rfl fun T h838 v839 A Q840 => ?_
     obtain ⟨rfl, eh⟩ := Q840
     rw [eh] at A
     refine Wp.stk (st' := [(.int (1 : Int32)), (.long (0 : Int64)), (.ref b2)]) rfl ?_
     refine s_i2l (pc' := 211) (z := (1 : Int64)) A at_210 rfl (by decide) ?_
     refine s_ladd (pc' := 212) (z := (1 : Int64)) A at_211 rfl (by decide) ?_
     refine s_virtual (pc' := 215) (y := y6_remove) (argsL := [(.long (1 : Int64))]) (rest := []) (z := y6_remove) A E830 (bo_remove13 l Z a0 hw n0 h827 A.size b2 r11 (nb + (1 : Int32)) (nc + (1 : Int32)) ⟨E830, F831, F832, F833, V834, ne835, ge836, ge837⟩ znb znc) (w32 hw) (w33 hw) (nf_same (C := "") (w35 hw)) (w35 hw) (w34 hw) (w3 hw) (w36 hw) (by decide) pd__J_V rfl (W := 0) (by decide) (by decide) (Nat.le_of_eq rfl) (by decide) (by decide) rfl rfl at_212 rfl fun T h843 v844 A Q845 => ?_
     obtain ⟨rfl, K841, H842⟩ := Q845
     obtain ⟨E846, F847, F848, F849, V850, ne851, ge852, ge853⟩ := H842
     refine Wp.stk (st' := []) rfl ?_
     refine s_iload (pc' := 217) A at_215 rfl rfl ?_
     refine s_iconst (pc' := 218) (z := (2 : Int32)) A at_217 rfl (by decide) ?_
     refine s_icmpN (pc' := 221) A at_218 rfl (by decide) ?_
     refine s_aload (pc' := 223) A at_221 rfl rfl rfl ?_
     refine s_lload (pc' := 225) A at_223 rfl rfl ?_
     refine s_iload (pc' := 227) A at_225 rfl rfl ?_
     refine s_iconst (pc' := 228) (z := (2 : Int32)) A at_227 rfl (by decide) ?_
     refine s_static (pc' := 231) (y := y0_idx) (argsL := [(.int (0 : Int32)), (.int (2 : Int32))]) (rest := [(.long (0 : Int64)), (.ref b2)]) A (idx l Z a0 hw n0 h843 A.size (0 : Int32) (2 : Int32) (2 : Int32) (by decide)) (w28 hw) (w29 hw) (w30 hw) (w31 hw) (by decide) pd__II_I rfl (W := 3) (by decide) (by decide) (Nat.le_of_eq rfl) (by decide) (by decide) rfl rfl at_228 rfl fun T h854 v855 A Q856 => ?_
     obtain ⟨rfl, eh⟩ := Q856
     rw [eh] at A
     refine Wp.stk (st' := [(.int (2 : Int32)), (.long (0 : Int64)), (.ref b2)]) rfl ?_
     refine s_i2l (pc' := 232) (z := (2 : Int64)) A at_231 rfl (by decide) ?_
     refine s_ladd (pc' := 233) (z := (2 : Int64)) A at_232 rfl (by decide) ?_
     refine s_virtual (pc' := 236) (y := y6_remove) (argsL := [(.long (2 : Int64))]) (rest := []) (z := y6_remove) A E846 (bo_remove21 l Z a0 hw n0 h843 A.size b2 r11 (nc + (1 : Int32)) ⟨E846, F847, F848, F849, V850, ne851, ge852, ge853⟩ znc) (w32 hw) (w33 hw) (nf_same (C := "") (w35 hw)) (w35 hw) (w34 hw) (w3 hw) (w36 hw) (by decide) pd__J_V rfl (W := 0) (by decide) (by decide) (Nat.le_of_eq rfl) (by decide) (by decide) rfl rfl at_233 rfl fun T h859 v860 A Q861 => ?_
     obtain ⟨rfl, K857, H858⟩ := Q861
     obtain ⟨E862, F863, F864, F865, V866, ne867, ge868, ge869⟩ := H858
     refine Wp.stk (st' := []) rfl ?_
     refine s_iload (pc' := 238) A at_236 rfl rfl ?_
     refine s_iload (pc' := 240) A at_238 rfl rfl ?_
     refine s_iconst (pc' := 241) (z := (0 : Int32)) A at_240 rfl (by decide) ?_
     refine s_static (pc' := 244) (y := y1_removed) (argsL := [(.int (0 : Int32)), (.int (3 : Int32)), (.int (0 : Int32))]) (rest := []) A (rmd l Z a0 hw n0 h859 A.size (0 : Int32) (3 : Int32) (0 : Int32) (1 : Int32) (by decide)) (w37 hw) (w38 hw) (w30 hw) (w39 hw) (by decide) pd__III_Z rfl (W := 0) (by decide) (by decide) (Nat.le_of_eq rfl) (by decide) (by decide) rfl rfl at_241 rfl fun T h870 v871 A Q872 => ?_
     obtain ⟨rfl, eh⟩ := Q872
     rw [eh] at A
     refine Wp.stk (st' := [(.int (1 : Int32))]) rfl ?_
     refine s_istore (pc' := 246) (Ls' := #[iv q0, iv q1, iv q2, iv q3, iv q4, iv q5, iv na, iv nb, iv nc, iv nx, iv 3, iv 0, iv 0, rv b2, iv 1, jv 0, S2, jv 0, S2, jv 1, S2, jv 2, S2, iv 1, U0, U0, U0, U0]) A at_244 rfl rfl ?_
     refine s_iload (pc' := 248) A at_246 rfl rfl ?_
     refine s_iload (pc' := 250) A at_248 rfl rfl ?_
     refine s_iconst (pc' := 251) (z := (1 : Int32)) A at_250 rfl (by decide) ?_
     refine s_static (pc' := 254) (y := y1_removed) (argsL := [(.int (0 : Int32)), (.int (3 : Int32)), (.int (1 : Int32))]) (rest := []) A (rmd l Z a0 hw n0 h859 A.size (0 : Int32) (3 : Int32) (1 : Int32) (1 : Int32) (by decide)) (w37 hw) (w38 hw) (w30 hw) (w39 hw) (by decide) pd__III_Z rfl (W := 0) (by decide) (by decide) (Nat.le_of_eq rfl) (by decide) (by decide) rfl rfl at_251 rfl fun T h873 v874 A Q875 => ?_
     obtain ⟨rfl, eh⟩ := Q875
     rw [eh] at A
     refine Wp.stk (st' := [(.int (1 : Int32))]) rfl ?_
     refine s_istore (pc' := 256) (Ls' := #[iv q0, iv q1, iv q2, iv q3, iv q4, iv q5, iv na, iv nb, iv nc, iv nx, iv 3, iv 0, iv 0, rv b2, iv 1, jv 0, S2, jv 0, S2, jv 1, S2, jv 2, S2, iv 1, iv 1, U0, U0, U0]) A at_254 rfl rfl ?_
     refine s_iload (pc' := 258) A at_256 rfl rfl ?_
     refine s_iload (pc' := 260) A at_258 rfl rfl ?_
     refine s_iconst (pc' := 261) (z := (2 : Int32)) A at_260 rfl (by decide) ?_
     refine s_static (pc' := 264) (y := y1_removed) (argsL := [(.int (0 : Int32)), (.int (3 : Int32)), (.int (2 : Int32))]) (rest := []) A (rmd l Z a0 hw n0 h859 A.size (0 : Int32) (3 : Int32) (2 : Int32) (1 : Int32) (by decide)) (w37 hw) (w38 hw) (w30 hw) (w39 hw) (by decide) pd__III_Z rfl (W := 0) (by decide) (by decide) (Nat.le_of_eq rfl) (by decide) (by decide) rfl rfl at_261 rfl fun T h876 v877 A Q878 => ?_
     obtain ⟨rfl, eh⟩ := Q878
     rw [eh] at A
     refine Wp.stk (st' := [(.int (1 : Int32))]) rfl ?_
     refine s_istore (pc' := 266) (Ls' := #[iv q0, iv q1, iv q2, iv q3, iv q4, iv q5, iv na, iv nb, iv nc, iv nx, iv 3, iv 0, iv 0, rv b2, iv 1, jv 0, S2, jv 0, S2, jv 1, S2, jv 2, S2, iv 1, iv 1, iv 1, U0, U0]) A at_264 rfl rfl ?_
     refine s_aload (pc' := 268) A at_266 rfl rfl rfl ?_
     refine s_virtual (pc' := 271) (y := y3_isEmpty) (argsL := []) (rest := []) (z := y3_isEmpty) A E862 (bo_isEmpty22 l Z a0 hw n0 h859 A.size b2 r11 [.int (0 : Int32), .int (0 : Int32), .int (0 : Int32), .int (0 : Int32)] ⟨E862, F863, F864, F865, V866, ne867, ge868, ge869⟩) (w13 hw) (w14 hw) (nf_same (C := "") (w16 hw)) (w16 hw) (w15 hw) (w3 hw) (w17 hw) (by decide) pd___Z rfl (W := 0) (by decide) (by decide) (Nat.le_of_eq rfl) (by decide) (by decide) rfl rfl at_268 rfl fun T h881 v882 A Q883 => ?_
     obtain ⟨rfl, K879, H880⟩ := Q883
     obtain ⟨E884, F885, F886, F887, V888, ne889, ge890, ge891⟩ := H880
     refine Wp.stk (st' := [(.int (1 : Int32))]) rfl ?_
     refine s_istore (pc' := 273) (Ls' := #[iv q0, iv q1, iv q2, iv q3, iv q4, iv q5, iv na, iv nb, iv nc, iv nx, iv 3, iv 0, iv 0, rv b2, iv 1, jv 0, S2, jv 0, S2, jv 1, S2, jv 2, S2, iv 1, iv 1, iv 1, iv 1, U0]) A at_271 rfl rfl ?_
     refine s_iload (pc' := 275) A at_273 rfl rfl ?_
     refine s_ifN (pc' := 278) A at_275 rfl (by decide) ?_
     refine s_iload (pc' := 280) A at_278 rfl rfl ?_
     refine s_ifN (pc' := 283) A at_280 rfl (by decide) ?_
     refine s_iload (pc' := 285) A at_283 rfl rfl ?_
     refine s_ifN (pc' := 288) A at_285 rfl (by decide) ?_
     refine s_iload (pc' := 290) A at_288 rfl rfl ?_
     refine s_ifN (pc' := 293) A at_290 rfl (by decide) ?_
     refine s_iload (pc' := 295) A at_293 rfl rfl ?_
     refine s_ifN (pc' := 298) A at_295 rfl (by decide) ?_
     refine s_iconst (pc' := 299) (z := (1 : Int32)) A at_298 rfl (by decide) ?_
     refine s_goto (pc' := 303) A at_299 (by decide) (by decide) ?_
     exact r_bool A rfl (by decide) at_303 (by decide) (by decide) (rfl)
    ·
     refine s_iload (pc' := 176) A at_174 rfl rfl ?_
     refine s_ifN (pc' := 179) A at_176 rfl (by decide) ?_
     refine s_aload (pc' := 181) A at_179 rfl rfl rfl ?_
     refine s_lload (pc' := 183) A at_181 rfl rfl ?_
     refine s_iload (pc' := 185) A at_183 rfl rfl ?_
     refine s_iconst (pc' := 186) (z := (0 : Int32)) A at_185 rfl (by decide) ?_
     refine s_static (pc' := 189) (y := y0_idx) (argsL := [(.int (1 : Int32)), (.int (0 : Int32))]) (rest := [(.long (0 : Int64)), (.ref b2)]) A (idx l Z a0 hw n0 h68 A.size (1 : Int32) (0 : Int32) (0 : Int32) (by decide)) (w28 hw) (w29 hw) (w30 hw) (w31 hw) (by decide) pd__II_I rfl (W := 3) (by decide) (by decide) (Nat.le_of_eq rfl) (by decide) (by decide) rfl rfl at_186 rfl fun T h892 v893 A Q894 => ?_
     obtain ⟨rfl, eh⟩ := Q894
     rw [eh] at A
     refine Wp.stk (st' := [(.int (0 : Int32)), (.long (0 : Int64)), (.ref b2)]) rfl ?_
     refine s_i2l (pc' := 190) (z := (0 : Int64)) A at_189 rfl (by decide) ?_
     refine s_ladd (pc' := 191) (z := (0 : Int64)) A at_190 rfl (by decide) ?_
     refine s_virtual (pc' := 194) (y := y6_remove) (argsL := [(.long (0 : Int64))]) (rest := []) (z := y6_remove) A E71 (bo_remove8 l Z a0 hw n0 h68 A.size b2 r11 (na + (1 : Int32)) (nb + (1 : Int32)) (nc + (1 : Int32)) ⟨E71, F72, F73, F74, V75, ne76, ge77, ge78⟩ zna znb znc) (w32 hw) (w33 hw) (nf_same (C := "") (w35 hw)) (w35 hw) (w34 hw) (w3 hw) (w36 hw) (by decide) pd__J_V rfl (W := 0) (by decide) (by decide) (Nat.le_of_eq rfl) (by decide) (by decide) rfl rfl at_191 rfl fun T h897 v898 A Q899 => ?_
     obtain ⟨rfl, K895, H896⟩ := Q899
     obtain ⟨E900, F901, F902, F903, V904, ne905, ge906, ge907⟩ := H896
     refine Wp.stk (st' := []) rfl ?_
     refine s_iload (pc' := 196) A at_194 rfl rfl ?_
     refine s_iconst (pc' := 197) (z := (1 : Int32)) A at_196 rfl (by decide) ?_
     refine s_icmpN (pc' := 200) A at_197 rfl (by decide) ?_
     refine s_aload (pc' := 202) A at_200 rfl rfl rfl ?_
     refine s_lload (pc' := 204) A at_202 rfl rfl ?_
     refine s_iload (pc' := 206) A at_204 rfl rfl ?_
     refine s_iconst (pc' := 207) (z := (1 : Int32)) A at_206 rfl (by decide) ?_
     refine s_static (pc' := 210) (y := y0_idx) (argsL := [(.int (1 : Int32)), (.int (1 : Int32))]) (rest := [(.long (0 : Int64)), (.ref b2)]) A (idx l Z a0 hw n0 h897 A.size (1 : Int32) (1 : Int32) (2 : Int32) (by decide)) (w28 hw) (w29 hw) (w30 hw) (w31 hw) (by decide) pd__II_I rfl (W := 3) (by decide) (by decide) (Nat.le_of_eq rfl) (by decide) (by decide) rfl rfl at_207 rfl fun T h908 v909 A Q910 => ?_
     obtain ⟨rfl, eh⟩ := Q910
     rw [eh] at A
     refine Wp.stk (st' := [(.int (2 : Int32)), (.long (0 : Int64)), (.ref b2)]) rfl ?_
     refine s_i2l (pc' := 211) (z := (2 : Int64)) A at_210 rfl (by decide) ?_
     refine s_ladd (pc' := 212) (z := (2 : Int64)) A at_211 rfl (by decide) ?_
     refine s_virtual (pc' := 215) (y := y6_remove) (argsL := [(.long (2 : Int64))]) (rest := []) (z := y6_remove) A E900 (bo_remove16 l Z a0 hw n0 h897 A.size b2 r11 (nb + (1 : Int32)) (nc + (1 : Int32)) ⟨E900, F901, F902, F903, V904, ne905, ge906, ge907⟩ znb znc) (w32 hw) (w33 hw) (nf_same (C := "") (w35 hw)) (w35 hw) (w34 hw) (w3 hw) (w36 hw) (by decide) pd__J_V rfl (W := 0) (by decide) (by decide) (Nat.le_of_eq rfl) (by decide) (by decide) rfl rfl at_212 rfl fun T h913 v914 A Q915 => ?_
     obtain ⟨rfl, K911, H912⟩ := Q915
     obtain ⟨E916, F917, F918, F919, V920, ne921, ge922, ge923⟩ := H912
     refine Wp.stk (st' := []) rfl ?_
     refine s_iload (pc' := 217) A at_215 rfl rfl ?_
     refine s_iconst (pc' := 218) (z := (2 : Int32)) A at_217 rfl (by decide) ?_
     refine s_icmpN (pc' := 221) A at_218 rfl (by decide) ?_
     refine s_aload (pc' := 223) A at_221 rfl rfl rfl ?_
     refine s_lload (pc' := 225) A at_223 rfl rfl ?_
     refine s_iload (pc' := 227) A at_225 rfl rfl ?_
     refine s_iconst (pc' := 228) (z := (2 : Int32)) A at_227 rfl (by decide) ?_
     refine s_static (pc' := 231) (y := y0_idx) (argsL := [(.int (1 : Int32)), (.int (2 : Int32))]) (rest := [(.long (0 : Int64)), (.ref b2)]) A (idx l Z a0 hw n0 h913 A.size (1 : Int32) (2 : Int32) (1 : Int32) (by decide)) (w28 hw) (w29 hw) (w30 hw) (w31 hw) (by decide) pd__II_I rfl (W := 3) (by decide) (by decide) (Nat.le_of_eq rfl) (by decide) (by decide) rfl rfl at_228 rfl fun T h924 v925 A Q926 => ?_
     obtain ⟨rfl, eh⟩ := Q926
     rw [eh] at A
     refine Wp.stk (st' := [(.int (1 : Int32)), (.long (0 : Int64)), (.ref b2)]) rfl ?_
     refine s_i2l (pc' := 232) (z := (1 : Int64)) A at_231 rfl (by decide) ?_
     refine s_ladd (pc' := 233) (z := (1 : Int64)) A at_232 rfl (by decide) ?_
     refine s_virtual (pc' := 236) (y := y6_remove) (argsL := [(.long (1 : Int64))]) (rest := []) (z := y6_remove) A E916 (bo_remove23 l Z a0 hw n0 h913 A.size b2 r11 (nb + (1 : Int32)) ⟨E916, F917, F918, F919, V920, ne921, ge922, ge923⟩ znb) (w32 hw) (w33 hw) (nf_same (C := "") (w35 hw)) (w35 hw) (w34 hw) (w3 hw) (w36 hw) (by decide) pd__J_V rfl (W := 0) (by decide) (by decide) (Nat.le_of_eq rfl) (by decide) (by decide) rfl rfl at_233 rfl fun T h929 v930 A Q931 => ?_
     obtain ⟨rfl, K927, H928⟩ := Q931
     obtain ⟨E932, F933, F934, F935, V936, ne937, ge938, ge939⟩ := H928
     refine Wp.stk (st' := []) rfl ?_
     refine s_iload (pc' := 238) A at_236 rfl rfl ?_
     refine s_iload (pc' := 240) A at_238 rfl rfl ?_
     refine s_iconst (pc' := 241) (z := (0 : Int32)) A at_240 rfl (by decide) ?_
     refine s_static (pc' := 244) (y := y1_removed) (argsL := [(.int (1 : Int32)), (.int (3 : Int32)), (.int (0 : Int32))]) (rest := []) A (rmd l Z a0 hw n0 h929 A.size (1 : Int32) (3 : Int32) (0 : Int32) (1 : Int32) (by decide)) (w37 hw) (w38 hw) (w30 hw) (w39 hw) (by decide) pd__III_Z rfl (W := 0) (by decide) (by decide) (Nat.le_of_eq rfl) (by decide) (by decide) rfl rfl at_241 rfl fun T h940 v941 A Q942 => ?_
     obtain ⟨rfl, eh⟩ := Q942
     rw [eh] at A
     refine Wp.stk (st' := [(.int (1 : Int32))]) rfl ?_
     refine s_istore (pc' := 246) (Ls' := #[iv q0, iv q1, iv q2, iv q3, iv q4, iv q5, iv na, iv nb, iv nc, iv nx, iv 3, iv 0, iv 1, rv b2, iv 1, jv 0, S2, jv 0, S2, jv 1, S2, jv 2, S2, iv 1, U0, U0, U0, U0]) A at_244 rfl rfl ?_
     refine s_iload (pc' := 248) A at_246 rfl rfl ?_
     refine s_iload (pc' := 250) A at_248 rfl rfl ?_
     refine s_iconst (pc' := 251) (z := (1 : Int32)) A at_250 rfl (by decide) ?_
     refine s_static (pc' := 254) (y := y1_removed) (argsL := [(.int (1 : Int32)), (.int (3 : Int32)), (.int (1 : Int32))]) (rest := []) A (rmd l Z a0 hw n0 h929 A.size (1 : Int32) (3 : Int32) (1 : Int32) (1 : Int32) (by decide)) (w37 hw) (w38 hw) (w30 hw) (w39 hw) (by decide) pd__III_Z rfl (W := 0) (by decide) (by decide) (Nat.le_of_eq rfl) (by decide) (by decide) rfl rfl at_251 rfl fun T h943 v944 A Q945 => ?_
     obtain ⟨rfl, eh⟩ := Q945
     rw [eh] at A
     refine Wp.stk (st' := [(.int (1 : Int32))]) rfl ?_
     refine s_istore (pc' := 256) (Ls' := #[iv q0, iv q1, iv q2, iv q3, iv q4, iv q5, iv na, iv nb, iv nc, iv nx, iv 3, iv 0, iv 1, rv b2, iv 1, jv 0, S2, jv 0, S2, jv 1, S2, jv 2, S2, iv 1, iv 1, U0, U0, U0]) A at_254 rfl rfl ?_
     refine s_iload (pc' := 258) A at_256 rfl rfl ?_
     refine s_iload (pc' := 260) A at_258 rfl rfl ?_
     refine s_iconst (pc' := 261) (z := (2 : Int32)) A at_260 rfl (by decide) ?_
     refine s_static (pc' := 264) (y := y1_removed) (argsL := [(.int (1 : Int32)), (.int (3 : Int32)), (.int (2 : Int32))]) (rest := []) A (rmd l Z a0 hw n0 h929 A.size (1 : Int32) (3 : Int32) (2 : Int32) (1 : Int32) (by decide)) (w37 hw) (w38 hw) (w30 hw) (w39 hw) (by decide) pd__III_Z rfl (W := 0) (by decide) (by decide) (Nat.le_of_eq rfl) (by decide) (by decide) rfl rfl at_261 rfl fun T h946 v947 A Q948 => ?_
     obtain ⟨rfl, eh⟩ := Q948
     rw [eh] at A
     refine Wp.stk (st' := [(.int (1 : Int32))]) rfl ?_
     refine s_istore (pc' := 266) (Ls' := #[iv q0, iv q1, iv q2, iv q3, iv q4, iv q5, iv na, iv nb, iv nc, iv nx, iv 3, iv 0, iv 1, rv b2, iv 1, jv 0, S2, jv 0, S2, jv 1, S2, jv 2, S2, iv 1, iv 1, iv 1, U0, U0]) A at_264 rfl rfl ?_
     refine s_aload (pc' := 268) A at_266 rfl rfl rfl ?_
     refine s_virtual (pc' := 271) (y := y3_isEmpty) (argsL := []) (rest := []) (z := y3_isEmpty) A E932 (bo_isEmpty22 l Z a0 hw n0 h929 A.size b2 r11 [.int (0 : Int32), .int (0 : Int32), .int (0 : Int32), .int (0 : Int32)] ⟨E932, F933, F934, F935, V936, ne937, ge938, ge939⟩) (w13 hw) (w14 hw) (nf_same (C := "") (w16 hw)) (w16 hw) (w15 hw) (w3 hw) (w17 hw) (by decide) pd___Z rfl (W := 0) (by decide) (by decide) (Nat.le_of_eq rfl) (by decide) (by decide) rfl rfl at_268 rfl fun T h951 v952 A Q953 => ?_
     obtain ⟨rfl, K949, H950⟩ := Q953
     obtain ⟨E954, F955, F956, F957, V958, ne959, ge960, ge961⟩ := H950
     refine Wp.stk (st' := [(.int (1 : Int32))]) rfl ?_
     refine s_istore (pc' := 273) (Ls' := #[iv q0, iv q1, iv q2, iv q3, iv q4, iv q5, iv na, iv nb, iv nc, iv nx, iv 3, iv 0, iv 1, rv b2, iv 1, jv 0, S2, jv 0, S2, jv 1, S2, jv 2, S2, iv 1, iv 1, iv 1, iv 1, U0]) A at_271 rfl rfl ?_
     refine s_iload (pc' := 275) A at_273 rfl rfl ?_
     refine s_ifN (pc' := 278) A at_275 rfl (by decide) ?_
     refine s_iload (pc' := 280) A at_278 rfl rfl ?_
     refine s_ifN (pc' := 283) A at_280 rfl (by decide) ?_
     refine s_iload (pc' := 285) A at_283 rfl rfl ?_
     refine s_ifN (pc' := 288) A at_285 rfl (by decide) ?_
     refine s_iload (pc' := 290) A at_288 rfl rfl ?_
     refine s_ifN (pc' := 293) A at_290 rfl (by decide) ?_
     refine s_iload (pc' := 295) A at_293 rfl rfl ?_
     refine s_ifN (pc' := 298) A at_295 rfl (by decide) ?_
     refine s_iconst (pc' := 299) (z := (1 : Int32)) A at_298 rfl (by decide) ?_
     refine s_goto (pc' := 303) A at_299 (by decide) (by decide) ?_
     exact r_bool A rfl (by decide) at_303 (by decide) (by decide) (rfl)
    ·
     refine s_iload (pc' := 176) A at_174 rfl rfl ?_
     refine s_ifN (pc' := 179) A at_176 rfl (by decide) ?_
     refine s_aload (pc' := 181) A at_179 rfl rfl rfl ?_
     refine s_lload (pc' := 183) A at_181 rfl rfl ?_
     refine s_iload (pc' := 185) A at_183 rfl rfl ?_
     refine s_iconst (pc' := 186) (z := (0 : Int32)) A at_185 rfl (by decide) ?_
     refine s_static (pc' := 189) (y := y0_idx) (argsL := [(.int (2 : Int32)), (.int (0 : Int32))]) (rest := [(.long (0 : Int64)), (.ref b2)]) A (idx l Z a0 hw n0 h68 A.size (2 : Int32) (0 : Int32) (1 : Int32) (by decide)) (w28 hw) (w29 hw) (w30 hw) (w31 hw) (by decide) pd__II_I rfl (W := 3) (by decide) (by decide) (Nat.le_of_eq rfl) (by decide) (by decide) rfl rfl at_186 rfl fun T h962 v963 A Q964 => ?_
     obtain ⟨rfl, eh⟩ := Q964
     rw [eh] at A
     refine Wp.stk (st' := [(.int (1 : Int32)), (.long (0 : Int64)), (.ref b2)]) rfl ?_
     refine s_i2l (pc' := 190) (z := (1 : Int64)) A at_189 rfl (by decide) ?_
     refine s_ladd (pc' := 191) (z := (1 : Int64)) A at_190 rfl (by decide) ?_
     refine s_virtual (pc' := 194) (y := y6_remove) (argsL := [(.long (1 : Int64))]) (rest := []) (z := y6_remove) A E71 (bo_remove11 l Z a0 hw n0 h68 A.size b2 r11 (na + (1 : Int32)) (nb + (1 : Int32)) (nc + (1 : Int32)) ⟨E71, F72, F73, F74, V75, ne76, ge77, ge78⟩ zna znb znc) (w32 hw) (w33 hw) (nf_same (C := "") (w35 hw)) (w35 hw) (w34 hw) (w3 hw) (w36 hw) (by decide) pd__J_V rfl (W := 0) (by decide) (by decide) (Nat.le_of_eq rfl) (by decide) (by decide) rfl rfl at_191 rfl fun T h967 v968 A Q969 => ?_
     obtain ⟨rfl, K965, H966⟩ := Q969
     obtain ⟨E970, F971, F972, F973, V974, ne975, ge976, ge977⟩ := H966
     refine Wp.stk (st' := []) rfl ?_
     refine s_iload (pc' := 196) A at_194 rfl rfl ?_
     refine s_iconst (pc' := 197) (z := (1 : Int32)) A at_196 rfl (by decide) ?_
     refine s_icmpN (pc' := 200) A at_197 rfl (by decide) ?_
     refine s_aload (pc' := 202) A at_200 rfl rfl rfl ?_
     refine s_lload (pc' := 204) A at_202 rfl rfl ?_
     refine s_iload (pc' := 206) A at_204 rfl rfl ?_
     refine s_iconst (pc' := 207) (z := (1 : Int32)) A at_206 rfl (by decide) ?_
     refine s_static (pc' := 210) (y := y0_idx) (argsL := [(.int (2 : Int32)), (.int (1 : Int32))]) (rest := [(.long (0 : Int64)), (.ref b2)]) A (idx l Z a0 hw n0 h967 A.size (2 : Int32) (1 : Int32) (0 : Int32) (by decide)) (w28 hw) (w29 hw) (w30 hw) (w31 hw) (by decide) pd__II_I rfl (W := 3) (by decide) (by decide) (Nat.le_of_eq rfl) (by decide) (by decide) rfl rfl at_207 rfl fun T h978 v979 A Q980 => ?_
     obtain ⟨rfl, eh⟩ := Q980
     rw [eh] at A
     refine Wp.stk (st' := [(.int (0 : Int32)), (.long (0 : Int64)), (.ref b2)]) rfl ?_
     refine s_i2l (pc' := 211) (z := (0 : Int64)) A at_210 rfl (by decide) ?_
     refine s_ladd (pc' := 212) (z := (0 : Int64)) A at_211 rfl (by decide) ?_
     refine s_virtual (pc' := 215) (y := y6_remove) (argsL := [(.long (0 : Int64))]) (rest := []) (z := y6_remove) A E970 (bo_remove17 l Z a0 hw n0 h967 A.size b2 r11 (na + (1 : Int32)) (nc + (1 : Int32)) ⟨E970, F971, F972, F973, V974, ne975, ge976, ge977⟩ zna znc) (w32 hw) (w33 hw) (nf_same (C := "") (w35 hw)) (w35 hw) (w34 hw) (w3 hw) (w36 hw) (by decide) pd__J_V rfl (W := 0) (by decide) (by decide) (Nat.le_of_eq rfl) (by decide) (by decide) rfl rfl at_212 rfl fun T h983 v984 A Q985 => ?_
     obtain ⟨rfl, K981, H982⟩ := Q985
     obtain ⟨E986, F987, F988, F989, V990, ne991, ge992, ge993⟩ := H982
     refine Wp.stk (st' := []) rfl ?_
     refine s_iload (pc' := 217) A at_215 rfl rfl ?_
     refine s_iconst (pc' := 218) (z := (2 : Int32)) A at_217 rfl (by decide) ?_
     refine s_icmpN (pc' := 221) A at_218 rfl (by decide) ?_
     refine s_aload (pc' := 223) A at_221 rfl rfl rfl ?_
     refine s_lload (pc' := 225) A at_223 rfl rfl ?_
     refine s_iload (pc' := 227) A at_225 rfl rfl ?_
     refine s_iconst (pc' := 228) (z := (2 : Int32)) A at_227 rfl (by decide) ?_
     refine s_static (pc' := 231) (y := y0_idx) (argsL := [(.int (2 : Int32)), (.int (2 : Int32))]) (rest := [(.long (0 : Int64)), (.ref b2)]) A (idx l Z a0 hw n0 h983 A.size (2 : Int32) (2 : Int32) (2 : Int32) (by decide)) (w28 hw) (w29 hw) (w30 hw) (w31 hw) (by decide) pd__II_I rfl (W := 3) (by decide) (by decide) (Nat.le_of_eq rfl) (by decide) (by decide) rfl rfl at_228 rfl fun T h994 v995 A Q996 => ?_
     obtain ⟨rfl, eh⟩ := Q996
     rw [eh] at A
     refine Wp.stk (st' := [(.int (2 : Int32)), (.long (0 : Int64)), (.ref b2)]) rfl ?_
     refine s_i2l (pc' := 232) (z := (2 : Int64)) A at_231 rfl (by decide) ?_
     refine s_ladd (pc' := 233) (z := (2 : Int64)) A at_232 rfl (by decide) ?_
     refine s_virtual (pc' := 236) (y := y6_remove) (argsL := [(.long (2 : Int64))]) (rest := []) (z := y6_remove) A E986 (bo_remove21 l Z a0 hw n0 h983 A.size b2 r11 (nc + (1 : Int32)) ⟨E986, F987, F988, F989, V990, ne991, ge992, ge993⟩ znc) (w32 hw) (w33 hw) (nf_same (C := "") (w35 hw)) (w35 hw) (w34 hw) (w3 hw) (w36 hw) (by decide) pd__J_V rfl (W := 0) (by decide) (by decide) (Nat.le_of_eq rfl) (by decide) (by decide) rfl rfl at_233 rfl fun T h999 v1000 A Q1001 => ?_
     obtain ⟨rfl, K997, H998⟩ := Q1001
     obtain ⟨E1002, F1003, F1004, F1005, V1006, ne1007, ge1008, ge1009⟩ := H998
     refine Wp.stk (st' := []) rfl ?_
     refine s_iload (pc' := 238) A at_236 rfl rfl ?_
     refine s_iload (pc' := 240) A at_238 rfl rfl ?_
     refine s_iconst (pc' := 241) (z := (0 : Int32)) A at_240 rfl (by decide) ?_
     refine s_static (pc' := 244) (y := y1_removed) (argsL := [(.int (2 : Int32)), (.int (3 : Int32)), (.int (0 : Int32))]) (rest := []) A (rmd l Z a0 hw n0 h999 A.size (2 : Int32) (3 : Int32) (0 : Int32) (1 : Int32) (by decide)) (w37 hw) (w38 hw) (w30 hw) (w39 hw) (by decide) pd__III_Z rfl (W := 0) (by decide) (by decide) (Nat.le_of_eq rfl) (by decide) (by decide) rfl rfl at_241 rfl fun T h1010 v1011 A Q1012 => ?_
     obtain ⟨rfl, eh⟩ := Q1012
     rw [eh] at A
     refine Wp.stk (st' := [(.int (1 : Int32))]) rfl ?_
     refine s_istore (pc' := 246) (Ls' := #[iv q0, iv q1, iv q2, iv q3, iv q4, iv q5, iv na, iv nb, iv nc, iv nx, iv 3, iv 0, iv 2, rv b2, iv 1, jv 0, S2, jv 0, S2, jv 1, S2, jv 2, S2, iv 1, U0, U0, U0, U0]) A at_244 rfl rfl ?_
     refine s_iload (pc' := 248) A at_246 rfl rfl ?_
     refine s_iload (pc' := 250) A at_248 rfl rfl ?_
     refine s_iconst (pc' := 251) (z := (1 : Int32)) A at_250 rfl (by decide) ?_
     refine s_static (pc' := 254) (y := y1_removed) (argsL := [(.int (2 : Int32)), (.int (3 : Int32)), (.int (1 : Int32))]) (rest := []) A (rmd l Z a0 hw n0 h999 A.size (2 : Int32) (3 : Int32) (1 : Int32) (1 : Int32) (by decide)) (w37 hw) (w38 hw) (w30 hw) (w39 hw) (by decide) pd__III_Z rfl (W := 0) (by decide) (by decide) (Nat.le_of_eq rfl) (by decide) (by decide) rfl rfl at_251 rfl fun T h1013 v1014 A Q1015 => ?_
     obtain ⟨rfl, eh⟩ := Q1015
     rw [eh] at A
     refine Wp.stk (st' := [(.int (1 : Int32))]) rfl ?_
     refine s_istore (pc' := 256) (Ls' := #[iv q0, iv q1, iv q2, iv q3, iv q4, iv q5, iv na, iv nb, iv nc, iv nx, iv 3, iv 0, iv 2, rv b2, iv 1, jv 0, S2, jv 0, S2, jv 1, S2, jv 2, S2, iv 1, iv 1, U0, U0, U0]) A at_254 rfl rfl ?_
     refine s_iload (pc' := 258) A at_256 rfl rfl ?_
     refine s_iload (pc' := 260) A at_258 rfl rfl ?_
     refine s_iconst (pc' := 261) (z := (2 : Int32)) A at_260 rfl (by decide) ?_
     refine s_static (pc' := 264) (y := y1_removed) (argsL := [(.int (2 : Int32)), (.int (3 : Int32)), (.int (2 : Int32))]) (rest := []) A (rmd l Z a0 hw n0 h999 A.size (2 : Int32) (3 : Int32) (2 : Int32) (1 : Int32) (by decide)) (w37 hw) (w38 hw) (w30 hw) (w39 hw) (by decide) pd__III_Z rfl (W := 0) (by decide) (by decide) (Nat.le_of_eq rfl) (by decide) (by decide) rfl rfl at_261 rfl fun T h1016 v1017 A Q1018 => ?_
     obtain ⟨rfl, eh⟩ := Q1018
     rw [eh] at A
     refine Wp.stk (st' := [(.int (1 : Int32))]) rfl ?_
     refine s_istore (pc' := 266) (Ls' := #[iv q0, iv q1, iv q2, iv q3, iv q4, iv q5, iv na, iv nb, iv nc, iv nx, iv 3, iv 0, iv 2, rv b2, iv 1, jv 0, S2, jv 0, S2, jv 1, S2, jv 2, S2, iv 1, iv 1, iv 1, U0, U0]) A at_264 rfl rfl ?_
     refine s_aload (pc' := 268) A at_266 rfl rfl rfl ?_
     refine s_virtual (pc' := 271) (y := y3_isEmpty) (argsL := []) (rest := []) (z := y3_isEmpty) A E1002 (bo_isEmpty22 l Z a0 hw n0 h999 A.size b2 r11 [.int (0 : Int32), .int (0 : Int32), .int (0 : Int32), .int (0 : Int32)] ⟨E1002, F1003, F1004, F1005, V1006, ne1007, ge1008, ge1009⟩) (w13 hw) (w14 hw) (nf_same (C := "") (w16 hw)) (w16 hw) (w15 hw) (w3 hw) (w17 hw) (by decide) pd___Z rfl (W := 0) (by decide) (by decide) (Nat.le_of_eq rfl) (by decide) (by decide) rfl rfl at_268 rfl fun T h1021 v1022 A Q1023 => ?_
     obtain ⟨rfl, K1019, H1020⟩ := Q1023
     obtain ⟨E1024, F1025, F1026, F1027, V1028, ne1029, ge1030, ge1031⟩ := H1020
     refine Wp.stk (st' := [(.int (1 : Int32))]) rfl ?_
     refine s_istore (pc' := 273) (Ls' := #[iv q0, iv q1, iv q2, iv q3, iv q4, iv q5, iv na, iv nb, iv nc, iv nx, iv 3, iv 0, iv 2, rv b2, iv 1, jv 0, S2, jv 0, S2, jv 1, S2, jv 2, S2, iv 1, iv 1, iv 1, iv 1, U0]) A at_271 rfl rfl ?_
     refine s_iload (pc' := 275) A at_273 rfl rfl ?_
     refine s_ifN (pc' := 278) A at_275 rfl (by decide) ?_
     refine s_iload (pc' := 280) A at_278 rfl rfl ?_
     refine s_ifN (pc' := 283) A at_280 rfl (by decide) ?_
     refine s_iload (pc' := 285) A at_283 rfl rfl ?_
     refine s_ifN (pc' := 288) A at_285 rfl (by decide) ?_
     refine s_iload (pc' := 290) A at_288 rfl rfl ?_
     refine s_ifN (pc' := 293) A at_290 rfl (by decide) ?_
     refine s_iload (pc' := 295) A at_293 rfl rfl ?_
     refine s_ifN (pc' := 298) A at_295 rfl (by decide) ?_
     refine s_iconst (pc' := 299) (z := (1 : Int32)) A at_298 rfl (by decide) ?_
     refine s_goto (pc' := 303) A at_299 (by decide) (by decide) ?_
     exact r_bool A rfl (by decide) at_303 (by decide) (by decide) (rfl)
    ·
     refine s_iload (pc' := 176) A at_174 rfl rfl ?_
     refine s_ifN (pc' := 179) A at_176 rfl (by decide) ?_
     refine s_aload (pc' := 181) A at_179 rfl rfl rfl ?_
     refine s_lload (pc' := 183) A at_181 rfl rfl ?_
     refine s_iload (pc' := 185) A at_183 rfl rfl ?_
     refine s_iconst (pc' := 186) (z := (0 : Int32)) A at_185 rfl (by decide) ?_
     refine s_static (pc' := 189) (y := y0_idx) (argsL := [(.int (3 : Int32)), (.int (0 : Int32))]) (rest := [(.long (0 : Int64)), (.ref b2)]) A (idx l Z a0 hw n0 h68 A.size (3 : Int32) (0 : Int32) (1 : Int32) (by decide)) (w28 hw) (w29 hw) (w30 hw) (w31 hw) (by decide) pd__II_I rfl (W := 3) (by decide) (by decide) (Nat.le_of_eq rfl) (by decide) (by decide) rfl rfl at_186 rfl fun T h1032 v1033 A Q1034 => ?_
     obtain ⟨rfl, eh⟩ := Q1034
     rw [eh] at A
     refine Wp.stk (st' := [(.int (1 : Int32)), (.long (0 : Int64)), (.ref b2)]) rfl ?_
     refine s_i2l (pc' := 190) (z := (1 : Int64)) A at_189 rfl (by decide) ?_
     refine s_ladd (pc' := 191) (z := (1 : Int64)) A at_190 rfl (by decide) ?_
     refine s_virtual (pc' := 194) (y := y6_remove) (argsL := [(.long (1 : Int64))]) (rest := []) (z := y6_remove) A E71 (bo_remove11 l Z a0 hw n0 h68 A.size b2 r11 (na + (1 : Int32)) (nb + (1 : Int32)) (nc + (1 : Int32)) ⟨E71, F72, F73, F74, V75, ne76, ge77, ge78⟩ zna znb znc) (w32 hw) (w33 hw) (nf_same (C := "") (w35 hw)) (w35 hw) (w34 hw) (w3 hw) (w36 hw) (by decide) pd__J_V rfl (W := 0) (by decide) (by decide) (Nat.le_of_eq rfl) (by decide) (by decide) rfl rfl at_191 rfl fun T h1037 v1038 A Q1039 => ?_
     obtain ⟨rfl, K1035, H1036⟩ := Q1039
     obtain ⟨E1040, F1041, F1042, F1043, V1044, ne1045, ge1046, ge1047⟩ := H1036
     refine Wp.stk (st' := []) rfl ?_
     refine s_iload (pc' := 196) A at_194 rfl rfl ?_
     refine s_iconst (pc' := 197) (z := (1 : Int32)) A at_196 rfl (by decide) ?_
     refine s_icmpN (pc' := 200) A at_197 rfl (by decide) ?_
     refine s_aload (pc' := 202) A at_200 rfl rfl rfl ?_
     refine s_lload (pc' := 204) A at_202 rfl rfl ?_
     refine s_iload (pc' := 206) A at_204 rfl rfl ?_
     refine s_iconst (pc' := 207) (z := (1 : Int32)) A at_206 rfl (by decide) ?_
     refine s_static (pc' := 210) (y := y0_idx) (argsL := [(.int (3 : Int32)), (.int (1 : Int32))]) (rest := [(.long (0 : Int64)), (.ref b2)]) A (idx l Z a0 hw n0 h1037 A.size (3 : Int32) (1 : Int32) (2 : Int32) (by decide)) (w28 hw) (w29 hw) (w30 hw) (w31 hw) (by decide) pd__II_I rfl (W := 3) (by decide) (by decide) (Nat.le_of_eq rfl) (by decide) (by decide) rfl rfl at_207 rfl fun T h1048 v1049 A Q1050 => ?_
     obtain ⟨rfl, eh⟩ := Q1050
     rw [eh] at A
     refine Wp.stk (st' := [(.int (2 : Int32)), (.long (0 : Int64)), (.ref b2)]) rfl ?_
     refine s_i2l (pc' := 211) (z := (2 : Int64)) A at_210 rfl (by decide) ?_
     refine s_ladd (pc' := 212) (z := (2 : Int64)) A at_211 rfl (by decide) ?_
     refine s_virtual (pc' := 215) (y := y6_remove) (argsL := [(.long (2 : Int64))]) (rest := []) (z := y6_remove) A E1040 (bo_remove18 l Z a0 hw n0 h1037 A.size b2 r11 (na + (1 : Int32)) (nc + (1 : Int32)) ⟨E1040, F1041, F1042, F1043, V1044, ne1045, ge1046, ge1047⟩ zna znc) (w32 hw) (w33 hw) (nf_same (C := "") (w35 hw)) (w35 hw) (w34 hw) (w3 hw) (w36 hw) (by decide) pd__J_V rfl (W := 0) (by decide) (by decide) (Nat.le_of_eq rfl) (by decide) (by decide) rfl rfl at_212 rfl fun T h1053 v1054 A Q1055 => ?_
     obtain ⟨rfl, K1051, H1052⟩ := Q1055
     obtain ⟨E1056, F1057, F1058, F1059, V1060, ne1061, ge1062, ge1063⟩ := H1052
     refine Wp.stk (st' := []) rfl ?_
     refine s_iload (pc' := 217) A at_215 rfl rfl ?_
     refine s_iconst (pc' := 218) (z := (2 : Int32)) A at_217 rfl (by decide) ?_
     refine s_icmpN (pc' := 221) A at_218 rfl (by decide) ?_
     refine s_aload (pc' := 223) A at_221 rfl rfl rfl ?_
     refine s_lload (pc' := 225) A at_223 rfl rfl ?_
     refine s_iload (pc' := 227) A at_225 rfl rfl ?_
     refine s_iconst (pc' := 228) (z := (2 : Int32)) A at_227 rfl (by decide) ?_
     refine s_static (pc' := 231) (y := y0_idx) (argsL := [(.int (3 : Int32)), (.int (2 : Int32))]) (rest := [(.long (0 : Int64)), (.ref b2)]) A (idx l Z a0 hw n0 h1053 A.size (3 : Int32) (2 : Int32) (0 : Int32) (by decide)) (w28 hw) (w29 hw) (w30 hw) (w31 hw) (by decide) pd__II_I rfl (W := 3) (by decide) (by decide) (Nat.le_of_eq rfl) (by decide) (by decide) rfl rfl at_228 rfl fun T h1064 v1065 A Q1066 => ?_
     obtain ⟨rfl, eh⟩ := Q1066
     rw [eh] at A
     refine Wp.stk (st' := [(.int (0 : Int32)), (.long (0 : Int64)), (.ref b2)]) rfl ?_
     refine s_i2l (pc' := 232) (z := (0 : Int64)) A at_231 rfl (by decide) ?_
     refine s_ladd (pc' := 233) (z := (0 : Int64)) A at_232 rfl (by decide) ?_
     refine s_virtual (pc' := 236) (y := y6_remove) (argsL := [(.long (0 : Int64))]) (rest := []) (z := y6_remove) A E1056 (bo_remove24 l Z a0 hw n0 h1053 A.size b2 r11 (na + (1 : Int32)) ⟨E1056, F1057, F1058, F1059, V1060, ne1061, ge1062, ge1063⟩ zna) (w32 hw) (w33 hw) (nf_same (C := "") (w35 hw)) (w35 hw) (w34 hw) (w3 hw) (w36 hw) (by decide) pd__J_V rfl (W := 0) (by decide) (by decide) (Nat.le_of_eq rfl) (by decide) (by decide) rfl rfl at_233 rfl fun T h1069 v1070 A Q1071 => ?_
     obtain ⟨rfl, K1067, H1068⟩ := Q1071
     obtain ⟨E1072, F1073, F1074, F1075, V1076, ne1077, ge1078, ge1079⟩ := H1068
     refine Wp.stk (st' := []) rfl ?_
     refine s_iload (pc' := 238) A at_236 rfl rfl ?_
     refine s_iload (pc' := 240) A at_238 rfl rfl ?_
     refine s_iconst (pc' := 241) (z := (0 : Int32)) A at_240 rfl (by decide) ?_
     refine s_static (pc' := 244) (y := y1_removed) (argsL := [(.int (3 : Int32)), (.int (3 : Int32)), (.int (0 : Int32))]) (rest := []) A (rmd l Z a0 hw n0 h1069 A.size (3 : Int32) (3 : Int32) (0 : Int32) (1 : Int32) (by decide)) (w37 hw) (w38 hw) (w30 hw) (w39 hw) (by decide) pd__III_Z rfl (W := 0) (by decide) (by decide) (Nat.le_of_eq rfl) (by decide) (by decide) rfl rfl at_241 rfl fun T h1080 v1081 A Q1082 => ?_
     obtain ⟨rfl, eh⟩ := Q1082
     rw [eh] at A
     refine Wp.stk (st' := [(.int (1 : Int32))]) rfl ?_
     refine s_istore (pc' := 246) (Ls' := #[iv q0, iv q1, iv q2, iv q3, iv q4, iv q5, iv na, iv nb, iv nc, iv nx, iv 3, iv 0, iv 3, rv b2, iv 1, jv 0, S2, jv 0, S2, jv 1, S2, jv 2, S2, iv 1, U0, U0, U0, U0]) A at_244 rfl rfl ?_
     refine s_iload (pc' := 248) A at_246 rfl rfl ?_
     refine s_iload (pc' := 250) A at_248 rfl rfl ?_
     refine s_iconst (pc' := 251) (z := (1 : Int32)) A at_250 rfl (by decide) ?_
     refine s_static (pc' := 254) (y := y1_removed) (argsL := [(.int (3 : Int32)), (.int (3 : Int32)), (.int (1 : Int32))]) (rest := []) A (rmd l Z a0 hw n0 h1069 A.size (3 : Int32) (3 : Int32) (1 : Int32) (1 : Int32) (by decide)) (w37 hw) (w38 hw) (w30 hw) (w39 hw) (by decide) pd__III_Z rfl (W := 0) (by decide) (by decide) (Nat.le_of_eq rfl) (by decide) (by decide) rfl rfl at_251 rfl fun T h1083 v1084 A Q1085 => ?_
     obtain ⟨rfl, eh⟩ := Q1085
     rw [eh] at A
     refine Wp.stk (st' := [(.int (1 : Int32))]) rfl ?_
     refine s_istore (pc' := 256) (Ls' := #[iv q0, iv q1, iv q2, iv q3, iv q4, iv q5, iv na, iv nb, iv nc, iv nx, iv 3, iv 0, iv 3, rv b2, iv 1, jv 0, S2, jv 0, S2, jv 1, S2, jv 2, S2, iv 1, iv 1, U0, U0, U0]) A at_254 rfl rfl ?_
     refine s_iload (pc' := 258) A at_256 rfl rfl ?_
     refine s_iload (pc' := 260) A at_258 rfl rfl ?_
     refine s_iconst (pc' := 261) (z := (2 : Int32)) A at_260 rfl (by decide) ?_
     refine s_static (pc' := 264) (y := y1_removed) (argsL := [(.int (3 : Int32)), (.int (3 : Int32)), (.int (2 : Int32))]) (rest := []) A (rmd l Z a0 hw n0 h1069 A.size (3 : Int32) (3 : Int32) (2 : Int32) (1 : Int32) (by decide)) (w37 hw) (w38 hw) (w30 hw) (w39 hw) (by decide) pd__III_Z rfl (W := 0) (by decide) (by decide) (Nat.le_of_eq rfl) (by decide) (by decide) rfl rfl at_261 rfl fun T h1086 v1087 A Q1088 => ?_
     obtain ⟨rfl, eh⟩ := Q1088
     rw [eh] at A
     refine Wp.stk (st' := [(.int (1 : Int32))]) rfl ?_
     refine s_istore (pc' := 266) (Ls' := #[iv q0, iv q1, iv q2, iv q3, iv q4, iv q5, iv na, iv nb, iv nc, iv nx, iv 3, iv 0, iv 3, rv b2, iv 1, jv 0, S2, jv 0, S2, jv 1, S2, jv 2, S2, iv 1, iv 1, iv 1, U0, U0]) A at_264 rfl rfl ?_
     refine s_aload (pc' := 268) A at_266 rfl rfl rfl ?_
     refine s_virtual (pc' := 271) (y := y3_isEmpty) (argsL := []) (rest := []) (z := y3_isEmpty) A E1072 (bo_isEmpty22 l Z a0 hw n0 h1069 A.size b2 r11 [.int (0 : Int32), .int (0 : Int32), .int (0 : Int32), .int (0 : Int32)] ⟨E1072, F1073, F1074, F1075, V1076, ne1077, ge1078, ge1079⟩) (w13 hw) (w14 hw) (nf_same (C := "") (w16 hw)) (w16 hw) (w15 hw) (w3 hw) (w17 hw) (by decide) pd___Z rfl (W := 0) (by decide) (by decide) (Nat.le_of_eq rfl) (by decide) (by decide) rfl rfl at_268 rfl fun T h1091 v1092 A Q1093 => ?_
     obtain ⟨rfl, K1089, H1090⟩ := Q1093
     obtain ⟨E1094, F1095, F1096, F1097, V1098, ne1099, ge1100, ge1101⟩ := H1090
     refine Wp.stk (st' := [(.int (1 : Int32))]) rfl ?_
     refine s_istore (pc' := 273) (Ls' := #[iv q0, iv q1, iv q2, iv q3, iv q4, iv q5, iv na, iv nb, iv nc, iv nx, iv 3, iv 0, iv 3, rv b2, iv 1, jv 0, S2, jv 0, S2, jv 1, S2, jv 2, S2, iv 1, iv 1, iv 1, iv 1, U0]) A at_271 rfl rfl ?_
     refine s_iload (pc' := 275) A at_273 rfl rfl ?_
     refine s_ifN (pc' := 278) A at_275 rfl (by decide) ?_
     refine s_iload (pc' := 280) A at_278 rfl rfl ?_
     refine s_ifN (pc' := 283) A at_280 rfl (by decide) ?_
     refine s_iload (pc' := 285) A at_283 rfl rfl ?_
     refine s_ifN (pc' := 288) A at_285 rfl (by decide) ?_
     refine s_iload (pc' := 290) A at_288 rfl rfl ?_
     refine s_ifN (pc' := 293) A at_290 rfl (by decide) ?_
     refine s_iload (pc' := 295) A at_293 rfl rfl ?_
     refine s_ifN (pc' := 298) A at_295 rfl (by decide) ?_
     refine s_iconst (pc' := 299) (z := (1 : Int32)) A at_298 rfl (by decide) ?_
     refine s_goto (pc' := 303) A at_299 (by decide) (by decide) ?_
     exact r_bool A rfl (by decide) at_303 (by decide) (by decide) (rfl)
    ·
     refine s_iload (pc' := 176) A at_174 rfl rfl ?_
     refine s_ifN (pc' := 179) A at_176 rfl (by decide) ?_
     refine s_aload (pc' := 181) A at_179 rfl rfl rfl ?_
     refine s_lload (pc' := 183) A at_181 rfl rfl ?_
     refine s_iload (pc' := 185) A at_183 rfl rfl ?_
     refine s_iconst (pc' := 186) (z := (0 : Int32)) A at_185 rfl (by decide) ?_
     refine s_static (pc' := 189) (y := y0_idx) (argsL := [(.int (4 : Int32)), (.int (0 : Int32))]) (rest := [(.long (0 : Int64)), (.ref b2)]) A (idx l Z a0 hw n0 h68 A.size (4 : Int32) (0 : Int32) (2 : Int32) (by decide)) (w28 hw) (w29 hw) (w30 hw) (w31 hw) (by decide) pd__II_I rfl (W := 3) (by decide) (by decide) (Nat.le_of_eq rfl) (by decide) (by decide) rfl rfl at_186 rfl fun T h1102 v1103 A Q1104 => ?_
     obtain ⟨rfl, eh⟩ := Q1104
     rw [eh] at A
     refine Wp.stk (st' := [(.int (2 : Int32)), (.long (0 : Int64)), (.ref b2)]) rfl ?_
     refine s_i2l (pc' := 190) (z := (2 : Int64)) A at_189 rfl (by decide) ?_
     refine s_ladd (pc' := 191) (z := (2 : Int64)) A at_190 rfl (by decide) ?_
     refine s_virtual (pc' := 194) (y := y6_remove) (argsL := [(.long (2 : Int64))]) (rest := []) (z := y6_remove) A E71 (bo_remove12 l Z a0 hw n0 h68 A.size b2 r11 (na + (1 : Int32)) (nb + (1 : Int32)) (nc + (1 : Int32)) ⟨E71, F72, F73, F74, V75, ne76, ge77, ge78⟩ zna znb znc) (w32 hw) (w33 hw) (nf_same (C := "") (w35 hw)) (w35 hw) (w34 hw) (w3 hw) (w36 hw) (by decide) pd__J_V rfl (W := 0) (by decide) (by decide) (Nat.le_of_eq rfl) (by decide) (by decide) rfl rfl at_191 rfl fun T h1107 v1108 A Q1109 => ?_
     obtain ⟨rfl, K1105, H1106⟩ := Q1109
     obtain ⟨E1110, F1111, F1112, F1113, V1114, ne1115, ge1116, ge1117⟩ := H1106
     refine Wp.stk (st' := []) rfl ?_
     refine s_iload (pc' := 196) A at_194 rfl rfl ?_
     refine s_iconst (pc' := 197) (z := (1 : Int32)) A at_196 rfl (by decide) ?_
     refine s_icmpN (pc' := 200) A at_197 rfl (by decide) ?_
     refine s_aload (pc' := 202) A at_200 rfl rfl rfl ?_
     refine s_lload (pc' := 204) A at_202 rfl rfl ?_
     refine s_iload (pc' := 206) A at_204 rfl rfl ?_
     refine s_iconst (pc' := 207) (z := (1 : Int32)) A at_206 rfl (by decide) ?_
     refine s_static (pc' := 210) (y := y0_idx) (argsL := [(.int (4 : Int32)), (.int (1 : Int32))]) (rest := [(.long (0 : Int64)), (.ref b2)]) A (idx l Z a0 hw n0 h1107 A.size (4 : Int32) (1 : Int32) (0 : Int32) (by decide)) (w28 hw) (w29 hw) (w30 hw) (w31 hw) (by decide) pd__II_I rfl (W := 3) (by decide) (by decide) (Nat.le_of_eq rfl) (by decide) (by decide) rfl rfl at_207 rfl fun T h1118 v1119 A Q1120 => ?_
     obtain ⟨rfl, eh⟩ := Q1120
     rw [eh] at A
     refine Wp.stk (st' := [(.int (0 : Int32)), (.long (0 : Int64)), (.ref b2)]) rfl ?_
     refine s_i2l (pc' := 211) (z := (0 : Int64)) A at_210 rfl (by decide) ?_
     refine s_ladd (pc' := 212) (z := (0 : Int64)) A at_211 rfl (by decide) ?_
     refine s_virtual (pc' := 215) (y := y6_remove) (argsL := [(.long (0 : Int64))]) (rest := []) (z := y6_remove) A E1110 (bo_remove19 l Z a0 hw n0 h1107 A.size b2 r11 (na + (1 : Int32)) (nb + (1 : Int32)) ⟨E1110, F1111, F1112, F1113, V1114, ne1115, ge1116, ge1117⟩ zna znb) (w32 hw) (w33 hw) (nf_same (C := "") (w35 hw)) (w35 hw) (w34 hw) (w3 hw) (w36 hw) (by decide) pd__J_V rfl (W := 0) (by decide) (by decide) (Nat.le_of_eq rfl) (by decide) (by decide) rfl rfl at_212 rfl fun T h1123 v1124 A Q1125 => ?_
     obtain ⟨rfl, K1121, H1122⟩ := Q1125
     obtain ⟨E1126, F1127, F1128, F1129, V1130, ne1131, ge1132, ge1133⟩ := H1122
     refine Wp.stk (st' := []) rfl ?_
     refine s_iload (pc' := 217) A at_215 rfl rfl ?_
     refine s_iconst (pc' := 218) (z := (2 : Int32)) A at_217 rfl (by decide) ?_
     refine s_icmpN (pc' := 221) A at_218 rfl (by decide) ?_
     refine s_aload (pc' := 223) A at_221 rfl rfl rfl ?_
     refine s_lload (pc' := 225) A at_223 rfl rfl ?_
     refine s_iload (pc' := 227) A at_225 rfl rfl ?_
     refine s_iconst (pc' := 228) (z := (2 : Int32)) A at_227 rfl (by decide) ?_
     refine s_static (pc' := 231) (y := y0_idx) (argsL := [(.int (4 : Int32)), (.int (2 : Int32))]) (rest := [(.long (0 : Int64)), (.ref b2)]) A (idx l Z a0 hw n0 h1123 A.size (4 : Int32) (2 : Int32) (1 : Int32) (by decide)) (w28 hw) (w29 hw) (w30 hw) (w31 hw) (by decide) pd__II_I rfl (W := 3) (by decide) (by decide) (Nat.le_of_eq rfl) (by decide) (by decide) rfl rfl at_228 rfl fun T h1134 v1135 A Q1136 => ?_
     obtain ⟨rfl, eh⟩ := Q1136
     rw [eh] at A
     refine Wp.stk (st' := [(.int (1 : Int32)), (.long (0 : Int64)), (.ref b2)]) rfl ?_
     refine s_i2l (pc' := 232) (z := (1 : Int64)) A at_231 rfl (by decide) ?_
     refine s_ladd (pc' := 233) (z := (1 : Int64)) A at_232 rfl (by decide) ?_
     refine s_virtual (pc' := 236) (y := y6_remove) (argsL := [(.long (1 : Int64))]) (rest := []) (z := y6_remove) A E1126 (bo_remove23 l Z a0 hw n0 h1123 A.size b2 r11 (nb + (1 : Int32)) ⟨E1126, F1127, F1128, F1129, V1130, ne1131, ge1132, ge1133⟩ znb) (w32 hw) (w33 hw) (nf_same (C := "") (w35 hw)) (w35 hw) (w34 hw) (w3 hw) (w36 hw) (by decide) pd__J_V rfl (W := 0) (by decide) (by decide) (Nat.le_of_eq rfl) (by decide) (by decide) rfl rfl at_233 rfl fun T h1139 v1140 A Q1141 => ?_
     obtain ⟨rfl, K1137, H1138⟩ := Q1141
     obtain ⟨E1142, F1143, F1144, F1145, V1146, ne1147, ge1148, ge1149⟩ := H1138
     refine Wp.stk (st' := []) rfl ?_
     refine s_iload (pc' := 238) A at_236 rfl rfl ?_
     refine s_iload (pc' := 240) A at_238 rfl rfl ?_
     refine s_iconst (pc' := 241) (z := (0 : Int32)) A at_240 rfl (by decide) ?_
     refine s_static (pc' := 244) (y := y1_removed) (argsL := [(.int (4 : Int32)), (.int (3 : Int32)), (.int (0 : Int32))]) (rest := []) A (rmd l Z a0 hw n0 h1139 A.size (4 : Int32) (3 : Int32) (0 : Int32) (1 : Int32) (by decide)) (w37 hw) (w38 hw) (w30 hw) (w39 hw) (by decide) pd__III_Z rfl (W := 0) (by decide) (by decide) (Nat.le_of_eq rfl) (by decide) (by decide) rfl rfl at_241 rfl fun T h1150 v1151 A Q1152 => ?_
     obtain ⟨rfl, eh⟩ := Q1152
     rw [eh] at A
     refine Wp.stk (st' := [(.int (1 : Int32))]) rfl ?_
     refine s_istore (pc' := 246) (Ls' := #[iv q0, iv q1, iv q2, iv q3, iv q4, iv q5, iv na, iv nb, iv nc, iv nx, iv 3, iv 0, iv 4, rv b2, iv 1, jv 0, S2, jv 0, S2, jv 1, S2, jv 2, S2, iv 1, U0, U0, U0, U0]) A at_244 rfl rfl ?_
     refine s_iload (pc' := 248) A at_246 rfl rfl ?_
     refine s_iload (pc' := 250) A at_248 rfl rfl ?_
     refine s_iconst (pc' := 251) (z := (1 : Int32)) A at_250 rfl (by decide) ?_
     refine s_static (pc' := 254) (y := y1_removed) (argsL := [(.int (4 : Int32)), (.int (3 : Int32)), (.int (1 : Int32))]) (rest := []) A (rmd l Z a0 hw n0 h1139 A.size (4 : Int32) (3 : Int32) (1 : Int32) (1 : Int32) (by decide)) (w37 hw) (w38 hw) (w30 hw) (w39 hw) (by decide) pd__III_Z rfl (W := 0) (by decide) (by decide) (Nat.le_of_eq rfl) (by decide) (by decide) rfl rfl at_251 rfl fun T h1153 v1154 A Q1155 => ?_
     obtain ⟨rfl, eh⟩ := Q1155
     rw [eh] at A
     refine Wp.stk (st' := [(.int (1 : Int32))]) rfl ?_
     refine s_istore (pc' := 256) (Ls' := #[iv q0, iv q1, iv q2, iv q3, iv q4, iv q5, iv na, iv nb, iv nc, iv nx, iv 3, iv 0, iv 4, rv b2, iv 1, jv 0, S2, jv 0, S2, jv 1, S2, jv 2, S2, iv 1, iv 1, U0, U0, U0]) A at_254 rfl rfl ?_
     refine s_iload (pc' := 258) A at_256 rfl rfl ?_
     refine s_iload (pc' := 260) A at_258 rfl rfl ?_
     refine s_iconst (pc' := 261) (z := (2 : Int32)) A at_260 rfl (by decide) ?_
     refine s_static (pc' := 264) (y := y1_removed) (argsL := [(.int (4 : Int32)), (.int (3 : Int32)), (.int (2 : Int32))]) (rest := []) A (rmd l Z a0 hw n0 h1139 A.size (4 : Int32) (3 : Int32) (2 : Int32) (1 : Int32) (by decide)) (w37 hw) (w38 hw) (w30 hw) (w39 hw) (by decide) pd__III_Z rfl (W := 0) (by decide) (by decide) (Nat.le_of_eq rfl) (by decide) (by decide) rfl rfl at_261 rfl fun T h1156 v1157 A Q1158 => ?_
     obtain ⟨rfl, eh⟩ := Q1158
     rw [eh] at A
     refine Wp.stk (st' := [(.int (1 : Int32))]) rfl ?_
     refine s_istore (pc' := 266) (Ls' := #[iv q0, iv q1, iv q2, iv q3, iv q4, iv q5, iv na, iv nb, iv nc, iv nx, iv 3, iv 0, iv 4, rv b2, iv 1, jv 0, S2, jv 0, S2, jv 1, S2, jv 2, S2, iv 1, iv 1, iv 1, U0, U0]) A at_264 rfl rfl ?_
     refine s_aload (pc' := 268) A at_266 rfl rfl rfl ?_
     refine s_virtual (pc' := 271) (y := y3_isEmpty) (argsL := []) (rest := []) (z := y3_isEmpty) A E1142 (bo_isEmpty22 l Z a0 hw n0 h1139 A.size b2 r11 [.int (0 : Int32), .int (0 : Int32), .int (0 : Int32), .int (0 : Int32)] ⟨E1142, F1143, F1144, F1145, V1146, ne1147, ge1148, ge1149⟩) (w13 hw) (w14 hw) (nf_same (C := "") (w16 hw)) (w16 hw) (w15 hw) (w3 hw) (w17 hw) (by decide) pd___Z rfl (W := 0) (by decide) (by decide) (Nat.le_of_eq rfl) (by decide) (by decide) rfl rfl at_268 rfl fun T h1161 v1162 A Q1163 => ?_
     obtain ⟨rfl, K1159, H1160⟩ := Q1163
     obtain ⟨E1164, F1165, F1166, F1167, V1168, ne1169, ge1170, ge1171⟩ := H1160
     refine Wp.stk (st' := [(.int (1 : Int32))]) rfl ?_
     refine s_istore (pc' := 273) (Ls' := #[iv q0, iv q1, iv q2, iv q3, iv q4, iv q5, iv na, iv nb, iv nc, iv nx, iv 3, iv 0, iv 4, rv b2, iv 1, jv 0, S2, jv 0, S2, jv 1, S2, jv 2, S2, iv 1, iv 1, iv 1, iv 1, U0]) A at_271 rfl rfl ?_
     refine s_iload (pc' := 275) A at_273 rfl rfl ?_
     refine s_ifN (pc' := 278) A at_275 rfl (by decide) ?_
     refine s_iload (pc' := 280) A at_278 rfl rfl ?_
     refine s_ifN (pc' := 283) A at_280 rfl (by decide) ?_
     refine s_iload (pc' := 285) A at_283 rfl rfl ?_
     refine s_ifN (pc' := 288) A at_285 rfl (by decide) ?_
     refine s_iload (pc' := 290) A at_288 rfl rfl ?_
     refine s_ifN (pc' := 293) A at_290 rfl (by decide) ?_
     refine s_iload (pc' := 295) A at_293 rfl rfl ?_
     refine s_ifN (pc' := 298) A at_295 rfl (by decide) ?_
     refine s_iconst (pc' := 299) (z := (1 : Int32)) A at_298 rfl (by decide) ?_
     refine s_goto (pc' := 303) A at_299 (by decide) (by decide) ?_
     exact r_bool A rfl (by decide) at_303 (by decide) (by decide) (rfl)
    ·
     refine s_iload (pc' := 176) A at_174 rfl rfl ?_
     refine s_ifN (pc' := 179) A at_176 rfl (by decide) ?_
     refine s_aload (pc' := 181) A at_179 rfl rfl rfl ?_
     refine s_lload (pc' := 183) A at_181 rfl rfl ?_
     refine s_iload (pc' := 185) A at_183 rfl rfl ?_
     refine s_iconst (pc' := 186) (z := (0 : Int32)) A at_185 rfl (by decide) ?_
     refine s_static (pc' := 189) (y := y0_idx) (argsL := [(.int (5 : Int32)), (.int (0 : Int32))]) (rest := [(.long (0 : Int64)), (.ref b2)]) A (idx l Z a0 hw n0 h68 A.size (5 : Int32) (0 : Int32) (2 : Int32) (by decide)) (w28 hw) (w29 hw) (w30 hw) (w31 hw) (by decide) pd__II_I rfl (W := 3) (by decide) (by decide) (Nat.le_of_eq rfl) (by decide) (by decide) rfl rfl at_186 rfl fun T h1172 v1173 A Q1174 => ?_
     obtain ⟨rfl, eh⟩ := Q1174
     rw [eh] at A
     refine Wp.stk (st' := [(.int (2 : Int32)), (.long (0 : Int64)), (.ref b2)]) rfl ?_
     refine s_i2l (pc' := 190) (z := (2 : Int64)) A at_189 rfl (by decide) ?_
     refine s_ladd (pc' := 191) (z := (2 : Int64)) A at_190 rfl (by decide) ?_
     refine s_virtual (pc' := 194) (y := y6_remove) (argsL := [(.long (2 : Int64))]) (rest := []) (z := y6_remove) A E71 (bo_remove12 l Z a0 hw n0 h68 A.size b2 r11 (na + (1 : Int32)) (nb + (1 : Int32)) (nc + (1 : Int32)) ⟨E71, F72, F73, F74, V75, ne76, ge77, ge78⟩ zna znb znc) (w32 hw) (w33 hw) (nf_same (C := "") (w35 hw)) (w35 hw) (w34 hw) (w3 hw) (w36 hw) (by decide) pd__J_V rfl (W := 0) (by decide) (by decide) (Nat.le_of_eq rfl) (by decide) (by decide) rfl rfl at_191 rfl fun T h1177 v1178 A Q1179 => ?_
     obtain ⟨rfl, K1175, H1176⟩ := Q1179
     obtain ⟨E1180, F1181, F1182, F1183, V1184, ne1185, ge1186, ge1187⟩ := H1176
     refine Wp.stk (st' := []) rfl ?_
     refine s_iload (pc' := 196) A at_194 rfl rfl ?_
     refine s_iconst (pc' := 197) (z := (1 : Int32)) A at_196 rfl (by decide) ?_
     refine s_icmpN (pc' := 200) A at_197 rfl (by decide) ?_
     refine s_aload (pc' := 202) A at_200 rfl rfl rfl ?_
     refine s_lload (pc' := 204) A at_202 rfl rfl ?_
     refine s_iload (pc' := 206) A at_204 rfl rfl ?_
     refine s_iconst (pc' := 207) (z := (1 : Int32)) A at_206 rfl (by decide) ?_
     refine s_static (pc' := 210) (y := y0_idx) (argsL := [(.int (5 : Int32)), (.int (1 : Int32))]) (rest := [(.long (0 : Int64)), (.ref b2)]) A (idx l Z a0 hw n0 h1177 A.size (5 : Int32) (1 : Int32) (1 : Int32) (by decide)) (w28 hw) (w29 hw) (w30 hw) (w31 hw) (by decide) pd__II_I rfl (W := 3) (by decide) (by decide) (Nat.le_of_eq rfl) (by decide) (by decide) rfl rfl at_207 rfl fun T h1188 v1189 A Q1190 => ?_
     obtain ⟨rfl, eh⟩ := Q1190
     rw [eh] at A
     refine Wp.stk (st' := [(.int (1 : Int32)), (.long (0 : Int64)), (.ref b2)]) rfl ?_
     refine s_i2l (pc' := 211) (z := (1 : Int64)) A at_210 rfl (by decide) ?_
     refine s_ladd (pc' := 212) (z := (1 : Int64)) A at_211 rfl (by decide) ?_
     refine s_virtual (pc' := 215) (y := y6_remove) (argsL := [(.long (1 : Int64))]) (rest := []) (z := y6_remove) A E1180 (bo_remove20 l Z a0 hw n0 h1177 A.size b2 r11 (na + (1 : Int32)) (nb + (1 : Int32)) ⟨E1180, F1181, F1182, F1183, V1184, ne1185, ge1186, ge1187⟩ zna znb) (w32 hw) (w33 hw) (nf_same (C := "") (w35 hw)) (w35 hw) (w34 hw) (w3 hw) (w36 hw) (by decide) pd__J_V rfl (W := 0) (by decide) (by decide) (Nat.le_of_eq rfl) (by decide) (by decide) rfl rfl at_212 rfl fun T h1193 v1194 A Q1195 => ?_
     obtain ⟨rfl, K1191, H1192⟩ := Q1195
     obtain ⟨E1196, F1197, F1198, F1199, V1200, ne1201, ge1202, ge1203⟩ := H1192
     refine Wp.stk (st' := []) rfl ?_
     refine s_iload (pc' := 217) A at_215 rfl rfl ?_
     refine s_iconst (pc' := 218) (z := (2 : Int32)) A at_217 rfl (by decide) ?_
     refine s_icmpN (pc' := 221) A at_218 rfl (by decide) ?_
     refine s_aload (pc' := 223) A at_221 rfl rfl rfl ?_
     refine s_lload (pc' := 225) A at_223 rfl rfl ?_
     refine s_iload (pc' := 227) A at_225 rfl rfl ?_
     refine s_iconst (pc' := 228) (z := (2 : Int32)) A at_227 rfl (by decide) ?_
     refine s_static (pc' := 231) (y := y0_idx) (argsL := [(.int (5 : Int32)), (.int (2 : Int32))]) (rest := [(.long (0 : Int64)), (.ref b2)]) A (idx l Z a0 hw n0 h1193 A.size (5 : Int32) (2 : Int32) (0 : Int32) (by decide)) (w28 hw) (w29 hw) (w30 hw) (w31 hw) (by decide) pd__II_I rfl (W := 3) (by decide) (by decide) (Nat.le_of_eq rfl) (by decide) (by decide) rfl rfl at_228 rfl fun T h1204 v1205 A Q1206 => ?_
     obtain ⟨rfl, eh⟩ := Q1206
     rw [eh] at A
     refine Wp.stk (st' := [(.int (0 : Int32)), (.long (0 : Int64)), (.ref b2)]) rfl ?_
     refine s_i2l (pc' := 232) (z := (0 : Int64)) A at_231 rfl (by decide) ?_
     refine s_ladd (pc' := 233) (z := (0 : Int64)) A at_232 rfl (by decide) ?_
     refine s_virtual (pc' := 236) (y := y6_remove) (argsL := [(.long (0 : Int64))]) (rest := []) (z := y6_remove) A E1196 (bo_remove24 l Z a0 hw n0 h1193 A.size b2 r11 (na + (1 : Int32)) ⟨E1196, F1197, F1198, F1199, V1200, ne1201, ge1202, ge1203⟩ zna) (w32 hw) (w33 hw) (nf_same (C := "") (w35 hw)) (w35 hw) (w34 hw) (w3 hw) (w36 hw) (by decide) pd__J_V rfl (W := 0) (by decide) (by decide) (Nat.le_of_eq rfl) (by decide) (by decide) rfl rfl at_233 rfl fun T h1209 v1210 A Q1211 => ?_
     obtain ⟨rfl, K1207, H1208⟩ := Q1211
     obtain ⟨E1212, F1213, F1214, F1215, V1216, ne1217, ge1218, ge1219⟩ := H1208
     refine Wp.stk (st' := []) rfl ?_
     refine s_iload (pc' := 238) A at_236 rfl rfl ?_
     refine s_iload (pc' := 240) A at_238 rfl rfl ?_
     refine s_iconst (pc' := 241) (z := (0 : Int32)) A at_240 rfl (by decide) ?_
     refine s_static (pc' := 244) (y := y1_removed) (argsL := [(.int (5 : Int32)), (.int (3 : Int32)), (.int (0 : Int32))]) (rest := []) A (rmd l Z a0 hw n0 h1209 A.size (5 : Int32) (3 : Int32) (0 : Int32) (1 : Int32) (by decide)) (w37 hw) (w38 hw) (w30 hw) (w39 hw) (by decide) pd__III_Z rfl (W := 0) (by decide) (by decide) (Nat.le_of_eq rfl) (by decide) (by decide) rfl rfl at_241 rfl fun T h1220 v1221 A Q1222 => ?_
     obtain ⟨rfl, eh⟩ := Q1222
     rw [eh] at A
     refine Wp.stk (st' := [(.int (1 : Int32))]) rfl ?_
     refine s_istore (pc' := 246) (Ls' := #[iv q0, iv q1, iv q2, iv q3, iv q4, iv q5, iv na, iv nb, iv nc, iv nx, iv 3, iv 0, iv 5, rv b2, iv 1, jv 0, S2, jv 0, S2, jv 1, S2, jv 2, S2, iv 1, U0, U0, U0, U0]) A at_244 rfl rfl ?_
     refine s_iload (pc' := 248) A at_246 rfl rfl ?_
     refine s_iload (pc' := 250) A at_248 rfl rfl ?_
     refine s_iconst (pc' := 251) (z := (1 : Int32)) A at_250 rfl (by decide) ?_
     refine s_static (pc' := 254) (y := y1_removed) (argsL := [(.int (5 : Int32)), (.int (3 : Int32)), (.int (1 : Int32))]) (rest := []) A (rmd l Z a0 hw n0 h1209 A.size (5 : Int32) (3 : Int32) (1 : Int32) (1 : Int32) (by decide)) (w37 hw) (w38 hw) (w30 hw) (w39 hw) (by decide) pd__III_Z rfl (W := 0) (by decide) (by decide) (Nat.le_of_eq rfl) (by decide) (by decide) rfl rfl at_251 rfl fun T h1223 v1224 A Q1225 => ?_
     obtain ⟨rfl, eh⟩ := Q1225
     rw [eh] at A
     refine Wp.stk (st' := [(.int (1 : Int32))]) rfl ?_
     refine s_istore (pc' := 256) (Ls' := #[iv q0, iv q1, iv q2, iv q3, iv q4, iv q5, iv na, iv nb, iv nc, iv nx, iv 3, iv 0, iv 5, rv b2, iv 1, jv 0, S2, jv 0, S2, jv 1, S2, jv 2, S2, iv 1, iv 1, U0, U0, U0]) A at_254 rfl rfl ?_
     refine s_iload (pc' := 258) A at_256 rfl rfl ?_
     refine s_iload (pc' := 260) A at_258 rfl rfl ?_
     refine s_iconst (pc' := 261) (z := (2 : Int32)) A at_260 rfl (by decide) ?_
     refine s_static (pc' := 264) (y := y1_removed) (argsL := [(.int (5 : Int32)), (.int (3 : Int32)), (.int (2 : Int32))]) (rest := []) A (rmd l Z a0 hw n0 h1209 A.size (5 : Int32) (3 : Int32) (2 : Int32) (1 : Int32) (by decide)) (w37 hw) (w38 hw) (w30 hw) (w39 hw) (by decide) pd__III_Z rfl (W := 0) (by decide) (by decide) (Nat.le_of_eq rfl) (by decide) (by decide) rfl rfl at_261 rfl fun T h1226 v1227 A Q1228 => ?_
     obtain ⟨rfl, eh⟩ := Q1228
     rw [eh] at A
     refine Wp.stk (st' := [(.int (1 : Int32))]) rfl ?_
     refine s_istore (pc' := 266) (Ls' := #[iv q0, iv q1, iv q2, iv q3, iv q4, iv q5, iv na, iv nb, iv nc, iv nx, iv 3, iv 0, iv 5, rv b2, iv 1, jv 0, S2, jv 0, S2, jv 1, S2, jv 2, S2, iv 1, iv 1, iv 1, U0, U0]) A at_264 rfl rfl ?_
     refine s_aload (pc' := 268) A at_266 rfl rfl rfl ?_
     refine s_virtual (pc' := 271) (y := y3_isEmpty) (argsL := []) (rest := []) (z := y3_isEmpty) A E1212 (bo_isEmpty22 l Z a0 hw n0 h1209 A.size b2 r11 [.int (0 : Int32), .int (0 : Int32), .int (0 : Int32), .int (0 : Int32)] ⟨E1212, F1213, F1214, F1215, V1216, ne1217, ge1218, ge1219⟩) (w13 hw) (w14 hw) (nf_same (C := "") (w16 hw)) (w16 hw) (w15 hw) (w3 hw) (w17 hw) (by decide) pd___Z rfl (W := 0) (by decide) (by decide) (Nat.le_of_eq rfl) (by decide) (by decide) rfl rfl at_268 rfl fun T h1231 v1232 A Q1233 => ?_
     obtain ⟨rfl, K1229, H1230⟩ := Q1233
     obtain ⟨E1234, F1235, F1236, F1237, V1238, ne1239, ge1240, ge1241⟩ := H1230
     refine Wp.stk (st' := [(.int (1 : Int32))]) rfl ?_
     refine s_istore (pc' := 273) (Ls' := #[iv q0, iv q1, iv q2, iv q3, iv q4, iv q5, iv na, iv nb, iv nc, iv nx, iv 3, iv 0, iv 5, rv b2, iv 1, jv 0, S2, jv 0, S2, jv 1, S2, jv 2, S2, iv 1, iv 1, iv 1, iv 1, U0]) A at_271 rfl rfl ?_
     refine s_iload (pc' := 275) A at_273 rfl rfl ?_
     refine s_ifN (pc' := 278) A at_275 rfl (by decide) ?_
     refine s_iload (pc' := 280) A at_278 rfl rfl ?_
     refine s_ifN (pc' := 283) A at_280 rfl (by decide) ?_
     refine s_iload (pc' := 285) A at_283 rfl rfl ?_
     refine s_ifN (pc' := 288) A at_285 rfl (by decide) ?_
     refine s_iload (pc' := 290) A at_288 rfl rfl ?_
     refine s_ifN (pc' := 293) A at_290 rfl (by decide) ?_
     refine s_iload (pc' := 295) A at_293 rfl rfl ?_
     refine s_ifN (pc' := 298) A at_295 rfl (by decide) ?_
     refine s_iconst (pc' := 299) (z := (1 : Int32)) A at_298 rfl (by decide) ?_
     refine s_goto (pc' := 303) A at_299 (by decide) (by decide) ?_
     exact r_bool A rfl (by decide) at_303 (by decide) (by decide) (rfl)
  ·
   refine s_iload (pc' := 55) A at_53 rfl rfl ?_
   refine s_iconst (pc' := 56) (z := (1 : Int32)) A at_55 rfl (by decide) ?_
   refine s_icmpN (pc' := 59) A at_56 rfl (by decide) ?_
   refine s_aload (pc' := 61) A at_59 rfl rfl rfl ?_
   refine s_iload (pc' := 63) A at_61 rfl rfl ?_
   refine s_virtual (pc' := 66) (y := y4_add) (argsL := [(.int nx)]) (rest := []) (z := y4_add) A E19 (bo_add3 l Z a0 hw n0 h15 A.size b2 r11 (0 : Int32) (0 : Int32) (0 : Int32) (0 : Int32) nx ⟨E19, F20, F21, F22, V23, ne24, ge25, ge26⟩) (w22 hw) (w23 hw) (nf_same (C := "") (w25 hw)) (w25 hw) (w24 hw) (w3 hw) (w26 hw) (by decide) pd__I_J rfl (W := 0) (by decide) (by decide) (Nat.le_of_eq rfl) (by decide) (by decide) rfl rfl at_63 rfl fun T h1244 v1245 A Q1246 => ?_
   obtain ⟨rfl, K1242, H1243⟩ := Q1246
   obtain ⟨E1247, F1248, F1249, F1250, V1251, ne1252, ge1253, ge1254⟩ := H1243
   refine Wp.stk (st' := [(.long (0 : Int64))]) rfl ?_
   refine s_pop2L (pc' := 67) A at_66 rfl ?_
   refine s_aload (pc' := 69) A at_67 rfl rfl rfl ?_
   refine s_lconst (pc' := 70) (z := (0 : Int64)) A at_69 rfl (by decide) ?_
   refine s_virtual (pc' := 73) (y := y6_remove) (argsL := [(.long (0 : Int64))]) (rest := []) (z := y6_remove) A E1247 (bo_remove25 l Z a0 hw n0 h1244 A.size b2 r11 (nx + (1 : Int32)) ⟨E1247, F1248, F1249, F1250, V1251, ne1252, ge1253, ge1254⟩ znx) (w32 hw) (w33 hw) (nf_same (C := "") (w35 hw)) (w35 hw) (w34 hw) (w3 hw) (w36 hw) (by decide) pd__J_V rfl (W := 0) (by decide) (by decide) (Nat.le_of_eq rfl) (by decide) (by decide) rfl rfl at_70 rfl fun T h1257 v1258 A Q1259 => ?_
   obtain ⟨rfl, K1255, H1256⟩ := Q1259
   obtain ⟨E1260, F1261, F1262, F1263, V1264, ne1265, ge1266, ge1267⟩ := H1256
   refine Wp.stk (st' := []) rfl ?_
   refine s_iload (pc' := 75) A at_73 rfl rfl ?_
   refine s_iconst (pc' := 76) (z := (2 : Int32)) A at_75 rfl (by decide) ?_
   refine s_icmpY (pc' := 93) A at_76 (by decide) (by decide) (by decide) ?_
   refine s_aload (pc' := 95) A at_93 rfl rfl rfl ?_
   refine s_virtual (pc' := 98) (y := y3_isEmpty) (argsL := []) (rest := []) (z := y3_isEmpty) A E1260 (bo_isEmpty26 l Z a0 hw n0 h1257 A.size b2 r11 [.int (0 : Int32), .int (0 : Int32), .int (0 : Int32), .int (0 : Int32)] ⟨E1260, F1261, F1262, F1263, V1264, ne1265, ge1266, ge1267⟩) (w13 hw) (w14 hw) (nf_same (C := "") (w16 hw)) (w16 hw) (w15 hw) (w3 hw) (w17 hw) (by decide) pd___Z rfl (W := 0) (by decide) (by decide) (Nat.le_of_eq rfl) (by decide) (by decide) rfl rfl at_95 rfl fun T h1270 v1271 A Q1272 => ?_
   obtain ⟨rfl, K1268, H1269⟩ := Q1272
   obtain ⟨E1273, F1274, F1275, F1276, V1277, ne1278, ge1279, ge1280⟩ := H1269
   refine Wp.stk (st' := [(.int (1 : Int32))]) rfl ?_
   refine s_istore (pc' := 100) (Ls' := #[iv q0, iv q1, iv q2, iv q3, iv q4, iv q5, iv na, iv nb, iv nc, iv nx, iv kk, iv 1, iv pp, rv b2, iv 1, U0, U0, U0, U0, U0, U0, U0, U0, U0, U0, U0, U0, U0]) A at_98 rfl rfl ?_
   refine s_iload (pc' := 102) A at_100 rfl rfl ?_
   refine s_i2l (pc' := 103) (z := (1 : Int64)) A at_102 rfl (by decide) ?_
   refine s_lstore (pc' := 105) (Ls' := #[iv q0, iv q1, iv q2, iv q3, iv q4, iv q5, iv na, iv nb, iv nc, iv nx, iv kk, iv 1, iv pp, rv b2, iv 1, jv 1, S2, U0, U0, U0, U0, U0, U0, U0, U0, U0, U0, U0]) A at_103 rfl rfl ?_
   refine s_aload (pc' := 107) A at_105 rfl rfl rfl ?_
   refine s_iload (pc' := 109) A at_107 rfl rfl ?_
   refine s_virtual (pc' := 112) (y := y4_add) (argsL := [(.int na)]) (rest := []) (z := y4_add) A E1273 (bo_add27 l Z a0 hw n0 h1270 A.size b2 r11 (0 : Int32) (0 : Int32) (0 : Int32) (0 : Int32) na ⟨E1273, F1274, F1275, F1276, V1277, ne1278, ge1279, ge1280⟩) (w22 hw) (w23 hw) (nf_same (C := "") (w25 hw)) (w25 hw) (w24 hw) (w3 hw) (w26 hw) (by decide) pd__I_J rfl (W := 0) (by decide) (by decide) (Nat.le_of_eq rfl) (by decide) (by decide) rfl rfl at_109 rfl fun T h1283 v1284 A Q1285 => ?_
   obtain ⟨rfl, K1281, H1282⟩ := Q1285
   obtain ⟨E1286, F1287, F1288, F1289, V1290, ne1291, ge1292, ge1293⟩ := H1282
   refine Wp.stk (st' := [(.long (1 : Int64))]) rfl ?_
   refine s_lstore (pc' := 114) (Ls' := #[iv q0, iv q1, iv q2, iv q3, iv q4, iv q5, iv na, iv nb, iv nc, iv nx, iv kk, iv 1, iv pp, rv b2, iv 1, jv 1, S2, jv 1, S2, U0, U0, U0, U0, U0, U0, U0, U0, U0]) A at_112 rfl rfl ?_
   refine s_aload (pc' := 116) A at_114 rfl rfl rfl ?_
   refine s_iload (pc' := 118) A at_116 rfl rfl ?_
   refine s_virtual (pc' := 121) (y := y4_add) (argsL := [(.int nb)]) (rest := []) (z := y4_add) A E1286 (bo_add28 l Z a0 hw n0 h1283 A.size b2 r11 (0 : Int32) (na + (1 : Int32)) (0 : Int32) (0 : Int32) nb ⟨E1286, F1287, F1288, F1289, V1290, ne1291, ge1292, ge1293⟩) (w22 hw) (w23 hw) (nf_same (C := "") (w25 hw)) (w25 hw) (w24 hw) (w3 hw) (w26 hw) (by decide) pd__I_J rfl (W := 0) (by decide) (by decide) (Nat.le_of_eq rfl) (by decide) (by decide) rfl rfl at_118 rfl fun T h1296 v1297 A Q1298 => ?_
   obtain ⟨rfl, K1294, H1295⟩ := Q1298
   obtain ⟨E1299, F1300, F1301, F1302, V1303, ne1304, ge1305, ge1306⟩ := H1295
   refine Wp.stk (st' := [(.long (2 : Int64))]) rfl ?_
   refine s_lstore (pc' := 123) (Ls' := #[iv q0, iv q1, iv q2, iv q3, iv q4, iv q5, iv na, iv nb, iv nc, iv nx, iv kk, iv 1, iv pp, rv b2, iv 1, jv 1, S2, jv 1, S2, jv 2, S2, U0, U0, U0, U0, U0, U0, U0]) A at_121 rfl rfl ?_
   refine s_aload (pc' := 125) A at_123 rfl rfl rfl ?_
   refine s_iload (pc' := 127) A at_125 rfl rfl ?_
   refine s_virtual (pc' := 130) (y := y4_add) (argsL := [(.int nc)]) (rest := []) (z := y4_add) A E1299 (bo_add29 l Z a0 hw n0 h1296 A.size b2 r11 (0 : Int32) (na + (1 : Int32)) (nb + (1 : Int32)) (0 : Int32) nc ⟨E1299, F1300, F1301, F1302, V1303, ne1304, ge1305, ge1306⟩) (w22 hw) (w23 hw) (nf_same (C := "") (w25 hw)) (w25 hw) (w24 hw) (w3 hw) (w26 hw) (by decide) pd__I_J rfl (W := 0) (by decide) (by decide) (Nat.le_of_eq rfl) (by decide) (by decide) rfl rfl at_127 rfl fun T h1309 v1310 A Q1311 => ?_
   obtain ⟨rfl, K1307, H1308⟩ := Q1311
   obtain ⟨E1312, F1313, F1314, F1315, V1316, ne1317, ge1318, ge1319⟩ := H1308
   refine Wp.stk (st' := [(.long (3 : Int64))]) rfl ?_
   refine s_lstore (pc' := 132) (Ls' := #[iv q0, iv q1, iv q2, iv q3, iv q4, iv q5, iv na, iv nb, iv nc, iv nx, iv kk, iv 1, iv pp, rv b2, iv 1, jv 1, S2, jv 1, S2, jv 2, S2, jv 3, S2, U0, U0, U0, U0, U0]) A at_130 rfl rfl ?_
   refine s_iload (pc' := 134) A at_132 rfl rfl ?_
   refine s_ifN (pc' := 137) A at_134 rfl (by decide) ?_
   refine s_lload (pc' := 139) A at_137 rfl rfl ?_
   refine s_lload (pc' := 141) A at_139 rfl rfl ?_
   refine s_lcmp (pc' := 142) A at_141 rfl ?_
   refine s_ifN (pc' := 145) A at_142 rfl (by decide) ?_
   refine s_lload (pc' := 147) A at_145 rfl rfl ?_
   refine s_lload (pc' := 149) A at_147 rfl rfl ?_
   refine s_lconst (pc' := 150) (z := (1 : Int64)) A at_149 rfl (by decide) ?_
   refine s_ladd (pc' := 151) (z := (2 : Int64)) A at_150 rfl (by decide) ?_
   refine s_lcmp (pc' := 152) A at_151 rfl ?_
   refine s_ifN (pc' := 155) A at_152 rfl (by decide) ?_
   refine s_lload (pc' := 157) A at_155 rfl rfl ?_
   refine s_lload (pc' := 159) A at_157 rfl rfl ?_
   refine s_ldc2Long (pc' := 162) A at_159 rfl (w27 hw) ?_
   refine s_ladd (pc' := 163) (z := (3 : Int64)) A at_162 rfl (by decide) ?_
   refine s_lcmp (pc' := 164) A at_163 rfl ?_
   refine s_ifN (pc' := 167) A at_164 rfl (by decide) ?_
   refine s_iconst (pc' := 168) (z := (1 : Int32)) A at_167 rfl (by decide) ?_
   refine s_goto (pc' := 172) A at_168 (by decide) (by decide) ?_
   refine s_istore (pc' := 174) (Ls' := #[iv q0, iv q1, iv q2, iv q3, iv q4, iv q5, iv na, iv nb, iv nc, iv nx, iv kk, iv 1, iv pp, rv b2, iv 1, jv 1, S2, jv 1, S2, jv 2, S2, jv 3, S2, U0, U0, U0, U0, U0]) A at_172 rfl rfl ?_
   rcases ckk with rfl | rfl | rfl | rfl
   ·
    refine s_iload (pc' := 176) A at_174 rfl rfl ?_
    refine s_ifY (pc' := 194) A at_176 (by decide) (by decide) (by decide) ?_
    refine s_iload (pc' := 196) A at_194 rfl rfl ?_
    refine s_iconst (pc' := 197) (z := (1 : Int32)) A at_196 rfl (by decide) ?_
    refine s_icmpY (pc' := 215) A at_197 (by decide) (by decide) (by decide) ?_
    refine s_iload (pc' := 217) A at_215 rfl rfl ?_
    refine s_iconst (pc' := 218) (z := (2 : Int32)) A at_217 rfl (by decide) ?_
    refine s_icmpY (pc' := 236) A at_218 (by decide) (by decide) (by decide) ?_
    refine s_iload (pc' := 238) A at_236 rfl rfl ?_
    refine s_iload (pc' := 240) A at_238 rfl rfl ?_
    refine s_iconst (pc' := 241) (z := (0 : Int32)) A at_240 rfl (by decide) ?_
    refine s_static (pc' := 244) (y := y1_removed) (argsL := [(.int pp), (.int (0 : Int32)), (.int (0 : Int32))]) (rest := []) A (rmd l Z a0 hw n0 h1309 A.size pp (0 : Int32) (0 : Int32) (0 : Int32) (by simp [rmf])) (w37 hw) (w38 hw) (w30 hw) (w39 hw) (by decide) pd__III_Z rfl (W := 0) (by decide) (by decide) (Nat.le_of_eq rfl) (by decide) (by decide) rfl rfl at_241 rfl fun T h1320 v1321 A Q1322 => ?_
    obtain ⟨rfl, eh⟩ := Q1322
    rw [eh] at A
    refine Wp.stk (st' := [(.int (0 : Int32))]) rfl ?_
    refine s_istore (pc' := 246) (Ls' := #[iv q0, iv q1, iv q2, iv q3, iv q4, iv q5, iv na, iv nb, iv nc, iv nx, iv 0, iv 1, iv pp, rv b2, iv 1, jv 1, S2, jv 1, S2, jv 2, S2, jv 3, S2, iv 0, U0, U0, U0, U0]) A at_244 rfl rfl ?_
    refine s_iload (pc' := 248) A at_246 rfl rfl ?_
    refine s_iload (pc' := 250) A at_248 rfl rfl ?_
    refine s_iconst (pc' := 251) (z := (1 : Int32)) A at_250 rfl (by decide) ?_
    refine s_static (pc' := 254) (y := y1_removed) (argsL := [(.int pp), (.int (0 : Int32)), (.int (1 : Int32))]) (rest := []) A (rmd l Z a0 hw n0 h1309 A.size pp (0 : Int32) (1 : Int32) (0 : Int32) (by simp [rmf])) (w37 hw) (w38 hw) (w30 hw) (w39 hw) (by decide) pd__III_Z rfl (W := 0) (by decide) (by decide) (Nat.le_of_eq rfl) (by decide) (by decide) rfl rfl at_251 rfl fun T h1323 v1324 A Q1325 => ?_
    obtain ⟨rfl, eh⟩ := Q1325
    rw [eh] at A
    refine Wp.stk (st' := [(.int (0 : Int32))]) rfl ?_
    refine s_istore (pc' := 256) (Ls' := #[iv q0, iv q1, iv q2, iv q3, iv q4, iv q5, iv na, iv nb, iv nc, iv nx, iv 0, iv 1, iv pp, rv b2, iv 1, jv 1, S2, jv 1, S2, jv 2, S2, jv 3, S2, iv 0, iv 0, U0, U0, U0]) A at_254 rfl rfl ?_
    refine s_iload (pc' := 258) A at_256 rfl rfl ?_
    refine s_iload (pc' := 260) A at_258 rfl rfl ?_
    refine s_iconst (pc' := 261) (z := (2 : Int32)) A at_260 rfl (by decide) ?_
    refine s_static (pc' := 264) (y := y1_removed) (argsL := [(.int pp), (.int (0 : Int32)), (.int (2 : Int32))]) (rest := []) A (rmd l Z a0 hw n0 h1309 A.size pp (0 : Int32) (2 : Int32) (0 : Int32) (by simp [rmf])) (w37 hw) (w38 hw) (w30 hw) (w39 hw) (by decide) pd__III_Z rfl (W := 0) (by decide) (by decide) (Nat.le_of_eq rfl) (by decide) (by decide) rfl rfl at_261 rfl fun T h1326 v1327 A Q1328 => ?_
    obtain ⟨rfl, eh⟩ := Q1328
    rw [eh] at A
    refine Wp.stk (st' := [(.int (0 : Int32))]) rfl ?_
    refine s_istore (pc' := 266) (Ls' := #[iv q0, iv q1, iv q2, iv q3, iv q4, iv q5, iv na, iv nb, iv nc, iv nx, iv 0, iv 1, iv pp, rv b2, iv 1, jv 1, S2, jv 1, S2, jv 2, S2, jv 3, S2, iv 0, iv 0, iv 0, U0, U0]) A at_264 rfl rfl ?_
    refine s_aload (pc' := 268) A at_266 rfl rfl rfl ?_
    refine s_virtual (pc' := 271) (y := y3_isEmpty) (argsL := []) (rest := []) (z := y3_isEmpty) A E1312 (bo_isEmpty30 l Z a0 hw n0 h1309 A.size b2 r11 [.int (0 : Int32), .int (na + (1 : Int32)), .int (nb + (1 : Int32)), .int (nc + (1 : Int32))] ⟨E1312, F1313, F1314, F1315, V1316, ne1317, ge1318, ge1319⟩) (w13 hw) (w14 hw) (nf_same (C := "") (w16 hw)) (w16 hw) (w15 hw) (w3 hw) (w17 hw) (by decide) pd___Z rfl (W := 0) (by decide) (by decide) (Nat.le_of_eq rfl) (by decide) (by decide) rfl rfl at_268 rfl fun T h1331 v1332 A Q1333 => ?_
    obtain ⟨rfl, K1329, H1330⟩ := Q1333
    obtain ⟨E1334, F1335, F1336, F1337, V1338, ne1339, ge1340, ge1341⟩ := H1330
    refine Wp.stk (st' := [(.int (0 : Int32))]) rfl ?_
    refine s_istore (pc' := 273) (Ls' := #[iv q0, iv q1, iv q2, iv q3, iv q4, iv q5, iv na, iv nb, iv nc, iv nx, iv 0, iv 1, iv pp, rv b2, iv 1, jv 1, S2, jv 1, S2, jv 2, S2, jv 3, S2, iv 0, iv 0, iv 0, iv 0, U0]) A at_271 rfl rfl ?_
    refine s_iload (pc' := 275) A at_273 rfl rfl ?_
    refine s_ifY (pc' := 304) A at_275 (by decide) (by decide) (by decide) ?_
    refine s_iload (pc' := 306) A at_304 rfl rfl ?_
    refine s_ifN (pc' := 309) A at_306 rfl (by decide) ?_
    refine s_iload (pc' := 311) A at_309 rfl rfl ?_
    refine s_istore (pc' := 313) (Ls' := #[iv q0, iv q1, iv q2, iv q3, iv q4, iv q5, iv na, iv nb, iv nc, iv nx, iv 0, iv 1, iv pp, rv b2, iv 1, jv 1, S2, jv 1, S2, jv 2, S2, jv 3, S2, iv 0, iv 0, iv 0, iv 0, iv na]) A at_311 rfl rfl ?_
    refine s_goto (pc' := 332) A at_313 (by decide) (by decide) ?_
    refine s_iload (pc' := 334) A at_332 rfl rfl ?_
    refine s_ifN (pc' := 337) A at_334 rfl (by decide) ?_
    refine s_iload (pc' := 339) A at_337 rfl rfl ?_
    refine s_ifN (pc' := 342) A at_339 rfl (by decide) ?_
    refine s_aload (pc' := 344) A at_342 rfl rfl rfl ?_
    refine s_virtual (pc' := 347) (y := y5_first) (argsL := []) (rest := []) (z := y5_first) A E1334 (bo_first31 l Z a0 hw n0 h1331 A.size b2 r11 (0 : Int32) (na + (1 : Int32)) (nb + (1 : Int32)) (nc + (1 : Int32)) ⟨E1334, F1335, F1336, F1337, V1338, ne1339, ge1340, ge1341⟩) (w40 hw) (w41 hw) (nf_same (C := "") (w43 hw)) (w43 hw) (w42 hw) (w3 hw) (w44 hw) (by decide) pd___I rfl (W := 0) (by decide) (by decide) (Nat.le_of_eq rfl) (by decide) (by decide) rfl rfl at_344 rfl fun T h1344 v1345 A Q1346 => ?_
    obtain ⟨rfl, K1342, H1343⟩ := Q1346
    obtain ⟨E1347, F1348, F1349, F1350, V1351, ne1352, ge1353, ge1354⟩ := H1343
    refine Wp.stk (st' := [(.int ((na + (1 : Int32)) - (1 : Int32)))]) rfl ?_
    refine s_iload (pc' := 349) A at_347 rfl rfl ?_
    refine s_icmpN (pc' := 352) A at_349 rfl (teq (show ((na + (1 : Int32)) - (1 : Int32)) = na from (by have _ := rng32 na; have _ : (1 : Int32).toInt = 1 := (by decide); have _ := rng32 (na + (1 : Int32)); have _ := c_iadd na (1 : Int32); have _ := rng32 ((na + (1 : Int32)) - (1 : Int32)); have _ := c_isub (na + (1 : Int32)) (1 : Int32); apply Int32.toInt_inj.mp; omega))).2 ?_
    refine s_iconst (pc' := 353) (z := (1 : Int32)) A at_352 rfl (by decide) ?_
    refine s_goto (pc' := 357) A at_353 (by decide) (by decide) ?_
    exact r_bool A rfl (by decide) at_357 (by decide) (by decide) (rfl)
   ·
    rcases cpp with rfl | rfl | rfl | rfl | rfl | rfl
    ·
     refine s_iload (pc' := 176) A at_174 rfl rfl ?_
     refine s_ifN (pc' := 179) A at_176 rfl (by decide) ?_
     refine s_aload (pc' := 181) A at_179 rfl rfl rfl ?_
     refine s_lload (pc' := 183) A at_181 rfl rfl ?_
     refine s_iload (pc' := 185) A at_183 rfl rfl ?_
     refine s_iconst (pc' := 186) (z := (0 : Int32)) A at_185 rfl (by decide) ?_
     refine s_static (pc' := 189) (y := y0_idx) (argsL := [(.int (0 : Int32)), (.int (0 : Int32))]) (rest := [(.long (1 : Int64)), (.ref b2)]) A (idx l Z a0 hw n0 h1309 A.size (0 : Int32) (0 : Int32) (0 : Int32) (by decide)) (w28 hw) (w29 hw) (w30 hw) (w31 hw) (by decide) pd__II_I rfl (W := 3) (by decide) (by decide) (Nat.le_of_eq rfl) (by decide) (by decide) rfl rfl at_186 rfl fun T h1355 v1356 A Q1357 => ?_
     obtain ⟨rfl, eh⟩ := Q1357
     rw [eh] at A
     refine Wp.stk (st' := [(.int (0 : Int32)), (.long (1 : Int64)), (.ref b2)]) rfl ?_
     refine s_i2l (pc' := 190) (z := (0 : Int64)) A at_189 rfl (by decide) ?_
     refine s_ladd (pc' := 191) (z := (1 : Int64)) A at_190 rfl (by decide) ?_
     refine s_virtual (pc' := 194) (y := y6_remove) (argsL := [(.long (1 : Int64))]) (rest := []) (z := y6_remove) A E1312 (bo_remove32 l Z a0 hw n0 h1309 A.size b2 r11 (na + (1 : Int32)) (nb + (1 : Int32)) (nc + (1 : Int32)) ⟨E1312, F1313, F1314, F1315, V1316, ne1317, ge1318, ge1319⟩ zna znb znc) (w32 hw) (w33 hw) (nf_same (C := "") (w35 hw)) (w35 hw) (w34 hw) (w3 hw) (w36 hw) (by decide) pd__J_V rfl (W := 0) (by decide) (by decide) (Nat.le_of_eq rfl) (by decide) (by decide) rfl rfl at_191 rfl fun T h1360 v1361 A Q1362 => ?_
     obtain ⟨rfl, K1358, H1359⟩ := Q1362
     obtain ⟨E1363, F1364, F1365, F1366, V1367, ne1368, ge1369, ge1370⟩ := H1359
     refine Wp.stk (st' := []) rfl ?_
     refine s_iload (pc' := 196) A at_194 rfl rfl ?_
     refine s_iconst (pc' := 197) (z := (1 : Int32)) A at_196 rfl (by decide) ?_
     refine s_icmpY (pc' := 215) A at_197 (by decide) (by decide) (by decide) ?_
     refine s_iload (pc' := 217) A at_215 rfl rfl ?_
     refine s_iconst (pc' := 218) (z := (2 : Int32)) A at_217 rfl (by decide) ?_
     refine s_icmpY (pc' := 236) A at_218 (by decide) (by decide) (by decide) ?_
     refine s_iload (pc' := 238) A at_236 rfl rfl ?_
     refine s_iload (pc' := 240) A at_238 rfl rfl ?_
     refine s_iconst (pc' := 241) (z := (0 : Int32)) A at_240 rfl (by decide) ?_
     refine s_static (pc' := 244) (y := y1_removed) (argsL := [(.int (0 : Int32)), (.int (1 : Int32)), (.int (0 : Int32))]) (rest := []) A (rmd l Z a0 hw n0 h1360 A.size (0 : Int32) (1 : Int32) (0 : Int32) (1 : Int32) (by decide)) (w37 hw) (w38 hw) (w30 hw) (w39 hw) (by decide) pd__III_Z rfl (W := 0) (by decide) (by decide) (Nat.le_of_eq rfl) (by decide) (by decide) rfl rfl at_241 rfl fun T h1371 v1372 A Q1373 => ?_
     obtain ⟨rfl, eh⟩ := Q1373
     rw [eh] at A
     refine Wp.stk (st' := [(.int (1 : Int32))]) rfl ?_
     refine s_istore (pc' := 246) (Ls' := #[iv q0, iv q1, iv q2, iv q3, iv q4, iv q5, iv na, iv nb, iv nc, iv nx, iv 1, iv 1, iv 0, rv b2, iv 1, jv 1, S2, jv 1, S2, jv 2, S2, jv 3, S2, iv 1, U0, U0, U0, U0]) A at_244 rfl rfl ?_
     refine s_iload (pc' := 248) A at_246 rfl rfl ?_
     refine s_iload (pc' := 250) A at_248 rfl rfl ?_
     refine s_iconst (pc' := 251) (z := (1 : Int32)) A at_250 rfl (by decide) ?_
     refine s_static (pc' := 254) (y := y1_removed) (argsL := [(.int (0 : Int32)), (.int (1 : Int32)), (.int (1 : Int32))]) (rest := []) A (rmd l Z a0 hw n0 h1360 A.size (0 : Int32) (1 : Int32) (1 : Int32) (0 : Int32) (by decide)) (w37 hw) (w38 hw) (w30 hw) (w39 hw) (by decide) pd__III_Z rfl (W := 0) (by decide) (by decide) (Nat.le_of_eq rfl) (by decide) (by decide) rfl rfl at_251 rfl fun T h1374 v1375 A Q1376 => ?_
     obtain ⟨rfl, eh⟩ := Q1376
     rw [eh] at A
     refine Wp.stk (st' := [(.int (0 : Int32))]) rfl ?_
     refine s_istore (pc' := 256) (Ls' := #[iv q0, iv q1, iv q2, iv q3, iv q4, iv q5, iv na, iv nb, iv nc, iv nx, iv 1, iv 1, iv 0, rv b2, iv 1, jv 1, S2, jv 1, S2, jv 2, S2, jv 3, S2, iv 1, iv 0, U0, U0, U0]) A at_254 rfl rfl ?_
     refine s_iload (pc' := 258) A at_256 rfl rfl ?_
     refine s_iload (pc' := 260) A at_258 rfl rfl ?_
     refine s_iconst (pc' := 261) (z := (2 : Int32)) A at_260 rfl (by decide) ?_
     refine s_static (pc' := 264) (y := y1_removed) (argsL := [(.int (0 : Int32)), (.int (1 : Int32)), (.int (2 : Int32))]) (rest := []) A (rmd l Z a0 hw n0 h1360 A.size (0 : Int32) (1 : Int32) (2 : Int32) (0 : Int32) (by decide)) (w37 hw) (w38 hw) (w30 hw) (w39 hw) (by decide) pd__III_Z rfl (W := 0) (by decide) (by decide) (Nat.le_of_eq rfl) (by decide) (by decide) rfl rfl at_261 rfl fun T h1377 v1378 A Q1379 => ?_
     obtain ⟨rfl, eh⟩ := Q1379
     rw [eh] at A
     refine Wp.stk (st' := [(.int (0 : Int32))]) rfl ?_
     refine s_istore (pc' := 266) (Ls' := #[iv q0, iv q1, iv q2, iv q3, iv q4, iv q5, iv na, iv nb, iv nc, iv nx, iv 1, iv 1, iv 0, rv b2, iv 1, jv 1, S2, jv 1, S2, jv 2, S2, jv 3, S2, iv 1, iv 0, iv 0, U0, U0]) A at_264 rfl rfl ?_
     refine s_aload (pc' := 268) A at_266 rfl rfl rfl ?_
     refine s_virtual (pc' := 271) (y := y3_isEmpty) (argsL := []) (rest := []) (z := y3_isEmpty) A E1363 (bo_isEmpty33 l Z a0 hw n0 h1360 A.size b2 r11 [.int (0 : Int32), .int (0 : Int32), .int (nb + (1 : Int32)), .int (nc + (1 : Int32))] ⟨E1363, F1364, F1365, F1366, V1367, ne1368, ge1369, ge1370⟩) (w13 hw) (w14 hw) (nf_same (C := "") (w16 hw)) (w16 hw) (w15 hw) (w3 hw) (w17 hw) (by decide) pd___Z rfl (W := 0) (by decide) (by decide) (Nat.le_of_eq rfl) (by decide) (by decide) rfl rfl at_268 rfl fun T h1382 v1383 A Q1384 => ?_
     obtain ⟨rfl, K1380, H1381⟩ := Q1384
     obtain ⟨E1385, F1386, F1387, F1388, V1389, ne1390, ge1391, ge1392⟩ := H1381
     refine Wp.stk (st' := [(.int (0 : Int32))]) rfl ?_
     refine s_istore (pc' := 273) (Ls' := #[iv q0, iv q1, iv q2, iv q3, iv q4, iv q5, iv na, iv nb, iv nc, iv nx, iv 1, iv 1, iv 0, rv b2, iv 1, jv 1, S2, jv 1, S2, jv 2, S2, jv 3, S2, iv 1, iv 0, iv 0, iv 0, U0]) A at_271 rfl rfl ?_
     refine s_iload (pc' := 275) A at_273 rfl rfl ?_
     refine s_ifN (pc' := 278) A at_275 rfl (by decide) ?_
     refine s_iload (pc' := 280) A at_278 rfl rfl ?_
     refine s_ifY (pc' := 304) A at_280 (by decide) (by decide) (by decide) ?_
     refine s_iload (pc' := 306) A at_304 rfl rfl ?_
     refine s_ifY (pc' := 316) A at_306 (by decide) (by decide) (by decide) ?_
     refine s_iload (pc' := 318) A at_316 rfl rfl ?_
     refine s_ifN (pc' := 321) A at_318 rfl (by decide) ?_
     refine s_iload (pc' := 323) A at_321 rfl rfl ?_
     refine s_istore (pc' := 325) (Ls' := #[iv q0, iv q1, iv q2, iv q3, iv q4, iv q5, iv na, iv nb, iv nc, iv nx, iv 1, iv 1, iv 0, rv b2, iv 1, jv 1, S2, jv 1, S2, jv 2, S2, jv 3, S2, iv 1, iv 0, iv 0, iv 0, iv nb]) A at_323 rfl rfl ?_
     refine s_goto (pc' := 332) A at_325 (by decide) (by decide) ?_
     refine s_iload (pc' := 334) A at_332 rfl rfl ?_
     refine s_ifN (pc' := 337) A at_334 rfl (by decide) ?_
     refine s_iload (pc' := 339) A at_337 rfl rfl ?_
     refine s_ifN (pc' := 342) A at_339 rfl (by decide) ?_
     refine s_aload (pc' := 344) A at_342 rfl rfl rfl ?_
     refine s_virtual (pc' := 347) (y := y5_first) (argsL := []) (rest := []) (z := y5_first) A E1385 (bo_first34 l Z a0 hw n0 h1382 A.size b2 r11 (0 : Int32) (0 : Int32) (nb + (1 : Int32)) (nc + (1 : Int32)) ⟨E1385, F1386, F1387, F1388, V1389, ne1390, ge1391, ge1392⟩) (w40 hw) (w41 hw) (nf_same (C := "") (w43 hw)) (w43 hw) (w42 hw) (w3 hw) (w44 hw) (by decide) pd___I rfl (W := 0) (by decide) (by decide) (Nat.le_of_eq rfl) (by decide) (by decide) rfl rfl at_344 rfl fun T h1395 v1396 A Q1397 => ?_
     obtain ⟨rfl, K1393, H1394⟩ := Q1397
     obtain ⟨E1398, F1399, F1400, F1401, V1402, ne1403, ge1404, ge1405⟩ := H1394
     refine Wp.stk (st' := [(.int ((nb + (1 : Int32)) - (1 : Int32)))]) rfl ?_
     refine s_iload (pc' := 349) A at_347 rfl rfl ?_
     refine s_icmpN (pc' := 352) A at_349 rfl (teq (show ((nb + (1 : Int32)) - (1 : Int32)) = nb from (by have _ := rng32 nb; have _ : (1 : Int32).toInt = 1 := (by decide); have _ := rng32 (nb + (1 : Int32)); have _ := c_iadd nb (1 : Int32); have _ := rng32 ((nb + (1 : Int32)) - (1 : Int32)); have _ := c_isub (nb + (1 : Int32)) (1 : Int32); apply Int32.toInt_inj.mp; omega))).2 ?_
     refine s_iconst (pc' := 353) (z := (1 : Int32)) A at_352 rfl (by decide) ?_
     refine s_goto (pc' := 357) A at_353 (by decide) (by decide) ?_
     exact r_bool A rfl (by decide) at_357 (by decide) (by decide) (rfl)
    ·
     refine s_iload (pc' := 176) A at_174 rfl rfl ?_
     refine s_ifN (pc' := 179) A at_176 rfl (by decide) ?_
     refine s_aload (pc' := 181) A at_179 rfl rfl rfl ?_
     refine s_lload (pc' := 183) A at_181 rfl rfl ?_
     refine s_iload (pc' := 185) A at_183 rfl rfl ?_
     refine s_iconst (pc' := 186) (z := (0 : Int32)) A at_185 rfl (by decide) ?_
     refine s_static (pc' := 189) (y := y0_idx) (argsL := [(.int (1 : Int32)), (.int (0 : Int32))]) (rest := [(.long (1 : Int64)), (.ref b2)]) A (idx l Z a0 hw n0 h1309 A.size (1 : Int32) (0 : Int32) (0 : Int32) (by decide)) (w28 hw) (w29 hw) (w30 hw) (w31 hw) (by decide) pd__II_I rfl (W := 3) (by decide) (by decide) (Nat.le_of_eq rfl) (by decide) (by decide) rfl rfl at_186 rfl fun T h1406 v1407 A Q1408 => ?_
     obtain ⟨rfl, eh⟩ := Q1408
     rw [eh] at A
     refine Wp.stk (st' := [(.int (0 : Int32)), (.long (1 : Int64)), (.ref b2)]) rfl ?_
     refine s_i2l (pc' := 190) (z := (0 : Int64)) A at_189 rfl (by decide) ?_
     refine s_ladd (pc' := 191) (z := (1 : Int64)) A at_190 rfl (by decide) ?_
     refine s_virtual (pc' := 194) (y := y6_remove) (argsL := [(.long (1 : Int64))]) (rest := []) (z := y6_remove) A E1312 (bo_remove32 l Z a0 hw n0 h1309 A.size b2 r11 (na + (1 : Int32)) (nb + (1 : Int32)) (nc + (1 : Int32)) ⟨E1312, F1313, F1314, F1315, V1316, ne1317, ge1318, ge1319⟩ zna znb znc) (w32 hw) (w33 hw) (nf_same (C := "") (w35 hw)) (w35 hw) (w34 hw) (w3 hw) (w36 hw) (by decide) pd__J_V rfl (W := 0) (by decide) (by decide) (Nat.le_of_eq rfl) (by decide) (by decide) rfl rfl at_191 rfl fun T h1411 v1412 A Q1413 => ?_
     obtain ⟨rfl, K1409, H1410⟩ := Q1413
     obtain ⟨E1414, F1415, F1416, F1417, V1418, ne1419, ge1420, ge1421⟩ := H1410
     refine Wp.stk (st' := []) rfl ?_
     refine s_iload (pc' := 196) A at_194 rfl rfl ?_
     refine s_iconst (pc' := 197) (z := (1 : Int32)) A at_196 rfl (by decide) ?_
     refine s_icmpY (pc' := 215) A at_197 (by decide) (by decide) (by decide) ?_
     refine s_iload (pc' := 217) A at_215 rfl rfl ?_
     refine s_iconst (pc' := 218) (z := (2 : Int32)) A at_217 rfl (by decide) ?_
     refine s_icmpY (pc' := 236) A at_218 (by decide) (by decide) (by decide) ?_
     refine s_iload (pc' := 238) A at_236 rfl rfl ?_
     refine s_iload (pc' := 240) A at_238 rfl rfl ?_
     refine s_iconst (pc' := 241) (z := (0 : Int32)) A at_240 rfl (by decide) ?_
     refine s_static (pc' := 244) (y := y1_removed) (argsL := [(.int (1 : Int32)), (.int (1 : Int32)), (.int (0 : Int32))]) (rest := []) A (rmd l Z a0 hw n0 h1411 A.size (1 : Int32) (1 : Int32) (0 : Int32) (1 : Int32) (by decide)) (w37 hw) (w38 hw) (w30 hw) (w39 hw) (by decide) pd__III_Z rfl (W := 0) (by decide) (by decide) (Nat.le_of_eq rfl) (by decide) (by decide) rfl rfl at_241 rfl fun T h1422 v1423 A Q1424 => ?_
     obtain ⟨rfl, eh⟩ := Q1424
     rw [eh] at A
     refine Wp.stk (st' := [(.int (1 : Int32))]) rfl ?_
     refine s_istore (pc' := 246) (Ls' := #[iv q0, iv q1, iv q2, iv q3, iv q4, iv q5, iv na, iv nb, iv nc, iv nx, iv 1, iv 1, iv 1, rv b2, iv 1, jv 1, S2, jv 1, S2, jv 2, S2, jv 3, S2, iv 1, U0, U0, U0, U0]) A at_244 rfl rfl ?_
     refine s_iload (pc' := 248) A at_246 rfl rfl ?_
     refine s_iload (pc' := 250) A at_248 rfl rfl ?_
     refine s_iconst (pc' := 251) (z := (1 : Int32)) A at_250 rfl (by decide) ?_
     refine s_static (pc' := 254) (y := y1_removed) (argsL := [(.int (1 : Int32)), (.int (1 : Int32)), (.int (1 : Int32))]) (rest := []) A (rmd l Z a0 hw n0 h1411 A.size (1 : Int32) (1 : Int32) (1 : Int32) (0 : Int32) (by decide)) (w37 hw) (w38 hw) (w30 hw) (w39 hw) (by decide) pd__III_Z rfl (W := 0) (by decide) (by decide) (Nat.le_of_eq rfl) (by decide) (by decide) rfl rfl at_251 rfl fun T h1425 v1426 A Q1427 => ?_
     obtain ⟨rfl, eh⟩ := Q1427
     rw [eh] at A
     refine Wp.stk (st' := [(.int (0 : Int32))]) rfl ?_
     refine s_istore (pc' := 256) (Ls' := #[iv q0, iv q1, iv q2, iv q3, iv q4, iv q5, iv na, iv nb, iv nc, iv nx, iv 1, iv 1, iv 1, rv b2, iv 1, jv 1, S2, jv 1, S2, jv 2, S2, jv 3, S2, iv 1, iv 0, U0, U0, U0]) A at_254 rfl rfl ?_
     refine s_iload (pc' := 258) A at_256 rfl rfl ?_
     refine s_iload (pc' := 260) A at_258 rfl rfl ?_
     refine s_iconst (pc' := 261) (z := (2 : Int32)) A at_260 rfl (by decide) ?_
     refine s_static (pc' := 264) (y := y1_removed) (argsL := [(.int (1 : Int32)), (.int (1 : Int32)), (.int (2 : Int32))]) (rest := []) A (rmd l Z a0 hw n0 h1411 A.size (1 : Int32) (1 : Int32) (2 : Int32) (0 : Int32) (by decide)) (w37 hw) (w38 hw) (w30 hw) (w39 hw) (by decide) pd__III_Z rfl (W := 0) (by decide) (by decide) (Nat.le_of_eq rfl) (by decide) (by decide) rfl rfl at_261 rfl fun T h1428 v1429 A Q1430 => ?_
     obtain ⟨rfl, eh⟩ := Q1430
     rw [eh] at A
     refine Wp.stk (st' := [(.int (0 : Int32))]) rfl ?_
     refine s_istore (pc' := 266) (Ls' := #[iv q0, iv q1, iv q2, iv q3, iv q4, iv q5, iv na, iv nb, iv nc, iv nx, iv 1, iv 1, iv 1, rv b2, iv 1, jv 1, S2, jv 1, S2, jv 2, S2, jv 3, S2, iv 1, iv 0, iv 0, U0, U0]) A at_264 rfl rfl ?_
     refine s_aload (pc' := 268) A at_266 rfl rfl rfl ?_
     refine s_virtual (pc' := 271) (y := y3_isEmpty) (argsL := []) (rest := []) (z := y3_isEmpty) A E1414 (bo_isEmpty33 l Z a0 hw n0 h1411 A.size b2 r11 [.int (0 : Int32), .int (0 : Int32), .int (nb + (1 : Int32)), .int (nc + (1 : Int32))] ⟨E1414, F1415, F1416, F1417, V1418, ne1419, ge1420, ge1421⟩) (w13 hw) (w14 hw) (nf_same (C := "") (w16 hw)) (w16 hw) (w15 hw) (w3 hw) (w17 hw) (by decide) pd___Z rfl (W := 0) (by decide) (by decide) (Nat.le_of_eq rfl) (by decide) (by decide) rfl rfl at_268 rfl fun T h1433 v1434 A Q1435 => ?_
     obtain ⟨rfl, K1431, H1432⟩ := Q1435
     obtain ⟨E1436, F1437, F1438, F1439, V1440, ne1441, ge1442, ge1443⟩ := H1432
     refine Wp.stk (st' := [(.int (0 : Int32))]) rfl ?_
     refine s_istore (pc' := 273) (Ls' := #[iv q0, iv q1, iv q2, iv q3, iv q4, iv q5, iv na, iv nb, iv nc, iv nx, iv 1, iv 1, iv 1, rv b2, iv 1, jv 1, S2, jv 1, S2, jv 2, S2, jv 3, S2, iv 1, iv 0, iv 0, iv 0, U0]) A at_271 rfl rfl ?_
     refine s_iload (pc' := 275) A at_273 rfl rfl ?_
     refine s_ifN (pc' := 278) A at_275 rfl (by decide) ?_
     refine s_iload (pc' := 280) A at_278 rfl rfl ?_
     refine s_ifY (pc' := 304) A at_280 (by decide) (by decide) (by decide) ?_
     refine s_iload (pc' := 306) A at_304 rfl rfl ?_
     refine s_ifY (pc' := 316) A at_306 (by decide) (by decide) (by decide) ?_
     refine s_iload (pc' := 318) A at_316 rfl rfl ?_
     refine s_ifN (pc' := 321) A at_318 rfl (by decide) ?_
     refine s_iload (pc' := 323) A at_321 rfl rfl ?_
     refine s_istore (pc' := 325) (Ls' := #[iv q0, iv q1, iv q2, iv q3, iv q4, iv q5, iv na, iv nb, iv nc, iv nx, iv 1, iv 1, iv 1, rv b2, iv 1, jv 1, S2, jv 1, S2, jv 2, S2, jv 3, S2, iv 1, iv 0, iv 0, iv 0, iv nb]) A at_323 rfl rfl ?_
     refine s_goto (pc' := 332) A at_325 (by decide) (by decide) ?_
     refine s_iload (pc' := 334) A at_332 rfl rfl ?_
     refine s_ifN (pc' := 337) A at_334 rfl (by decide) ?_
     refine s_iload (pc' := 339) A at_337 rfl rfl ?_
     refine s_ifN (pc' := 342) A at_339 rfl (by decide) ?_
     refine s_aload (pc' := 344) A at_342 rfl rfl rfl ?_
     refine s_virtual (pc' := 347) (y := y5_first) (argsL := []) (rest := []) (z := y5_first) A E1436 (bo_first34 l Z a0 hw n0 h1433 A.size b2 r11 (0 : Int32) (0 : Int32) (nb + (1 : Int32)) (nc + (1 : Int32)) ⟨E1436, F1437, F1438, F1439, V1440, ne1441, ge1442, ge1443⟩) (w40 hw) (w41 hw) (nf_same (C := "") (w43 hw)) (w43 hw) (w42 hw) (w3 hw) (w44 hw) (by decide) pd___I rfl (W := 0) (by decide) (by decide) (Nat.le_of_eq rfl) (by decide) (by decide) rfl rfl at_344 rfl fun T h1446 v1447 A Q1448 => ?_
     obtain ⟨rfl, K1444, H1445⟩ := Q1448
     obtain ⟨E1449, F1450, F1451, F1452, V1453, ne1454, ge1455, ge1456⟩ := H1445
     refine Wp.stk (st' := [(.int ((nb + (1 : Int32)) - (1 : Int32)))]) rfl ?_
     refine s_iload (pc' := 349) A at_347 rfl rfl ?_
     refine s_icmpN (pc' := 352) A at_349 rfl (teq (show ((nb + (1 : Int32)) - (1 : Int32)) = nb from (by have _ := rng32 nb; have _ : (1 : Int32).toInt = 1 := (by decide); have _ := rng32 (nb + (1 : Int32)); have _ := c_iadd nb (1 : Int32); have _ := rng32 ((nb + (1 : Int32)) - (1 : Int32)); have _ := c_isub (nb + (1 : Int32)) (1 : Int32); apply Int32.toInt_inj.mp; omega))).2 ?_
     refine s_iconst (pc' := 353) (z := (1 : Int32)) A at_352 rfl (by decide) ?_
     refine s_goto (pc' := 357) A at_353 (by decide) (by decide) ?_
     exact r_bool A rfl (by decide) at_357 (by decide) (by decide) (rfl)
    ·
     refine s_iload (pc' := 176) A at_174 rfl rfl ?_
     refine s_ifN (pc' := 179) A at_176 rfl (by decide) ?_
     refine s_aload (pc' := 181) A at_179 rfl rfl rfl ?_
     refine s_lload (pc' := 183) A at_181 rfl rfl ?_
     refine s_iload (pc' := 185) A at_183 rfl rfl ?_
     refine s_iconst (pc' := 186) (z := (0 : Int32)) A at_185 rfl (by decide) ?_
     refine s_static (pc' := 189) (y := y0_idx) (argsL := [(.int (2 : Int32)), (.int (0 : Int32))]) (rest := [(.long (1 : Int64)), (.ref b2)]) A (idx l Z a0 hw n0 h1309 A.size (2 : Int32) (0 : Int32) (1 : Int32) (by decide)) (w28 hw) (w29 hw) (w30 hw) (w31 hw) (by decide) pd__II_I rfl (W := 3) (by decide) (by decide) (Nat.le_of_eq rfl) (by decide) (by decide) rfl rfl at_186 rfl fun T h1457 v1458 A Q1459 => ?_
     obtain ⟨rfl, eh⟩ := Q1459
     rw [eh] at A
     refine Wp.stk (st' := [(.int (1 : Int32)), (.long (1 : Int64)), (.ref b2)]) rfl ?_
     refine s_i2l (pc' := 190) (z := (1 : Int64)) A at_189 rfl (by decide) ?_
     refine s_ladd (pc' := 191) (z := (2 : Int64)) A at_190 rfl (by decide) ?_
     refine s_virtual (pc' := 194) (y := y6_remove) (argsL := [(.long (2 : Int64))]) (rest := []) (z := y6_remove) A E1312 (bo_remove35 l Z a0 hw n0 h1309 A.size b2 r11 (na + (1 : Int32)) (nb + (1 : Int32)) (nc + (1 : Int32)) ⟨E1312, F1313, F1314, F1315, V1316, ne1317, ge1318, ge1319⟩ zna znb znc) (w32 hw) (w33 hw) (nf_same (C := "") (w35 hw)) (w35 hw) (w34 hw) (w3 hw) (w36 hw) (by decide) pd__J_V rfl (W := 0) (by decide) (by decide) (Nat.le_of_eq rfl) (by decide) (by decide) rfl rfl at_191 rfl fun T h1462 v1463 A Q1464 => ?_
     obtain ⟨rfl, K1460, H1461⟩ := Q1464
     obtain ⟨E1465, F1466, F1467, F1468, V1469, ne1470, ge1471, ge1472⟩ := H1461
     refine Wp.stk (st' := []) rfl ?_
     refine s_iload (pc' := 196) A at_194 rfl rfl ?_
     refine s_iconst (pc' := 197) (z := (1 : Int32)) A at_196 rfl (by decide) ?_
     refine s_icmpY (pc' := 215) A at_197 (by decide) (by decide) (by decide) ?_
     refine s_iload (pc' := 217) A at_215 rfl rfl ?_
     refine s_iconst (pc' := 218) (z := (2 : Int32)) A at_217 rfl (by decide) ?_
     refine s_icmpY (pc' := 236) A at_218 (by decide) (by decide) (by decide) ?_
     refine s_iload (pc' := 238) A at_236 rfl rfl ?_
     refine s_iload (pc' := 240) A at_238 rfl rfl ?_
     refine s_iconst (pc' := 241) (z := (0 : Int32)) A at_240 rfl (by decide) ?_
     refine s_static (pc' := 244) (y := y1_removed) (argsL := [(.int (2 : Int32)), (.int (1 : Int32)), (.int (0 : Int32))]) (rest := []) A (rmd l Z a0 hw n0 h1462 A.size (2 : Int32) (1 : Int32) (0 : Int32) (0 : Int32) (by decide)) (w37 hw) (w38 hw) (w30 hw) (w39 hw) (by decide) pd__III_Z rfl (W := 0) (by decide) (by decide) (Nat.le_of_eq rfl) (by decide) (by decide) rfl rfl at_241 rfl fun T h1473 v1474 A Q1475 => ?_
     obtain ⟨rfl, eh⟩ := Q1475
     rw [eh] at A
     refine Wp.stk (st' := [(.int (0 : Int32))]) rfl ?_
     refine s_istore (pc' := 246) (Ls' := #[iv q0, iv q1, iv q2, iv q3, iv q4, iv q5, iv na, iv nb, iv nc, iv nx, iv 1, iv 1, iv 2, rv b2, iv 1, jv 1, S2, jv 1, S2, jv 2, S2, jv 3, S2, iv 0, U0, U0, U0, U0]) A at_244 rfl rfl ?_
     refine s_iload (pc' := 248) A at_246 rfl rfl ?_
     refine s_iload (pc' := 250) A at_248 rfl rfl ?_
     refine s_iconst (pc' := 251) (z := (1 : Int32)) A at_250 rfl (by decide) ?_
     refine s_static (pc' := 254) (y := y1_removed) (argsL := [(.int (2 : Int32)), (.int (1 : Int32)), (.int (1 : Int32))]) (rest := []) A (rmd l Z a0 hw n0 h1462 A.size (2 : Int32) (1 : Int32) (1 : Int32) (1 : Int32) (by decide)) (w37 hw) (w38 hw) (w30 hw) (w39 hw) (by decide) pd__III_Z rfl (W := 0) (by decide) (by decide) (Nat.le_of_eq rfl) (by decide) (by decide) rfl rfl at_251 rfl fun T h1476 v1477 A Q1478 => ?_
     obtain ⟨rfl, eh⟩ := Q1478
     rw [eh] at A
     refine Wp.stk (st' := [(.int (1 : Int32))]) rfl ?_
     refine s_istore (pc' := 256) (Ls' := #[iv q0, iv q1, iv q2, iv q3, iv q4, iv q5, iv na, iv nb, iv nc, iv nx, iv 1, iv 1, iv 2, rv b2, iv 1, jv 1, S2, jv 1, S2, jv 2, S2, jv 3, S2, iv 0, iv 1, U0, U0, U0]) A at_254 rfl rfl ?_
     refine s_iload (pc' := 258) A at_256 rfl rfl ?_
     refine s_iload (pc' := 260) A at_258 rfl rfl ?_
     refine s_iconst (pc' := 261) (z := (2 : Int32)) A at_260 rfl (by decide) ?_
     refine s_static (pc' := 264) (y := y1_removed) (argsL := [(.int (2 : Int32)), (.int (1 : Int32)), (.int (2 : Int32))]) (rest := []) A (rmd l Z a0 hw n0 h1462 A.size (2 : Int32) (1 : Int32) (2 : Int32) (0 : Int32) (by decide)) (w37 hw) (w38 hw) (w30 hw) (w39 hw) (by decide) pd__III_Z rfl (W := 0) (by decide) (by decide) (Nat.le_of_eq rfl) (by decide) (by decide) rfl rfl at_261 rfl fun T h1479 v1480 A Q1481 => ?_
     obtain ⟨rfl, eh⟩ := Q1481
     rw [eh] at A
     refine Wp.stk (st' := [(.int (0 : Int32))]) rfl ?_
     refine s_istore (pc' := 266) (Ls' := #[iv q0, iv q1, iv q2, iv q3, iv q4, iv q5, iv na, iv nb, iv nc, iv nx, iv 1, iv 1, iv 2, rv b2, iv 1, jv 1, S2, jv 1, S2, jv 2, S2, jv 3, S2, iv 0, iv 1, iv 0, U0, U0]) A at_264 rfl rfl ?_
     refine s_aload (pc' := 268) A at_266 rfl rfl rfl ?_
     refine s_virtual (pc' := 271) (y := y3_isEmpty) (argsL := []) (rest := []) (z := y3_isEmpty) A E1465 (bo_isEmpty30 l Z a0 hw n0 h1462 A.size b2 r11 [.int (0 : Int32), .int (na + (1 : Int32)), .int (0 : Int32), .int (nc + (1 : Int32))] ⟨E1465, F1466, F1467, F1468, V1469, ne1470, ge1471, ge1472⟩) (w13 hw) (w14 hw) (nf_same (C := "") (w16 hw)) (w16 hw) (w15 hw) (w3 hw) (w17 hw) (by decide) pd___Z rfl (W := 0) (by decide) (by decide) (Nat.le_of_eq rfl) (by decide) (by decide) rfl rfl at_268 rfl fun T h1484 v1485 A Q1486 => ?_
     obtain ⟨rfl, K1482, H1483⟩ := Q1486
     obtain ⟨E1487, F1488, F1489, F1490, V1491, ne1492, ge1493, ge1494⟩ := H1483
     refine Wp.stk (st' := [(.int (0 : Int32))]) rfl ?_
     refine s_istore (pc' := 273) (Ls' := #[iv q0, iv q1, iv q2, iv q3, iv q4, iv q5, iv na, iv nb, iv nc, iv nx, iv 1, iv 1, iv 2, rv b2, iv 1, jv 1, S2, jv 1, S2, jv 2, S2, jv 3, S2, iv 0, iv 1, iv 0, iv 0, U0]) A at_271 rfl rfl ?_
     refine s_iload (pc' := 275) A at_273 rfl rfl ?_
     refine s_ifY (pc' := 304) A at_275 (by decide) (by decide) (by decide) ?_
     refine s_iload (pc' := 306) A at_304 rfl rfl ?_
     refine s_ifN (pc' := 309) A at_306 rfl (by decide) ?_
     refine s_iload (pc' := 311) A at_309 rfl rfl ?_
     refine s_istore (pc' := 313) (Ls' := #[iv q0, iv q1, iv q2, iv q3, iv q4, iv q5, iv na, iv nb, iv nc, iv nx, iv 1, iv 1, iv 2, rv b2, iv 1, jv 1, S2, jv 1, S2, jv 2, S2, jv 3, S2, iv 0, iv 1, iv 0, iv 0, iv na]) A at_311 rfl rfl ?_
     refine s_goto (pc' := 332) A at_313 (by decide) (by decide) ?_
     refine s_iload (pc' := 334) A at_332 rfl rfl ?_
     refine s_ifN (pc' := 337) A at_334 rfl (by decide) ?_
     refine s_iload (pc' := 339) A at_337 rfl rfl ?_
     refine s_ifN (pc' := 342) A at_339 rfl (by decide) ?_
     refine s_aload (pc' := 344) A at_342 rfl rfl rfl ?_
     refine s_virtual (pc' := 347) (y := y5_first) (argsL := []) (rest := []) (z := y5_first) A E1487 (bo_first31 l Z a0 hw n0 h1484 A.size b2 r11 (0 : Int32) (na + (1 : Int32)) (0 : Int32) (nc + (1 : Int32)) ⟨E1487, F1488, F1489, F1490, V1491, ne1492, ge1493, ge1494⟩) (w40 hw) (w41 hw) (nf_same (C := "") (w43 hw)) (w43 hw) (w42 hw) (w3 hw) (w44 hw) (by decide) pd___I rfl (W := 0) (by decide) (by decide) (Nat.le_of_eq rfl) (by decide) (by decide) rfl rfl at_344 rfl fun T h1497 v1498 A Q1499 => ?_
     obtain ⟨rfl, K1495, H1496⟩ := Q1499
     obtain ⟨E1500, F1501, F1502, F1503, V1504, ne1505, ge1506, ge1507⟩ := H1496
     refine Wp.stk (st' := [(.int ((na + (1 : Int32)) - (1 : Int32)))]) rfl ?_
     refine s_iload (pc' := 349) A at_347 rfl rfl ?_
     refine s_icmpN (pc' := 352) A at_349 rfl (teq (show ((na + (1 : Int32)) - (1 : Int32)) = na from (by have _ := rng32 na; have _ : (1 : Int32).toInt = 1 := (by decide); have _ := rng32 (na + (1 : Int32)); have _ := c_iadd na (1 : Int32); have _ := rng32 ((na + (1 : Int32)) - (1 : Int32)); have _ := c_isub (na + (1 : Int32)) (1 : Int32); apply Int32.toInt_inj.mp; omega))).2 ?_
     refine s_iconst (pc' := 353) (z := (1 : Int32)) A at_352 rfl (by decide) ?_
     refine s_goto (pc' := 357) A at_353 (by decide) (by decide) ?_
     exact r_bool A rfl (by decide) at_357 (by decide) (by decide) (rfl)
    ·
     refine s_iload (pc' := 176) A at_174 rfl rfl ?_
     refine s_ifN (pc' := 179) A at_176 rfl (by decide) ?_
     refine s_aload (pc' := 181) A at_179 rfl rfl rfl ?_
     refine s_lload (pc' := 183) A at_181 rfl rfl ?_
     refine s_iload (pc' := 185) A at_183 rfl rfl ?_
     refine s_iconst (pc' := 186) (z := (0 : Int32)) A at_185 rfl (by decide) ?_
     refine s_static (pc' := 189) (y := y0_idx) (argsL := [(.int (3 : Int32)), (.int (0 : Int32))]) (rest := [(.long (1 : Int64)), (.ref b2)]) A (idx l Z a0 hw n0 h1309 A.size (3 : Int32) (0 : Int32) (1 : Int32) (by decide)) (w28 hw) (w29 hw) (w30 hw) (w31 hw) (by decide) pd__II_I rfl (W := 3) (by decide) (by decide) (Nat.le_of_eq rfl) (by decide) (by decide) rfl rfl at_186 rfl fun T h1508 v1509 A Q1510 => ?_
     obtain ⟨rfl, eh⟩ := Q1510
     rw [eh] at A
     refine Wp.stk (st' := [(.int (1 : Int32)), (.long (1 : Int64)), (.ref b2)]) rfl ?_
     refine s_i2l (pc' := 190) (z := (1 : Int64)) A at_189 rfl (by decide) ?_
     refine s_ladd (pc' := 191) (z := (2 : Int64)) A at_190 rfl (by decide) ?_
     refine s_virtual (pc' := 194) (y := y6_remove) (argsL := [(.long (2 : Int64))]) (rest := []) (z := y6_remove) A E1312 (bo_remove35 l Z a0 hw n0 h1309 A.size b2 r11 (na + (1 : Int32)) (nb + (1 : Int32)) (nc + (1 : Int32)) ⟨E1312, F1313, F1314, F1315, V1316, ne1317, ge1318, ge1319⟩ zna znb znc) (w32 hw) (w33 hw) (nf_same (C := "") (w35 hw)) (w35 hw) (w34 hw) (w3 hw) (w36 hw) (by decide) pd__J_V rfl (W := 0) (by decide) (by decide) (Nat.le_of_eq rfl) (by decide) (by decide) rfl rfl at_191 rfl fun T h1513 v1514 A Q1515 => ?_
     obtain ⟨rfl, K1511, H1512⟩ := Q1515
     obtain ⟨E1516, F1517, F1518, F1519, V1520, ne1521, ge1522, ge1523⟩ := H1512
     refine Wp.stk (st' := []) rfl ?_
     refine s_iload (pc' := 196) A at_194 rfl rfl ?_
     refine s_iconst (pc' := 197) (z := (1 : Int32)) A at_196 rfl (by decide) ?_
     refine s_icmpY (pc' := 215) A at_197 (by decide) (by decide) (by decide) ?_
     refine s_iload (pc' := 217) A at_215 rfl rfl ?_
     refine s_iconst (pc' := 218) (z := (2 : Int32)) A at_217 rfl (by decide) ?_
     refine s_icmpY (pc' := 236) A at_218 (by decide) (by decide) (by decide) ?_
     refine s_iload (pc' := 238) A at_236 rfl rfl ?_
     refine s_iload (pc' := 240) A at_238 rfl rfl ?_
     refine s_iconst (pc' := 241) (z := (0 : Int32)) A at_240 rfl (by decide) ?_
     refine s_static (pc' := 244) (y := y1_removed) (argsL := [(.int (3 : Int32)), (.int (1 : Int32)), (.int (0 : Int32))]) (rest := []) A (rmd l Z a0 hw n0 h1513 A.size (3 : Int32) (1 : Int32) (0 : Int32) (0 : Int32) (by decide)) (w37 hw) (w38 hw) (w30 hw) (w39 hw) (by decide) pd__III_Z rfl (W := 0) (by decide) (by decide) (Nat.le_of_eq rfl) (by decide) (by decide) rfl rfl at_241 rfl fun T h1524 v1525 A Q1526 => ?_
     obtain ⟨rfl, eh⟩ := Q1526
     rw [eh] at A
     refine Wp.stk (st' := [(.int (0 : Int32))]) rfl ?_
     refine s_istore (pc' := 246) (Ls' := #[iv q0, iv q1, iv q2, iv q3, iv q4, iv q5, iv na, iv nb, iv nc, iv nx, iv 1, iv 1, iv 3, rv b2, iv 1, jv 1, S2, jv 1, S2, jv 2, S2, jv 3, S2, iv 0, U0, U0, U0, U0]) A at_244 rfl rfl ?_
     refine s_iload (pc' := 248) A at_246 rfl rfl ?_
     refine s_iload (pc' := 250) A at_248 rfl rfl ?_
     refine s_iconst (pc' := 251) (z := (1 : Int32)) A at_250 rfl (by decide) ?_
     refine s_static (pc' := 254) (y := y1_removed) (argsL := [(.int (3 : Int32)), (.int (1 : Int32)), (.int (1 : Int32))]) (rest := []) A (rmd l Z a0 hw n0 h1513 A.size (3 : Int32) (1 : Int32) (1 : Int32) (1 : Int32) (by decide)) (w37 hw) (w38 hw) (w30 hw) (w39 hw) (by decide) pd__III_Z rfl (W := 0) (by decide) (by decide) (Nat.le_of_eq rfl) (by decide) (by decide) rfl rfl at_251 rfl fun T h1527 v1528 A Q1529 => ?_
     obtain ⟨rfl, eh⟩ := Q1529
     rw [eh] at A
     refine Wp.stk (st' := [(.int (1 : Int32))]) rfl ?_
     refine s_istore (pc' := 256) (Ls' := #[iv q0, iv q1, iv q2, iv q3, iv q4, iv q5, iv na, iv nb, iv nc, iv nx, iv 1, iv 1, iv 3, rv b2, iv 1, jv 1, S2, jv 1, S2, jv 2, S2, jv 3, S2, iv 0, iv 1, U0, U0, U0]) A at_254 rfl rfl ?_
     refine s_iload (pc' := 258) A at_256 rfl rfl ?_
     refine s_iload (pc' := 260) A at_258 rfl rfl ?_
     refine s_iconst (pc' := 261) (z := (2 : Int32)) A at_260 rfl (by decide) ?_
     refine s_static (pc' := 264) (y := y1_removed) (argsL := [(.int (3 : Int32)), (.int (1 : Int32)), (.int (2 : Int32))]) (rest := []) A (rmd l Z a0 hw n0 h1513 A.size (3 : Int32) (1 : Int32) (2 : Int32) (0 : Int32) (by decide)) (w37 hw) (w38 hw) (w30 hw) (w39 hw) (by decide) pd__III_Z rfl (W := 0) (by decide) (by decide) (Nat.le_of_eq rfl) (by decide) (by decide) rfl rfl at_261 rfl fun T h1530 v1531 A Q1532 => ?_
     obtain ⟨rfl, eh⟩ := Q1532
     rw [eh] at A
     refine Wp.stk (st' := [(.int (0 : Int32))]) rfl ?_
     refine s_istore (pc' := 266) (Ls' := #[iv q0, iv q1, iv q2, iv q3, iv q4, iv q5, iv na, iv nb, iv nc, iv nx, iv 1, iv 1, iv 3, rv b2, iv 1, jv 1, S2, jv 1, S2, jv 2, S2, jv 3, S2, iv 0, iv 1, iv 0, U0, U0]) A at_264 rfl rfl ?_
     refine s_aload (pc' := 268) A at_266 rfl rfl rfl ?_
     refine s_virtual (pc' := 271) (y := y3_isEmpty) (argsL := []) (rest := []) (z := y3_isEmpty) A E1516 (bo_isEmpty30 l Z a0 hw n0 h1513 A.size b2 r11 [.int (0 : Int32), .int (na + (1 : Int32)), .int (0 : Int32), .int (nc + (1 : Int32))] ⟨E1516, F1517, F1518, F1519, V1520, ne1521, ge1522, ge1523⟩) (w13 hw) (w14 hw) (nf_same (C := "") (w16 hw)) (w16 hw) (w15 hw) (w3 hw) (w17 hw) (by decide) pd___Z rfl (W := 0) (by decide) (by decide) (Nat.le_of_eq rfl) (by decide) (by decide) rfl rfl at_268 rfl fun T h1535 v1536 A Q1537 => ?_
     obtain ⟨rfl, K1533, H1534⟩ := Q1537
     obtain ⟨E1538, F1539, F1540, F1541, V1542, ne1543, ge1544, ge1545⟩ := H1534
     refine Wp.stk (st' := [(.int (0 : Int32))]) rfl ?_
     refine s_istore (pc' := 273) (Ls' := #[iv q0, iv q1, iv q2, iv q3, iv q4, iv q5, iv na, iv nb, iv nc, iv nx, iv 1, iv 1, iv 3, rv b2, iv 1, jv 1, S2, jv 1, S2, jv 2, S2, jv 3, S2, iv 0, iv 1, iv 0, iv 0, U0]) A at_271 rfl rfl ?_
     refine s_iload (pc' := 275) A at_273 rfl rfl ?_
     refine s_ifY (pc' := 304) A at_275 (by decide) (by decide) (by decide) ?_
     refine s_iload (pc' := 306) A at_304 rfl rfl ?_
     refine s_ifN (pc' := 309) A at_306 rfl (by decide) ?_
     refine s_iload (pc' := 311) A at_309 rfl rfl ?_
     refine s_istore (pc' := 313) (Ls' := #[iv q0, iv q1, iv q2, iv q3, iv q4, iv q5, iv na, iv nb, iv nc, iv nx, iv 1, iv 1, iv 3, rv b2, iv 1, jv 1, S2, jv 1, S2, jv 2, S2, jv 3, S2, iv 0, iv 1, iv 0, iv 0, iv na]) A at_311 rfl rfl ?_
     refine s_goto (pc' := 332) A at_313 (by decide) (by decide) ?_
     refine s_iload (pc' := 334) A at_332 rfl rfl ?_
     refine s_ifN (pc' := 337) A at_334 rfl (by decide) ?_
     refine s_iload (pc' := 339) A at_337 rfl rfl ?_
     refine s_ifN (pc' := 342) A at_339 rfl (by decide) ?_
     refine s_aload (pc' := 344) A at_342 rfl rfl rfl ?_
     refine s_virtual (pc' := 347) (y := y5_first) (argsL := []) (rest := []) (z := y5_first) A E1538 (bo_first31 l Z a0 hw n0 h1535 A.size b2 r11 (0 : Int32) (na + (1 : Int32)) (0 : Int32) (nc + (1 : Int32)) ⟨E1538, F1539, F1540, F1541, V1542, ne1543, ge1544, ge1545⟩) (w40 hw) (w41 hw) (nf_same (C := "") (w43 hw)) (w43 hw) (w42 hw) (w3 hw) (w44 hw) (by decide) pd___I rfl (W := 0) (by decide) (by decide) (Nat.le_of_eq rfl) (by decide) (by decide) rfl rfl at_344 rfl fun T h1548 v1549 A Q1550 => ?_
     obtain ⟨rfl, K1546, H1547⟩ := Q1550
     obtain ⟨E1551, F1552, F1553, F1554, V1555, ne1556, ge1557, ge1558⟩ := H1547
     refine Wp.stk (st' := [(.int ((na + (1 : Int32)) - (1 : Int32)))]) rfl ?_
     refine s_iload (pc' := 349) A at_347 rfl rfl ?_
     refine s_icmpN (pc' := 352) A at_349 rfl (teq (show ((na + (1 : Int32)) - (1 : Int32)) = na from (by have _ := rng32 na; have _ : (1 : Int32).toInt = 1 := (by decide); have _ := rng32 (na + (1 : Int32)); have _ := c_iadd na (1 : Int32); have _ := rng32 ((na + (1 : Int32)) - (1 : Int32)); have _ := c_isub (na + (1 : Int32)) (1 : Int32); apply Int32.toInt_inj.mp; omega))).2 ?_
     refine s_iconst (pc' := 353) (z := (1 : Int32)) A at_352 rfl (by decide) ?_
     refine s_goto (pc' := 357) A at_353 (by decide) (by decide) ?_
     exact r_bool A rfl (by decide) at_357 (by decide) (by decide) (rfl)
    ·
     refine s_iload (pc' := 176) A at_174 rfl rfl ?_
     refine s_ifN (pc' := 179) A at_176 rfl (by decide) ?_
     refine s_aload (pc' := 181) A at_179 rfl rfl rfl ?_
     refine s_lload (pc' := 183) A at_181 rfl rfl ?_
     refine s_iload (pc' := 185) A at_183 rfl rfl ?_
     refine s_iconst (pc' := 186) (z := (0 : Int32)) A at_185 rfl (by decide) ?_
     refine s_static (pc' := 189) (y := y0_idx) (argsL := [(.int (4 : Int32)), (.int (0 : Int32))]) (rest := [(.long (1 : Int64)), (.ref b2)]) A (idx l Z a0 hw n0 h1309 A.size (4 : Int32) (0 : Int32) (2 : Int32) (by decide)) (w28 hw) (w29 hw) (w30 hw) (w31 hw) (by decide) pd__II_I rfl (W := 3) (by decide) (by decide) (Nat.le_of_eq rfl) (by decide) (by decide) rfl rfl at_186 rfl fun T h1559 v1560 A Q1561 => ?_
     obtain ⟨rfl, eh⟩ := Q1561
     rw [eh] at A
     refine Wp.stk (st' := [(.int (2 : Int32)), (.long (1 : Int64)), (.ref b2)]) rfl ?_
     refine s_i2l (pc' := 190) (z := (2 : Int64)) A at_189 rfl (by decide) ?_
     refine s_ladd (pc' := 191) (z := (3 : Int64)) A at_190 rfl (by decide) ?_
     refine s_virtual (pc' := 194) (y := y6_remove) (argsL := [(.long (3 : Int64))]) (rest := []) (z := y6_remove) A E1312 (bo_remove36 l Z a0 hw n0 h1309 A.size b2 r11 (na + (1 : Int32)) (nb + (1 : Int32)) (nc + (1 : Int32)) ⟨E1312, F1313, F1314, F1315, V1316, ne1317, ge1318, ge1319⟩ zna znb znc) (w32 hw) (w33 hw) (nf_same (C := "") (w35 hw)) (w35 hw) (w34 hw) (w3 hw) (w36 hw) (by decide) pd__J_V rfl (W := 0) (by decide) (by decide) (Nat.le_of_eq rfl) (by decide) (by decide) rfl rfl at_191 rfl fun T h1564 v1565 A Q1566 => ?_
     obtain ⟨rfl, K1562, H1563⟩ := Q1566
     obtain ⟨E1567, F1568, F1569, F1570, V1571, ne1572, ge1573, ge1574⟩ := H1563
     refine Wp.stk (st' := []) rfl ?_
     refine s_iload (pc' := 196) A at_194 rfl rfl ?_
     refine s_iconst (pc' := 197) (z := (1 : Int32)) A at_196 rfl (by decide) ?_
     refine s_icmpY (pc' := 215) A at_197 (by decide) (by decide) (by decide) ?_
     refine s_iload (pc' := 217) A at_215 rfl rfl ?_
     refine s_iconst (pc' := 218) (z := (2 : Int32)) A at_217 rfl (by decide) ?_
     refine s_icmpY (pc' := 236) A at_218 (by decide) (by decide) (by decide) ?_
     refine s_iload (pc' := 238) A at_236 rfl rfl ?_
     refine s_iload (pc' := 240) A at_238 rfl rfl ?_
     refine s_iconst (pc' := 241) (z := (0 : Int32)) A at_240 rfl (by decide) ?_
     refine s_static (pc' := 244) (y := y1_removed) (argsL := [(.int (4 : Int32)), (.int (1 : Int32)), (.int (0 : Int32))]) (rest := []) A (rmd l Z a0 hw n0 h1564 A.size (4 : Int32) (1 : Int32) (0 : Int32) (0 : Int32) (by decide)) (w37 hw) (w38 hw) (w30 hw) (w39 hw) (by decide) pd__III_Z rfl (W := 0) (by decide) (by decide) (Nat.le_of_eq rfl) (by decide) (by decide) rfl rfl at_241 rfl fun T h1575 v1576 A Q1577 => ?_
     obtain ⟨rfl, eh⟩ := Q1577
     rw [eh] at A
     refine Wp.stk (st' := [(.int (0 : Int32))]) rfl ?_
     refine s_istore (pc' := 246) (Ls' := #[iv q0, iv q1, iv q2, iv q3, iv q4, iv q5, iv na, iv nb, iv nc, iv nx, iv 1, iv 1, iv 4, rv b2, iv 1, jv 1, S2, jv 1, S2, jv 2, S2, jv 3, S2, iv 0, U0, U0, U0, U0]) A at_244 rfl rfl ?_
     refine s_iload (pc' := 248) A at_246 rfl rfl ?_
     refine s_iload (pc' := 250) A at_248 rfl rfl ?_
     refine s_iconst (pc' := 251) (z := (1 : Int32)) A at_250 rfl (by decide) ?_
     refine s_static (pc' := 254) (y := y1_removed) (argsL := [(.int (4 : Int32)), (.int (1 : Int32)), (.int (1 : Int32))]) (rest := []) A (rmd l Z a0 hw n0 h1564 A.size (4 : Int32) (1 : Int32) (1 : Int32) (0 : Int32) (by decide)) (w37 hw) (w38 hw) (w30 hw) (w39 hw) (by decide) pd__III_Z rfl (W := 0) (by decide) (by decide) (Nat.le_of_eq rfl) (by decide) (by decide) rfl rfl at_251 rfl fun T h1578 v1579 A Q1580 => ?_
     obtain ⟨rfl, eh⟩ := Q1580
     rw [eh] at A
     refine Wp.stk (st' := [(.int (0 : Int32))]) rfl ?_
     refine s_istore (pc' := 256) (Ls' := #[iv q0, iv q1, iv q2, iv q3, iv q4, iv q5, iv na, iv nb, iv nc, iv nx, iv 1, iv 1, iv 4, rv b2, iv 1, jv 1, S2, jv 1, S2, jv 2, S2, jv 3, S2, iv 0, iv 0, U0, U0, U0]) A at_254 rfl rfl ?_
     refine s_iload (pc' := 258) A at_256 rfl rfl ?_
     refine s_iload (pc' := 260) A at_258 rfl rfl ?_
     refine s_iconst (pc' := 261) (z := (2 : Int32)) A at_260 rfl (by decide) ?_
     refine s_static (pc' := 264) (y := y1_removed) (argsL := [(.int (4 : Int32)), (.int (1 : Int32)), (.int (2 : Int32))]) (rest := []) A (rmd l Z a0 hw n0 h1564 A.size (4 : Int32) (1 : Int32) (2 : Int32) (1 : Int32) (by decide)) (w37 hw) (w38 hw) (w30 hw) (w39 hw) (by decide) pd__III_Z rfl (W := 0) (by decide) (by decide) (Nat.le_of_eq rfl) (by decide) (by decide) rfl rfl at_261 rfl fun T h1581 v1582 A Q1583 => ?_
     obtain ⟨rfl, eh⟩ := Q1583
     rw [eh] at A
     refine Wp.stk (st' := [(.int (1 : Int32))]) rfl ?_
     refine s_istore (pc' := 266) (Ls' := #[iv q0, iv q1, iv q2, iv q3, iv q4, iv q5, iv na, iv nb, iv nc, iv nx, iv 1, iv 1, iv 4, rv b2, iv 1, jv 1, S2, jv 1, S2, jv 2, S2, jv 3, S2, iv 0, iv 0, iv 1, U0, U0]) A at_264 rfl rfl ?_
     refine s_aload (pc' := 268) A at_266 rfl rfl rfl ?_
     refine s_virtual (pc' := 271) (y := y3_isEmpty) (argsL := []) (rest := []) (z := y3_isEmpty) A E1567 (bo_isEmpty30 l Z a0 hw n0 h1564 A.size b2 r11 [.int (0 : Int32), .int (na + (1 : Int32)), .int (nb + (1 : Int32)), .int (0 : Int32)] ⟨E1567, F1568, F1569, F1570, V1571, ne1572, ge1573, ge1574⟩) (w13 hw) (w14 hw) (nf_same (C := "") (w16 hw)) (w16 hw) (w15 hw) (w3 hw) (w17 hw) (by decide) pd___Z rfl (W := 0) (by decide) (by decide) (Nat.le_of_eq rfl) (by decide) (by decide) rfl rfl at_268 rfl fun T h1586 v1587 A Q1588 => ?_
     obtain ⟨rfl, K1584, H1585⟩ := Q1588
     obtain ⟨E1589, F1590, F1591, F1592, V1593, ne1594, ge1595, ge1596⟩ := H1585
     refine Wp.stk (st' := [(.int (0 : Int32))]) rfl ?_
     refine s_istore (pc' := 273) (Ls' := #[iv q0, iv q1, iv q2, iv q3, iv q4, iv q5, iv na, iv nb, iv nc, iv nx, iv 1, iv 1, iv 4, rv b2, iv 1, jv 1, S2, jv 1, S2, jv 2, S2, jv 3, S2, iv 0, iv 0, iv 1, iv 0, U0]) A at_271 rfl rfl ?_
     refine s_iload (pc' := 275) A at_273 rfl rfl ?_
     refine s_ifY (pc' := 304) A at_275 (by decide) (by decide) (by decide) ?_
     refine s_iload (pc' := 306) A at_304 rfl rfl ?_
     refine s_ifN (pc' := 309) A at_306 rfl (by decide) ?_
     refine s_iload (pc' := 311) A at_309 rfl rfl ?_
     refine s_istore (pc' := 313) (Ls' := #[iv q0, iv q1, iv q2, iv q3, iv q4, iv q5, iv na, iv nb, iv nc, iv nx, iv 1, iv 1, iv 4, rv b2, iv 1, jv 1, S2, jv 1, S2, jv 2, S2, jv 3, S2, iv 0, iv 0, iv 1, iv 0, iv na]) A at_311 rfl rfl ?_
     refine s_goto (pc' := 332) A at_313 (by decide) (by decide) ?_
     refine s_iload (pc' := 334) A at_332 rfl rfl ?_
     refine s_ifN (pc' := 337) A at_334 rfl (by decide) ?_
     refine s_iload (pc' := 339) A at_337 rfl rfl ?_
     refine s_ifN (pc' := 342) A at_339 rfl (by decide) ?_
     refine s_aload (pc' := 344) A at_342 rfl rfl rfl ?_
     refine s_virtual (pc' := 347) (y := y5_first) (argsL := []) (rest := []) (z := y5_first) A E1589 (bo_first31 l Z a0 hw n0 h1586 A.size b2 r11 (0 : Int32) (na + (1 : Int32)) (nb + (1 : Int32)) (0 : Int32) ⟨E1589, F1590, F1591, F1592, V1593, ne1594, ge1595, ge1596⟩) (w40 hw) (w41 hw) (nf_same (C := "") (w43 hw)) (w43 hw) (w42 hw) (w3 hw) (w44 hw) (by decide) pd___I rfl (W := 0) (by decide) (by decide) (Nat.le_of_eq rfl) (by decide) (by decide) rfl rfl at_344 rfl fun T h1599 v1600 A Q1601 => ?_
     obtain ⟨rfl, K1597, H1598⟩ := Q1601
     obtain ⟨E1602, F1603, F1604, F1605, V1606, ne1607, ge1608, ge1609⟩ := H1598
     refine Wp.stk (st' := [(.int ((na + (1 : Int32)) - (1 : Int32)))]) rfl ?_
     refine s_iload (pc' := 349) A at_347 rfl rfl ?_
     refine s_icmpN (pc' := 352) A at_349 rfl (teq (show ((na + (1 : Int32)) - (1 : Int32)) = na from (by have _ := rng32 na; have _ : (1 : Int32).toInt = 1 := (by decide); have _ := rng32 (na + (1 : Int32)); have _ := c_iadd na (1 : Int32); have _ := rng32 ((na + (1 : Int32)) - (1 : Int32)); have _ := c_isub (na + (1 : Int32)) (1 : Int32); apply Int32.toInt_inj.mp; omega))).2 ?_
     refine s_iconst (pc' := 353) (z := (1 : Int32)) A at_352 rfl (by decide) ?_
     refine s_goto (pc' := 357) A at_353 (by decide) (by decide) ?_
     exact r_bool A rfl (by decide) at_357 (by decide) (by decide) (rfl)
    ·
     refine s_iload (pc' := 176) A at_174 rfl rfl ?_
     refine s_ifN (pc' := 179) A at_176 rfl (by decide) ?_
     refine s_aload (pc' := 181) A at_179 rfl rfl rfl ?_
     refine s_lload (pc' := 183) A at_181 rfl rfl ?_
     refine s_iload (pc' := 185) A at_183 rfl rfl ?_
     refine s_iconst (pc' := 186) (z := (0 : Int32)) A at_185 rfl (by decide) ?_
     refine s_static (pc' := 189) (y := y0_idx) (argsL := [(.int (5 : Int32)), (.int (0 : Int32))]) (rest := [(.long (1 : Int64)), (.ref b2)]) A (idx l Z a0 hw n0 h1309 A.size (5 : Int32) (0 : Int32) (2 : Int32) (by decide)) (w28 hw) (w29 hw) (w30 hw) (w31 hw) (by decide) pd__II_I rfl (W := 3) (by decide) (by decide) (Nat.le_of_eq rfl) (by decide) (by decide) rfl rfl at_186 rfl fun T h1610 v1611 A Q1612 => ?_
     obtain ⟨rfl, eh⟩ := Q1612
     rw [eh] at A
     refine Wp.stk (st' := [(.int (2 : Int32)), (.long (1 : Int64)), (.ref b2)]) rfl ?_
     refine s_i2l (pc' := 190) (z := (2 : Int64)) A at_189 rfl (by decide) ?_
     refine s_ladd (pc' := 191) (z := (3 : Int64)) A at_190 rfl (by decide) ?_
     refine s_virtual (pc' := 194) (y := y6_remove) (argsL := [(.long (3 : Int64))]) (rest := []) (z := y6_remove) A E1312 (bo_remove36 l Z a0 hw n0 h1309 A.size b2 r11 (na + (1 : Int32)) (nb + (1 : Int32)) (nc + (1 : Int32)) ⟨E1312, F1313, F1314, F1315, V1316, ne1317, ge1318, ge1319⟩ zna znb znc) (w32 hw) (w33 hw) (nf_same (C := "") (w35 hw)) (w35 hw) (w34 hw) (w3 hw) (w36 hw) (by decide) pd__J_V rfl (W := 0) (by decide) (by decide) (Nat.le_of_eq rfl) (by decide) (by decide) rfl rfl at_191 rfl fun T h1615 v1616 A Q1617 => ?_
     obtain ⟨rfl, K1613, H1614⟩ := Q1617
     obtain ⟨E1618, F1619, F1620, F1621, V1622, ne1623, ge1624, ge1625⟩ := H1614
     refine Wp.stk (st' := []) rfl ?_
     refine s_iload (pc' := 196) A at_194 rfl rfl ?_
     refine s_iconst (pc' := 197) (z := (1 : Int32)) A at_196 rfl (by decide) ?_
     refine s_icmpY (pc' := 215) A at_197 (by decide) (by decide) (by decide) ?_
     refine s_iload (pc' := 217) A at_215 rfl rfl ?_
     refine s_iconst (pc' := 218) (z := (2 : Int32)) A at_217 rfl (by decide) ?_
     refine s_icmpY (pc' := 236) A at_218 (by decide) (by decide) (by decide) ?_
     refine s_iload (pc' := 238) A at_236 rfl rfl ?_
     refine s_iload (pc' := 240) A at_238 rfl rfl ?_
     refine s_iconst (pc' := 241) (z := (0 : Int32)) A at_240 rfl (by decide) ?_
     refine s_static (pc' := 244) (y := y1_removed) (argsL := [(.int (5 : Int32)), (.int (1 : Int32)), (.int (0 : Int32))]) (rest := []) A (rmd l Z a0 hw n0 h1615 A.size (5 : Int32) (1 : Int32) (0 : Int32) (0 : Int32) (by decide)) (w37 hw) (w38 hw) (w30 hw) (w39 hw) (by decide) pd__III_Z rfl (W := 0) (by decide) (by decide) (Nat.le_of_eq rfl) (by decide) (by decide) rfl rfl at_241 rfl fun T h1626 v1627 A Q1628 => ?_
     obtain ⟨rfl, eh⟩ := Q1628
     rw [eh] at A
     refine Wp.stk (st' := [(.int (0 : Int32))]) rfl ?_
     refine s_istore (pc' := 246) (Ls' := #[iv q0, iv q1, iv q2, iv q3, iv q4, iv q5, iv na, iv nb, iv nc, iv nx, iv 1, iv 1, iv 5, rv b2, iv 1, jv 1, S2, jv 1, S2, jv 2, S2, jv 3, S2, iv 0, U0, U0, U0, U0]) A at_244 rfl rfl ?_
     refine s_iload (pc' := 248) A at_246 rfl rfl ?_
     refine s_iload (pc' := 250) A at_248 rfl rfl ?_
     refine s_iconst (pc' := 251) (z := (1 : Int32)) A at_250 rfl (by decide) ?_
     refine s_static (pc' := 254) (y := y1_removed) (argsL := [(.int (5 : Int32)), (.int (1 : Int32)), (.int (1 : Int32))]) (rest := []) A (rmd l Z a0 hw n0 h1615 A.size (5 : Int32) (1 : Int32) (1 : Int32) (0 : Int32) (by decide)) (w37 hw) (w38 hw) (w30 hw) (w39 hw) (by decide) pd__III_Z rfl (W := 0) (by decide) (by decide) (Nat.le_of_eq rfl) (by decide) (by decide) rfl rfl at_251 rfl fun T h1629 v1630 A Q1631 => ?_
     obtain ⟨rfl, eh⟩ := Q1631
     rw [eh] at A
     refine Wp.stk (st' := [(.int (0 : Int32))]) rfl ?_
     refine s_istore (pc' := 256) (Ls' := #[iv q0, iv q1, iv q2, iv q3, iv q4, iv q5, iv na, iv nb, iv nc, iv nx, iv 1, iv 1, iv 5, rv b2, iv 1, jv 1, S2, jv 1, S2, jv 2, S2, jv 3, S2, iv 0, iv 0, U0, U0, U0]) A at_254 rfl rfl ?_
     refine s_iload (pc' := 258) A at_256 rfl rfl ?_
     refine s_iload (pc' := 260) A at_258 rfl rfl ?_
     refine s_iconst (pc' := 261) (z := (2 : Int32)) A at_260 rfl (by decide) ?_
     refine s_static (pc' := 264) (y := y1_removed) (argsL := [(.int (5 : Int32)), (.int (1 : Int32)), (.int (2 : Int32))]) (rest := []) A (rmd l Z a0 hw n0 h1615 A.size (5 : Int32) (1 : Int32) (2 : Int32) (1 : Int32) (by decide)) (w37 hw) (w38 hw) (w30 hw) (w39 hw) (by decide) pd__III_Z rfl (W := 0) (by decide) (by decide) (Nat.le_of_eq rfl) (by decide) (by decide) rfl rfl at_261 rfl fun T h1632 v1633 A Q1634 => ?_
     obtain ⟨rfl, eh⟩ := Q1634
     rw [eh] at A
     refine Wp.stk (st' := [(.int (1 : Int32))]) rfl ?_
     refine s_istore (pc' := 266) (Ls' := #[iv q0, iv q1, iv q2, iv q3, iv q4, iv q5, iv na, iv nb, iv nc, iv nx, iv 1, iv 1, iv 5, rv b2, iv 1, jv 1, S2, jv 1, S2, jv 2, S2, jv 3, S2, iv 0, iv 0, iv 1, U0, U0]) A at_264 rfl rfl ?_
     refine s_aload (pc' := 268) A at_266 rfl rfl rfl ?_
     refine s_virtual (pc' := 271) (y := y3_isEmpty) (argsL := []) (rest := []) (z := y3_isEmpty) A E1618 (bo_isEmpty30 l Z a0 hw n0 h1615 A.size b2 r11 [.int (0 : Int32), .int (na + (1 : Int32)), .int (nb + (1 : Int32)), .int (0 : Int32)] ⟨E1618, F1619, F1620, F1621, V1622, ne1623, ge1624, ge1625⟩) (w13 hw) (w14 hw) (nf_same (C := "") (w16 hw)) (w16 hw) (w15 hw) (w3 hw) (w17 hw) (by decide) pd___Z rfl (W := 0) (by decide) (by decide) (Nat.le_of_eq rfl) (by decide) (by decide) rfl rfl at_268 rfl fun T h1637 v1638 A Q1639 => ?_
     obtain ⟨rfl, K1635, H1636⟩ := Q1639
     obtain ⟨E1640, F1641, F1642, F1643, V1644, ne1645, ge1646, ge1647⟩ := H1636
     refine Wp.stk (st' := [(.int (0 : Int32))]) rfl ?_
     refine s_istore (pc' := 273) (Ls' := #[iv q0, iv q1, iv q2, iv q3, iv q4, iv q5, iv na, iv nb, iv nc, iv nx, iv 1, iv 1, iv 5, rv b2, iv 1, jv 1, S2, jv 1, S2, jv 2, S2, jv 3, S2, iv 0, iv 0, iv 1, iv 0, U0]) A at_271 rfl rfl ?_
     refine s_iload (pc' := 275) A at_273 rfl rfl ?_
     refine s_ifY (pc' := 304) A at_275 (by decide) (by decide) (by decide) ?_
     refine s_iload (pc' := 306) A at_304 rfl rfl ?_
     refine s_ifN (pc' := 309) A at_306 rfl (by decide) ?_
     refine s_iload (pc' := 311) A at_309 rfl rfl ?_
     refine s_istore (pc' := 313) (Ls' := #[iv q0, iv q1, iv q2, iv q3, iv q4, iv q5, iv na, iv nb, iv nc, iv nx, iv 1, iv 1, iv 5, rv b2, iv 1, jv 1, S2, jv 1, S2, jv 2, S2, jv 3, S2, iv 0, iv 0, iv 1, iv 0, iv na]) A at_311 rfl rfl ?_
     refine s_goto (pc' := 332) A at_313 (by decide) (by decide) ?_
     refine s_iload (pc' := 334) A at_332 rfl rfl ?_
     refine s_ifN (pc' := 337) A at_334 rfl (by decide) ?_
     refine s_iload (pc' := 339) A at_337 rfl rfl ?_
     refine s_ifN (pc' := 342) A at_339 rfl (by decide) ?_
     refine s_aload (pc' := 344) A at_342 rfl rfl rfl ?_
     refine s_virtual (pc' := 347) (y := y5_first) (argsL := []) (rest := []) (z := y5_first) A E1640 (bo_first31 l Z a0 hw n0 h1637 A.size b2 r11 (0 : Int32) (na + (1 : Int32)) (nb + (1 : Int32)) (0 : Int32) ⟨E1640, F1641, F1642, F1643, V1644, ne1645, ge1646, ge1647⟩) (w40 hw) (w41 hw) (nf_same (C := "") (w43 hw)) (w43 hw) (w42 hw) (w3 hw) (w44 hw) (by decide) pd___I rfl (W := 0) (by decide) (by decide) (Nat.le_of_eq rfl) (by decide) (by decide) rfl rfl at_344 rfl fun T h1650 v1651 A Q1652 => ?_
     obtain ⟨rfl, K1648, H1649⟩ := Q1652
     obtain ⟨E1653, F1654, F1655, F1656, V1657, ne1658, ge1659, ge1660⟩ := H1649
     refine Wp.stk (st' := [(.int ((na + (1 : Int32)) - (1 : Int32)))]) rfl ?_
     refine s_iload (pc' := 349) A at_347 rfl rfl ?_
     refine s_icmpN (pc' := 352) A at_349 rfl (teq (show ((na + (1 : Int32)) - (1 : Int32)) = na from (by have _ := rng32 na; have _ : (1 : Int32).toInt = 1 := (by decide); have _ := rng32 (na + (1 : Int32)); have _ := c_iadd na (1 : Int32); have _ := rng32 ((na + (1 : Int32)) - (1 : Int32)); have _ := c_isub (na + (1 : Int32)) (1 : Int32); apply Int32.toInt_inj.mp; omega))).2 ?_
     refine s_iconst (pc' := 353) (z := (1 : Int32)) A at_352 rfl (by decide) ?_
     refine s_goto (pc' := 357) A at_353 (by decide) (by decide) ?_
     exact r_bool A rfl (by decide) at_357 (by decide) (by decide) (rfl)
   ·
    rcases cpp with rfl | rfl | rfl | rfl | rfl | rfl
    ·
     refine s_iload (pc' := 176) A at_174 rfl rfl ?_
     refine s_ifN (pc' := 179) A at_176 rfl (by decide) ?_
     refine s_aload (pc' := 181) A at_179 rfl rfl rfl ?_
     refine s_lload (pc' := 183) A at_181 rfl rfl ?_
     refine s_iload (pc' := 185) A at_183 rfl rfl ?_
     refine s_iconst (pc' := 186) (z := (0 : Int32)) A at_185 rfl (by decide) ?_
     refine s_static (pc' := 189) (y := y0_idx) (argsL := [(.int (0 : Int32)), (.int (0 : Int32))]) (rest := [(.long (1 : Int64)), (.ref b2)]) A (idx l Z a0 hw n0 h1309 A.size (0 : Int32) (0 : Int32) (0 : Int32) (by decide)) (w28 hw) (w29 hw) (w30 hw) (w31 hw) (by decide) pd__II_I rfl (W := 3) (by decide) (by decide) (Nat.le_of_eq rfl) (by decide) (by decide) rfl rfl at_186 rfl fun T h1661 v1662 A Q1663 => ?_
     obtain ⟨rfl, eh⟩ := Q1663
     rw [eh] at A
     refine Wp.stk (st' := [(.int (0 : Int32)), (.long (1 : Int64)), (.ref b2)]) rfl ?_
     refine s_i2l (pc' := 190) (z := (0 : Int64)) A at_189 rfl (by decide) ?_
     refine s_ladd (pc' := 191) (z := (1 : Int64)) A at_190 rfl (by decide) ?_
     refine s_virtual (pc' := 194) (y := y6_remove) (argsL := [(.long (1 : Int64))]) (rest := []) (z := y6_remove) A E1312 (bo_remove32 l Z a0 hw n0 h1309 A.size b2 r11 (na + (1 : Int32)) (nb + (1 : Int32)) (nc + (1 : Int32)) ⟨E1312, F1313, F1314, F1315, V1316, ne1317, ge1318, ge1319⟩ zna znb znc) (w32 hw) (w33 hw) (nf_same (C := "") (w35 hw)) (w35 hw) (w34 hw) (w3 hw) (w36 hw) (by decide) pd__J_V rfl (W := 0) (by decide) (by decide) (Nat.le_of_eq rfl) (by decide) (by decide) rfl rfl at_191 rfl fun T h1666 v1667 A Q1668 => ?_
     obtain ⟨rfl, K1664, H1665⟩ := Q1668
     obtain ⟨E1669, F1670, F1671, F1672, V1673, ne1674, ge1675, ge1676⟩ := H1665
     refine Wp.stk (st' := []) rfl ?_
     refine s_iload (pc' := 196) A at_194 rfl rfl ?_
     refine s_iconst (pc' := 197) (z := (1 : Int32)) A at_196 rfl (by decide) ?_
     refine s_icmpN (pc' := 200) A at_197 rfl (by decide) ?_
     refine s_aload (pc' := 202) A at_200 rfl rfl rfl ?_
     refine s_lload (pc' := 204) A at_202 rfl rfl ?_
     refine s_iload (pc' := 206) A at_204 rfl rfl ?_
     refine s_iconst (pc' := 207) (z := (1 : Int32)) A at_206 rfl (by decide) ?_
     refine s_static (pc' := 210) (y := y0_idx) (argsL := [(.int (0 : Int32)), (.int (1 : Int32))]) (rest := [(.long (1 : Int64)), (.ref b2)]) A (idx l Z a0 hw n0 h1666 A.size (0 : Int32) (1 : Int32) (1 : Int32) (by decide)) (w28 hw) (w29 hw) (w30 hw) (w31 hw) (by decide) pd__II_I rfl (W := 3) (by decide) (by decide) (Nat.le_of_eq rfl) (by decide) (by decide) rfl rfl at_207 rfl fun T h1677 v1678 A Q1679 => ?_
     obtain ⟨rfl, eh⟩ := Q1679
     rw [eh] at A
     refine Wp.stk (st' := [(.int (1 : Int32)), (.long (1 : Int64)), (.ref b2)]) rfl ?_
     refine s_i2l (pc' := 211) (z := (1 : Int64)) A at_210 rfl (by decide) ?_
     refine s_ladd (pc' := 212) (z := (2 : Int64)) A at_211 rfl (by decide) ?_
     refine s_virtual (pc' := 215) (y := y6_remove) (argsL := [(.long (2 : Int64))]) (rest := []) (z := y6_remove) A E1669 (bo_remove37 l Z a0 hw n0 h1666 A.size b2 r11 (nb + (1 : Int32)) (nc + (1 : Int32)) ⟨E1669, F1670, F1671, F1672, V1673, ne1674, ge1675, ge1676⟩ znb znc) (w32 hw) (w33 hw) (nf_same (C := "") (w35 hw)) (w35 hw) (w34 hw) (w3 hw) (w36 hw) (by decide) pd__J_V rfl (W := 0) (by decide) (by decide) (Nat.le_of_eq rfl) (by decide) (by decide) rfl rfl at_212 rfl fun T h1682 v1683 A Q1684 => ?_
     obtain ⟨rfl, K1680, H1681⟩ := Q1684
     obtain ⟨E1685, F1686, F1687, F1688, V1689, ne1690, ge1691, ge1692⟩ := H1681
     refine Wp.stk (st' := []) rfl ?_
     refine s_iload (pc' := 217) A at_215 rfl rfl ?_
     refine s_iconst (pc' := 218) (z := (2 : Int32)) A at_217 rfl (by decide) ?_
     refine s_icmpY (pc' := 236) A at_218 (by decide) (by decide) (by decide) ?_
     refine s_iload (pc' := 238) A at_236 rfl rfl ?_
     refine s_iload (pc' := 240) A at_238 rfl rfl ?_
     refine s_iconst (pc' := 241) (z := (0 : Int32)) A at_240 rfl (by decide) ?_
     refine s_static (pc' := 244) (y := y1_removed) (argsL := [(.int (0 : Int32)), (.int (2 : Int32)), (.int (0 : Int32))]) (rest := []) A (rmd l Z a0 hw n0 h1682 A.size (0 : Int32) (2 : Int32) (0 : Int32) (1 : Int32) (by decide)) (w37 hw) (w38 hw) (w30 hw) (w39 hw) (by decide) pd__III_Z rfl (W := 0) (by decide) (by decide) (Nat.le_of_eq rfl) (by decide) (by decide) rfl rfl at_241 rfl fun T h1693 v1694 A Q1695 => ?_
     obtain ⟨rfl, eh⟩ := Q1695
     rw [eh] at A
     refine Wp.stk (st' := [(.int (1 : Int32))]) rfl ?_
     refine s_istore (pc' := 246) (Ls' := #[iv q0, iv q1, iv q2, iv q3, iv q4, iv q5, iv na, iv nb, iv nc, iv nx, iv 2, iv 1, iv 0, rv b2, iv 1, jv 1, S2, jv 1, S2, jv 2, S2, jv 3, S2, iv 1, U0, U0, U0, U0]) A at_244 rfl rfl ?_
     refine s_iload (pc' := 248) A at_246 rfl rfl ?_
     refine s_iload (pc' := 250) A at_248 rfl rfl ?_
     refine s_iconst (pc' := 251) (z := (1 : Int32)) A at_250 rfl (by decide) ?_
     refine s_static (pc' := 254) (y := y1_removed) (argsL := [(.int (0 : Int32)), (.int (2 : Int32)), (.int (1 : Int32))]) (rest := []) A (rmd l Z a0 hw n0 h1682 A.size (0 : Int32) (2 : Int32) (1 : Int32) (1 : Int32) (by decide)) (w37 hw) (w38 hw) (w30 hw) (w39 hw) (by decide) pd__III_Z rfl (W := 0) (by decide) (by decide) (Nat.le_of_eq rfl) (by decide) (by decide) rfl rfl at_251 rfl fun T h1696 v1697 A Q1698 => ?_
     obtain ⟨rfl, eh⟩ := Q1698
     rw [eh] at A
     refine Wp.stk (st' := [(.int (1 : Int32))]) rfl ?_
     refine s_istore (pc' := 256) (Ls' := #[iv q0, iv q1, iv q2, iv q3, iv q4, iv q5, iv na, iv nb, iv nc, iv nx, iv 2, iv 1, iv 0, rv b2, iv 1, jv 1, S2, jv 1, S2, jv 2, S2, jv 3, S2, iv 1, iv 1, U0, U0, U0]) A at_254 rfl rfl ?_
     refine s_iload (pc' := 258) A at_256 rfl rfl ?_
     refine s_iload (pc' := 260) A at_258 rfl rfl ?_
     refine s_iconst (pc' := 261) (z := (2 : Int32)) A at_260 rfl (by decide) ?_
     refine s_static (pc' := 264) (y := y1_removed) (argsL := [(.int (0 : Int32)), (.int (2 : Int32)), (.int (2 : Int32))]) (rest := []) A (rmd l Z a0 hw n0 h1682 A.size (0 : Int32) (2 : Int32) (2 : Int32) (0 : Int32) (by decide)) (w37 hw) (w38 hw) (w30 hw) (w39 hw) (by decide) pd__III_Z rfl (W := 0) (by decide) (by decide) (Nat.le_of_eq rfl) (by decide) (by decide) rfl rfl at_261 rfl fun T h1699 v1700 A Q1701 => ?_
     obtain ⟨rfl, eh⟩ := Q1701
     rw [eh] at A
     refine Wp.stk (st' := [(.int (0 : Int32))]) rfl ?_
     refine s_istore (pc' := 266) (Ls' := #[iv q0, iv q1, iv q2, iv q3, iv q4, iv q5, iv na, iv nb, iv nc, iv nx, iv 2, iv 1, iv 0, rv b2, iv 1, jv 1, S2, jv 1, S2, jv 2, S2, jv 3, S2, iv 1, iv 1, iv 0, U0, U0]) A at_264 rfl rfl ?_
     refine s_aload (pc' := 268) A at_266 rfl rfl rfl ?_
     refine s_virtual (pc' := 271) (y := y3_isEmpty) (argsL := []) (rest := []) (z := y3_isEmpty) A E1685 (bo_isEmpty38 l Z a0 hw n0 h1682 A.size b2 r11 [.int (0 : Int32), .int (0 : Int32), .int (0 : Int32), .int (nc + (1 : Int32))] ⟨E1685, F1686, F1687, F1688, V1689, ne1690, ge1691, ge1692⟩) (w13 hw) (w14 hw) (nf_same (C := "") (w16 hw)) (w16 hw) (w15 hw) (w3 hw) (w17 hw) (by decide) pd___Z rfl (W := 0) (by decide) (by decide) (Nat.le_of_eq rfl) (by decide) (by decide) rfl rfl at_268 rfl fun T h1704 v1705 A Q1706 => ?_
     obtain ⟨rfl, K1702, H1703⟩ := Q1706
     obtain ⟨E1707, F1708, F1709, F1710, V1711, ne1712, ge1713, ge1714⟩ := H1703
     refine Wp.stk (st' := [(.int (0 : Int32))]) rfl ?_
     refine s_istore (pc' := 273) (Ls' := #[iv q0, iv q1, iv q2, iv q3, iv q4, iv q5, iv na, iv nb, iv nc, iv nx, iv 2, iv 1, iv 0, rv b2, iv 1, jv 1, S2, jv 1, S2, jv 2, S2, jv 3, S2, iv 1, iv 1, iv 0, iv 0, U0]) A at_271 rfl rfl ?_
     refine s_iload (pc' := 275) A at_273 rfl rfl ?_
     refine s_ifN (pc' := 278) A at_275 rfl (by decide) ?_
     refine s_iload (pc' := 280) A at_278 rfl rfl ?_
     refine s_ifN (pc' := 283) A at_280 rfl (by decide) ?_
     refine s_iload (pc' := 285) A at_283 rfl rfl ?_
     refine s_ifY (pc' := 304) A at_285 (by decide) (by decide) (by decide) ?_
     refine s_iload (pc' := 306) A at_304 rfl rfl ?_
     refine s_ifY (pc' := 316) A at_306 (by decide) (by decide) (by decide) ?_
     refine s_iload (pc' := 318) A at_316 rfl rfl ?_
     refine s_ifY (pc' := 328) A at_318 (by decide) (by decide) (by decide) ?_
     refine s_iload (pc' := 330) A at_328 rfl rfl ?_
     refine s_istore (pc' := 332) (Ls' := #[iv q0, iv q1, iv q2, iv q3, iv q4, iv q5, iv na, iv nb, iv nc, iv nx, iv 2, iv 1, iv 0, rv b2, iv 1, jv 1, S2, jv 1, S2, jv 2, S2, jv 3, S2, iv 1, iv 1, iv 0, iv 0, iv nc]) A at_330 rfl rfl ?_
     refine s_iload (pc' := 334) A at_332 rfl rfl ?_
     refine s_ifN (pc' := 337) A at_334 rfl (by decide) ?_
     refine s_iload (pc' := 339) A at_337 rfl rfl ?_
     refine s_ifN (pc' := 342) A at_339 rfl (by decide) ?_
     refine s_aload (pc' := 344) A at_342 rfl rfl rfl ?_
     refine s_virtual (pc' := 347) (y := y5_first) (argsL := []) (rest := []) (z := y5_first) A E1707 (bo_first39 l Z a0 hw n0 h1704 A.size b2 r11 (0 : Int32) (0 : Int32) (0 : Int32) (nc + (1 : Int32)) ⟨E1707, F1708, F1709, F1710, V1711, ne1712, ge1713, ge1714⟩) (w40 hw) (w41 hw) (nf_same (C := "") (w43 hw)) (w43 hw) (w42 hw) (w3 hw) (w44 hw) (by decide) pd___I rfl (W := 0) (by decide) (by decide) (Nat.le_of_eq rfl) (by decide) (by decide) rfl rfl at_344 rfl fun T h1717 v1718 A Q1719 => ?_
     obtain ⟨rfl, K1715, H1716⟩ := Q1719
     obtain ⟨E1720, F1721, F1722, F1723, V1724, ne1725, ge1726, ge1727⟩ := H1716
     refine Wp.stk (st' := [(.int ((nc + (1 : Int32)) - (1 : Int32)))]) rfl ?_
     refine s_iload (pc' := 349) A at_347 rfl rfl ?_
     refine s_icmpN (pc' := 352) A at_349 rfl (teq (show ((nc + (1 : Int32)) - (1 : Int32)) = nc from (by have _ := rng32 nc; have _ : (1 : Int32).toInt = 1 := (by decide); have _ := rng32 (nc + (1 : Int32)); have _ := c_iadd nc (1 : Int32); have _ := rng32 ((nc + (1 : Int32)) - (1 : Int32)); have _ := c_isub (nc + (1 : Int32)) (1 : Int32); apply Int32.toInt_inj.mp; omega))).2 ?_
     refine s_iconst (pc' := 353) (z := (1 : Int32)) A at_352 rfl (by decide) ?_
     refine s_goto (pc' := 357) A at_353 (by decide) (by decide) ?_
     exact r_bool A rfl (by decide) at_357 (by decide) (by decide) (rfl)
    ·
     refine s_iload (pc' := 176) A at_174 rfl rfl ?_
     refine s_ifN (pc' := 179) A at_176 rfl (by decide) ?_
     refine s_aload (pc' := 181) A at_179 rfl rfl rfl ?_
     refine s_lload (pc' := 183) A at_181 rfl rfl ?_
     refine s_iload (pc' := 185) A at_183 rfl rfl ?_
     refine s_iconst (pc' := 186) (z := (0 : Int32)) A at_185 rfl (by decide) ?_
     refine s_static (pc' := 189) (y := y0_idx) (argsL := [(.int (1 : Int32)), (.int (0 : Int32))]) (rest := [(.long (1 : Int64)), (.ref b2)]) A (idx l Z a0 hw n0 h1309 A.size (1 : Int32) (0 : Int32) (0 : Int32) (by decide)) (w28 hw) (w29 hw) (w30 hw) (w31 hw) (by decide) pd__II_I rfl (W := 3) (by decide) (by decide) (Nat.le_of_eq rfl) (by decide) (by decide) rfl rfl at_186 rfl fun T h1728 v1729 A Q1730 => ?_
     obtain ⟨rfl, eh⟩ := Q1730
     rw [eh] at A
     refine Wp.stk (st' := [(.int (0 : Int32)), (.long (1 : Int64)), (.ref b2)]) rfl ?_
     refine s_i2l (pc' := 190) (z := (0 : Int64)) A at_189 rfl (by decide) ?_
     refine s_ladd (pc' := 191) (z := (1 : Int64)) A at_190 rfl (by decide) ?_
     refine s_virtual (pc' := 194) (y := y6_remove) (argsL := [(.long (1 : Int64))]) (rest := []) (z := y6_remove) A E1312 (bo_remove32 l Z a0 hw n0 h1309 A.size b2 r11 (na + (1 : Int32)) (nb + (1 : Int32)) (nc + (1 : Int32)) ⟨E1312, F1313, F1314, F1315, V1316, ne1317, ge1318, ge1319⟩ zna znb znc) (w32 hw) (w33 hw) (nf_same (C := "") (w35 hw)) (w35 hw) (w34 hw) (w3 hw) (w36 hw) (by decide) pd__J_V rfl (W := 0) (by decide) (by decide) (Nat.le_of_eq rfl) (by decide) (by decide) rfl rfl at_191 rfl fun T h1733 v1734 A Q1735 => ?_
     obtain ⟨rfl, K1731, H1732⟩ := Q1735
     obtain ⟨E1736, F1737, F1738, F1739, V1740, ne1741, ge1742, ge1743⟩ := H1732
     refine Wp.stk (st' := []) rfl ?_
     refine s_iload (pc' := 196) A at_194 rfl rfl ?_
     refine s_iconst (pc' := 197) (z := (1 : Int32)) A at_196 rfl (by decide) ?_
     refine s_icmpN (pc' := 200) A at_197 rfl (by decide) ?_
     refine s_aload (pc' := 202) A at_200 rfl rfl rfl ?_
     refine s_lload (pc' := 204) A at_202 rfl rfl ?_
     refine s_iload (pc' := 206) A at_204 rfl rfl ?_
     refine s_iconst (pc' := 207) (z := (1 : Int32)) A at_206 rfl (by decide) ?_
     refine s_static (pc' := 210) (y := y0_idx) (argsL := [(.int (1 : Int32)), (.int (1 : Int32))]) (rest := [(.long (1 : Int64)), (.ref b2)]) A (idx l Z a0 hw n0 h1733 A.size (1 : Int32) (1 : Int32) (2 : Int32) (by decide)) (w28 hw) (w29 hw) (w30 hw) (w31 hw) (by decide) pd__II_I rfl (W := 3) (by decide) (by decide) (Nat.le_of_eq rfl) (by decide) (by decide) rfl rfl at_207 rfl fun T h1744 v1745 A Q1746 => ?_
     obtain ⟨rfl, eh⟩ := Q1746
     rw [eh] at A
     refine Wp.stk (st' := [(.int (2 : Int32)), (.long (1 : Int64)), (.ref b2)]) rfl ?_
     refine s_i2l (pc' := 211) (z := (2 : Int64)) A at_210 rfl (by decide) ?_
     refine s_ladd (pc' := 212) (z := (3 : Int64)) A at_211 rfl (by decide) ?_
     refine s_virtual (pc' := 215) (y := y6_remove) (argsL := [(.long (3 : Int64))]) (rest := []) (z := y6_remove) A E1736 (bo_remove40 l Z a0 hw n0 h1733 A.size b2 r11 (nb + (1 : Int32)) (nc + (1 : Int32)) ⟨E1736, F1737, F1738, F1739, V1740, ne1741, ge1742, ge1743⟩ znb znc) (w32 hw) (w33 hw) (nf_same (C := "") (w35 hw)) (w35 hw) (w34 hw) (w3 hw) (w36 hw) (by decide) pd__J_V rfl (W := 0) (by decide) (by decide) (Nat.le_of_eq rfl) (by decide) (by decide) rfl rfl at_212 rfl fun T h1749 v1750 A Q1751 => ?_
     obtain ⟨rfl, K1747, H1748⟩ := Q1751
     obtain ⟨E1752, F1753, F1754, F1755, V1756, ne1757, ge1758, ge1759⟩ := H1748
     refine Wp.stk (st' := []) rfl ?_
     refine s_iload (pc' := 217) A at_215 rfl rfl ?_
     refine s_iconst (pc' := 218) (z := (2 : Int32)) A at_217 rfl (by decide) ?_
     refine s_icmpY (pc' := 236) A at_218 (by decide) (by decide) (by decide) ?_
     refine s_iload (pc' := 238) A at_236 rfl rfl ?_
     refine s_iload (pc' := 240) A at_238 rfl rfl ?_
     refine s_iconst (pc' := 241) (z := (0 : Int32)) A at_240 rfl (by decide) ?_
     refine s_static (pc' := 244) (y := y1_removed) (argsL := [(.int (1 : Int32)), (.int (2 : Int32)), (.int (0 : Int32))]) (rest := []) A (rmd l Z a0 hw n0 h1749 A.size (1 : Int32) (2 : Int32) (0 : Int32) (1 : Int32) (by decide)) (w37 hw) (w38 hw) (w30 hw) (w39 hw) (by decide) pd__III_Z rfl (W := 0) (by decide) (by decide) (Nat.le_of_eq rfl) (by decide) (by decide) rfl rfl at_241 rfl fun T h1760 v1761 A Q1762 => ?_
     obtain ⟨rfl, eh⟩ := Q1762
     rw [eh] at A
     refine Wp.stk (st' := [(.int (1 : Int32))]) rfl ?_
     refine s_istore (pc' := 246) (Ls' := #[iv q0, iv q1, iv q2, iv q3, iv q4, iv q5, iv na, iv nb, iv nc, iv nx, iv 2, iv 1, iv 1, rv b2, iv 1, jv 1, S2, jv 1, S2, jv 2, S2, jv 3, S2, iv 1, U0, U0, U0, U0]) A at_244 rfl rfl ?_
     refine s_iload (pc' := 248) A at_246 rfl rfl ?_
     refine s_iload (pc' := 250) A at_248 rfl rfl ?_
     refine s_iconst (pc' := 251) (z := (1 : Int32)) A at_250 rfl (by decide) ?_
     refine s_static (pc' := 254) (y := y1_removed) (argsL := [(.int (1 : Int32)), (.int (2 : Int32)), (.int (1 : Int32))]) (rest := []) A (rmd l Z a0 hw n0 h1749 A.size (1 : Int32) (2 : Int32) (1 : Int32) (0 : Int32) (by decide)) (w37 hw) (w38 hw) (w30 hw) (w39 hw) (by decide) pd__III_Z rfl (W := 0) (by decide) (by decide) (Nat.le_of_eq rfl) (by decide) (by decide) rfl rfl at_251 rfl fun T h1763 v1764 A Q1765 => ?_
     obtain ⟨rfl, eh⟩ := Q1765
     rw [eh] at A
     refine Wp.stk (st' := [(.int (0 : Int32))]) rfl ?_
     refine s_istore (pc' := 256) (Ls' := #[iv q0, iv q1, iv q2, iv q3, iv q4, iv q5, iv na, iv nb, iv nc, iv nx, iv 2, iv 1, iv 1, rv b2, iv 1, jv 1, S2, jv 1, S2, jv 2, S2, jv 3, S2, iv 1, iv 0, U0, U0, U0]) A at_254 rfl rfl ?_
     refine s_iload (pc' := 258) A at_256 rfl rfl ?_
     refine s_iload (pc' := 260) A at_258 rfl rfl ?_
     refine s_iconst (pc' := 261) (z := (2 : Int32)) A at_260 rfl (by decide) ?_
     refine s_static (pc' := 264) (y := y1_removed) (argsL := [(.int (1 : Int32)), (.int (2 : Int32)), (.int (2 : Int32))]) (rest := []) A (rmd l Z a0 hw n0 h1749 A.size (1 : Int32) (2 : Int32) (2 : Int32) (1 : Int32) (by decide)) (w37 hw) (w38 hw) (w30 hw) (w39 hw) (by decide) pd__III_Z rfl (W := 0) (by decide) (by decide) (Nat.le_of_eq rfl) (by decide) (by decide) rfl rfl at_261 rfl fun T h1766 v1767 A Q1768 => ?_
     obtain ⟨rfl, eh⟩ := Q1768
     rw [eh] at A
     refine Wp.stk (st' := [(.int (1 : Int32))]) rfl ?_
     refine s_istore (pc' := 266) (Ls' := #[iv q0, iv q1, iv q2, iv q3, iv q4, iv q5, iv na, iv nb, iv nc, iv nx, iv 2, iv 1, iv 1, rv b2, iv 1, jv 1, S2, jv 1, S2, jv 2, S2, jv 3, S2, iv 1, iv 0, iv 1, U0, U0]) A at_264 rfl rfl ?_
     refine s_aload (pc' := 268) A at_266 rfl rfl rfl ?_
     refine s_virtual (pc' := 271) (y := y3_isEmpty) (argsL := []) (rest := []) (z := y3_isEmpty) A E1752 (bo_isEmpty33 l Z a0 hw n0 h1749 A.size b2 r11 [.int (0 : Int32), .int (0 : Int32), .int (nb + (1 : Int32)), .int (0 : Int32)] ⟨E1752, F1753, F1754, F1755, V1756, ne1757, ge1758, ge1759⟩) (w13 hw) (w14 hw) (nf_same (C := "") (w16 hw)) (w16 hw) (w15 hw) (w3 hw) (w17 hw) (by decide) pd___Z rfl (W := 0) (by decide) (by decide) (Nat.le_of_eq rfl) (by decide) (by decide) rfl rfl at_268 rfl fun T h1771 v1772 A Q1773 => ?_
     obtain ⟨rfl, K1769, H1770⟩ := Q1773
     obtain ⟨E1774, F1775, F1776, F1777, V1778, ne1779, ge1780, ge1781⟩ := H1770
     refine Wp.stk (st' := [(.int (0 : Int32))]) rfl ?_
     refine s_istore (pc' := 273) (Ls' := #[iv q0, iv q1, iv q2, iv q3, iv q4, iv q5, iv na, iv nb, iv nc, iv nx, iv 2, iv 1, iv 1, rv b2, iv 1, jv 1, S2, jv 1, S2, jv 2, S2, jv 3, S2, iv 1, iv 0, iv 1, iv 0, U0]) A at_271 rfl rfl ?_
     refine s_iload (pc' := 275) A at_273 rfl rfl ?_
     refine s_ifN (pc' := 278) A at_275 rfl (by decide) ?_
     refine s_iload (pc' := 280) A at_278 rfl rfl ?_
     refine s_ifY (pc' := 304) A at_280 (by decide) (by decide) (by decide) ?_
     refine s_iload (pc' := 306) A at_304 rfl rfl ?_
     refine s_ifY (pc' := 316) A at_306 (by decide) (by decide) (by decide) ?_
     refine s_iload (pc' := 318) A at_316 rfl rfl ?_
     refine s_ifN (pc' := 321) A at_318 rfl (by decide) ?_
     refine s_iload (pc' := 323) A at_321 rfl rfl ?_
     refine s_istore (pc' := 325) (Ls' := #[iv q0, iv q1, iv q2, iv q3, iv q4, iv q5, iv na, iv nb, iv nc, iv nx, iv 2, iv 1, iv 1, rv b2, iv 1, jv 1, S2, jv 1, S2, jv 2, S2, jv 3, S2, iv 1, iv 0, iv 1, iv 0, iv nb]) A at_323 rfl rfl ?_
     refine s_goto (pc' := 332) A at_325 (by decide) (by decide) ?_
     refine s_iload (pc' := 334) A at_332 rfl rfl ?_
     refine s_ifN (pc' := 337) A at_334 rfl (by decide) ?_
     refine s_iload (pc' := 339) A at_337 rfl rfl ?_
     refine s_ifN (pc' := 342) A at_339 rfl (by decide) ?_
     refine s_aload (pc' := 344) A at_342 rfl rfl rfl ?_
     refine s_virtual (pc' := 347) (y := y5_first) (argsL := []) (rest := []) (z := y5_first) A E1774 (bo_first34 l Z a0 hw n0 h1771 A.size b2 r11 (0 : Int32) (0 : Int32) (nb + (1 : Int32)) (0 : Int32) ⟨E1774, F1775, F1776, F1777, V1778, ne1779, ge1780, ge1781⟩) (w40 hw) (w41 hw) (nf_same (C := "") (w43 hw)) (w43 hw) (w42 hw) (w3 hw) (w44 hw) (by decide) pd___I rfl (W := 0) (by decide) (by decide) (Nat.le_of_eq rfl) (by decide) (by decide) rfl rfl at_344 rfl fun T h1784 v1785 A Q1786 => ?_
     obtain ⟨rfl, K1782, H1783⟩ := Q1786
     obtain ⟨E1787, F1788, F1789, F1790, V1791, ne1792, ge1793, ge1794⟩ := H1783
     refine Wp.stk (st' := [(.int ((nb + (1 : Int32)) - (1 : Int32)))]) rfl ?_
     refine s_iload (pc' := 349) A at_347 rfl rfl ?_
     refine s_icmpN (pc' := 352) A at_349 rfl (teq (show ((nb + (1 : Int32)) - (1 : Int32)) = nb from (by have _ := rng32 nb; have _ : (1 : Int32).toInt = 1 := (by decide); have _ := rng32 (nb + (1 : Int32)); have _ := c_iadd nb (1 : Int32); have _ := rng32 ((nb + (1 : Int32)) - (1 : Int32)); have _ := c_isub (nb + (1 : Int32)) (1 : Int32); apply Int32.toInt_inj.mp; omega))).2 ?_
     refine s_iconst (pc' := 353) (z := (1 : Int32)) A at_352 rfl (by decide) ?_
     refine s_goto (pc' := 357) A at_353 (by decide) (by decide) ?_
     exact r_bool A rfl (by decide) at_357 (by decide) (by decide) (rfl)
    ·
     refine s_iload (pc' := 176) A at_174 rfl rfl ?_
     refine s_ifN (pc' := 179) A at_176 rfl (by decide) ?_
     refine s_aload (pc' := 181) A at_179 rfl rfl rfl ?_
     refine s_lload (pc' := 183) A at_181 rfl rfl ?_
     refine s_iload (pc' := 185) A at_183 rfl rfl ?_
     refine s_iconst (pc' := 186) (z := (0 : Int32)) A at_185 rfl (by decide) ?_
     refine s_static (pc' := 189) (y := y0_idx) (argsL := [(.int (2 : Int32)), (.int (0 : Int32))]) (rest := [(.long (1 : Int64)), (.ref b2)]) A (idx l Z a0 hw n0 h1309 A.size (2 : Int32) (0 : Int32) (1 : Int32) (by decide)) (w28 hw) (w29 hw) (w30 hw) (w31 hw) (by decide) pd__II_I rfl (W := 3) (by decide) (by decide) (Nat.le_of_eq rfl) (by decide) (by decide) rfl rfl at_186 rfl fun T h1795 v1796 A Q1797 => ?_
     obtain ⟨rfl, eh⟩ := Q1797
     rw [eh] at A
     refine Wp.stk (st' := [(.int (1 : Int32)), (.long (1 : Int64)), (.ref b2)]) rfl ?_
     refine s_i2l (pc' := 190) (z := (1 : Int64)) A at_189 rfl (by decide) ?_
     refine s_ladd (pc' := 191) (z := (2 : Int64)) A at_190 rfl (by decide) ?_
     refine s_virtual (pc' := 194) (y := y6_remove) (argsL := [(.long (2 : Int64))]) (rest := []) (z := y6_remove) A E1312 (bo_remove35 l Z a0 hw n0 h1309 A.size b2 r11 (na + (1 : Int32)) (nb + (1 : Int32)) (nc + (1 : Int32)) ⟨E1312, F1313, F1314, F1315, V1316, ne1317, ge1318, ge1319⟩ zna znb znc) (w32 hw) (w33 hw) (nf_same (C := "") (w35 hw)) (w35 hw) (w34 hw) (w3 hw) (w36 hw) (by decide) pd__J_V rfl (W := 0) (by decide) (by decide) (Nat.le_of_eq rfl) (by decide) (by decide) rfl rfl at_191 rfl fun T h1800 v1801 A Q1802 => ?_
     obtain ⟨rfl, K1798, H1799⟩ := Q1802
     obtain ⟨E1803, F1804, F1805, F1806, V1807, ne1808, ge1809, ge1810⟩ := H1799
     refine Wp.stk (st' := []) rfl ?_
     refine s_iload (pc' := 196) A at_194 rfl rfl ?_
     refine s_iconst (pc' := 197) (z := (1 : Int32)) A at_196 rfl (by decide) ?_
     refine s_icmpN (pc' := 200) A at_197 rfl (by decide) ?_
     refine s_aload (pc' := 202) A at_200 rfl rfl rfl ?_
     refine s_lload (pc' := 204) A at_202 rfl rfl ?_
     refine s_iload (pc' := 206) A at_204 rfl rfl ?_
     refine s_iconst (pc' := 207) (z := (1 : Int32)) A at_206 rfl (by decide) ?_
     refine s_static (pc' := 210) (y := y0_idx) (argsL := [(.int (2 : Int32)), (.int (1 : Int32))]) (rest := [(.long (1 : Int64)), (.ref b2)]) A (idx l Z a0 hw n0 h1800 A.size (2 : Int32) (1 : Int32) (0 : Int32) (by decide)) (w28 hw) (w29 hw) (w30 hw) (w31 hw) (by decide) pd__II_I rfl (W := 3) (by decide) (by decide) (Nat.le_of_eq rfl) (by decide) (by decide) rfl rfl at_207 rfl fun T h1811 v1812 A Q1813 => ?_
     obtain ⟨rfl, eh⟩ := Q1813
     rw [eh] at A
     refine Wp.stk (st' := [(.int (0 : Int32)), (.long (1 : Int64)), (.ref b2)]) rfl ?_
     refine s_i2l (pc' := 211) (z := (0 : Int64)) A at_210 rfl (by decide) ?_
     refine s_ladd (pc' := 212) (z := (1 : Int64)) A at_211 rfl (by decide) ?_
     refine s_virtual (pc' := 215) (y := y6_remove) (argsL := [(.long (1 : Int64))]) (rest := []) (z := y6_remove) A E1803 (bo_remove41 l Z a0 hw n0 h1800 A.size b2 r11 (na + (1 : Int32)) (nc + (1 : Int32)) ⟨E1803, F1804, F1805, F1806, V1807, ne1808, ge1809, ge1810⟩ zna znc) (w32 hw) (w33 hw) (nf_same (C := "") (w35 hw)) (w35 hw) (w34 hw) (w3 hw) (w36 hw) (by decide) pd__J_V rfl (W := 0) (by decide) (by decide) (Nat.le_of_eq rfl) (by decide) (by decide) rfl rfl at_212 rfl fun T h1816 v1817 A Q1818 => ?_
     obtain ⟨rfl, K1814, H1815⟩ := Q1818
     obtain ⟨E1819, F1820, F1821, F1822, V1823, ne1824, ge1825, ge1826⟩ := H1815
     refine Wp.stk (st' := []) rfl ?_
     refine s_iload (pc' := 217) A at_215 rfl rfl ?_
     refine s_iconst (pc' := 218) (z := (2 : Int32)) A at_217 rfl (by decide) ?_
     refine s_icmpY (pc' := 236) A at_218 (by decide) (by decide) (by decide) ?_
     refine s_iload (pc' := 238) A at_236 rfl rfl ?_
     refine s_iload (pc' := 240) A at_238 rfl rfl ?_
     refine s_iconst (pc' := 241) (z := (0 : Int32)) A at_240 rfl (by decide) ?_
     refine s_static (pc' := 244) (y := y1_removed) (argsL := [(.int (2 : Int32)), (.int (2 : Int32)), (.int (0 : Int32))]) (rest := []) A (rmd l Z a0 hw n0 h1816 A.size (2 : Int32) (2 : Int32) (0 : Int32) (1 : Int32) (by decide)) (w37 hw) (w38 hw) (w30 hw) (w39 hw) (by decide) pd__III_Z rfl (W := 0) (by decide) (by decide) (Nat.le_of_eq rfl) (by decide) (by decide) rfl rfl at_241 rfl fun T h1827 v1828 A Q1829 => ?_
     obtain ⟨rfl, eh⟩ := Q1829
     rw [eh] at A
     refine Wp.stk (st' := [(.int (1 : Int32))]) rfl ?_
     refine s_istore (pc' := 246) (Ls' := #[iv q0, iv q1, iv q2, iv q3, iv q4, iv q5, iv na, iv nb, iv nc, iv nx, iv 2, iv 1, iv 2, rv b2, iv 1, jv 1, S2, jv 1, S2, jv 2, S2, jv 3, S2, iv 1, U0, U0, U0, U0]) A at_244 rfl rfl ?_
     refine s_iload (pc' := 248) A at_246 rfl rfl ?_
     refine s_iload (pc' := 250) A at_248 rfl rfl ?_
     refine s_iconst (pc' := 251) (z := (1 : Int32)) A at_250 rfl (by decide) ?_
     refine s_static (pc' := 254) (y := y1_removed) (argsL := [(.int (2 : Int32)), (.int (2 : Int32)), (.int (1 : Int32))]) (rest := []) A (rmd l Z a0 hw n0 h1816 A.size (2 : Int32) (2 : Int32) (1 : Int32) (1 : Int32) (by decide)) (w37 hw) (w38 hw) (w30 hw) (w39 hw) (by decide) pd__III_Z rfl (W := 0) (by decide) (by decide) (Nat.le_of_eq rfl) (by decide) (by decide) rfl rfl at_251 rfl fun T h1830 v1831 A Q1832 => ?_
     obtain ⟨rfl, eh⟩ := Q1832
     rw [eh] at A
     refine Wp.stk (st' := [(.int (1 : Int32))]) rfl ?_
     refine s_istore (pc' := 256) (Ls' := #[iv q0, iv q1, iv q2, iv q3, iv q4, iv q5, iv na, iv nb, iv nc, iv nx, iv 2, iv 1, iv 2, rv b2, iv 1, jv 1, S2, jv 1, S2, jv 2, S2, jv 3, S2, iv 1, iv 1, U0, U0, U0]) A at_254 rfl rfl ?_
     refine s_iload (pc' := 258) A at_256 rfl rfl ?_
     refine s_iload (pc' := 260) A at_258 rfl rfl ?_
     refine s_iconst (pc' := 261) (z := (2 : Int32)) A at_260 rfl (by decide) ?_
     refine s_static (pc' := 264) (y := y1_removed) (argsL := [(.int (2 : Int32)), (.int (2 : Int32)), (.int (2 : Int32))]) (rest := []) A (rmd l Z a0 hw n0 h1816 A.size (2 : Int32) (2 : Int32) (2 : Int32) (0 : Int32) (by decide)) (w37 hw) (w38 hw) (w30 hw) (w39 hw) (by decide) pd__III_Z rfl (W := 0) (by decide) (by decide) (Nat.le_of_eq rfl) (by decide) (by decide) rfl rfl at_261 rfl fun T h1833 v1834 A Q1835 => ?_
     obtain ⟨rfl, eh⟩ := Q1835
     rw [eh] at A
     refine Wp.stk (st' := [(.int (0 : Int32))]) rfl ?_
     refine s_istore (pc' := 266) (Ls' := #[iv q0, iv q1, iv q2, iv q3, iv q4, iv q5, iv na, iv nb, iv nc, iv nx, iv 2, iv 1, iv 2, rv b2, iv 1, jv 1, S2, jv 1, S2, jv 2, S2, jv 3, S2, iv 1, iv 1, iv 0, U0, U0]) A at_264 rfl rfl ?_
     refine s_aload (pc' := 268) A at_266 rfl rfl rfl ?_
     refine s_virtual (pc' := 271) (y := y3_isEmpty) (argsL := []) (rest := []) (z := y3_isEmpty) A E1819 (bo_isEmpty38 l Z a0 hw n0 h1816 A.size b2 r11 [.int (0 : Int32), .int (0 : Int32), .int (0 : Int32), .int (nc + (1 : Int32))] ⟨E1819, F1820, F1821, F1822, V1823, ne1824, ge1825, ge1826⟩) (w13 hw) (w14 hw) (nf_same (C := "") (w16 hw)) (w16 hw) (w15 hw) (w3 hw) (w17 hw) (by decide) pd___Z rfl (W := 0) (by decide) (by decide) (Nat.le_of_eq rfl) (by decide) (by decide) rfl rfl at_268 rfl fun T h1838 v1839 A Q1840 => ?_
     obtain ⟨rfl, K1836, H1837⟩ := Q1840
     obtain ⟨E1841, F1842, F1843, F1844, V1845, ne1846, ge1847, ge1848⟩ := H1837
     refine Wp.stk (st' := [(.int (0 : Int32))]) rfl ?_
     refine s_istore (pc' := 273) (Ls' := #[iv q0, iv q1, iv q2, iv q3, iv q4, iv q5, iv na, iv nb, iv nc, iv nx, iv 2, iv 1, iv 2, rv b2, iv 1, jv 1, S2, jv 1, S2, jv 2, S2, jv 3, S2, iv 1, iv 1, iv 0, iv 0, U0]) A at_271 rfl rfl ?_
     refine s_iload (pc' := 275) A at_273 rfl rfl ?_
     refine s_ifN (pc' := 278) A at_275 rfl (by decide) ?_
     refine s_iload (pc' := 280) A at_278 rfl rfl ?_
     refine s_ifN (pc' := 283) A at_280 rfl (by decide) ?_
     refine s_iload (pc' := 285) A at_283 rfl rfl ?_
     refine s_ifY (pc' := 304) A at_285 (by decide) (by decide) (by decide) ?_
     refine s_iload (pc' := 306) A at_304 rfl rfl ?_
     refine s_ifY (pc' := 316) A at_306 (by decide) (by decide) (by decide) ?_
     refine s_iload (pc' := 318) A at_316 rfl rfl ?_
     refine s_ifY (pc' := 328) A at_318 (by decide) (by decide) (by decide) ?_
     refine s_iload (pc' := 330) A at_328 rfl rfl ?_
     refine s_istore (pc' := 332) (Ls' := #[iv q0, iv q1, iv q2, iv q3, iv q4, iv q5, iv na, iv nb, iv nc, iv nx, iv 2, iv 1, iv 2, rv b2, iv 1, jv 1, S2, jv 1, S2, jv 2, S2, jv 3, S2, iv 1, iv 1, iv 0, iv 0, iv nc]) A at_330 rfl rfl ?_
     refine s_iload (pc' := 334) A at_332 rfl rfl ?_
     refine s_ifN (pc' := 337) A at_334 rfl (by decide) ?_
     refine s_iload (pc' := 339) A at_337 rfl rfl ?_
     refine s_ifN (pc' := 342) A at_339 rfl (by decide) ?_
     refine s_aload (pc' := 344) A at_342 rfl rfl rfl ?_
     refine s_virtual (pc' := 347) (y := y5_first) (argsL := []) (rest := []) (z := y5_first) A E1841 (bo_first39 l Z a0 hw n0 h1838 A.size b2 r11 (0 : Int32) (0 : Int32) (0 : Int32) (nc + (1 : Int32)) ⟨E1841, F1842, F1843, F1844, V1845, ne1846, ge1847, ge1848⟩) (w40 hw) (w41 hw) (nf_same (C := "") (w43 hw)) (w43 hw) (w42 hw) (w3 hw) (w44 hw) (by decide) pd___I rfl (W := 0) (by decide) (by decide) (Nat.le_of_eq rfl) (by decide) (by decide) rfl rfl at_344 rfl fun T h1851 v1852 A Q1853 => ?_
     obtain ⟨rfl, K1849, H1850⟩ := Q1853
     obtain ⟨E1854, F1855, F1856, F1857, V1858, ne1859, ge1860, ge1861⟩ := H1850
     refine Wp.stk (st' := [(.int ((nc + (1 : Int32)) - (1 : Int32)))]) rfl ?_
     refine s_iload (pc' := 349) A at_347 rfl rfl ?_
     refine s_icmpN (pc' := 352) A at_349 rfl (teq (show ((nc + (1 : Int32)) - (1 : Int32)) = nc from (by have _ := rng32 nc; have _ : (1 : Int32).toInt = 1 := (by decide); have _ := rng32 (nc + (1 : Int32)); have _ := c_iadd nc (1 : Int32); have _ := rng32 ((nc + (1 : Int32)) - (1 : Int32)); have _ := c_isub (nc + (1 : Int32)) (1 : Int32); apply Int32.toInt_inj.mp; omega))).2 ?_
     refine s_iconst (pc' := 353) (z := (1 : Int32)) A at_352 rfl (by decide) ?_
     refine s_goto (pc' := 357) A at_353 (by decide) (by decide) ?_
     exact r_bool A rfl (by decide) at_357 (by decide) (by decide) (rfl)
    ·
     refine s_iload (pc' := 176) A at_174 rfl rfl ?_
     refine s_ifN (pc' := 179) A at_176 rfl (by decide) ?_
     refine s_aload (pc' := 181) A at_179 rfl rfl rfl ?_
     refine s_lload (pc' := 183) A at_181 rfl rfl ?_
     refine s_iload (pc' := 185) A at_183 rfl rfl ?_
     refine s_iconst (pc' := 186) (z := (0 : Int32)) A at_185 rfl (by decide) ?_
     refine s_static (pc' := 189) (y := y0_idx) (argsL := [(.int (3 : Int32)), (.int (0 : Int32))]) (rest := [(.long (1 : Int64)), (.ref b2)]) A (idx l Z a0 hw n0 h1309 A.size (3 : Int32) (0 : Int32) (1 : Int32) (by decide)) (w28 hw) (w29 hw) (w30 hw) (w31 hw) (by decide) pd__II_I rfl (W := 3) (by decide) (by decide) (Nat.le_of_eq rfl) (by decide) (by decide) rfl rfl at_186 rfl fun T h1862 v1863 A Q1864 => ?_
     obtain ⟨rfl, eh⟩ := Q1864
     rw [eh] at A
     refine Wp.stk (st' := [(.int (1 : Int32)), (.long (1 : Int64)), (.ref b2)]) rfl ?_
     refine s_i2l (pc' := 190) (z := (1 : Int64)) A at_189 rfl (by decide) ?_
     refine s_ladd (pc' := 191) (z := (2 : Int64)) A at_190 rfl (by decide) ?_
     refine s_virtual (pc' := 194) (y := y6_remove) (argsL := [(.long (2 : Int64))]) (rest := []) (z := y6_remove) A E1312 (bo_remove35 l Z a0 hw n0 h1309 A.size b2 r11 (na + (1 : Int32)) (nb + (1 : Int32)) (nc + (1 : Int32)) ⟨E1312, F1313, F1314, F1315, V1316, ne1317, ge1318, ge1319⟩ zna znb znc) (w32 hw) (w33 hw) (nf_same (C := "") (w35 hw)) (w35 hw) (w34 hw) (w3 hw) (w36 hw) (by decide) pd__J_V rfl (W := 0) (by decide) (by decide) (Nat.le_of_eq rfl) (by decide) (by decide) rfl rfl at_191 rfl fun T h1867 v1868 A Q1869 => ?_
     obtain ⟨rfl, K1865, H1866⟩ := Q1869
     obtain ⟨E1870, F1871, F1872, F1873, V1874, ne1875, ge1876, ge1877⟩ := H1866
     refine Wp.stk (st' := []) rfl ?_
     refine s_iload (pc' := 196) A at_194 rfl rfl ?_
     refine s_iconst (pc' := 197) (z := (1 : Int32)) A at_196 rfl (by decide) ?_
     refine s_icmpN (pc' := 200) A at_197 rfl (by decide) ?_
     refine s_aload (pc' := 202) A at_200 rfl rfl rfl ?_
     refine s_lload (pc' := 204) A at_202 rfl rfl ?_
     refine s_iload (pc' := 206) A at_204 rfl rfl ?_
     refine s_iconst (pc' := 207) (z := (1 : Int32)) A at_206 rfl (by decide) ?_
     refine s_static (pc' := 210) (y := y0_idx) (argsL := [(.int (3 : Int32)), (.int (1 : Int32))]) (rest := [(.long (1 : Int64)), (.ref b2)]) A (idx l Z a0 hw n0 h1867 A.size (3 : Int32) (1 : Int32) (2 : Int32) (by decide)) (w28 hw) (w29 hw) (w30 hw) (w31 hw) (by decide) pd__II_I rfl (W := 3) (by decide) (by decide) (Nat.le_of_eq rfl) (by decide) (by decide) rfl rfl at_207 rfl fun T h1878 v1879 A Q1880 => ?_
     obtain ⟨rfl, eh⟩ := Q1880
     rw [eh] at A
     refine Wp.stk (st' := [(.int (2 : Int32)), (.long (1 : Int64)), (.ref b2)]) rfl ?_
     refine s_i2l (pc' := 211) (z := (2 : Int64)) A at_210 rfl (by decide) ?_
     refine s_ladd (pc' := 212) (z := (3 : Int64)) A at_211 rfl (by decide) ?_
     refine s_virtual (pc' := 215) (y := y6_remove) (argsL := [(.long (3 : Int64))]) (rest := []) (z := y6_remove) A E1870 (bo_remove42 l Z a0 hw n0 h1867 A.size b2 r11 (na + (1 : Int32)) (nc + (1 : Int32)) ⟨E1870, F1871, F1872, F1873, V1874, ne1875, ge1876, ge1877⟩ zna znc) (w32 hw) (w33 hw) (nf_same (C := "") (w35 hw)) (w35 hw) (w34 hw) (w3 hw) (w36 hw) (by decide) pd__J_V rfl (W := 0) (by decide) (by decide) (Nat.le_of_eq rfl) (by decide) (by decide) rfl rfl at_212 rfl fun T h1883 v1884 A Q1885 => ?_
     obtain ⟨rfl, K1881, H1882⟩ := Q1885
     obtain ⟨E1886, F1887, F1888, F1889, V1890, ne1891, ge1892, ge1893⟩ := H1882
     refine Wp.stk (st' := []) rfl ?_
     refine s_iload (pc' := 217) A at_215 rfl rfl ?_
     refine s_iconst (pc' := 218) (z := (2 : Int32)) A at_217 rfl (by decide) ?_
     refine s_icmpY (pc' := 236) A at_218 (by decide) (by decide) (by decide) ?_
     refine s_iload (pc' := 238) A at_236 rfl rfl ?_
     refine s_iload (pc' := 240) A at_238 rfl rfl ?_
     refine s_iconst (pc' := 241) (z := (0 : Int32)) A at_240 rfl (by decide) ?_
     refine s_static (pc' := 244) (y := y1_removed) (argsL := [(.int (3 : Int32)), (.int (2 : Int32)), (.int (0 : Int32))]) (rest := []) A (rmd l Z a0 hw n0 h1883 A.size (3 : Int32) (2 : Int32) (0 : Int32) (0 : Int32) (by decide)) (w37 hw) (w38 hw) (w30 hw) (w39 hw) (by decide) pd__III_Z rfl (W := 0) (by decide) (by decide) (Nat.le_of_eq rfl) (by decide) (by decide) rfl rfl at_241 rfl fun T h1894 v1895 A Q1896 => ?_
     obtain ⟨rfl, eh⟩ := Q1896
     rw [eh] at A
     refine Wp.stk (st' := [(.int (0 : Int32))]) rfl ?_
     refine s_istore (pc' := 246) (Ls' := #[iv q0, iv q1, iv q2, iv q3, iv q4, iv q5, iv na, iv nb, iv nc, iv nx, iv 2, iv 1, iv 3, rv b2, iv 1, jv 1, S2, jv 1, S2, jv 2, S2, jv 3, S2, iv 0, U0, U0, U0, U0]) A at_244 rfl rfl ?_
     refine s_iload (pc' := 248) A at_246 rfl rfl ?_
     refine s_iload (pc' := 250) A at_248 rfl rfl ?_
     refine s_iconst (pc' := 251) (z := (1 : Int32)) A at_250 rfl (by decide) ?_
     refine s_static (pc' := 254) (y := y1_removed) (argsL := [(.int (3 : Int32)), (.int (2 : Int32)), (.int (1 : Int32))]) (rest := []) A (rmd l Z a0 hw n0 h1883 A.size (3 : Int32) (2 : Int32) (1 : Int32) (1 : Int32) (by decide)) (w37 hw) (w38 hw) (w30 hw) (w39 hw) (by decide) pd__III_Z rfl (W := 0) (by decide) (by decide) (Nat.le_of_eq rfl) (by decide) (by decide) rfl rfl at_251 rfl fun T h1897 v1898 A Q1899 => ?_
     obtain ⟨rfl, eh⟩ := Q1899
     rw [eh] at A
     refine Wp.stk (st' := [(.int (1 : Int32))]) rfl ?_
     refine s_istore (pc' := 256) (Ls' := #[iv q0, iv q1, iv q2, iv q3, iv q4, iv q5, iv na, iv nb, iv nc, iv nx, iv 2, iv 1, iv 3, rv b2, iv 1, jv 1, S2, jv 1, S2, jv 2, S2, jv 3, S2, iv 0, iv 1, U0, U0, U0]) A at_254 rfl rfl ?_
     refine s_iload (pc' := 258) A at_256 rfl rfl ?_
     refine s_iload (pc' := 260) A at_258 rfl rfl ?_
     refine s_iconst (pc' := 261) (z := (2 : Int32)) A at_260 rfl (by decide) ?_
     refine s_static (pc' := 264) (y := y1_removed) (argsL := [(.int (3 : Int32)), (.int (2 : Int32)), (.int (2 : Int32))]) (rest := []) A (rmd l Z a0 hw n0 h1883 A.size (3 : Int32) (2 : Int32) (2 : Int32) (1 : Int32) (by decide)) (w37 hw) (w38 hw) (w30 hw) (w39 hw) (by decide) pd__III_Z rfl (W := 0) (by decide) (by decide) (Nat.le_of_eq rfl) (by decide) (by decide) rfl rfl at_261 rfl fun T h1900 v1901 A Q1902 => ?_
     obtain ⟨rfl, eh⟩ := Q1902
     rw [eh] at A
     refine Wp.stk (st' := [(.int (1 : Int32))]) rfl ?_
     refine s_istore (pc' := 266) (Ls' := #[iv q0, iv q1, iv q2, iv q3, iv q4, iv q5, iv na, iv nb, iv nc, iv nx, iv 2, iv 1, iv 3, rv b2, iv 1, jv 1, S2, jv 1, S2, jv 2, S2, jv 3, S2, iv 0, iv 1, iv 1, U0, U0]) A at_264 rfl rfl ?_
     refine s_aload (pc' := 268) A at_266 rfl rfl rfl ?_
     refine s_virtual (pc' := 271) (y := y3_isEmpty) (argsL := []) (rest := []) (z := y3_isEmpty) A E1886 (bo_isEmpty30 l Z a0 hw n0 h1883 A.size b2 r11 [.int (0 : Int32), .int (na + (1 : Int32)), .int (0 : Int32), .int (0 : Int32)] ⟨E1886, F1887, F1888, F1889, V1890, ne1891, ge1892, ge1893⟩) (w13 hw) (w14 hw) (nf_same (C := "") (w16 hw)) (w16 hw) (w15 hw) (w3 hw) (w17 hw) (by decide) pd___Z rfl (W := 0) (by decide) (by decide) (Nat.le_of_eq rfl) (by decide) (by decide) rfl rfl at_268 rfl fun T h1905 v1906 A Q1907 => ?_
     obtain ⟨rfl, K1903, H1904⟩ := Q1907
     obtain ⟨E1908, F1909, F1910, F1911, V1912, ne1913, ge1914, ge1915⟩ := H1904
     refine Wp.stk (st' := [(.int (0 : Int32))]) rfl ?_
     refine s_istore (pc' := 273) (Ls' := #[iv q0, iv q1, iv q2, iv q3, iv q4, iv q5, iv na, iv nb, iv nc, iv nx, iv 2, iv 1, iv 3, rv b2, iv 1, jv 1, S2, jv 1, S2, jv 2, S2, jv 3, S2, iv 0, iv 1, iv 1, iv 0, U0]) A at_271 rfl rfl ?_
     refine s_iload (pc' := 275) A at_273 rfl rfl ?_
     refine s_ifY (pc' := 304) A at_275 (by decide) (by decide) (by decide) ?_
     refine s_iload (pc' := 306) A at_304 rfl rfl ?_
     refine s_ifN (pc' := 309) A at_306 rfl (by decide) ?_
     refine s_iload (pc' := 311) A at_309 rfl rfl ?_
     refine s_istore (pc' := 313) (Ls' := #[iv q0, iv q1, iv q2, iv q3, iv q4, iv q5, iv na, iv nb, iv nc, iv nx, iv 2, iv 1, iv 3, rv b2, iv 1, jv 1, S2, jv 1, S2, jv 2, S2, jv 3, S2, iv 0, iv 1, iv 1, iv 0, iv na]) A at_311 rfl rfl ?_
     refine s_goto (pc' := 332) A at_313 (by decide) (by decide) ?_
     refine s_iload (pc' := 334) A at_332 rfl rfl ?_
     refine s_ifN (pc' := 337) A at_334 rfl (by decide) ?_
     refine s_iload (pc' := 339) A at_337 rfl rfl ?_
     refine s_ifN (pc' := 342) A at_339 rfl (by decide) ?_
     refine s_aload (pc' := 344) A at_342 rfl rfl rfl ?_
     refine s_virtual (pc' := 347) (y := y5_first) (argsL := []) (rest := []) (z := y5_first) A E1908 (bo_first31 l Z a0 hw n0 h1905 A.size b2 r11 (0 : Int32) (na + (1 : Int32)) (0 : Int32) (0 : Int32) ⟨E1908, F1909, F1910, F1911, V1912, ne1913, ge1914, ge1915⟩) (w40 hw) (w41 hw) (nf_same (C := "") (w43 hw)) (w43 hw) (w42 hw) (w3 hw) (w44 hw) (by decide) pd___I rfl (W := 0) (by decide) (by decide) (Nat.le_of_eq rfl) (by decide) (by decide) rfl rfl at_344 rfl fun T h1918 v1919 A Q1920 => ?_
     obtain ⟨rfl, K1916, H1917⟩ := Q1920
     obtain ⟨E1921, F1922, F1923, F1924, V1925, ne1926, ge1927, ge1928⟩ := H1917
     refine Wp.stk (st' := [(.int ((na + (1 : Int32)) - (1 : Int32)))]) rfl ?_
     refine s_iload (pc' := 349) A at_347 rfl rfl ?_
     refine s_icmpN (pc' := 352) A at_349 rfl (teq (show ((na + (1 : Int32)) - (1 : Int32)) = na from (by have _ := rng32 na; have _ : (1 : Int32).toInt = 1 := (by decide); have _ := rng32 (na + (1 : Int32)); have _ := c_iadd na (1 : Int32); have _ := rng32 ((na + (1 : Int32)) - (1 : Int32)); have _ := c_isub (na + (1 : Int32)) (1 : Int32); apply Int32.toInt_inj.mp; omega))).2 ?_
     refine s_iconst (pc' := 353) (z := (1 : Int32)) A at_352 rfl (by decide) ?_
     refine s_goto (pc' := 357) A at_353 (by decide) (by decide) ?_
     exact r_bool A rfl (by decide) at_357 (by decide) (by decide) (rfl)
    ·
     refine s_iload (pc' := 176) A at_174 rfl rfl ?_
     refine s_ifN (pc' := 179) A at_176 rfl (by decide) ?_
     refine s_aload (pc' := 181) A at_179 rfl rfl rfl ?_
     refine s_lload (pc' := 183) A at_181 rfl rfl ?_
     refine s_iload (pc' := 185) A at_183 rfl rfl ?_
     refine s_iconst (pc' := 186) (z := (0 : Int32)) A at_185 rfl (by decide) ?_
     refine s_static (pc' := 189) (y := y0_idx) (argsL := [(.int (4 : Int32)), (.int (0 : Int32))]) (rest := [(.long (1 : Int64)), (.ref b2)]) A (idx l Z a0 hw n0 h1309 A.size (4 : Int32) (0 : Int32) (2 : Int32) (by decide)) (w28 hw) (w29 hw) (w30 hw) (w31 hw) (by decide) pd__II_I rfl (W := 3) (by decide) (by decide) (Nat.le_of_eq rfl) (by decide) (by decide) rfl rfl at_186 rfl fun T h1929 v1930 A Q1931 => ?_
     obtain ⟨rfl, eh⟩ := Q1931
     rw [eh] at A
     refine Wp.stk (st' := [(.int (2 : Int32)), (.long (1 : Int64)), (.ref b2)]) rfl ?_
     refine s_i2l (pc' := 190) (z := (2 : Int64)) A at_189 rfl (by decide) ?_
     refine s_ladd (pc' := 191) (z := (3 : Int64)) A at_190 rfl (by decide) ?_
     refine s_virtual (pc' := 194) (y := y6_remove) (argsL := [(.long (3 : Int64))]) (rest := []) (z := y6_remove) A E1312 (bo_remove36 l Z a0 hw n0 h1309 A.size b2 r11 (na + (1 : Int32)) (nb + (1 : Int32)) (nc + (1 : Int32)) ⟨E1312, F1313, F1314, F1315, V1316, ne1317, ge1318, ge1319⟩ zna znb znc) (w32 hw) (w33 hw) (nf_same (C := "") (w35 hw)) (w35 hw) (w34 hw) (w3 hw) (w36 hw) (by decide) pd__J_V rfl (W := 0) (by decide) (by decide) (Nat.le_of_eq rfl) (by decide) (by decide) rfl rfl at_191 rfl fun T h1934 v1935 A Q1936 => ?_
     obtain ⟨rfl, K1932, H1933⟩ := Q1936
     obtain ⟨E1937, F1938, F1939, F1940, V1941, ne1942, ge1943, ge1944⟩ := H1933
     refine Wp.stk (st' := []) rfl ?_
     refine s_iload (pc' := 196) A at_194 rfl rfl ?_
     refine s_iconst (pc' := 197) (z := (1 : Int32)) A at_196 rfl (by decide) ?_
     refine s_icmpN (pc' := 200) A at_197 rfl (by decide) ?_
     refine s_aload (pc' := 202) A at_200 rfl rfl rfl ?_
     refine s_lload (pc' := 204) A at_202 rfl rfl ?_
     refine s_iload (pc' := 206) A at_204 rfl rfl ?_
     refine s_iconst (pc' := 207) (z := (1 : Int32)) A at_206 rfl (by decide) ?_
     refine s_static (pc' := 210) (y := y0_idx) (argsL := [(.int (4 : Int32)), (.int (1 : Int32))]) (rest := [(.long (1 : Int64)), (.ref b2)]) A (idx l Z a0 hw n0 h1934 A.size (4 : Int32) (1 : Int32) (0 : Int32) (by decide)) (w28 hw) (w29 hw) (w30 hw) (w31 hw) (by decide) pd__II_I rfl (W := 3) (by decide) (by decide) (Nat.le_of_eq rfl) (by decide) (by decide) rfl rfl at_207 rfl fun T h1945 v1946 A Q1947 => ?_
     obtain ⟨rfl, eh⟩ := Q1947
     rw [eh] at A
     refine Wp.stk (st' := [(.int (0 : Int32)), (.long (1 : Int64)), (.ref b2)]) rfl ?_
     refine s_i2l (pc' := 211) (z := (0 : Int64)) A at_210 rfl (by decide) ?_
     refine s_ladd (pc' := 212) (z := (1 : Int64)) A at_211 rfl (by decide) ?_
     refine s_virtual (pc' := 215) (y := y6_remove) (argsL := [(.long (1 : Int64))]) (rest := []) (z := y6_remove) A E1937 (bo_remove43 l Z a0 hw n0 h1934 A.size b2 r11 (na + (1 : Int32)) (nb + (1 : Int32)) ⟨E1937, F1938, F1939, F1940, V1941, ne1942, ge1943, ge1944⟩ zna znb) (w32 hw) (w33 hw) (nf_same (C := "") (w35 hw)) (w35 hw) (w34 hw) (w3 hw) (w36 hw) (by decide) pd__J_V rfl (W := 0) (by decide) (by decide) (Nat.le_of_eq rfl) (by decide) (by decide) rfl rfl at_212 rfl fun T h1950 v1951 A Q1952 => ?_
     obtain ⟨rfl, K1948, H1949⟩ := Q1952
     obtain ⟨E1953, F1954, F1955, F1956, V1957, ne1958, ge1959, ge1960⟩ := H1949
     refine Wp.stk (st' := []) rfl ?_
     refine s_iload (pc' := 217) A at_215 rfl rfl ?_
     refine s_iconst (pc' := 218) (z := (2 : Int32)) A at_217 rfl (by decide) ?_
     refine s_icmpY (pc' := 236) A at_218 (by decide) (by decide) (by decide) ?_
     refine s_iload (pc' := 238) A at_236 rfl rfl ?_
     refine s_iload (pc' := 240) A at_238 rfl rfl ?_
     refine s_iconst (pc' := 241) (z := (0 : Int32)) A at_240 rfl (by decide) ?_
     refine s_static (pc' := 244) (y := y1_removed) (argsL := [(.int (4 : Int32)), (.int (2 : Int32)), (.int (0 : Int32))]) (rest := []) A (rmd l Z a0 hw n0 h1950 A.size (4 : Int32) (2 : Int32) (0 : Int32) (1 : Int32) (by decide)) (w37 hw) (w38 hw) (w30 hw) (w39 hw) (by decide) pd__III_Z rfl (W := 0) (by decide) (by decide) (Nat.le_of_eq rfl) (by decide) (by decide) rfl rfl at_241 rfl fun T h1961 v1962 A Q1963 => ?_
     obtain ⟨rfl, eh⟩ := Q1963
     rw [eh] at A
     refine Wp.stk (st' := [(.int (1 : Int32))]) rfl ?_
     refine s_istore (pc' := 246) (Ls' := #[iv q0, iv q1, iv q2, iv q3, iv q4, iv q5, iv na, iv nb, iv nc, iv nx, iv 2, iv 1, iv 4, rv b2, iv 1, jv 1, S2, jv 1, S2, jv 2, S2, jv 3, S2, iv 1, U0, U0, U0, U0]) A at_244 rfl rfl ?_
     refine s_iload (pc' := 248) A at_246 rfl rfl ?_
     refine s_iload (pc' := 250) A at_248 rfl rfl ?_
     refine s_iconst (pc' := 251) (z := (1 : Int32)) A at_250 rfl (by decide) ?_
     refine s_static (pc' := 254) (y := y1_removed) (argsL := [(.int (4 : Int32)), (.int (2 : Int32)), (.int (1 : Int32))]) (rest := []) A (rmd l Z a0 hw n0 h1950 A.size (4 : Int32) (2 : Int32) (1 : Int32) (0 : Int32) (by decide)) (w37 hw) (w38 hw) (w30 hw) (w39 hw) (by decide) pd__III_Z rfl (W := 0) (by decide) (by decide) (Nat.le_of_eq rfl) (by decide) (by decide) rfl rfl at_251 rfl fun T h1964 v1965 A Q1966 => ?_
     obtain ⟨rfl, eh⟩ := Q1966
     rw [eh] at A
     refine Wp.stk (st' := [(.int (0 : Int32))]) rfl ?_
     refine s_istore (pc' := 256) (Ls' := #[iv q0, iv q1, iv q2, iv q3, iv q4, iv q5, iv na, iv nb, iv nc, iv nx, iv 2, iv 1, iv 4, rv b2, iv 1, jv 1, S2, jv 1, S2, jv 2, S2, jv 3, S2, iv 1, iv 0, U0, U0, U0]) A at_254 rfl rfl ?_
     refine s_iload (pc' := 258) A at_256 rfl rfl ?_
     refine s_iload (pc' := 260) A at_258 rfl rfl ?_
     refine s_iconst (pc' := 261) (z := (2 : Int32)) A at_260 rfl (by decide) ?_
     refine s_static (pc' := 264) (y := y1_removed) (argsL := [(.int (4 : Int32)), (.int (2 : Int32)), (.int (2 : Int32))]) (rest := []) A (rmd l Z a0 hw n0 h1950 A.size (4 : Int32) (2 : Int32) (2 : Int32) (1 : Int32) (by decide)) (w37 hw) (w38 hw) (w30 hw) (w39 hw) (by decide) pd__III_Z rfl (W := 0) (by decide) (by decide) (Nat.le_of_eq rfl) (by decide) (by decide) rfl rfl at_261 rfl fun T h1967 v1968 A Q1969 => ?_
     obtain ⟨rfl, eh⟩ := Q1969
     rw [eh] at A
     refine Wp.stk (st' := [(.int (1 : Int32))]) rfl ?_
     refine s_istore (pc' := 266) (Ls' := #[iv q0, iv q1, iv q2, iv q3, iv q4, iv q5, iv na, iv nb, iv nc, iv nx, iv 2, iv 1, iv 4, rv b2, iv 1, jv 1, S2, jv 1, S2, jv 2, S2, jv 3, S2, iv 1, iv 0, iv 1, U0, U0]) A at_264 rfl rfl ?_
     refine s_aload (pc' := 268) A at_266 rfl rfl rfl ?_
     refine s_virtual (pc' := 271) (y := y3_isEmpty) (argsL := []) (rest := []) (z := y3_isEmpty) A E1953 (bo_isEmpty33 l Z a0 hw n0 h1950 A.size b2 r11 [.int (0 : Int32), .int (0 : Int32), .int (nb + (1 : Int32)), .int (0 : Int32)] ⟨E1953, F1954, F1955, F1956, V1957, ne1958, ge1959, ge1960⟩) (w13 hw) (w14 hw) (nf_same (C := "") (w16 hw)) (w16 hw) (w15 hw) (w3 hw) (w17 hw) (by decide) pd___Z rfl (W := 0) (by decide) (by decide) (Nat.le_of_eq rfl) (by decide) (by decide) rfl rfl at_268 rfl fun T h1972 v1973 A Q1974 => ?_
     obtain ⟨rfl, K1970, H1971⟩ := Q1974
     obtain ⟨E1975, F1976, F1977, F1978, V1979, ne1980, ge1981, ge1982⟩ := H1971
     refine Wp.stk (st' := [(.int (0 : Int32))]) rfl ?_
     refine s_istore (pc' := 273) (Ls' := #[iv q0, iv q1, iv q2, iv q3, iv q4, iv q5, iv na, iv nb, iv nc, iv nx, iv 2, iv 1, iv 4, rv b2, iv 1, jv 1, S2, jv 1, S2, jv 2, S2, jv 3, S2, iv 1, iv 0, iv 1, iv 0, U0]) A at_271 rfl rfl ?_
     refine s_iload (pc' := 275) A at_273 rfl rfl ?_
     refine s_ifN (pc' := 278) A at_275 rfl (by decide) ?_
     refine s_iload (pc' := 280) A at_278 rfl rfl ?_
     refine s_ifY (pc' := 304) A at_280 (by decide) (by decide) (by decide) ?_
     refine s_iload (pc' := 306) A at_304 rfl rfl ?_
     refine s_ifY (pc' := 316) A at_306 (by decide) (by decide) (by decide) ?_
     refine s_iload (pc' := 318) A at_316 rfl rfl ?_
     refine s_ifN (pc' := 321) A at_318 rfl (by decide) ?_
     refine s_iload (pc' := 323) A at_321 rfl rfl ?_
     refine s_istore (pc' := 325) (Ls' := #[iv q0, iv q1, iv q2, iv q3, iv q4, iv q5, iv na, iv nb, iv nc, iv nx, iv 2, iv 1, iv 4, rv b2, iv 1, jv 1, S2, jv 1, S2, jv 2, S2, jv 3, S2, iv 1, iv 0, iv 1, iv 0, iv nb]) A at_323 rfl rfl ?_
     refine s_goto (pc' := 332) A at_325 (by decide) (by decide) ?_
     refine s_iload (pc' := 334) A at_332 rfl rfl ?_
     refine s_ifN (pc' := 337) A at_334 rfl (by decide) ?_
     refine s_iload (pc' := 339) A at_337 rfl rfl ?_
     refine s_ifN (pc' := 342) A at_339 rfl (by decide) ?_
     refine s_aload (pc' := 344) A at_342 rfl rfl rfl ?_
     refine s_virtual (pc' := 347) (y := y5_first) (argsL := []) (rest := []) (z := y5_first) A E1975 (bo_first34 l Z a0 hw n0 h1972 A.size b2 r11 (0 : Int32) (0 : Int32) (nb + (1 : Int32)) (0 : Int32) ⟨E1975, F1976, F1977, F1978, V1979, ne1980, ge1981, ge1982⟩) (w40 hw) (w41 hw) (nf_same (C := "") (w43 hw)) (w43 hw) (w42 hw) (w3 hw) (w44 hw) (by decide) pd___I rfl (W := 0) (by decide) (by decide) (Nat.le_of_eq rfl) (by decide) (by decide) rfl rfl at_344 rfl fun T h1985 v1986 A Q1987 => ?_
     obtain ⟨rfl, K1983, H1984⟩ := Q1987
     obtain ⟨E1988, F1989, F1990, F1991, V1992, ne1993, ge1994, ge1995⟩ := H1984
     refine Wp.stk (st' := [(.int ((nb + (1 : Int32)) - (1 : Int32)))]) rfl ?_
     refine s_iload (pc' := 349) A at_347 rfl rfl ?_
     refine s_icmpN (pc' := 352) A at_349 rfl (teq (show ((nb + (1 : Int32)) - (1 : Int32)) = nb from (by have _ := rng32 nb; have _ : (1 : Int32).toInt = 1 := (by decide); have _ := rng32 (nb + (1 : Int32)); have _ := c_iadd nb (1 : Int32); have _ := rng32 ((nb + (1 : Int32)) - (1 : Int32)); have _ := c_isub (nb + (1 : Int32)) (1 : Int32); apply Int32.toInt_inj.mp; omega))).2 ?_
     refine s_iconst (pc' := 353) (z := (1 : Int32)) A at_352 rfl (by decide) ?_
     refine s_goto (pc' := 357) A at_353 (by decide) (by decide) ?_
     exact r_bool A rfl (by decide) at_357 (by decide) (by decide) (rfl)
    ·
     refine s_iload (pc' := 176) A at_174 rfl rfl ?_
     refine s_ifN (pc' := 179) A at_176 rfl (by decide) ?_
     refine s_aload (pc' := 181) A at_179 rfl rfl rfl ?_
     refine s_lload (pc' := 183) A at_181 rfl rfl ?_
     refine s_iload (pc' := 185) A at_183 rfl rfl ?_
     refine s_iconst (pc' := 186) (z := (0 : Int32)) A at_185 rfl (by decide) ?_
     refine s_static (pc' := 189) (y := y0_idx) (argsL := [(.int (5 : Int32)), (.int (0 : Int32))]) (rest := [(.long (1 : Int64)), (.ref b2)]) A (idx l Z a0 hw n0 h1309 A.size (5 : Int32) (0 : Int32) (2 : Int32) (by decide)) (w28 hw) (w29 hw) (w30 hw) (w31 hw) (by decide) pd__II_I rfl (W := 3) (by decide) (by decide) (Nat.le_of_eq rfl) (by decide) (by decide) rfl rfl at_186 rfl fun T h1996 v1997 A Q1998 => ?_
     obtain ⟨rfl, eh⟩ := Q1998
     rw [eh] at A
     refine Wp.stk (st' := [(.int (2 : Int32)), (.long (1 : Int64)), (.ref b2)]) rfl ?_
     refine s_i2l (pc' := 190) (z := (2 : Int64)) A at_189 rfl (by decide) ?_
     refine s_ladd (pc' := 191) (z := (3 : Int64)) A at_190 rfl (by decide) ?_
     refine s_virtual (pc' := 194) (y := y6_remove) (argsL := [(.long (3 : Int64))]) (rest := []) (z := y6_remove) A E1312 (bo_remove36 l Z a0 hw n0 h1309 A.size b2 r11 (na + (1 : Int32)) (nb + (1 : Int32)) (nc + (1 : Int32)) ⟨E1312, F1313, F1314, F1315, V1316, ne1317, ge1318, ge1319⟩ zna znb znc) (w32 hw) (w33 hw) (nf_same (C := "") (w35 hw)) (w35 hw) (w34 hw) (w3 hw) (w36 hw) (by decide) pd__J_V rfl (W := 0) (by decide) (by decide) (Nat.le_of_eq rfl) (by decide) (by decide) rfl rfl at_191 rfl fun T h2001 v2002 A Q2003 => ?_
     obtain ⟨rfl, K1999, H2000⟩ := Q2003
     obtain ⟨E2004, F2005, F2006, F2007, V2008, ne2009, ge2010, ge2011⟩ := H2000
     refine Wp.stk (st' := []) rfl ?_
     refine s_iload (pc' := 196) A at_194 rfl rfl ?_
     refine s_iconst (pc' := 197) (z := (1 : Int32)) A at_196 rfl (by decide) ?_
     refine s_icmpN (pc' := 200) A at_197 rfl (by decide) ?_
     refine s_aload (pc' := 202) A at_200 rfl rfl rfl ?_
     refine s_lload (pc' := 204) A at_202 rfl rfl ?_
     refine s_iload (pc' := 206) A at_204 rfl rfl ?_
     refine s_iconst (pc' := 207) (z := (1 : Int32)) A at_206 rfl (by decide) ?_
     refine s_static (pc' := 210) (y := y0_idx) (argsL := [(.int (5 : Int32)), (.int (1 : Int32))]) (rest := [(.long (1 : Int64)), (.ref b2)]) A (idx l Z a0 hw n0 h2001 A.size (5 : Int32) (1 : Int32) (1 : Int32) (by decide)) (w28 hw) (w29 hw) (w30 hw) (w31 hw) (by decide) pd__II_I rfl (W := 3) (by decide) (by decide) (Nat.le_of_eq rfl) (by decide) (by decide) rfl rfl at_207 rfl fun T h2012 v2013 A Q2014 => ?_
     obtain ⟨rfl, eh⟩ := Q2014
     rw [eh] at A
     refine Wp.stk (st' := [(.int (1 : Int32)), (.long (1 : Int64)), (.ref b2)]) rfl ?_
     refine s_i2l (pc' := 211) (z := (1 : Int64)) A at_210 rfl (by decide) ?_
     refine s_ladd (pc' := 212) (z := (2 : Int64)) A at_211 rfl (by decide) ?_
     refine s_virtual (pc' := 215) (y := y6_remove) (argsL := [(.long (2 : Int64))]) (rest := []) (z := y6_remove) A E2004 (bo_remove44 l Z a0 hw n0 h2001 A.size b2 r11 (na + (1 : Int32)) (nb + (1 : Int32)) ⟨E2004, F2005, F2006, F2007, V2008, ne2009, ge2010, ge2011⟩ zna znb) (w32 hw) (w33 hw) (nf_same (C := "") (w35 hw)) (w35 hw) (w34 hw) (w3 hw) (w36 hw) (by decide) pd__J_V rfl (W := 0) (by decide) (by decide) (Nat.le_of_eq rfl) (by decide) (by decide) rfl rfl at_212 rfl fun T h2017 v2018 A Q2019 => ?_
     obtain ⟨rfl, K2015, H2016⟩ := Q2019
     obtain ⟨E2020, F2021, F2022, F2023, V2024, ne2025, ge2026, ge2027⟩ := H2016
     refine Wp.stk (st' := []) rfl ?_
     refine s_iload (pc' := 217) A at_215 rfl rfl ?_
     refine s_iconst (pc' := 218) (z := (2 : Int32)) A at_217 rfl (by decide) ?_
     refine s_icmpY (pc' := 236) A at_218 (by decide) (by decide) (by decide) ?_
     refine s_iload (pc' := 238) A at_236 rfl rfl ?_
     refine s_iload (pc' := 240) A at_238 rfl rfl ?_
     refine s_iconst (pc' := 241) (z := (0 : Int32)) A at_240 rfl (by decide) ?_
     refine s_static (pc' := 244) (y := y1_removed) (argsL := [(.int (5 : Int32)), (.int (2 : Int32)), (.int (0 : Int32))]) (rest := []) A (rmd l Z a0 hw n0 h2017 A.size (5 : Int32) (2 : Int32) (0 : Int32) (0 : Int32) (by decide)) (w37 hw) (w38 hw) (w30 hw) (w39 hw) (by decide) pd__III_Z rfl (W := 0) (by decide) (by decide) (Nat.le_of_eq rfl) (by decide) (by decide) rfl rfl at_241 rfl fun T h2028 v2029 A Q2030 => ?_
     obtain ⟨rfl, eh⟩ := Q2030
     rw [eh] at A
     refine Wp.stk (st' := [(.int (0 : Int32))]) rfl ?_
     refine s_istore (pc' := 246) (Ls' := #[iv q0, iv q1, iv q2, iv q3, iv q4, iv q5, iv na, iv nb, iv nc, iv nx, iv 2, iv 1, iv 5, rv b2, iv 1, jv 1, S2, jv 1, S2, jv 2, S2, jv 3, S2, iv 0, U0, U0, U0, U0]) A at_244 rfl rfl ?_
     refine s_iload (pc' := 248) A at_246 rfl rfl ?_
     refine s_iload (pc' := 250) A at_248 rfl rfl ?_
     refine s_iconst (pc' := 251) (z := (1 : Int32)) A at_250 rfl (by decide) ?_
     refine s_static (pc' := 254) (y := y1_removed) (argsL := [(.int (5 : Int32)), (.int (2 : Int32)), (.int (1 : Int32))]) (rest := []) A (rmd l Z a0 hw n0 h2017 A.size (5 : Int32) (2 : Int32) (1 : Int32) (1 : Int32) (by decide)) (w37 hw) (w38 hw) (w30 hw) (w39 hw) (by decide) pd__III_Z rfl (W := 0) (by decide) (by decide) (Nat.le_of_eq rfl) (by decide) (by decide) rfl rfl at_251 rfl fun T h2031 v2032 A Q2033 => ?_
     obtain ⟨rfl, eh⟩ := Q2033
     rw [eh] at A
     refine Wp.stk (st' := [(.int (1 : Int32))]) rfl ?_
     refine s_istore (pc' := 256) (Ls' := #[iv q0, iv q1, iv q2, iv q3, iv q4, iv q5, iv na, iv nb, iv nc, iv nx, iv 2, iv 1, iv 5, rv b2, iv 1, jv 1, S2, jv 1, S2, jv 2, S2, jv 3, S2, iv 0, iv 1, U0, U0, U0]) A at_254 rfl rfl ?_
     refine s_iload (pc' := 258) A at_256 rfl rfl ?_
     refine s_iload (pc' := 260) A at_258 rfl rfl ?_
     refine s_iconst (pc' := 261) (z := (2 : Int32)) A at_260 rfl (by decide) ?_
     refine s_static (pc' := 264) (y := y1_removed) (argsL := [(.int (5 : Int32)), (.int (2 : Int32)), (.int (2 : Int32))]) (rest := []) A (rmd l Z a0 hw n0 h2017 A.size (5 : Int32) (2 : Int32) (2 : Int32) (1 : Int32) (by decide)) (w37 hw) (w38 hw) (w30 hw) (w39 hw) (by decide) pd__III_Z rfl (W := 0) (by decide) (by decide) (Nat.le_of_eq rfl) (by decide) (by decide) rfl rfl at_261 rfl fun T h2034 v2035 A Q2036 => ?_
     obtain ⟨rfl, eh⟩ := Q2036
     rw [eh] at A
     refine Wp.stk (st' := [(.int (1 : Int32))]) rfl ?_
     refine s_istore (pc' := 266) (Ls' := #[iv q0, iv q1, iv q2, iv q3, iv q4, iv q5, iv na, iv nb, iv nc, iv nx, iv 2, iv 1, iv 5, rv b2, iv 1, jv 1, S2, jv 1, S2, jv 2, S2, jv 3, S2, iv 0, iv 1, iv 1, U0, U0]) A at_264 rfl rfl ?_
     refine s_aload (pc' := 268) A at_266 rfl rfl rfl ?_
     refine s_virtual (pc' := 271) (y := y3_isEmpty) (argsL := []) (rest := []) (z := y3_isEmpty) A E2020 (bo_isEmpty30 l Z a0 hw n0 h2017 A.size b2 r11 [.int (0 : Int32), .int (na + (1 : Int32)), .int (0 : Int32), .int (0 : Int32)] ⟨E2020, F2021, F2022, F2023, V2024, ne2025, ge2026, ge2027⟩) (w13 hw) (w14 hw) (nf_same (C := "") (w16 hw)) (w16 hw) (w15 hw) (w3 hw) (w17 hw) (by decide) pd___Z rfl (W := 0) (by decide) (by decide) (Nat.le_of_eq rfl) (by decide) (by decide) rfl rfl at_268 rfl fun T h2039 v2040 A Q2041 => ?_
     obtain ⟨rfl, K2037, H2038⟩ := Q2041
     obtain ⟨E2042, F2043, F2044, F2045, V2046, ne2047, ge2048, ge2049⟩ := H2038
     refine Wp.stk (st' := [(.int (0 : Int32))]) rfl ?_
     refine s_istore (pc' := 273) (Ls' := #[iv q0, iv q1, iv q2, iv q3, iv q4, iv q5, iv na, iv nb, iv nc, iv nx, iv 2, iv 1, iv 5, rv b2, iv 1, jv 1, S2, jv 1, S2, jv 2, S2, jv 3, S2, iv 0, iv 1, iv 1, iv 0, U0]) A at_271 rfl rfl ?_
     refine s_iload (pc' := 275) A at_273 rfl rfl ?_
     refine s_ifY (pc' := 304) A at_275 (by decide) (by decide) (by decide) ?_
     refine s_iload (pc' := 306) A at_304 rfl rfl ?_
     refine s_ifN (pc' := 309) A at_306 rfl (by decide) ?_
     refine s_iload (pc' := 311) A at_309 rfl rfl ?_
     refine s_istore (pc' := 313) (Ls' := #[iv q0, iv q1, iv q2, iv q3, iv q4, iv q5, iv na, iv nb, iv nc, iv nx, iv 2, iv 1, iv 5, rv b2, iv 1, jv 1, S2, jv 1, S2, jv 2, S2, jv 3, S2, iv 0, iv 1, iv 1, iv 0, iv na]) A at_311 rfl rfl ?_
     refine s_goto (pc' := 332) A at_313 (by decide) (by decide) ?_
     refine s_iload (pc' := 334) A at_332 rfl rfl ?_
     refine s_ifN (pc' := 337) A at_334 rfl (by decide) ?_
     refine s_iload (pc' := 339) A at_337 rfl rfl ?_
     refine s_ifN (pc' := 342) A at_339 rfl (by decide) ?_
     refine s_aload (pc' := 344) A at_342 rfl rfl rfl ?_
     refine s_virtual (pc' := 347) (y := y5_first) (argsL := []) (rest := []) (z := y5_first) A E2042 (bo_first31 l Z a0 hw n0 h2039 A.size b2 r11 (0 : Int32) (na + (1 : Int32)) (0 : Int32) (0 : Int32) ⟨E2042, F2043, F2044, F2045, V2046, ne2047, ge2048, ge2049⟩) (w40 hw) (w41 hw) (nf_same (C := "") (w43 hw)) (w43 hw) (w42 hw) (w3 hw) (w44 hw) (by decide) pd___I rfl (W := 0) (by decide) (by decide) (Nat.le_of_eq rfl) (by decide) (by decide) rfl rfl at_344 rfl fun T h2052 v2053 A Q2054 => ?_
     obtain ⟨rfl, K2050, H2051⟩ := Q2054
     obtain ⟨E2055, F2056, F2057, F2058, V2059, ne2060, ge2061, ge2062⟩ := H2051
     refine Wp.stk (st' := [(.int ((na + (1 : Int32)) - (1 : Int32)))]) rfl ?_
     refine s_iload (pc' := 349) A at_347 rfl rfl ?_
     refine s_icmpN (pc' := 352) A at_349 rfl (teq (show ((na + (1 : Int32)) - (1 : Int32)) = na from (by have _ := rng32 na; have _ : (1 : Int32).toInt = 1 := (by decide); have _ := rng32 (na + (1 : Int32)); have _ := c_iadd na (1 : Int32); have _ := rng32 ((na + (1 : Int32)) - (1 : Int32)); have _ := c_isub (na + (1 : Int32)) (1 : Int32); apply Int32.toInt_inj.mp; omega))).2 ?_
     refine s_iconst (pc' := 353) (z := (1 : Int32)) A at_352 rfl (by decide) ?_
     refine s_goto (pc' := 357) A at_353 (by decide) (by decide) ?_
     exact r_bool A rfl (by decide) at_357 (by decide) (by decide) (rfl)
   ·
    rcases cpp with rfl | rfl | rfl | rfl | rfl | rfl
    ·
     refine s_iload (pc' := 176) A at_174 rfl rfl ?_
     refine s_ifN (pc' := 179) A at_176 rfl (by decide) ?_
     refine s_aload (pc' := 181) A at_179 rfl rfl rfl ?_
     refine s_lload (pc' := 183) A at_181 rfl rfl ?_
     refine s_iload (pc' := 185) A at_183 rfl rfl ?_
     refine s_iconst (pc' := 186) (z := (0 : Int32)) A at_185 rfl (by decide) ?_
     refine s_static (pc' := 189) (y := y0_idx) (argsL := [(.int (0 : Int32)), (.int (0 : Int32))]) (rest := [(.long (1 : Int64)), (.ref b2)]) A (idx l Z a0 hw n0 h1309 A.size (0 : Int32) (0 : Int32) (0 : Int32) (by decide)) (w28 hw) (w29 hw) (w30 hw) (w31 hw) (by decide) pd__II_I rfl (W := 3) (by decide) (by decide) (Nat.le_of_eq rfl) (by decide) (by decide) rfl rfl at_186 rfl fun T h2063 v2064 A Q2065 => ?_
     obtain ⟨rfl, eh⟩ := Q2065
     rw [eh] at A
     refine Wp.stk (st' := [(.int (0 : Int32)), (.long (1 : Int64)), (.ref b2)]) rfl ?_
     refine s_i2l (pc' := 190) (z := (0 : Int64)) A at_189 rfl (by decide) ?_
     refine s_ladd (pc' := 191) (z := (1 : Int64)) A at_190 rfl (by decide) ?_
     refine s_virtual (pc' := 194) (y := y6_remove) (argsL := [(.long (1 : Int64))]) (rest := []) (z := y6_remove) A E1312 (bo_remove32 l Z a0 hw n0 h1309 A.size b2 r11 (na + (1 : Int32)) (nb + (1 : Int32)) (nc + (1 : Int32)) ⟨E1312, F1313, F1314, F1315, V1316, ne1317, ge1318, ge1319⟩ zna znb znc) (w32 hw) (w33 hw) (nf_same (C := "") (w35 hw)) (w35 hw) (w34 hw) (w3 hw) (w36 hw) (by decide) pd__J_V rfl (W := 0) (by decide) (by decide) (Nat.le_of_eq rfl) (by decide) (by decide) rfl rfl at_191 rfl fun T h2068 v2069 A Q2070 => ?_
     obtain ⟨rfl, K2066, H2067⟩ := Q2070
     obtain ⟨E2071, F2072, F2073, F2074, V2075, ne2076, ge2077, ge2078⟩ := H2067
     refine Wp.stk (st' := []) rfl ?_
     refine s_iload (pc' := 196) A at_194 rfl rfl ?_
     refine s_iconst (pc' := 197) (z := (1 : Int32)) A at_196 rfl (by decide) ?_
     refine s_icmpN (pc' := 200) A at_197 rfl (by decide) ?_
     refine s_aload (pc' := 202) A at_200 rfl rfl rfl ?_
     refine s_lload (pc' := 204) A at_202 rfl rfl ?_
     refine s_iload (pc' := 206) A at_204 rfl rfl ?_
     refine s_iconst (pc' := 207) (z := (1 : Int32)) A at_206 rfl (by decide) ?_
     refine s_static (pc' := 210) (y := y0_idx) (argsL := [(.int (0 : Int32)), (.int (1 : Int32))]) (rest := [(.long (1 : Int64)), (.ref b2)]) A (idx l Z a0 hw n0 h2068 A.size (0 : Int32) (1 : Int32) (1 : Int32) (by decide)) (w28 hw) (w29 hw) (w30 hw) (w31 hw) (by decide) pd__II_I rfl (W := 3) (by decide) (by decide) (Nat.le_of_eq rfl) (by decide) (by decide) rfl rfl at_207 rfl fun T h2079 v2080 A Q2081 => ?_
     obtain ⟨rfl, eh⟩ := Q2081
     rw [eh] at A
     refine Wp.stk (st' := [(.int (1 : Int32)), (.long (1 : Int64)), (.ref b2)]) rfl ?_
     refine s_i2l (pc' := 211) (z := (1 : Int64)) A at_210 rfl (by decide) ?_
     refine s_ladd (pc' := 212) (z := (2 : Int64)) A at_211 rfl (by decide) ?_
     refine s_virtual (pc' := 215) (y := y6_remove) (argsL := [(.long (2 : Int64))]) (rest := []) (z := y6_remove) A E2071 (bo_remove37 l Z a0 hw n0 h2068 A.size b2 r11 (nb + (1 : Int32)) (nc + (1 : Int32)) ⟨E2071, F2072, F2073, F2074, V2075, ne2076, ge2077, ge2078⟩ znb znc) (w32 hw) (w33 hw) (nf_same (C := "") (w35 hw)) (w35 hw) (w34 hw) (w3 hw) (w36 hw) (by decide) pd__J_V rfl (W := 0) (by decide) (by decide) (Nat.le_of_eq rfl) (by decide) (by decide) rfl rfl at_212 rfl fun T h2084 v2085 A Q2086 => ?_
     obtain ⟨rfl, K2082, H2083⟩ := Q2086
     obtain ⟨E2087, F2088, F2089, F2090, V2091, ne2092, ge2093, ge2094⟩ := H2083
     refine Wp.stk (st' := []) rfl ?_
     refine s_iload (pc' := 217) A at_215 rfl rfl ?_
     refine s_iconst (pc' := 218) (z := (2 : Int32)) A at_217 rfl (by decide) ?_
     refine s_icmpN (pc' := 221) A at_218 rfl (by decide) ?_
     refine s_aload (pc' := 223) A at_221 rfl rfl rfl ?_
     refine s_lload (pc' := 225) A at_223 rfl rfl ?_
     refine s_iload (pc' := 227) A at_225 rfl rfl ?_
     refine s_iconst (pc' := 228) (z := (2 : Int32)) A at_227 rfl (by decide) ?_
     refine s_static (pc' := 231) (y := y0_idx) (argsL := [(.int (0 : Int32)), (.int (2 : Int32))]) (rest := [(.long (1 : Int64)), (.ref b2)]) A (idx l Z a0 hw n0 h2084 A.size (0 : Int32) (2 : Int32) (2 : Int32) (by decide)) (w28 hw) (w29 hw) (w30 hw) (w31 hw) (by decide) pd__II_I rfl (W := 3) (by decide) (by decide) (Nat.le_of_eq rfl) (by decide) (by decide) rfl rfl at_228 rfl fun T h2095 v2096 A Q2097 => ?_
     obtain ⟨rfl, eh⟩ := Q2097
     rw [eh] at A
     refine Wp.stk (st' := [(.int (2 : Int32)), (.long (1 : Int64)), (.ref b2)]) rfl ?_
     refine s_i2l (pc' := 232) (z := (2 : Int64)) A at_231 rfl (by decide) ?_
     refine s_ladd (pc' := 233) (z := (3 : Int64)) A at_232 rfl (by decide) ?_
     refine s_virtual (pc' := 236) (y := y6_remove) (argsL := [(.long (3 : Int64))]) (rest := []) (z := y6_remove) A E2087 (bo_remove45 l Z a0 hw n0 h2084 A.size b2 r11 (nc + (1 : Int32)) ⟨E2087, F2088, F2089, F2090, V2091, ne2092, ge2093, ge2094⟩ znc) (w32 hw) (w33 hw) (nf_same (C := "") (w35 hw)) (w35 hw) (w34 hw) (w3 hw) (w36 hw) (by decide) pd__J_V rfl (W := 0) (by decide) (by decide) (Nat.le_of_eq rfl) (by decide) (by decide) rfl rfl at_233 rfl fun T h2100 v2101 A Q2102 => ?_
     obtain ⟨rfl, K2098, H2099⟩ := Q2102
     obtain ⟨E2103, F2104, F2105, F2106, V2107, ne2108, ge2109, ge2110⟩ := H2099
     refine Wp.stk (st' := []) rfl ?_
     refine s_iload (pc' := 238) A at_236 rfl rfl ?_
     refine s_iload (pc' := 240) A at_238 rfl rfl ?_
     refine s_iconst (pc' := 241) (z := (0 : Int32)) A at_240 rfl (by decide) ?_
     refine s_static (pc' := 244) (y := y1_removed) (argsL := [(.int (0 : Int32)), (.int (3 : Int32)), (.int (0 : Int32))]) (rest := []) A (rmd l Z a0 hw n0 h2100 A.size (0 : Int32) (3 : Int32) (0 : Int32) (1 : Int32) (by decide)) (w37 hw) (w38 hw) (w30 hw) (w39 hw) (by decide) pd__III_Z rfl (W := 0) (by decide) (by decide) (Nat.le_of_eq rfl) (by decide) (by decide) rfl rfl at_241 rfl fun T h2111 v2112 A Q2113 => ?_
     obtain ⟨rfl, eh⟩ := Q2113
     rw [eh] at A
     refine Wp.stk (st' := [(.int (1 : Int32))]) rfl ?_
     refine s_istore (pc' := 246) (Ls' := #[iv q0, iv q1, iv q2, iv q3, iv q4, iv q5, iv na, iv nb, iv nc, iv nx, iv 3, iv 1, iv 0, rv b2, iv 1, jv 1, S2, jv 1, S2, jv 2, S2, jv 3, S2, iv 1, U0, U0, U0, U0]) A at_244 rfl rfl ?_
     refine s_iload (pc' := 248) A at_246 rfl rfl ?_
     refine s_iload (pc' := 250) A at_248 rfl rfl ?_
     refine s_iconst (pc' := 251) (z := (1 : Int32)) A at_250 rfl (by decide) ?_
     refine s_static (pc' := 254) (y := y1_removed) (argsL := [(.int (0 : Int32)), (.int (3 : Int32)), (.int (1 : Int32))]) (rest := []) A (rmd l Z a0 hw n0 h2100 A.size (0 : Int32) (3 : Int32) (1 : Int32) (1 : Int32) (by decide)) (w37 hw) (w38 hw) (w30 hw) (w39 hw) (by decide) pd__III_Z rfl (W := 0) (by decide) (by decide) (Nat.le_of_eq rfl) (by decide) (by decide) rfl rfl at_251 rfl fun T h2114 v2115 A Q2116 => ?_
     obtain ⟨rfl, eh⟩ := Q2116
     rw [eh] at A
     refine Wp.stk (st' := [(.int (1 : Int32))]) rfl ?_
     refine s_istore (pc' := 256) (Ls' := #[iv q0, iv q1, iv q2, iv q3, iv q4, iv q5, iv na, iv nb, iv nc, iv nx, iv 3, iv 1, iv 0, rv b2, iv 1, jv 1, S2, jv 1, S2, jv 2, S2, jv 3, S2, iv 1, iv 1, U0, U0, U0]) A at_254 rfl rfl ?_
     refine s_iload (pc' := 258) A at_256 rfl rfl ?_
     refine s_iload (pc' := 260) A at_258 rfl rfl ?_
     refine s_iconst (pc' := 261) (z := (2 : Int32)) A at_260 rfl (by decide) ?_
     refine s_static (pc' := 264) (y := y1_removed) (argsL := [(.int (0 : Int32)), (.int (3 : Int32)), (.int (2 : Int32))]) (rest := []) A (rmd l Z a0 hw n0 h2100 A.size (0 : Int32) (3 : Int32) (2 : Int32) (1 : Int32) (by decide)) (w37 hw) (w38 hw) (w30 hw) (w39 hw) (by decide) pd__III_Z rfl (W := 0) (by decide) (by decide) (Nat.le_of_eq rfl) (by decide) (by decide) rfl rfl at_261 rfl fun T h2117 v2118 A Q2119 => ?_
     obtain ⟨rfl, eh⟩ := Q2119
     rw [eh] at A
     refine Wp.stk (st' := [(.int (1 : Int32))]) rfl ?_
     refine s_istore (pc' := 266) (Ls' := #[iv q0, iv q1, iv q2, iv q3, iv q4, iv q5, iv na, iv nb, iv nc, iv nx, iv 3, iv 1, iv 0, rv b2, iv 1, jv 1, S2, jv 1, S2, jv 2, S2, jv 3, S2, iv 1, iv 1, iv 1, U0, U0]) A at_264 rfl rfl ?_
     refine s_aload (pc' := 268) A at_266 rfl rfl rfl ?_
     refine s_virtual (pc' := 271) (y := y3_isEmpty) (argsL := []) (rest := []) (z := y3_isEmpty) A E2103 (bo_isEmpty46 l Z a0 hw n0 h2100 A.size b2 r11 [.int (0 : Int32), .int (0 : Int32), .int (0 : Int32), .int (0 : Int32)] ⟨E2103, F2104, F2105, F2106, V2107, ne2108, ge2109, ge2110⟩) (w13 hw) (w14 hw) (nf_same (C := "") (w16 hw)) (w16 hw) (w15 hw) (w3 hw) (w17 hw) (by decide) pd___Z rfl (W := 0) (by decide) (by decide) (Nat.le_of_eq rfl) (by decide) (by decide) rfl rfl at_268 rfl fun T h2122 v2123 A Q2124 => ?_
     obtain ⟨rfl, K2120, H2121⟩ := Q2124
     obtain ⟨E2125, F2126, F2127, F2128, V2129, ne2130, ge2131, ge2132⟩ := H2121
     refine Wp.stk (st' := [(.int (1 : Int32))]) rfl ?_
     refine s_istore (pc' := 273) (Ls' := #[iv q0, iv q1, iv q2, iv q3, iv q4, iv q5, iv na, iv nb, iv nc, iv nx, iv 3, iv 1, iv 0, rv b2, iv 1, jv 1, S2, jv 1, S2, jv 2, S2, jv 3, S2, iv 1, iv 1, iv 1, iv 1, U0]) A at_271 rfl rfl ?_
     refine s_iload (pc' := 275) A at_273 rfl rfl ?_
     refine s_ifN (pc' := 278) A at_275 rfl (by decide) ?_
     refine s_iload (pc' := 280) A at_278 rfl rfl ?_
     refine s_ifN (pc' := 283) A at_280 rfl (by decide) ?_
     refine s_iload (pc' := 285) A at_283 rfl rfl ?_
     refine s_ifN (pc' := 288) A at_285 rfl (by decide) ?_
     refine s_iload (pc' := 290) A at_288 rfl rfl ?_
     refine s_ifN (pc' := 293) A at_290 rfl (by decide) ?_
     refine s_iload (pc' := 295) A at_293 rfl rfl ?_
     refine s_ifN (pc' := 298) A at_295 rfl (by decide) ?_
     refine s_iconst (pc' := 299) (z := (1 : Int32)) A at_298 rfl (by decide) ?_
     refine s_goto (pc' := 303) A at_299 (by decide) (by decide) ?_
     exact r_bool A rfl (by decide) at_303 (by decide) (by decide) (rfl)
    ·
     refine s_iload (pc' := 176) A at_174 rfl rfl ?_
     refine s_ifN (pc' := 179) A at_176 rfl (by decide) ?_
     refine s_aload (pc' := 181) A at_179 rfl rfl rfl ?_
     refine s_lload (pc' := 183) A at_181 rfl rfl ?_
     refine s_iload (pc' := 185) A at_183 rfl rfl ?_
     refine s_iconst (pc' := 186) (z := (0 : Int32)) A at_185 rfl (by decide) ?_
     refine s_static (pc' := 189) (y := y0_idx) (argsL := [(.int (1 : Int32)), (.int (0 : Int32))]) (rest := [(.long (1 : Int64)), (.ref b2)]) A (idx l Z a0 hw n0 h1309 A.size (1 : Int32) (0 : Int32) (0 : Int32) (by decide)) (w28 hw) (w29 hw) (w30 hw) (w31 hw) (by decide) pd__II_I rfl (W := 3) (by decide) (by decide) (Nat.le_of_eq rfl) (by decide) (by decide) rfl rfl at_186 rfl fun T h2133 v2134 A Q2135 => ?_
     obtain ⟨rfl, eh⟩ := Q2135
     rw [eh] at A
     refine Wp.stk (st' := [(.int (0 : Int32)), (.long (1 : Int64)), (.ref b2)]) rfl ?_
     refine s_i2l (pc' := 190) (z := (0 : Int64)) A at_189 rfl (by decide) ?_
     refine s_ladd (pc' := 191) (z := (1 : Int64)) A at_190 rfl (by decide) ?_
     refine s_virtual (pc' := 194) (y := y6_remove) (argsL := [(.long (1 : Int64))]) (rest := []) (z := y6_remove) A E1312 (bo_remove32 l Z a0 hw n0 h1309 A.size b2 r11 (na + (1 : Int32)) (nb + (1 : Int32)) (nc + (1 : Int32)) ⟨E1312, F1313, F1314, F1315, V1316, ne1317, ge1318, ge1319⟩ zna znb znc) (w32 hw) (w33 hw) (nf_same (C := "") (w35 hw)) (w35 hw) (w34 hw) (w3 hw) (w36 hw) (by decide) pd__J_V rfl (W := 0) (by decide) (by decide) (Nat.le_of_eq rfl) (by decide) (by decide) rfl rfl at_191 rfl fun T h2138 v2139 A Q2140 => ?_
     obtain ⟨rfl, K2136, H2137⟩ := Q2140
     obtain ⟨E2141, F2142, F2143, F2144, V2145, ne2146, ge2147, ge2148⟩ := H2137
     refine Wp.stk (st' := []) rfl ?_
     refine s_iload (pc' := 196) A at_194 rfl rfl ?_
     refine s_iconst (pc' := 197) (z := (1 : Int32)) A at_196 rfl (by decide) ?_
     refine s_icmpN (pc' := 200) A at_197 rfl (by decide) ?_
     refine s_aload (pc' := 202) A at_200 rfl rfl rfl ?_
     refine s_lload (pc' := 204) A at_202 rfl rfl ?_
     refine s_iload (pc' := 206) A at_204 rfl rfl ?_
     refine s_iconst (pc' := 207) (z := (1 : Int32)) A at_206 rfl (by decide) ?_
     refine s_static (pc' := 210) (y := y0_idx) (argsL := [(.int (1 : Int32)), (.int (1 : Int32))]) (rest := [(.long (1 : Int64)), (.ref b2)]) A (idx l Z a0 hw n0 h2138 A.size (1 : Int32) (1 : Int32) (2 : Int32) (by decide)) (w28 hw) (w29 hw) (w30 hw) (w31 hw) (by decide) pd__II_I rfl (W := 3) (by decide) (by decide) (Nat.le_of_eq rfl) (by decide) (by decide) rfl rfl at_207 rfl fun T h2149 v2150 A Q2151 => ?_
     obtain ⟨rfl, eh⟩ := Q2151
     rw [eh] at A
     refine Wp.stk (st' := [(.int (2 : Int32)), (.long (1 : Int64)), (.ref b2)]) rfl ?_
     refine s_i2l (pc' := 211) (z := (2 : Int64)) A at_210 rfl (by decide) ?_
     refine s_ladd (pc' := 212) (z := (3 : Int64)) A at_211 rfl (by decide) ?_
     refine s_virtual (pc' := 215) (y := y6_remove) (argsL := [(.long (3 : Int64))]) (rest := []) (z := y6_remove) A E2141 (bo_remove40 l Z a0 hw n0 h2138 A.size b2 r11 (nb + (1 : Int32)) (nc + (1 : Int32)) ⟨E2141, F2142, F2143, F2144, V2145, ne2146, ge2147, ge2148⟩ znb znc) (w32 hw) (w33 hw) (nf_same (C := "") (w35 hw)) (w35 hw) (w34 hw) (w3 hw) (w36 hw) (by decide) pd__J_V rfl (W := 0) (by decide) (by decide) (Nat.le_of_eq rfl) (by decide) (by decide) rfl rfl at_212 rfl fun T h2154 v2155 A Q2156 => ?_
     obtain ⟨rfl, K2152, H2153⟩ := Q2156
     obtain ⟨E2157, F2158, F2159, F2160, V2161, ne2162, ge2163, ge2164⟩ := H2153
     refine Wp.stk (st' := []) rfl ?_
     refine s_iload (pc' := 217) A at_215 rfl rfl ?_
     refine s_iconst (pc' := 218) (z := (2 : Int32)) A at_217 rfl (by decide) ?_
     refine s_icmpN (pc' := 221) A at_218 rfl (by decide) ?_
     refine s_aload (pc' := 223) A at_221 rfl rfl rfl ?_
     refine s_lload (pc' := 225) A at_223 rfl rfl ?_
     refine s_iload (pc' := 227) A at_225 rfl rfl ?_
     refine s_iconst (pc' := 228) (z := (2 : Int32)) A at_227 rfl (by decide) ?_
     refine s_static (pc' := 231) (y := y0_idx) (argsL := [(.int (1 : Int32)), (.int (2 : Int32))]) (rest := [(.long (1 : Int64)), (.ref b2)]) A (idx l Z a0 hw n0 h2154 A.size (1 : Int32) (2 : Int32) (1 : Int32) (by decide)) (w28 hw) (w29 hw) (w30 hw) (w31 hw) (by decide) pd__II_I rfl (W := 3) (by decide) (by decide) (Nat.le_of_eq rfl) (by decide) (by decide) rfl rfl at_228 rfl fun T h2165 v2166 A Q2167 => ?_
     obtain ⟨rfl, eh⟩ := Q2167
     rw [eh] at A
     refine Wp.stk (st' := [(.int (1 : Int32)), (.long (1 : Int64)), (.ref b2)]) rfl ?_
     refine s_i2l (pc' := 232) (z := (1 : Int64)) A at_231 rfl (by decide) ?_
     refine s_ladd (pc' := 233) (z := (2 : Int64)) A at_232 rfl (by decide) ?_
     refine s_virtual (pc' := 236) (y := y6_remove) (argsL := [(.long (2 : Int64))]) (rest := []) (z := y6_remove) A E2157 (bo_remove47 l Z a0 hw n0 h2154 A.size b2 r11 (nb + (1 : Int32)) ⟨E2157, F2158, F2159, F2160, V2161, ne2162, ge2163, ge2164⟩ znb) (w32 hw) (w33 hw) (nf_same (C := "") (w35 hw)) (w35 hw) (w34 hw) (w3 hw) (w36 hw) (by decide) pd__J_V rfl (W := 0) (by decide) (by decide) (Nat.le_of_eq rfl) (by decide) (by decide) rfl rfl at_233 rfl fun T h2170 v2171 A Q2172 => ?_
     obtain ⟨rfl, K2168, H2169⟩ := Q2172
     obtain ⟨E2173, F2174, F2175, F2176, V2177, ne2178, ge2179, ge2180⟩ := H2169
     refine Wp.stk (st' := []) rfl ?_
     refine s_iload (pc' := 238) A at_236 rfl rfl ?_
     refine s_iload (pc' := 240) A at_238 rfl rfl ?_
     refine s_iconst (pc' := 241) (z := (0 : Int32)) A at_240 rfl (by decide) ?_
     refine s_static (pc' := 244) (y := y1_removed) (argsL := [(.int (1 : Int32)), (.int (3 : Int32)), (.int (0 : Int32))]) (rest := []) A (rmd l Z a0 hw n0 h2170 A.size (1 : Int32) (3 : Int32) (0 : Int32) (1 : Int32) (by decide)) (w37 hw) (w38 hw) (w30 hw) (w39 hw) (by decide) pd__III_Z rfl (W := 0) (by decide) (by decide) (Nat.le_of_eq rfl) (by decide) (by decide) rfl rfl at_241 rfl fun T h2181 v2182 A Q2183 => ?_
     obtain ⟨rfl, eh⟩ := Q2183
     rw [eh] at A
     refine Wp.stk (st' := [(.int (1 : Int32))]) rfl ?_
     refine s_istore (pc' := 246) (Ls' := #[iv q0, iv q1, iv q2, iv q3, iv q4, iv q5, iv na, iv nb, iv nc, iv nx, iv 3, iv 1, iv 1, rv b2, iv 1, jv 1, S2, jv 1, S2, jv 2, S2, jv 3, S2, iv 1, U0, U0, U0, U0]) A at_244 rfl rfl ?_
     refine s_iload (pc' := 248) A at_246 rfl rfl ?_
     refine s_iload (pc' := 250) A at_248 rfl rfl ?_
     refine s_iconst (pc' := 251) (z := (1 : Int32)) A at_250 rfl (by decide) ?_
     refine s_static (pc' := 254) (y := y1_removed) (argsL := [(.int (1 : Int32)), (.int (3 : Int32)), (.int (1 : Int32))]) (rest := []) A (rmd l Z a0 hw n0 h2170 A.size (1 : Int32) (3 : Int32) (1 : Int32) (1 : Int32) (by decide)) (w37 hw) (w38 hw) (w30 hw) (w39 hw) (by decide) pd__III_Z rfl (W := 0) (by decide) (by decide) (Nat.le_of_eq rfl) (by decide) (by decide) rfl rfl at_251 rfl fun T h2184 v2185 A Q2186 => ?_
     obtain ⟨rfl, eh⟩ := Q2186
     rw [eh] at A
     refine Wp.stk (st' := [(.int (1 : Int32))]) rfl ?_
     refine s_istore (pc' := 256) (Ls' := #[iv q0, iv q1, iv q2, iv q3, iv q4, iv q5, iv na, iv nb, iv nc, iv nx, iv 3, iv 1, iv 1, rv b2, iv 1, jv 1, S2, jv 1, S2, jv 2, S2, jv 3, S2, iv 1, iv 1, U0, U0, U0]) A at_254 rfl rfl ?_
     refine s_iload (pc' := 258) A at_256 rfl rfl ?_
     refine s_iload (pc' := 260) A at_258 rfl rfl ?_
     refine s_iconst (pc' := 261) (z := (2 : Int32)) A at_260 rfl (by decide) ?_
     refine s_static (pc' := 264) (y := y1_removed) (argsL := [(.int (1 : Int32)), (.int (3 : Int32)), (.int (2 : Int32))]) (rest := []) A (rmd l Z a0 hw n0 h2170 A.size (1 : Int32) (3 : Int32) (2 : Int32) (1 : Int32) (by decide)) (w37 hw) (w38 hw) (w30 hw) (w39 hw) (by decide) pd__III_Z rfl (W := 0) (by decide) (by decide) (Nat.le_of_eq rfl) (by decide) (by decide) rfl rfl at_261 rfl fun T h2187 v2188 A Q2189 => ?_
     obtain ⟨rfl, eh⟩ := Q2189
     rw [eh] at A
     refine Wp.stk (st' := [(.int (1 : Int32))]) rfl ?_
     refine s_istore (pc' := 266) (Ls' := #[iv q0, iv q1, iv q2, iv q3, iv q4, iv q5, iv na, iv nb, iv nc, iv nx, iv 3, iv 1, iv 1, rv b2, iv 1, jv 1, S2, jv 1, S2, jv 2, S2, jv 3, S2, iv 1, iv 1, iv 1, U0, U0]) A at_264 rfl rfl ?_
     refine s_aload (pc' := 268) A at_266 rfl rfl rfl ?_
     refine s_virtual (pc' := 271) (y := y3_isEmpty) (argsL := []) (rest := []) (z := y3_isEmpty) A E2173 (bo_isEmpty46 l Z a0 hw n0 h2170 A.size b2 r11 [.int (0 : Int32), .int (0 : Int32), .int (0 : Int32), .int (0 : Int32)] ⟨E2173, F2174, F2175, F2176, V2177, ne2178, ge2179, ge2180⟩) (w13 hw) (w14 hw) (nf_same (C := "") (w16 hw)) (w16 hw) (w15 hw) (w3 hw) (w17 hw) (by decide) pd___Z rfl (W := 0) (by decide) (by decide) (Nat.le_of_eq rfl) (by decide) (by decide) rfl rfl at_268 rfl fun T h2192 v2193 A Q2194 => ?_
     obtain ⟨rfl, K2190, H2191⟩ := Q2194
     obtain ⟨E2195, F2196, F2197, F2198, V2199, ne2200, ge2201, ge2202⟩ := H2191
     refine Wp.stk (st' := [(.int (1 : Int32))]) rfl ?_
     refine s_istore (pc' := 273) (Ls' := #[iv q0, iv q1, iv q2, iv q3, iv q4, iv q5, iv na, iv nb, iv nc, iv nx, iv 3, iv 1, iv 1, rv b2, iv 1, jv 1, S2, jv 1, S2, jv 2, S2, jv 3, S2, iv 1, iv 1, iv 1, iv 1, U0]) A at_271 rfl rfl ?_
     refine s_iload (pc' := 275) A at_273 rfl rfl ?_
     refine s_ifN (pc' := 278) A at_275 rfl (by decide) ?_
     refine s_iload (pc' := 280) A at_278 rfl rfl ?_
     refine s_ifN (pc' := 283) A at_280 rfl (by decide) ?_
     refine s_iload (pc' := 285) A at_283 rfl rfl ?_
     refine s_ifN (pc' := 288) A at_285 rfl (by decide) ?_
     refine s_iload (pc' := 290) A at_288 rfl rfl ?_
     refine s_ifN (pc' := 293) A at_290 rfl (by decide) ?_
     refine s_iload (pc' := 295) A at_293 rfl rfl ?_
     refine s_ifN (pc' := 298) A at_295 rfl (by decide) ?_
     refine s_iconst (pc' := 299) (z := (1 : Int32)) A at_298 rfl (by decide) ?_
     refine s_goto (pc' := 303) A at_299 (by decide) (by decide) ?_
     exact r_bool A rfl (by decide) at_303 (by decide) (by decide) (rfl)
    ·
     refine s_iload (pc' := 176) A at_174 rfl rfl ?_
     refine s_ifN (pc' := 179) A at_176 rfl (by decide) ?_
     refine s_aload (pc' := 181) A at_179 rfl rfl rfl ?_
     refine s_lload (pc' := 183) A at_181 rfl rfl ?_
     refine s_iload (pc' := 185) A at_183 rfl rfl ?_
     refine s_iconst (pc' := 186) (z := (0 : Int32)) A at_185 rfl (by decide) ?_
     refine s_static (pc' := 189) (y := y0_idx) (argsL := [(.int (2 : Int32)), (.int (0 : Int32))]) (rest := [(.long (1 : Int64)), (.ref b2)]) A (idx l Z a0 hw n0 h1309 A.size (2 : Int32) (0 : Int32) (1 : Int32) (by decide)) (w28 hw) (w29 hw) (w30 hw) (w31 hw) (by decide) pd__II_I rfl (W := 3) (by decide) (by decide) (Nat.le_of_eq rfl) (by decide) (by decide) rfl rfl at_186 rfl fun T h2203 v2204 A Q2205 => ?_
     obtain ⟨rfl, eh⟩ := Q2205
     rw [eh] at A
     refine Wp.stk (st' := [(.int (1 : Int32)), (.long (1 : Int64)), (.ref b2)]) rfl ?_
     refine s_i2l (pc' := 190) (z := (1 : Int64)) A at_189 rfl (by decide) ?_
     refine s_ladd (pc' := 191) (z := (2 : Int64)) A at_190 rfl (by decide) ?_
     refine s_virtual (pc' := 194) (y := y6_remove) (argsL := [(.long (2 : Int64))]) (rest := []) (z := y6_remove) A E1312 (bo_remove35 l Z a0 hw n0 h1309 A.size b2 r11 (na + (1 : Int32)) (nb + (1 : Int32)) (nc + (1 : Int32)) ⟨E1312, F1313, F1314, F1315, V1316, ne1317, ge1318, ge1319⟩ zna znb znc) (w32 hw) (w33 hw) (nf_same (C := "") (w35 hw)) (w35 hw) (w34 hw) (w3 hw) (w36 hw) (by decide) pd__J_V rfl (W := 0) (by decide) (by decide) (Nat.le_of_eq rfl) (by decide) (by decide) rfl rfl at_191 rfl fun T h2208 v2209 A Q2210 => ?_
     obtain ⟨rfl, K2206, H2207⟩ := Q2210
     obtain ⟨E2211, F2212, F2213, F2214, V2215, ne2216, ge2217, ge2218⟩ := H2207
     refine Wp.stk (st' := []) rfl ?_
     refine s_iload (pc' := 196) A at_194 rfl rfl ?_
     refine s_iconst (pc' := 197) (z := (1 : Int32)) A at_196 rfl (by decide) ?_
     refine s_icmpN (pc' := 200) A at_197 rfl (by decide) ?_
     refine s_aload (pc' := 202) A at_200 rfl rfl rfl ?_
     refine s_lload (pc' := 204) A at_202 rfl rfl ?_
     refine s_iload (pc' := 206) A at_204 rfl rfl ?_
     refine s_iconst (pc' := 207) (z := (1 : Int32)) A at_206 rfl (by decide) ?_
     refine s_static (pc' := 210) (y := y0_idx) (argsL := [(.int (2 : Int32)), (.int (1 : Int32))]) (rest := [(.long (1 : Int64)), (.ref b2)]) A (idx l Z a0 hw n0 h2208 A.size (2 : Int32) (1 : Int32) (0 : Int32) (by decide)) (w28 hw) (w29 hw) (w30 hw) (w31 hw) (by decide) pd__II_I rfl (W := 3) (by decide) (by decide) (Nat.le_of_eq rfl) (by decide) (by decide) rfl rfl at_207 rfl fun T h2219 v2220 A Q2221 => ?_
     obtain ⟨rfl, eh⟩ := Q2221
     rw [eh] at A
     refine Wp.stk (st' := [(.int (0 : Int32)), (.long (1 : Int64)), (.ref b2)]) rfl ?_
     refine s_i2l (pc' := 211) (z := (0 : Int64)) A at_210 rfl (by decide) ?_
     refine s_ladd (pc' := 212) (z := (1 : Int64)) A at_211 rfl (by decide) ?_
     refine s_virtual (pc' := 215) (y := y6_remove) (argsL := [(.long (1 : Int64))]) (rest := []) (z := y6_remove) A E2211 (bo_remove41 l Z a0 hw n0 h2208 A.size b2 r11 (na + (1 : Int32)) (nc + (1 : Int32)) ⟨E2211, F2212, F2213, F2214, V2215, ne2216, ge2217, ge2218⟩ zna znc) (w32 hw) (w33 hw) (nf_same (C := "") (w35 hw)) (w35 hw) (w34 hw) (w3 hw) (w36 hw) (by decide) pd__J_V rfl (W := 0) (by decide) (by decide) (Nat.le_of_eq rfl) (by decide) (by decide) rfl rfl at_212 rfl fun T h2224 v2225 A Q2226 => ?_
     obtain ⟨rfl, K2222, H2223⟩ := Q2226
     obtain ⟨E2227, F2228, F2229, F2230, V2231, ne2232, ge2233, ge2234⟩ := H2223
     refine Wp.stk (st' := []) rfl ?_
     refine s_iload (pc' := 217) A at_215 rfl rfl ?_
     refine s_iconst (pc' := 218) (z := (2 : Int32)) A at_217 rfl (by decide) ?_
     refine s_icmpN (pc' := 221) A at_218 rfl (by decide) ?_
     refine s_aload (pc' := 223) A at_221 rfl rfl rfl ?_
     refine s_lload (pc' := 225) A at_223 rfl rfl ?_
     refine s_iload (pc' := 227) A at_225 rfl rfl ?_
     refine s_iconst (pc' := 228) (z := (2 : Int32)) A at_227 rfl (by decide) ?_
     refine s_static (pc' := 231) (y := y0_idx) (argsL := [(.int (2 : Int32)), (.int (2 : Int32))]) (rest := [(.long (1 : Int64)), (.ref b2)]) A (idx l Z a0 hw n0 h2224 A.size (2 : Int32) (2 : Int32) (2 : Int32) (by decide)) (w28 hw) (w29 hw) (w30 hw) (w31 hw) (by decide) pd__II_I rfl (W := 3) (by decide) (by decide) (Nat.le_of_eq rfl) (by decide) (by decide) rfl rfl at_228 rfl fun T h2235 v2236 A Q2237 => ?_
     obtain ⟨rfl, eh⟩ := Q2237
     rw [eh] at A
     refine Wp.stk (st' := [(.int (2 : Int32)), (.long (1 : Int64)), (.ref b2)]) rfl ?_
     refine s_i2l (pc' := 232) (z := (2 : Int64)) A at_231 rfl (by decide) ?_
     refine s_ladd (pc' := 233) (z := (3 : Int64)) A at_232 rfl (by decide) ?_
     refine s_virtual (pc' := 236) (y := y6_remove) (argsL := [(.long (3 : Int64))]) (rest := []) (z := y6_remove) A E2227 (bo_remove45 l Z a0 hw n0 h2224 A.size b2 r11 (nc + (1 : Int32)) ⟨E2227, F2228, F2229, F2230, V2231, ne2232, ge2233, ge2234⟩ znc) (w32 hw) (w33 hw) (nf_same (C := "") (w35 hw)) (w35 hw) (w34 hw) (w3 hw) (w36 hw) (by decide) pd__J_V rfl (W := 0) (by decide) (by decide) (Nat.le_of_eq rfl) (by decide) (by decide) rfl rfl at_233 rfl fun T h2240 v2241 A Q2242 => ?_
     obtain ⟨rfl, K2238, H2239⟩ := Q2242
     obtain ⟨E2243, F2244, F2245, F2246, V2247, ne2248, ge2249, ge2250⟩ := H2239
     refine Wp.stk (st' := []) rfl ?_
     refine s_iload (pc' := 238) A at_236 rfl rfl ?_
     refine s_iload (pc' := 240) A at_238 rfl rfl ?_
     refine s_iconst (pc' := 241) (z := (0 : Int32)) A at_240 rfl (by decide) ?_
     refine s_static (pc' := 244) (y := y1_removed) (argsL := [(.int (2 : Int32)), (.int (3 : Int32)), (.int (0 : Int32))]) (rest := []) A (rmd l Z a0 hw n0 h2240 A.size (2 : Int32) (3 : Int32) (0 : Int32) (1 : Int32) (by decide)) (w37 hw) (w38 hw) (w30 hw) (w39 hw) (by decide) pd__III_Z rfl (W := 0) (by decide) (by decide) (Nat.le_of_eq rfl) (by decide) (by decide) rfl rfl at_241 rfl fun T h2251 v2252 A Q2253 => ?_
     obtain ⟨rfl, eh⟩ := Q2253
     rw [eh] at A
     refine Wp.stk (st' := [(.int (1 : Int32))]) rfl ?_
     refine s_istore (pc' := 246) (Ls' := #[iv q0, iv q1, iv q2, iv q3, iv q4, iv q5, iv na, iv nb, iv nc, iv nx, iv 3, iv 1, iv 2, rv b2, iv 1, jv 1, S2, jv 1, S2, jv 2, S2, jv 3, S2, iv 1, U0, U0, U0, U0]) A at_244 rfl rfl ?_
     refine s_iload (pc' := 248) A at_246 rfl rfl ?_
     refine s_iload (pc' := 250) A at_248 rfl rfl ?_
     refine s_iconst (pc' := 251) (z := (1 : Int32)) A at_250 rfl (by decide) ?_
     refine s_static (pc' := 254) (y := y1_removed) (argsL := [(.int (2 : Int32)), (.int (3 : Int32)), (.int (1 : Int32))]) (rest := []) A (rmd l Z a0 hw n0 h2240 A.size (2 : Int32) (3 : Int32) (1 : Int32) (1 : Int32) (by decide)) (w37 hw) (w38 hw) (w30 hw) (w39 hw) (by decide) pd__III_Z rfl (W := 0) (by decide) (by decide) (Nat.le_of_eq rfl) (by decide) (by decide) rfl rfl at_251 rfl fun T h2254 v2255 A Q2256 => ?_
     obtain ⟨rfl, eh⟩ := Q2256
     rw [eh] at A
     refine Wp.stk (st' := [(.int (1 : Int32))]) rfl ?_
     refine s_istore (pc' := 256) (Ls' := #[iv q0, iv q1, iv q2, iv q3, iv q4, iv q5, iv na, iv nb, iv nc, iv nx, iv 3, iv 1, iv 2, rv b2, iv 1, jv 1, S2, jv 1, S2, jv 2, S2, jv 3, S2, iv 1, iv 1, U0, U0, U0]) A at_254 rfl rfl ?_
     refine s_iload (pc' := 258) A at_256 rfl rfl ?_
     refine s_iload (pc' := 260) A at_258 rfl rfl ?_
     refine s_iconst (pc' := 261) (z := (2 : Int32)) A at_260 rfl (by decide) ?_
     refine s_static (pc' := 264) (y := y1_removed) (argsL := [(.int (2 : Int32)), (.int (3 : Int32)), (.int (2 : Int32))]) (rest := []) A (rmd l Z a0 hw n0 h2240 A.size (2 : Int32) (3 : Int32) (2 : Int32) (1 : Int32) (by decide)) (w37 hw) (w38 hw) (w30 hw) (w39 hw) (by decide) pd__III_Z rfl (W := 0) (by decide) (by decide) (Nat.le_of_eq rfl) (by decide) (by decide) rfl rfl at_261 rfl fun T h2257 v2258 A Q2259 => ?_
     obtain ⟨rfl, eh⟩ := Q2259
     rw [eh] at A
     refine Wp.stk (st' := [(.int (1 : Int32))]) rfl ?_
     refine s_istore (pc' := 266) (Ls' := #[iv q0, iv q1, iv q2, iv q3, iv q4, iv q5, iv na, iv nb, iv nc, iv nx, iv 3, iv 1, iv 2, rv b2, iv 1, jv 1, S2, jv 1, S2, jv 2, S2, jv 3, S2, iv 1, iv 1, iv 1, U0, U0]) A at_264 rfl rfl ?_
     refine s_aload (pc' := 268) A at_266 rfl rfl rfl ?_
     refine s_virtual (pc' := 271) (y := y3_isEmpty) (argsL := []) (rest := []) (z := y3_isEmpty) A E2243 (bo_isEmpty46 l Z a0 hw n0 h2240 A.size b2 r11 [.int (0 : Int32), .int (0 : Int32), .int (0 : Int32), .int (0 : Int32)] ⟨E2243, F2244, F2245, F2246, V2247, ne2248, ge2249, ge2250⟩) (w13 hw) (w14 hw) (nf_same (C := "") (w16 hw)) (w16 hw) (w15 hw) (w3 hw) (w17 hw) (by decide) pd___Z rfl (W := 0) (by decide) (by decide) (Nat.le_of_eq rfl) (by decide) (by decide) rfl rfl at_268 rfl fun T h2262 v2263 A Q2264 => ?_
     obtain ⟨rfl, K2260, H2261⟩ := Q2264
     obtain ⟨E2265, F2266, F2267, F2268, V2269, ne2270, ge2271, ge2272⟩ := H2261
     refine Wp.stk (st' := [(.int (1 : Int32))]) rfl ?_
     refine s_istore (pc' := 273) (Ls' := #[iv q0, iv q1, iv q2, iv q3, iv q4, iv q5, iv na, iv nb, iv nc, iv nx, iv 3, iv 1, iv 2, rv b2, iv 1, jv 1, S2, jv 1, S2, jv 2, S2, jv 3, S2, iv 1, iv 1, iv 1, iv 1, U0]) A at_271 rfl rfl ?_
     refine s_iload (pc' := 275) A at_273 rfl rfl ?_
     refine s_ifN (pc' := 278) A at_275 rfl (by decide) ?_
     refine s_iload (pc' := 280) A at_278 rfl rfl ?_
     refine s_ifN (pc' := 283) A at_280 rfl (by decide) ?_
     refine s_iload (pc' := 285) A at_283 rfl rfl ?_
     refine s_ifN (pc' := 288) A at_285 rfl (by decide) ?_
     refine s_iload (pc' := 290) A at_288 rfl rfl ?_
     refine s_ifN (pc' := 293) A at_290 rfl (by decide) ?_
     refine s_iload (pc' := 295) A at_293 rfl rfl ?_
     refine s_ifN (pc' := 298) A at_295 rfl (by decide) ?_
     refine s_iconst (pc' := 299) (z := (1 : Int32)) A at_298 rfl (by decide) ?_
     refine s_goto (pc' := 303) A at_299 (by decide) (by decide) ?_
     exact r_bool A rfl (by decide) at_303 (by decide) (by decide) (rfl)
    ·
     refine s_iload (pc' := 176) A at_174 rfl rfl ?_
     refine s_ifN (pc' := 179) A at_176 rfl (by decide) ?_
     refine s_aload (pc' := 181) A at_179 rfl rfl rfl ?_
     refine s_lload (pc' := 183) A at_181 rfl rfl ?_
     refine s_iload (pc' := 185) A at_183 rfl rfl ?_
     refine s_iconst (pc' := 186) (z := (0 : Int32)) A at_185 rfl (by decide) ?_
     refine s_static (pc' := 189) (y := y0_idx) (argsL := [(.int (3 : Int32)), (.int (0 : Int32))]) (rest := [(.long (1 : Int64)), (.ref b2)]) A (idx l Z a0 hw n0 h1309 A.size (3 : Int32) (0 : Int32) (1 : Int32) (by decide)) (w28 hw) (w29 hw) (w30 hw) (w31 hw) (by decide) pd__II_I rfl (W := 3) (by decide) (by decide) (Nat.le_of_eq rfl) (by decide) (by decide) rfl rfl at_186 rfl fun T h2273 v2274 A Q2275 => ?_
     obtain ⟨rfl, eh⟩ := Q2275
     rw [eh] at A
     refine Wp.stk (st' := [(.int (1 : Int32)), (.long (1 : Int64)), (.ref b2)]) rfl ?_
     refine s_i2l (pc' := 190) (z := (1 : Int64)) A at_189 rfl (by decide) ?_
     refine s_ladd (pc' := 191) (z := (2 : Int64)) A at_190 rfl (by decide) ?_
     refine s_virtual (pc' := 194) (y := y6_remove) (argsL := [(.long (2 : Int64))]) (rest := []) (z := y6_remove) A E1312 (bo_remove35 l Z a0 hw n0 h1309 A.size b2 r11 (na + (1 : Int32)) (nb + (1 : Int32)) (nc + (1 : Int32)) ⟨E1312, F1313, F1314, F1315, V1316, ne1317, ge1318, ge1319⟩ zna znb znc) (w32 hw) (w33 hw) (nf_same (C := "") (w35 hw)) (w35 hw) (w34 hw) (w3 hw) (w36 hw) (by decide) pd__J_V rfl (W := 0) (by decide) (by decide) (Nat.le_of_eq rfl) (by decide) (by decide) rfl rfl at_191 rfl fun T h2278 v2279 A Q2280 => ?_
     obtain ⟨rfl, K2276, H2277⟩ := Q2280
     obtain ⟨E2281, F2282, F2283, F2284, V2285, ne2286, ge2287, ge2288⟩ := H2277
     refine Wp.stk (st' := []) rfl ?_
     refine s_iload (pc' := 196) A at_194 rfl rfl ?_
     refine s_iconst (pc' := 197) (z := (1 : Int32)) A at_196 rfl (by decide) ?_
     refine s_icmpN (pc' := 200) A at_197 rfl (by decide) ?_
     refine s_aload (pc' := 202) A at_200 rfl rfl rfl ?_
     refine s_lload (pc' := 204) A at_202 rfl rfl ?_
     refine s_iload (pc' := 206) A at_204 rfl rfl ?_
     refine s_iconst (pc' := 207) (z := (1 : Int32)) A at_206 rfl (by decide) ?_
     refine s_static (pc' := 210) (y := y0_idx) (argsL := [(.int (3 : Int32)), (.int (1 : Int32))]) (rest := [(.long (1 : Int64)), (.ref b2)]) A (idx l Z a0 hw n0 h2278 A.size (3 : Int32) (1 : Int32) (2 : Int32) (by decide)) (w28 hw) (w29 hw) (w30 hw) (w31 hw) (by decide) pd__II_I rfl (W := 3) (by decide) (by decide) (Nat.le_of_eq rfl) (by decide) (by decide) rfl rfl at_207 rfl fun T h2289 v2290 A Q2291 => ?_
     obtain ⟨rfl, eh⟩ := Q2291
     rw [eh] at A
     refine Wp.stk (st' := [(.int (2 : Int32)), (.long (1 : Int64)), (.ref b2)]) rfl ?_
     refine s_i2l (pc' := 211) (z := (2 : Int64)) A at_210 rfl (by decide) ?_
     refine s_ladd (pc' := 212) (z := (3 : Int64)) A at_211 rfl (by decide) ?_
     refine s_virtual (pc' := 215) (y := y6_remove) (argsL := [(.long (3 : Int64))]) (rest := []) (z := y6_remove) A E2281 (bo_remove42 l Z a0 hw n0 h2278 A.size b2 r11 (na + (1 : Int32)) (nc + (1 : Int32)) ⟨E2281, F2282, F2283, F2284, V2285, ne2286, ge2287, ge2288⟩ zna znc) (w32 hw) (w33 hw) (nf_same (C := "") (w35 hw)) (w35 hw) (w34 hw) (w3 hw) (w36 hw) (by decide) pd__J_V rfl (W := 0) (by decide) (by decide) (Nat.le_of_eq rfl) (by decide) (by decide) rfl rfl at_212 rfl fun T h2294 v2295 A Q2296 => ?_
     obtain ⟨rfl, K2292, H2293⟩ := Q2296
     obtain ⟨E2297, F2298, F2299, F2300, V2301, ne2302, ge2303, ge2304⟩ := H2293
     refine Wp.stk (st' := []) rfl ?_
     refine s_iload (pc' := 217) A at_215 rfl rfl ?_
     refine s_iconst (pc' := 218) (z := (2 : Int32)) A at_217 rfl (by decide) ?_
     refine s_icmpN (pc' := 221) A at_218 rfl (by decide) ?_
     refine s_aload (pc' := 223) A at_221 rfl rfl rfl ?_
     refine s_lload (pc' := 225) A at_223 rfl rfl ?_
     refine s_iload (pc' := 227) A at_225 rfl rfl ?_
     refine s_iconst (pc' := 228) (z := (2 : Int32)) A at_227 rfl (by decide) ?_
     refine s_static (pc' := 231) (y := y0_idx) (argsL := [(.int (3 : Int32)), (.int (2 : Int32))]) (rest := [(.long (1 : Int64)), (.ref b2)]) A (idx l Z a0 hw n0 h2294 A.size (3 : Int32) (2 : Int32) (0 : Int32) (by decide)) (w28 hw) (w29 hw) (w30 hw) (w31 hw) (by decide) pd__II_I rfl (W := 3) (by decide) (by decide) (Nat.le_of_eq rfl) (by decide) (by decide) rfl rfl at_228 rfl fun T h2305 v2306 A Q2307 => ?_
     obtain ⟨rfl, eh⟩ := Q2307
     rw [eh] at A
     refine Wp.stk (st' := [(.int (0 : Int32)), (.long (1 : Int64)), (.ref b2)]) rfl ?_
     refine s_i2l (pc' := 232) (z := (0 : Int64)) A at_231 rfl (by decide) ?_
     refine s_ladd (pc' := 233) (z := (1 : Int64)) A at_232 rfl (by decide) ?_
     refine s_virtual (pc' := 236) (y := y6_remove) (argsL := [(.long (1 : Int64))]) (rest := []) (z := y6_remove) A E2297 (bo_remove48 l Z a0 hw n0 h2294 A.size b2 r11 (na + (1 : Int32)) ⟨E2297, F2298, F2299, F2300, V2301, ne2302, ge2303, ge2304⟩ zna) (w32 hw) (w33 hw) (nf_same (C := "") (w35 hw)) (w35 hw) (w34 hw) (w3 hw) (w36 hw) (by decide) pd__J_V rfl (W := 0) (by decide) (by decide) (Nat.le_of_eq rfl) (by decide) (by decide) rfl rfl at_233 rfl fun T h2310 v2311 A Q2312 => ?_
     obtain ⟨rfl, K2308, H2309⟩ := Q2312
     obtain ⟨E2313, F2314, F2315, F2316, V2317, ne2318, ge2319, ge2320⟩ := H2309
     refine Wp.stk (st' := []) rfl ?_
     refine s_iload (pc' := 238) A at_236 rfl rfl ?_
     refine s_iload (pc' := 240) A at_238 rfl rfl ?_
     refine s_iconst (pc' := 241) (z := (0 : Int32)) A at_240 rfl (by decide) ?_
     refine s_static (pc' := 244) (y := y1_removed) (argsL := [(.int (3 : Int32)), (.int (3 : Int32)), (.int (0 : Int32))]) (rest := []) A (rmd l Z a0 hw n0 h2310 A.size (3 : Int32) (3 : Int32) (0 : Int32) (1 : Int32) (by decide)) (w37 hw) (w38 hw) (w30 hw) (w39 hw) (by decide) pd__III_Z rfl (W := 0) (by decide) (by decide) (Nat.le_of_eq rfl) (by decide) (by decide) rfl rfl at_241 rfl fun T h2321 v2322 A Q2323 => ?_
     obtain ⟨rfl, eh⟩ := Q2323
     rw [eh] at A
     refine Wp.stk (st' := [(.int (1 : Int32))]) rfl ?_
     refine s_istore (pc' := 246) (Ls' := #[iv q0, iv q1, iv q2, iv q3, iv q4, iv q5, iv na, iv nb, iv nc, iv nx, iv 3, iv 1, iv 3, rv b2, iv 1, jv 1, S2, jv 1, S2, jv 2, S2, jv 3, S2, iv 1, U0, U0, U0, U0]) A at_244 rfl rfl ?_
     refine s_iload (pc' := 248) A at_246 rfl rfl ?_
     refine s_iload (pc' := 250) A at_248 rfl rfl ?_
     refine s_iconst (pc' := 251) (z := (1 : Int32)) A at_250 rfl (by decide) ?_
     refine s_static (pc' := 254) (y := y1_removed) (argsL := [(.int (3 : Int32)), (.int (3 : Int32)), (.int (1 : Int32))]) (rest := []) A (rmd l Z a0 hw n0 h2310 A.size (3 : Int32) (3 : Int32) (1 : Int32) (1 : Int32) (by decide)) (w37 hw) (w38 hw) (w30 hw) (w39 hw) (by decide) pd__III_Z rfl (W := 0) (by decide) (by decide) (Nat.le_of_eq rfl) (by decide) (by decide) rfl rfl at_251 rfl fun T h2324 v2325 A Q2326 => ?_
     obtain ⟨rfl, eh⟩ := Q2326
     rw [eh] at A
     refine Wp.stk (st' := [(.int (1 : Int32))]) rfl ?_
     refine s_istore (pc' := 256) (Ls' := #[iv q0, iv q1, iv q2, iv q3, iv q4, iv q5, iv na, iv nb, iv nc, iv nx, iv 3, iv 1, iv 3, rv b2, iv 1, jv 1, S2, jv 1, S2, jv 2, S2, jv 3, S2, iv 1, iv 1, U0, U0, U0]) A at_254 rfl rfl ?_
     refine s_iload (pc' := 258) A at_256 rfl rfl ?_
     refine s_iload (pc' := 260) A at_258 rfl rfl ?_
     refine s_iconst (pc' := 261) (z := (2 : Int32)) A at_260 rfl (by decide) ?_
     refine s_static (pc' := 264) (y := y1_removed) (argsL := [(.int (3 : Int32)), (.int (3 : Int32)), (.int (2 : Int32))]) (rest := []) A (rmd l Z a0 hw n0 h2310 A.size (3 : Int32) (3 : Int32) (2 : Int32) (1 : Int32) (by decide)) (w37 hw) (w38 hw) (w30 hw) (w39 hw) (by decide) pd__III_Z rfl (W := 0) (by decide) (by decide) (Nat.le_of_eq rfl) (by decide) (by decide) rfl rfl at_261 rfl fun T h2327 v2328 A Q2329 => ?_
     obtain ⟨rfl, eh⟩ := Q2329
     rw [eh] at A
     refine Wp.stk (st' := [(.int (1 : Int32))]) rfl ?_
     refine s_istore (pc' := 266) (Ls' := #[iv q0, iv q1, iv q2, iv q3, iv q4, iv q5, iv na, iv nb, iv nc, iv nx, iv 3, iv 1, iv 3, rv b2, iv 1, jv 1, S2, jv 1, S2, jv 2, S2, jv 3, S2, iv 1, iv 1, iv 1, U0, U0]) A at_264 rfl rfl ?_
     refine s_aload (pc' := 268) A at_266 rfl rfl rfl ?_
     refine s_virtual (pc' := 271) (y := y3_isEmpty) (argsL := []) (rest := []) (z := y3_isEmpty) A E2313 (bo_isEmpty46 l Z a0 hw n0 h2310 A.size b2 r11 [.int (0 : Int32), .int (0 : Int32), .int (0 : Int32), .int (0 : Int32)] ⟨E2313, F2314, F2315, F2316, V2317, ne2318, ge2319, ge2320⟩) (w13 hw) (w14 hw) (nf_same (C := "") (w16 hw)) (w16 hw) (w15 hw) (w3 hw) (w17 hw) (by decide) pd___Z rfl (W := 0) (by decide) (by decide) (Nat.le_of_eq rfl) (by decide) (by decide) rfl rfl at_268 rfl fun T h2332 v2333 A Q2334 => ?_
     obtain ⟨rfl, K2330, H2331⟩ := Q2334
     obtain ⟨E2335, F2336, F2337, F2338, V2339, ne2340, ge2341, ge2342⟩ := H2331
     refine Wp.stk (st' := [(.int (1 : Int32))]) rfl ?_
     refine s_istore (pc' := 273) (Ls' := #[iv q0, iv q1, iv q2, iv q3, iv q4, iv q5, iv na, iv nb, iv nc, iv nx, iv 3, iv 1, iv 3, rv b2, iv 1, jv 1, S2, jv 1, S2, jv 2, S2, jv 3, S2, iv 1, iv 1, iv 1, iv 1, U0]) A at_271 rfl rfl ?_
     refine s_iload (pc' := 275) A at_273 rfl rfl ?_
     refine s_ifN (pc' := 278) A at_275 rfl (by decide) ?_
     refine s_iload (pc' := 280) A at_278 rfl rfl ?_
     refine s_ifN (pc' := 283) A at_280 rfl (by decide) ?_
     refine s_iload (pc' := 285) A at_283 rfl rfl ?_
     refine s_ifN (pc' := 288) A at_285 rfl (by decide) ?_
     refine s_iload (pc' := 290) A at_288 rfl rfl ?_
     refine s_ifN (pc' := 293) A at_290 rfl (by decide) ?_
     refine s_iload (pc' := 295) A at_293 rfl rfl ?_
     refine s_ifN (pc' := 298) A at_295 rfl (by decide) ?_
     refine s_iconst (pc' := 299) (z := (1 : Int32)) A at_298 rfl (by decide) ?_
     refine s_goto (pc' := 303) A at_299 (by decide) (by decide) ?_
     exact r_bool A rfl (by decide) at_303 (by decide) (by decide) (rfl)
    ·
     refine s_iload (pc' := 176) A at_174 rfl rfl ?_
     refine s_ifN (pc' := 179) A at_176 rfl (by decide) ?_
     refine s_aload (pc' := 181) A at_179 rfl rfl rfl ?_
     refine s_lload (pc' := 183) A at_181 rfl rfl ?_
     refine s_iload (pc' := 185) A at_183 rfl rfl ?_
     refine s_iconst (pc' := 186) (z := (0 : Int32)) A at_185 rfl (by decide) ?_
     refine s_static (pc' := 189) (y := y0_idx) (argsL := [(.int (4 : Int32)), (.int (0 : Int32))]) (rest := [(.long (1 : Int64)), (.ref b2)]) A (idx l Z a0 hw n0 h1309 A.size (4 : Int32) (0 : Int32) (2 : Int32) (by decide)) (w28 hw) (w29 hw) (w30 hw) (w31 hw) (by decide) pd__II_I rfl (W := 3) (by decide) (by decide) (Nat.le_of_eq rfl) (by decide) (by decide) rfl rfl at_186 rfl fun T h2343 v2344 A Q2345 => ?_
     obtain ⟨rfl, eh⟩ := Q2345
     rw [eh] at A
     refine Wp.stk (st' := [(.int (2 : Int32)), (.long (1 : Int64)), (.ref b2)]) rfl ?_
     refine s_i2l (pc' := 190) (z := (2 : Int64)) A at_189 rfl (by decide) ?_
     refine s_ladd (pc' := 191) (z := (3 : Int64)) A at_190 rfl (by decide) ?_
     refine s_virtual (pc' := 194) (y := y6_remove) (argsL := [(.long (3 : Int64))]) (rest := []) (z := y6_remove) A E1312 (bo_remove36 l Z a0 hw n0 h1309 A.size b2 r11 (na + (1 : Int32)) (nb + (1 : Int32)) (nc + (1 : Int32)) ⟨E1312, F1313, F1314, F1315, V1316, ne1317, ge1318, ge1319⟩ zna znb znc) (w32 hw) (w33 hw) (nf_same (C := "") (w35 hw)) (w35 hw) (w34 hw) (w3 hw) (w36 hw) (by decide) pd__J_V rfl (W := 0) (by decide) (by decide) (Nat.le_of_eq rfl) (by decide) (by decide) rfl rfl at_191 rfl fun T h2348 v2349 A Q2350 => ?_
     obtain ⟨rfl, K2346, H2347⟩ := Q2350
     obtain ⟨E2351, F2352, F2353, F2354, V2355, ne2356, ge2357, ge2358⟩ := H2347
     refine Wp.stk (st' := []) rfl ?_
     refine s_iload (pc' := 196) A at_194 rfl rfl ?_
     refine s_iconst (pc' := 197) (z := (1 : Int32)) A at_196 rfl (by decide) ?_
     refine s_icmpN (pc' := 200) A at_197 rfl (by decide) ?_
     refine s_aload (pc' := 202) A at_200 rfl rfl rfl ?_
     refine s_lload (pc' := 204) A at_202 rfl rfl ?_
     refine s_iload (pc' := 206) A at_204 rfl rfl ?_
     refine s_iconst (pc' := 207) (z := (1 : Int32)) A at_206 rfl (by decide) ?_
     refine s_static (pc' := 210) (y := y0_idx) (argsL := [(.int (4 : Int32)), (.int (1 : Int32))]) (rest := [(.long (1 : Int64)), (.ref b2)]) A (idx l Z a0 hw n0 h2348 A.size (4 : Int32) (1 : Int32) (0 : Int32) (by decide)) (w28 hw) (w29 hw) (w30 hw) (w31 hw) (by decide) pd__II_I rfl (W := 3) (by decide) (by decide) (Nat.le_of_eq rfl) (by decide) (by decide) rfl rfl at_207 rfl fun T h2359 v2360 A Q2361 => ?_
     obtain ⟨rfl, eh⟩ := Q2361
     rw [eh] at A
     refine Wp.stk (st' := [(.int (0 : Int32)), (.long (1 : Int64)), (.ref b2)]) rfl ?_
     refine s_i2l (pc' := 211) (z := (0 : Int64)) A at_210 rfl (by decide) ?_
     refine s_ladd (pc' := 212) (z := (1 : Int64)) A at_211 rfl (by decide) ?_
     refine s_virtual (pc' := 215) (y := y6_remove) (argsL := [(.long (1 : Int64))]) (rest := []) (z := y6_remove) A E2351 (bo_remove43 l Z a0 hw n0 h2348 A.size b2 r11 (na + (1 : Int32)) (nb + (1 : Int32)) ⟨E2351, F2352, F2353, F2354, V2355, ne2356, ge2357, ge2358⟩ zna znb) (w32 hw) (w33 hw) (nf_same (C := "") (w35 hw)) (w35 hw) (w34 hw) (w3 hw) (w36 hw) (by decide) pd__J_V rfl (W := 0) (by decide) (by decide) (Nat.le_of_eq rfl) (by decide) (by decide) rfl rfl at_212 rfl fun T h2364 v2365 A Q2366 => ?_
     obtain ⟨rfl, K2362, H2363⟩ := Q2366
     obtain ⟨E2367, F2368, F2369, F2370, V2371, ne2372, ge2373, ge2374⟩ := H2363
     refine Wp.stk (st' := []) rfl ?_
     refine s_iload (pc' := 217) A at_215 rfl rfl ?_
     refine s_iconst (pc' := 218) (z := (2 : Int32)) A at_217 rfl (by decide) ?_
     refine s_icmpN (pc' := 221) A at_218 rfl (by decide) ?_
     refine s_aload (pc' := 223) A at_221 rfl rfl rfl ?_
     refine s_lload (pc' := 225) A at_223 rfl rfl ?_
     refine s_iload (pc' := 227) A at_225 rfl rfl ?_
     refine s_iconst (pc' := 228) (z := (2 : Int32)) A at_227 rfl (by decide) ?_
     refine s_static (pc' := 231) (y := y0_idx) (argsL := [(.int (4 : Int32)), (.int (2 : Int32))]) (rest := [(.long (1 : Int64)), (.ref b2)]) A (idx l Z a0 hw n0 h2364 A.size (4 : Int32) (2 : Int32) (1 : Int32) (by decide)) (w28 hw) (w29 hw) (w30 hw) (w31 hw) (by decide) pd__II_I rfl (W := 3) (by decide) (by decide) (Nat.le_of_eq rfl) (by decide) (by decide) rfl rfl at_228 rfl fun T h2375 v2376 A Q2377 => ?_
     obtain ⟨rfl, eh⟩ := Q2377
     rw [eh] at A
     refine Wp.stk (st' := [(.int (1 : Int32)), (.long (1 : Int64)), (.ref b2)]) rfl ?_
     refine s_i2l (pc' := 232) (z := (1 : Int64)) A at_231 rfl (by decide) ?_
     refine s_ladd (pc' := 233) (z := (2 : Int64)) A at_232 rfl (by decide) ?_
     refine s_virtual (pc' := 236) (y := y6_remove) (argsL := [(.long (2 : Int64))]) (rest := []) (z := y6_remove) A E2367 (bo_remove47 l Z a0 hw n0 h2364 A.size b2 r11 (nb + (1 : Int32)) ⟨E2367, F2368, F2369, F2370, V2371, ne2372, ge2373, ge2374⟩ znb) (w32 hw) (w33 hw) (nf_same (C := "") (w35 hw)) (w35 hw) (w34 hw) (w3 hw) (w36 hw) (by decide) pd__J_V rfl (W := 0) (by decide) (by decide) (Nat.le_of_eq rfl) (by decide) (by decide) rfl rfl at_233 rfl fun T h2380 v2381 A Q2382 => ?_
     obtain ⟨rfl, K2378, H2379⟩ := Q2382
     obtain ⟨E2383, F2384, F2385, F2386, V2387, ne2388, ge2389, ge2390⟩ := H2379
     refine Wp.stk (st' := []) rfl ?_
     refine s_iload (pc' := 238) A at_236 rfl rfl ?_
     refine s_iload (pc' := 240) A at_238 rfl rfl ?_
     refine s_iconst (pc' := 241) (z := (0 : Int32)) A at_240 rfl (by decide) ?_
     refine s_static (pc' := 244) (y := y1_removed) (argsL := [(.int (4 : Int32)), (.int (3 : Int32)), (.int (0 : Int32))]) (rest := []) A (rmd l Z a0 hw n0 h2380 A.size (4 : Int32) (3 : Int32) (0 : Int32) (1 : Int32) (by decide)) (w37 hw) (w38 hw) (w30 hw) (w39 hw) (by decide) pd__III_Z rfl (W := 0) (by decide) (by decide) (Nat.le_of_eq rfl) (by decide) (by decide) rfl rfl at_241 rfl fun T h2391 v2392 A Q2393 => ?_
     obtain ⟨rfl, eh⟩ := Q2393
     rw [eh] at A
     refine Wp.stk (st' := [(.int (1 : Int32))]) rfl ?_
     refine s_istore (pc' := 246) (Ls' := #[iv q0, iv q1, iv q2, iv q3, iv q4, iv q5, iv na, iv nb, iv nc, iv nx, iv 3, iv 1, iv 4, rv b2, iv 1, jv 1, S2, jv 1, S2, jv 2, S2, jv 3, S2, iv 1, U0, U0, U0, U0]) A at_244 rfl rfl ?_
     refine s_iload (pc' := 248) A at_246 rfl rfl ?_
     refine s_iload (pc' := 250) A at_248 rfl rfl ?_
     refine s_iconst (pc' := 251) (z := (1 : Int32)) A at_250 rfl (by decide) ?_
     refine s_static (pc' := 254) (y := y1_removed) (argsL := [(.int (4 : Int32)), (.int (3 : Int32)), (.int (1 : Int32))]) (rest := []) A (rmd l Z a0 hw n0 h2380 A.size (4 : Int32) (3 : Int32) (1 : Int32) (1 : Int32) (by decide)) (w37 hw) (w38 hw) (w30 hw) (w39 hw) (by decide) pd__III_Z rfl (W := 0) (by decide) (by decide) (Nat.le_of_eq rfl) (by decide) (by decide) rfl rfl at_251 rfl fun T h2394 v2395 A Q2396 => ?_
     obtain ⟨rfl, eh⟩ := Q2396
     rw [eh] at A
     refine Wp.stk (st' := [(.int (1 : Int32))]) rfl ?_
     refine s_istore (pc' := 256) (Ls' := #[iv q0, iv q1, iv q2, iv q3, iv q4, iv q5, iv na, iv nb, iv nc, iv nx, iv 3, iv 1, iv 4, rv b2, iv 1, jv 1, S2, jv 1, S2, jv 2, S2, jv 3, S2, iv 1, iv 1, U0, U0, U0]) A at_254 rfl rfl ?_
     refine s_iload (pc' := 258) A at_256 rfl rfl ?_
     refine s_iload (pc' := 260) A at_258 rfl rfl ?_
     refine s_iconst (pc' := 261) (z := (2 : Int32)) A at_260 rfl (by decide) ?_
     refine s_static (pc' := 264) (y := y1_removed) (argsL := [(.int (4 : Int32)), (.int (3 : Int32)), (.int (2 : Int32))]) (rest := []) A (rmd l Z a0 hw n0 h2380 A.size (4 : Int32) (3 : Int32) (2 : Int32) (1 : Int32) (by decide)) (w37 hw) (w38 hw) (w30 hw) (w39 hw) (by decide) pd__III_Z rfl (W := 0) (by decide) (by decide) (Nat.le_of_eq rfl) (by decide) (by decide) rfl rfl at_261 rfl fun T h2397 v2398 A Q2399 => ?_
     obtain ⟨rfl, eh⟩ := Q2399
     rw [eh] at A
     refine Wp.stk (st' := [(.int (1 : Int32))]) rfl ?_
     refine s_istore (pc' := 266) (Ls' := #[iv q0, iv q1, iv q2, iv q3, iv q4, iv q5, iv na, iv nb, iv nc, iv nx, iv 3, iv 1, iv 4, rv b2, iv 1, jv 1, S2, jv 1, S2, jv 2, S2, jv 3, S2, iv 1, iv 1, iv 1, U0, U0]) A at_264 rfl rfl ?_
     refine s_aload (pc' := 268) A at_266 rfl rfl rfl ?_
     refine s_virtual (pc' := 271) (y := y3_isEmpty) (argsL := []) (rest := []) (z := y3_isEmpty) A E2383 (bo_isEmpty46 l Z a0 hw n0 h2380 A.size b2 r11 [.int (0 : Int32), .int (0 : Int32), .int (0 : Int32), .int (0 : Int32)] ⟨E2383, F2384, F2385, F2386, V2387, ne2388, ge2389, ge2390⟩) (w13 hw) (w14 hw) (nf_same (C := "") (w16 hw)) (w16 hw) (w15 hw) (w3 hw) (w17 hw) (by decide) pd___Z rfl (W := 0) (by decide) (by decide) (Nat.le_of_eq rfl) (by decide) (by decide) rfl rfl at_268 rfl fun T h2402 v2403 A Q2404 => ?_
     obtain ⟨rfl, K2400, H2401⟩ := Q2404
     obtain ⟨E2405, F2406, F2407, F2408, V2409, ne2410, ge2411, ge2412⟩ := H2401
     refine Wp.stk (st' := [(.int (1 : Int32))]) rfl ?_
     refine s_istore (pc' := 273) (Ls' := #[iv q0, iv q1, iv q2, iv q3, iv q4, iv q5, iv na, iv nb, iv nc, iv nx, iv 3, iv 1, iv 4, rv b2, iv 1, jv 1, S2, jv 1, S2, jv 2, S2, jv 3, S2, iv 1, iv 1, iv 1, iv 1, U0]) A at_271 rfl rfl ?_
     refine s_iload (pc' := 275) A at_273 rfl rfl ?_
     refine s_ifN (pc' := 278) A at_275 rfl (by decide) ?_
     refine s_iload (pc' := 280) A at_278 rfl rfl ?_
     refine s_ifN (pc' := 283) A at_280 rfl (by decide) ?_
     refine s_iload (pc' := 285) A at_283 rfl rfl ?_
     refine s_ifN (pc' := 288) A at_285 rfl (by decide) ?_
     refine s_iload (pc' := 290) A at_288 rfl rfl ?_
     refine s_ifN (pc' := 293) A at_290 rfl (by decide) ?_
     refine s_iload (pc' := 295) A at_293 rfl rfl ?_
     refine s_ifN (pc' := 298) A at_295 rfl (by decide) ?_
     refine s_iconst (pc' := 299) (z := (1 : Int32)) A at_298 rfl (by decide) ?_
     refine s_goto (pc' := 303) A at_299 (by decide) (by decide) ?_
     exact r_bool A rfl (by decide) at_303 (by decide) (by decide) (rfl)
    ·
     refine s_iload (pc' := 176) A at_174 rfl rfl ?_
     refine s_ifN (pc' := 179) A at_176 rfl (by decide) ?_
     refine s_aload (pc' := 181) A at_179 rfl rfl rfl ?_
     refine s_lload (pc' := 183) A at_181 rfl rfl ?_
     refine s_iload (pc' := 185) A at_183 rfl rfl ?_
     refine s_iconst (pc' := 186) (z := (0 : Int32)) A at_185 rfl (by decide) ?_
     refine s_static (pc' := 189) (y := y0_idx) (argsL := [(.int (5 : Int32)), (.int (0 : Int32))]) (rest := [(.long (1 : Int64)), (.ref b2)]) A (idx l Z a0 hw n0 h1309 A.size (5 : Int32) (0 : Int32) (2 : Int32) (by decide)) (w28 hw) (w29 hw) (w30 hw) (w31 hw) (by decide) pd__II_I rfl (W := 3) (by decide) (by decide) (Nat.le_of_eq rfl) (by decide) (by decide) rfl rfl at_186 rfl fun T h2413 v2414 A Q2415 => ?_
     obtain ⟨rfl, eh⟩ := Q2415
     rw [eh] at A
     refine Wp.stk (st' := [(.int (2 : Int32)), (.long (1 : Int64)), (.ref b2)]) rfl ?_
     refine s_i2l (pc' := 190) (z := (2 : Int64)) A at_189 rfl (by decide) ?_
     refine s_ladd (pc' := 191) (z := (3 : Int64)) A at_190 rfl (by decide) ?_
     refine s_virtual (pc' := 194) (y := y6_remove) (argsL := [(.long (3 : Int64))]) (rest := []) (z := y6_remove) A E1312 (bo_remove36 l Z a0 hw n0 h1309 A.size b2 r11 (na + (1 : Int32)) (nb + (1 : Int32)) (nc + (1 : Int32)) ⟨E1312, F1313, F1314, F1315, V1316, ne1317, ge1318, ge1319⟩ zna znb znc) (w32 hw) (w33 hw) (nf_same (C := "") (w35 hw)) (w35 hw) (w34 hw) (w3 hw) (w36 hw) (by decide) pd__J_V rfl (W := 0) (by decide) (by decide) (Nat.le_of_eq rfl) (by decide) (by decide) rfl rfl at_191 rfl fun T h2418 v2419 A Q2420 => ?_
     obtain ⟨rfl, K2416, H2417⟩ := Q2420
     obtain ⟨E2421, F2422, F2423, F2424, V2425, ne2426, ge2427, ge2428⟩ := H2417
     refine Wp.stk (st' := []) rfl ?_
     refine s_iload (pc' := 196) A at_194 rfl rfl ?_
     refine s_iconst (pc' := 197) (z := (1 : Int32)) A at_196 rfl (by decide) ?_
     refine s_icmpN (pc' := 200) A at_197 rfl (by decide) ?_
     refine s_aload (pc' := 202) A at_200 rfl rfl rfl ?_
     refine s_lload (pc' := 204) A at_202 rfl rfl ?_
     refine s_iload (pc' := 206) A at_204 rfl rfl ?_
     refine s_iconst (pc' := 207) (z := (1 : Int32)) A at_206 rfl (by decide) ?_
     refine s_static (pc' := 210) (y := y0_idx) (argsL := [(.int (5 : Int32)), (.int (1 : Int32))]) (rest := [(.long (1 : Int64)), (.ref b2)]) A (idx l Z a0 hw n0 h2418 A.size (5 : Int32) (1 : Int32) (1 : Int32) (by decide)) (w28 hw) (w29 hw) (w30 hw) (w31 hw) (by decide) pd__II_I rfl (W := 3) (by decide) (by decide) (Nat.le_of_eq rfl) (by decide) (by decide) rfl rfl at_207 rfl fun T h2429 v2430 A Q2431 => ?_
     obtain ⟨rfl, eh⟩ := Q2431
     rw [eh] at A
     refine Wp.stk (st' := [(.int (1 : Int32)), (.long (1 : Int64)), (.ref b2)]) rfl ?_
     refine s_i2l (pc' := 211) (z := (1 : Int64)) A at_210 rfl (by decide) ?_
     refine s_ladd (pc' := 212) (z := (2 : Int64)) A at_211 rfl (by decide) ?_
     refine s_virtual (pc' := 215) (y := y6_remove) (argsL := [(.long (2 : Int64))]) (rest := []) (z := y6_remove) A E2421 (bo_remove44 l Z a0 hw n0 h2418 A.size b2 r11 (na + (1 : Int32)) (nb + (1 : Int32)) ⟨E2421, F2422, F2423, F2424, V2425, ne2426, ge2427, ge2428⟩ zna znb) (w32 hw) (w33 hw) (nf_same (C := "") (w35 hw)) (w35 hw) (w34 hw) (w3 hw) (w36 hw) (by decide) pd__J_V rfl (W := 0) (by decide) (by decide) (Nat.le_of_eq rfl) (by decide) (by decide) rfl rfl at_212 rfl fun T h2434 v2435 A Q2436 => ?_
     obtain ⟨rfl, K2432, H2433⟩ := Q2436
     obtain ⟨E2437, F2438, F2439, F2440, V2441, ne2442, ge2443, ge2444⟩ := H2433
     refine Wp.stk (st' := []) rfl ?_
     refine s_iload (pc' := 217) A at_215 rfl rfl ?_
     refine s_iconst (pc' := 218) (z := (2 : Int32)) A at_217 rfl (by decide) ?_
     refine s_icmpN (pc' := 221) A at_218 rfl (by decide) ?_
     refine s_aload (pc' := 223) A at_221 rfl rfl rfl ?_
     refine s_lload (pc' := 225) A at_223 rfl rfl ?_
     refine s_iload (pc' := 227) A at_225 rfl rfl ?_
     refine s_iconst (pc' := 228) (z := (2 : Int32)) A at_227 rfl (by decide) ?_
     refine s_static (pc' := 231) (y := y0_idx) (argsL := [(.int (5 : Int32)), (.int (2 : Int32))]) (rest := [(.long (1 : Int64)), (.ref b2)]) A (idx l Z a0 hw n0 h2434 A.size (5 : Int32) (2 : Int32) (0 : Int32) (by decide)) (w28 hw) (w29 hw) (w30 hw) (w31 hw) (by decide) pd__II_I rfl (W := 3) (by decide) (by decide) (Nat.le_of_eq rfl) (by decide) (by decide) rfl rfl at_228 rfl fun T h2445 v2446 A Q2447 => ?_
     obtain ⟨rfl, eh⟩ := Q2447
     rw [eh] at A
     refine Wp.stk (st' := [(.int (0 : Int32)), (.long (1 : Int64)), (.ref b2)]) rfl ?_
     refine s_i2l (pc' := 232) (z := (0 : Int64)) A at_231 rfl (by decide) ?_
     refine s_ladd (pc' := 233) (z := (1 : Int64)) A at_232 rfl (by decide) ?_
     refine s_virtual (pc' := 236) (y := y6_remove) (argsL := [(.long (1 : Int64))]) (rest := []) (z := y6_remove) A E2437 (bo_remove48 l Z a0 hw n0 h2434 A.size b2 r11 (na + (1 : Int32)) ⟨E2437, F2438, F2439, F2440, V2441, ne2442, ge2443, ge2444⟩ zna) (w32 hw) (w33 hw) (nf_same (C := "") (w35 hw)) (w35 hw) (w34 hw) (w3 hw) (w36 hw) (by decide) pd__J_V rfl (W := 0) (by decide) (by decide) (Nat.le_of_eq rfl) (by decide) (by decide) rfl rfl at_233 rfl fun T h2450 v2451 A Q2452 => ?_
     obtain ⟨rfl, K2448, H2449⟩ := Q2452
     obtain ⟨E2453, F2454, F2455, F2456, V2457, ne2458, ge2459, ge2460⟩ := H2449
     refine Wp.stk (st' := []) rfl ?_
     refine s_iload (pc' := 238) A at_236 rfl rfl ?_
     refine s_iload (pc' := 240) A at_238 rfl rfl ?_
     refine s_iconst (pc' := 241) (z := (0 : Int32)) A at_240 rfl (by decide) ?_
     refine s_static (pc' := 244) (y := y1_removed) (argsL := [(.int (5 : Int32)), (.int (3 : Int32)), (.int (0 : Int32))]) (rest := []) A (rmd l Z a0 hw n0 h2450 A.size (5 : Int32) (3 : Int32) (0 : Int32) (1 : Int32) (by decide)) (w37 hw) (w38 hw) (w30 hw) (w39 hw) (by decide) pd__III_Z rfl (W := 0) (by decide) (by decide) (Nat.le_of_eq rfl) (by decide) (by decide) rfl rfl at_241 rfl fun T h2461 v2462 A Q2463 => ?_
     obtain ⟨rfl, eh⟩ := Q2463
     rw [eh] at A
     refine Wp.stk (st' := [(.int (1 : Int32))]) rfl ?_
     refine s_istore (pc' := 246) (Ls' := #[iv q0, iv q1, iv q2, iv q3, iv q4, iv q5, iv na, iv nb, iv nc, iv nx, iv 3, iv 1, iv 5, rv b2, iv 1, jv 1, S2, jv 1, S2, jv 2, S2, jv 3, S2, iv 1, U0, U0, U0, U0]) A at_244 rfl rfl ?_
     refine s_iload (pc' := 248) A at_246 rfl rfl ?_
     refine s_iload (pc' := 250) A at_248 rfl rfl ?_
     refine s_iconst (pc' := 251) (z := (1 : Int32)) A at_250 rfl (by decide) ?_
     refine s_static (pc' := 254) (y := y1_removed) (argsL := [(.int (5 : Int32)), (.int (3 : Int32)), (.int (1 : Int32))]) (rest := []) A (rmd l Z a0 hw n0 h2450 A.size (5 : Int32) (3 : Int32) (1 : Int32) (1 : Int32) (by decide)) (w37 hw) (w38 hw) (w30 hw) (w39 hw) (by decide) pd__III_Z rfl (W := 0) (by decide) (by decide) (Nat.le_of_eq rfl) (by decide) (by decide) rfl rfl at_251 rfl fun T h2464 v2465 A Q2466 => ?_
     obtain ⟨rfl, eh⟩ := Q2466
     rw [eh] at A
     refine Wp.stk (st' := [(.int (1 : Int32))]) rfl ?_
     refine s_istore (pc' := 256) (Ls' := #[iv q0, iv q1, iv q2, iv q3, iv q4, iv q5, iv na, iv nb, iv nc, iv nx, iv 3, iv 1, iv 5, rv b2, iv 1, jv 1, S2, jv 1, S2, jv 2, S2, jv 3, S2, iv 1, iv 1, U0, U0, U0]) A at_254 rfl rfl ?_
     refine s_iload (pc' := 258) A at_256 rfl rfl ?_
     refine s_iload (pc' := 260) A at_258 rfl rfl ?_
     refine s_iconst (pc' := 261) (z := (2 : Int32)) A at_260 rfl (by decide) ?_
     refine s_static (pc' := 264) (y := y1_removed) (argsL := [(.int (5 : Int32)), (.int (3 : Int32)), (.int (2 : Int32))]) (rest := []) A (rmd l Z a0 hw n0 h2450 A.size (5 : Int32) (3 : Int32) (2 : Int32) (1 : Int32) (by decide)) (w37 hw) (w38 hw) (w30 hw) (w39 hw) (by decide) pd__III_Z rfl (W := 0) (by decide) (by decide) (Nat.le_of_eq rfl) (by decide) (by decide) rfl rfl at_261 rfl fun T h2467 v2468 A Q2469 => ?_
     obtain ⟨rfl, eh⟩ := Q2469
     rw [eh] at A
     refine Wp.stk (st' := [(.int (1 : Int32))]) rfl ?_
     refine s_istore (pc' := 266) (Ls' := #[iv q0, iv q1, iv q2, iv q3, iv q4, iv q5, iv na, iv nb, iv nc, iv nx, iv 3, iv 1, iv 5, rv b2, iv 1, jv 1, S2, jv 1, S2, jv 2, S2, jv 3, S2, iv 1, iv 1, iv 1, U0, U0]) A at_264 rfl rfl ?_
     refine s_aload (pc' := 268) A at_266 rfl rfl rfl ?_
     refine s_virtual (pc' := 271) (y := y3_isEmpty) (argsL := []) (rest := []) (z := y3_isEmpty) A E2453 (bo_isEmpty46 l Z a0 hw n0 h2450 A.size b2 r11 [.int (0 : Int32), .int (0 : Int32), .int (0 : Int32), .int (0 : Int32)] ⟨E2453, F2454, F2455, F2456, V2457, ne2458, ge2459, ge2460⟩) (w13 hw) (w14 hw) (nf_same (C := "") (w16 hw)) (w16 hw) (w15 hw) (w3 hw) (w17 hw) (by decide) pd___Z rfl (W := 0) (by decide) (by decide) (Nat.le_of_eq rfl) (by decide) (by decide) rfl rfl at_268 rfl fun T h2472 v2473 A Q2474 => ?_
     obtain ⟨rfl, K2470, H2471⟩ := Q2474
     obtain ⟨E2475, F2476, F2477, F2478, V2479, ne2480, ge2481, ge2482⟩ := H2471
     refine Wp.stk (st' := [(.int (1 : Int32))]) rfl ?_
     refine s_istore (pc' := 273) (Ls' := #[iv q0, iv q1, iv q2, iv q3, iv q4, iv q5, iv na, iv nb, iv nc, iv nx, iv 3, iv 1, iv 5, rv b2, iv 1, jv 1, S2, jv 1, S2, jv 2, S2, jv 3, S2, iv 1, iv 1, iv 1, iv 1, U0]) A at_271 rfl rfl ?_
     refine s_iload (pc' := 275) A at_273 rfl rfl ?_
     refine s_ifN (pc' := 278) A at_275 rfl (by decide) ?_
     refine s_iload (pc' := 280) A at_278 rfl rfl ?_
     refine s_ifN (pc' := 283) A at_280 rfl (by decide) ?_
     refine s_iload (pc' := 285) A at_283 rfl rfl ?_
     refine s_ifN (pc' := 288) A at_285 rfl (by decide) ?_
     refine s_iload (pc' := 290) A at_288 rfl rfl ?_
     refine s_ifN (pc' := 293) A at_290 rfl (by decide) ?_
     refine s_iload (pc' := 295) A at_293 rfl rfl ?_
     refine s_ifN (pc' := 298) A at_295 rfl (by decide) ?_
     refine s_iconst (pc' := 299) (z := (1 : Int32)) A at_298 rfl (by decide) ?_
     refine s_goto (pc' := 303) A at_299 (by decide) (by decide) ?_
     exact r_bool A rfl (by decide) at_303 (by decide) (by decide) (rfl)
  ·
   refine s_iload (pc' := 55) A at_53 rfl rfl ?_
   refine s_iconst (pc' := 56) (z := (1 : Int32)) A at_55 rfl (by decide) ?_
   refine s_icmpN (pc' := 59) A at_56 rfl (by decide) ?_
   refine s_aload (pc' := 61) A at_59 rfl rfl rfl ?_
   refine s_iload (pc' := 63) A at_61 rfl rfl ?_
   refine s_virtual (pc' := 66) (y := y4_add) (argsL := [(.int nx)]) (rest := []) (z := y4_add) A E19 (bo_add3 l Z a0 hw n0 h15 A.size b2 r11 (0 : Int32) (0 : Int32) (0 : Int32) (0 : Int32) nx ⟨E19, F20, F21, F22, V23, ne24, ge25, ge26⟩) (w22 hw) (w23 hw) (nf_same (C := "") (w25 hw)) (w25 hw) (w24 hw) (w3 hw) (w26 hw) (by decide) pd__I_J rfl (W := 0) (by decide) (by decide) (Nat.le_of_eq rfl) (by decide) (by decide) rfl rfl at_63 rfl fun T h2485 v2486 A Q2487 => ?_
   obtain ⟨rfl, K2483, H2484⟩ := Q2487
   obtain ⟨E2488, F2489, F2490, F2491, V2492, ne2493, ge2494, ge2495⟩ := H2484
   refine Wp.stk (st' := [(.long (0 : Int64))]) rfl ?_
   refine s_pop2L (pc' := 67) A at_66 rfl ?_
   refine s_aload (pc' := 69) A at_67 rfl rfl rfl ?_
   refine s_lconst (pc' := 70) (z := (0 : Int64)) A at_69 rfl (by decide) ?_
   refine s_virtual (pc' := 73) (y := y6_remove) (argsL := [(.long (0 : Int64))]) (rest := []) (z := y6_remove) A E2488 (bo_remove25 l Z a0 hw n0 h2485 A.size b2 r11 (nx + (1 : Int32)) ⟨E2488, F2489, F2490, F2491, V2492, ne2493, ge2494, ge2495⟩ znx) (w32 hw) (w33 hw) (nf_same (C := "") (w35 hw)) (w35 hw) (w34 hw) (w3 hw) (w36 hw) (by decide) pd__J_V rfl (W := 0) (by decide) (by decide) (Nat.le_of_eq rfl) (by decide) (by decide) rfl rfl at_70 rfl fun T h2498 v2499 A Q2500 => ?_
   obtain ⟨rfl, K2496, H2497⟩ := Q2500
   obtain ⟨E2501, F2502, F2503, F2504, V2505, ne2506, ge2507, ge2508⟩ := H2497
   refine Wp.stk (st' := []) rfl ?_
   refine s_iload (pc' := 75) A at_73 rfl rfl ?_
   refine s_iconst (pc' := 76) (z := (2 : Int32)) A at_75 rfl (by decide) ?_
   refine s_icmpN (pc' := 79) A at_76 rfl (by decide) ?_
   refine s_aload (pc' := 81) A at_79 rfl rfl rfl ?_
   refine s_iload (pc' := 83) A at_81 rfl rfl ?_
   refine s_virtual (pc' := 86) (y := y4_add) (argsL := [(.int nx)]) (rest := []) (z := y4_add) A E2501 (bo_add27 l Z a0 hw n0 h2498 A.size b2 r11 (0 : Int32) (0 : Int32) (0 : Int32) (0 : Int32) nx ⟨E2501, F2502, F2503, F2504, V2505, ne2506, ge2507, ge2508⟩) (w22 hw) (w23 hw) (nf_same (C := "") (w25 hw)) (w25 hw) (w24 hw) (w3 hw) (w26 hw) (by decide) pd__I_J rfl (W := 0) (by decide) (by decide) (Nat.le_of_eq rfl) (by decide) (by decide) rfl rfl at_83 rfl fun T h2511 v2512 A Q2513 => ?_
   obtain ⟨rfl, K2509, H2510⟩ := Q2513
   obtain ⟨E2514, F2515, F2516, F2517, V2518, ne2519, ge2520, ge2521⟩ := H2510
   refine Wp.stk (st' := [(.long (1 : Int64))]) rfl ?_
   refine s_pop2L (pc' := 87) A at_86 rfl ?_
   refine s_aload (pc' := 89) A at_87 rfl rfl rfl ?_
   refine s_lconst (pc' := 90) (z := (1 : Int64)) A at_89 rfl (by decide) ?_
   refine s_virtual (pc' := 93) (y := y6_remove) (argsL := [(.long (1 : Int64))]) (rest := []) (z := y6_remove) A E2514 (bo_remove49 l Z a0 hw n0 h2511 A.size b2 r11 (nx + (1 : Int32)) ⟨E2514, F2515, F2516, F2517, V2518, ne2519, ge2520, ge2521⟩ znx) (w32 hw) (w33 hw) (nf_same (C := "") (w35 hw)) (w35 hw) (w34 hw) (w3 hw) (w36 hw) (by decide) pd__J_V rfl (W := 0) (by decide) (by decide) (Nat.le_of_eq rfl) (by decide) (by decide) rfl rfl at_90 rfl fun T h2524 v2525 A Q2526 => ?_
   obtain ⟨rfl, K2522, H2523⟩ := Q2526
   obtain ⟨E2527, F2528, F2529, F2530, V2531, ne2532, ge2533, ge2534⟩ := H2523
   refine Wp.stk (st' := []) rfl ?_
   refine s_aload (pc' := 95) A at_93 rfl rfl rfl ?_
   refine s_virtual (pc' := 98) (y := y3_isEmpty) (argsL := []) (rest := []) (z := y3_isEmpty) A E2527 (bo_isEmpty50 l Z a0 hw n0 h2524 A.size b2 r11 [.int (0 : Int32), .int (0 : Int32), .int (0 : Int32), .int (0 : Int32)] ⟨E2527, F2528, F2529, F2530, V2531, ne2532, ge2533, ge2534⟩) (w13 hw) (w14 hw) (nf_same (C := "") (w16 hw)) (w16 hw) (w15 hw) (w3 hw) (w17 hw) (by decide) pd___Z rfl (W := 0) (by decide) (by decide) (Nat.le_of_eq rfl) (by decide) (by decide) rfl rfl at_95 rfl fun T h2537 v2538 A Q2539 => ?_
   obtain ⟨rfl, K2535, H2536⟩ := Q2539
   obtain ⟨E2540, F2541, F2542, F2543, V2544, ne2545, ge2546, ge2547⟩ := H2536
   refine Wp.stk (st' := [(.int (1 : Int32))]) rfl ?_
   refine s_istore (pc' := 100) (Ls' := #[iv q0, iv q1, iv q2, iv q3, iv q4, iv q5, iv na, iv nb, iv nc, iv nx, iv kk, iv 2, iv pp, rv b2, iv 1, U0, U0, U0, U0, U0, U0, U0, U0, U0, U0, U0, U0, U0]) A at_98 rfl rfl ?_
   refine s_iload (pc' := 102) A at_100 rfl rfl ?_
   refine s_i2l (pc' := 103) (z := (2 : Int64)) A at_102 rfl (by decide) ?_
   refine s_lstore (pc' := 105) (Ls' := #[iv q0, iv q1, iv q2, iv q3, iv q4, iv q5, iv na, iv nb, iv nc, iv nx, iv kk, iv 2, iv pp, rv b2, iv 1, jv 2, S2, U0, U0, U0, U0, U0, U0, U0, U0, U0, U0, U0]) A at_103 rfl rfl ?_
   refine s_aload (pc' := 107) A at_105 rfl rfl rfl ?_
   refine s_iload (pc' := 109) A at_107 rfl rfl ?_
   refine s_virtual (pc' := 112) (y := y4_add) (argsL := [(.int na)]) (rest := []) (z := y4_add) A E2540 (bo_add51 l Z a0 hw n0 h2537 A.size b2 r11 (0 : Int32) (0 : Int32) (0 : Int32) (0 : Int32) na ⟨E2540, F2541, F2542, F2543, V2544, ne2545, ge2546, ge2547⟩) (w22 hw) (w23 hw) (nf_same (C := "") (w25 hw)) (w25 hw) (w24 hw) (w3 hw) (w26 hw) (by decide) pd__I_J rfl (W := 0) (by decide) (by decide) (Nat.le_of_eq rfl) (by decide) (by decide) rfl rfl at_109 rfl fun T h2550 v2551 A Q2552 => ?_
   obtain ⟨rfl, K2548, H2549⟩ := Q2552
   obtain ⟨E2553, F2554, F2555, F2556, V2557, ne2558, ge2559, ge2560⟩ := H2549
   refine Wp.stk (st' := [(.long (2 : Int64))]) rfl ?_
   refine s_lstore (pc' := 114) (Ls' := #[iv q0, iv q1, iv q2, iv q3, iv q4, iv q5, iv na, iv nb, iv nc, iv nx, iv kk, iv 2, iv pp, rv b2, iv 1, jv 2, S2, jv 2, S2, U0, U0, U0, U0, U0, U0, U0, U0, U0]) A at_112 rfl rfl ?_
   refine s_aload (pc' := 116) A at_114 rfl rfl rfl ?_
   refine s_iload (pc' := 118) A at_116 rfl rfl ?_
   refine s_virtual (pc' := 121) (y := y4_add) (argsL := [(.int nb)]) (rest := []) (z := y4_add) A E2553 (bo_add52 l Z a0 hw n0 h2550 A.size b2 r11 (0 : Int32) (0 : Int32) (na + (1 : Int32)) (0 : Int32) nb ⟨E2553, F2554, F2555, F2556, V2557, ne2558, ge2559, ge2560⟩) (w22 hw) (w23 hw) (nf_same (C := "") (w25 hw)) (w25 hw) (w24 hw) (w3 hw) (w26 hw) (by decide) pd__I_J rfl (W := 0) (by decide) (by decide) (Nat.le_of_eq rfl) (by decide) (by decide) rfl rfl at_118 rfl fun T h2563 v2564 A Q2565 => ?_
   obtain ⟨rfl, K2561, H2562⟩ := Q2565
   obtain ⟨E2566, F2567, F2568, F2569, V2570, ne2571, ge2572, ge2573⟩ := H2562
   refine Wp.stk (st' := [(.long (3 : Int64))]) rfl ?_
   refine s_lstore (pc' := 123) (Ls' := #[iv q0, iv q1, iv q2, iv q3, iv q4, iv q5, iv na, iv nb, iv nc, iv nx, iv kk, iv 2, iv pp, rv b2, iv 1, jv 2, S2, jv 2, S2, jv 3, S2, U0, U0, U0, U0, U0, U0, U0]) A at_121 rfl rfl ?_
   refine s_aload (pc' := 125) A at_123 rfl rfl rfl ?_
   refine s_iload (pc' := 127) A at_125 rfl rfl ?_
   refine s_virtual (pc' := 130) (y := y4_add) (argsL := [(.int nc)]) (rest := []) (z := y4_add) A E2566 (bo_add53 l Z a0 hw n0 h2563 A.size b2 r11 (0 : Int32) (0 : Int32) (na + (1 : Int32)) (nb + (1 : Int32)) nc ⟨E2566, F2567, F2568, F2569, V2570, ne2571, ge2572, ge2573⟩) (w22 hw) (w23 hw) (nf_same (C := "") (w25 hw)) (w25 hw) (w24 hw) (w3 hw) (w26 hw) (by decide) pd__I_J rfl (W := 0) (by decide) (by decide) (Nat.le_of_eq rfl) (by decide) (by decide) rfl rfl at_127 rfl fun T h2576 v2577 A Q2578 => ?_
   obtain ⟨rfl, K2574, H2575⟩ := Q2578
   obtain ⟨E2579, F2580, F2581, F2582, V2583, ne2584, ge2585, ge2586⟩ := H2575
   refine Wp.stk (st' := [(.long (4 : Int64))]) rfl ?_
   refine s_lstore (pc' := 132) (Ls' := #[iv q0, iv q1, iv q2, iv q3, iv q4, iv q5, iv na, iv nb, iv nc, iv nx, iv kk, iv 2, iv pp, rv b2, iv 1, jv 2, S2, jv 2, S2, jv 3, S2, jv 4, S2, U0, U0, U0, U0, U0]) A at_130 rfl rfl ?_
   refine s_iload (pc' := 134) A at_132 rfl rfl ?_
   refine s_ifN (pc' := 137) A at_134 rfl (by decide) ?_
   refine s_lload (pc' := 139) A at_137 rfl rfl ?_
   refine s_lload (pc' := 141) A at_139 rfl rfl ?_
   refine s_lcmp (pc' := 142) A at_141 rfl ?_
   refine s_ifN (pc' := 145) A at_142 rfl (by decide) ?_
   refine s_lload (pc' := 147) A at_145 rfl rfl ?_
   refine s_lload (pc' := 149) A at_147 rfl rfl ?_
   refine s_lconst (pc' := 150) (z := (1 : Int64)) A at_149 rfl (by decide) ?_
   refine s_ladd (pc' := 151) (z := (3 : Int64)) A at_150 rfl (by decide) ?_
   refine s_lcmp (pc' := 152) A at_151 rfl ?_
   refine s_ifN (pc' := 155) A at_152 rfl (by decide) ?_
   refine s_lload (pc' := 157) A at_155 rfl rfl ?_
   refine s_lload (pc' := 159) A at_157 rfl rfl ?_
   refine s_ldc2Long (pc' := 162) A at_159 rfl (w27 hw) ?_
   refine s_ladd (pc' := 163) (z := (4 : Int64)) A at_162 rfl (by decide) ?_
   refine s_lcmp (pc' := 164) A at_163 rfl ?_
   refine s_ifN (pc' := 167) A at_164 rfl (by decide) ?_
   refine s_iconst (pc' := 168) (z := (1 : Int32)) A at_167 rfl (by decide) ?_
   refine s_goto (pc' := 172) A at_168 (by decide) (by decide) ?_
   refine s_istore (pc' := 174) (Ls' := #[iv q0, iv q1, iv q2, iv q3, iv q4, iv q5, iv na, iv nb, iv nc, iv nx, iv kk, iv 2, iv pp, rv b2, iv 1, jv 2, S2, jv 2, S2, jv 3, S2, jv 4, S2, U0, U0, U0, U0, U0]) A at_172 rfl rfl ?_
   rcases ckk with rfl | rfl | rfl | rfl
   ·
    refine s_iload (pc' := 176) A at_174 rfl rfl ?_
    refine s_ifY (pc' := 194) A at_176 (by decide) (by decide) (by decide) ?_
    refine s_iload (pc' := 196) A at_194 rfl rfl ?_
    refine s_iconst (pc' := 197) (z := (1 : Int32)) A at_196 rfl (by decide) ?_
    refine s_icmpY (pc' := 215) A at_197 (by decide) (by decide) (by decide) ?_
    refine s_iload (pc' := 217) A at_215 rfl rfl ?_
    refine s_iconst (pc' := 218) (z := (2 : Int32)) A at_217 rfl (by decide) ?_
    refine s_icmpY (pc' := 236) A at_218 (by decide) (by decide) (by decide) ?_
    refine s_iload (pc' := 238) A at_236 rfl rfl ?_
    refine s_iload (pc' := 240) A at_238 rfl rfl ?_
    refine s_iconst (pc' := 241) (z := (0 : Int32)) A at_240 rfl (by decide) ?_
    refine s_static (pc' := 244) (y := y1_removed) (argsL := [(.int pp), (.int (0 : Int32)), (.int (0 : Int32))]) (rest := []) A (rmd l Z a0 hw n0 h2576 A.size pp (0 : Int32) (0 : Int32) (0 : Int32) (by simp [rmf])) (w37 hw) (w38 hw) (w30 hw) (w39 hw) (by decide) pd__III_Z rfl (W := 0) (by decide) (by decide) (Nat.le_of_eq rfl) (by decide) (by decide) rfl rfl at_241 rfl fun T h2587 v2588 A Q2589 => ?_
    obtain ⟨rfl, eh⟩ := Q2589
    rw [eh] at A
    refine Wp.stk (st' := [(.int (0 : Int32))]) rfl ?_
    refine s_istore (pc' := 246) (Ls' := #[iv q0, iv q1, iv q2, iv q3, iv q4, iv q5, iv na, iv nb, iv nc, iv nx, iv 0, iv 2, iv pp, rv b2, iv 1, jv 2, S2, jv 2, S2, jv 3, S2, jv 4, S2, iv 0, U0, U0, U0, U0]) A at_244 rfl rfl ?_
    refine s_iload (pc' := 248) A at_246 rfl rfl ?_
    refine s_iload (pc' := 250) A at_248 rfl rfl ?_
    refine s_iconst (pc' := 251) (z := (1 : Int32)) A at_250 rfl (by decide) ?_
    refine s_static (pc' := 254) (y := y1_removed) (argsL := [(.int pp), (.int (0 : Int32)), (.int (1 : Int32))]) (rest := []) A (rmd l Z a0 hw n0 h2576 A.size pp (0 : Int32) (1 : Int32) (0 : Int32) (by simp [rmf])) (w37 hw) (w38 hw) (w30 hw) (w39 hw) (by decide) pd__III_Z rfl (W := 0) (by decide) (by decide) (Nat.le_of_eq rfl) (by decide) (by decide) rfl rfl at_251 rfl fun T h2590 v2591 A Q2592 => ?_
    obtain ⟨rfl, eh⟩ := Q2592
    rw [eh] at A
    refine Wp.stk (st' := [(.int (0 : Int32))]) rfl ?_
    refine s_istore (pc' := 256) (Ls' := #[iv q0, iv q1, iv q2, iv q3, iv q4, iv q5, iv na, iv nb, iv nc, iv nx, iv 0, iv 2, iv pp, rv b2, iv 1, jv 2, S2, jv 2, S2, jv 3, S2, jv 4, S2, iv 0, iv 0, U0, U0, U0]) A at_254 rfl rfl ?_
    refine s_iload (pc' := 258) A at_256 rfl rfl ?_
    refine s_iload (pc' := 260) A at_258 rfl rfl ?_
    refine s_iconst (pc' := 261) (z := (2 : Int32)) A at_260 rfl (by decide) ?_
    refine s_static (pc' := 264) (y := y1_removed) (argsL := [(.int pp), (.int (0 : Int32)), (.int (2 : Int32))]) (rest := []) A (rmd l Z a0 hw n0 h2576 A.size pp (0 : Int32) (2 : Int32) (0 : Int32) (by simp [rmf])) (w37 hw) (w38 hw) (w30 hw) (w39 hw) (by decide) pd__III_Z rfl (W := 0) (by decide) (by decide) (Nat.le_of_eq rfl) (by decide) (by decide) rfl rfl at_261 rfl fun T h2593 v2594 A Q2595 => ?_
    obtain ⟨rfl, eh⟩ := Q2595
    rw [eh] at A
    refine Wp.stk (st' := [(.int (0 : Int32))]) rfl ?_
    refine s_istore (pc' := 266) (Ls' := #[iv q0, iv q1, iv q2, iv q3, iv q4, iv q5, iv na, iv nb, iv nc, iv nx, iv 0, iv 2, iv pp, rv b2, iv 1, jv 2, S2, jv 2, S2, jv 3, S2, jv 4, S2, iv 0, iv 0, iv 0, U0, U0]) A at_264 rfl rfl ?_
    refine s_aload (pc' := 268) A at_266 rfl rfl rfl ?_
    refine s_virtual (pc' := 271) (y := y3_isEmpty) (argsL := []) (rest := []) (z := y3_isEmpty) A E2579 (bo_isEmpty54 l Z a0 hw n0 h2576 A.size b2 r11 [.int (nc + (1 : Int32)), .int (0 : Int32), .int (na + (1 : Int32)), .int (nb + (1 : Int32))] ⟨E2579, F2580, F2581, F2582, V2583, ne2584, ge2585, ge2586⟩) (w13 hw) (w14 hw) (nf_same (C := "") (w16 hw)) (w16 hw) (w15 hw) (w3 hw) (w17 hw) (by decide) pd___Z rfl (W := 0) (by decide) (by decide) (Nat.le_of_eq rfl) (by decide) (by decide) rfl rfl at_268 rfl fun T h2598 v2599 A Q2600 => ?_
    obtain ⟨rfl, K2596, H2597⟩ := Q2600
    obtain ⟨E2601, F2602, F2603, F2604, V2605, ne2606, ge2607, ge2608⟩ := H2597
    refine Wp.stk (st' := [(.int (0 : Int32))]) rfl ?_
    refine s_istore (pc' := 273) (Ls' := #[iv q0, iv q1, iv q2, iv q3, iv q4, iv q5, iv na, iv nb, iv nc, iv nx, iv 0, iv 2, iv pp, rv b2, iv 1, jv 2, S2, jv 2, S2, jv 3, S2, jv 4, S2, iv 0, iv 0, iv 0, iv 0, U0]) A at_271 rfl rfl ?_
    refine s_iload (pc' := 275) A at_273 rfl rfl ?_
    refine s_ifY (pc' := 304) A at_275 (by decide) (by decide) (by decide) ?_
    refine s_iload (pc' := 306) A at_304 rfl rfl ?_
    refine s_ifN (pc' := 309) A at_306 rfl (by decide) ?_
    refine s_iload (pc' := 311) A at_309 rfl rfl ?_
    refine s_istore (pc' := 313) (Ls' := #[iv q0, iv q1, iv q2, iv q3, iv q4, iv q5, iv na, iv nb, iv nc, iv nx, iv 0, iv 2, iv pp, rv b2, iv 1, jv 2, S2, jv 2, S2, jv 3, S2, jv 4, S2, iv 0, iv 0, iv 0, iv 0, iv na]) A at_311 rfl rfl ?_
    refine s_goto (pc' := 332) A at_313 (by decide) (by decide) ?_
    refine s_iload (pc' := 334) A at_332 rfl rfl ?_
    refine s_ifN (pc' := 337) A at_334 rfl (by decide) ?_
    refine s_iload (pc' := 339) A at_337 rfl rfl ?_
    refine s_ifN (pc' := 342) A at_339 rfl (by decide) ?_
    refine s_aload (pc' := 344) A at_342 rfl rfl rfl ?_
    refine s_virtual (pc' := 347) (y := y5_first) (argsL := []) (rest := []) (z := y5_first) A E2601 (bo_first55 l Z a0 hw n0 h2598 A.size b2 r11 (nc + (1 : Int32)) (0 : Int32) (na + (1 : Int32)) (nb + (1 : Int32)) ⟨E2601, F2602, F2603, F2604, V2605, ne2606, ge2607, ge2608⟩) (w40 hw) (w41 hw) (nf_same (C := "") (w43 hw)) (w43 hw) (w42 hw) (w3 hw) (w44 hw) (by decide) pd___I rfl (W := 0) (by decide) (by decide) (Nat.le_of_eq rfl) (by decide) (by decide) rfl rfl at_344 rfl fun T h2611 v2612 A Q2613 => ?_
    obtain ⟨rfl, K2609, H2610⟩ := Q2613
    obtain ⟨E2614, F2615, F2616, F2617, V2618, ne2619, ge2620, ge2621⟩ := H2610
    refine Wp.stk (st' := [(.int ((na + (1 : Int32)) - (1 : Int32)))]) rfl ?_
    refine s_iload (pc' := 349) A at_347 rfl rfl ?_
    refine s_icmpN (pc' := 352) A at_349 rfl (teq (show ((na + (1 : Int32)) - (1 : Int32)) = na from (by have _ := rng32 na; have _ : (1 : Int32).toInt = 1 := (by decide); have _ := rng32 (na + (1 : Int32)); have _ := c_iadd na (1 : Int32); have _ := rng32 ((na + (1 : Int32)) - (1 : Int32)); have _ := c_isub (na + (1 : Int32)) (1 : Int32); apply Int32.toInt_inj.mp; omega))).2 ?_
    refine s_iconst (pc' := 353) (z := (1 : Int32)) A at_352 rfl (by decide) ?_
    refine s_goto (pc' := 357) A at_353 (by decide) (by decide) ?_
    exact r_bool A rfl (by decide) at_357 (by decide) (by decide) (rfl)
   ·
    rcases cpp with rfl | rfl | rfl | rfl | rfl | rfl
    ·
     refine s_iload (pc' := 176) A at_174 rfl rfl ?_
     refine s_ifN (pc' := 179) A at_176 rfl (by decide) ?_
     refine s_aload (pc' := 181) A at_179 rfl rfl rfl ?_
     refine s_lload (pc' := 183) A at_181 rfl rfl ?_
     refine s_iload (pc' := 185) A at_183 rfl rfl ?_
     refine s_iconst (pc' := 186) (z := (0 : Int32)) A at_185 rfl (by decide) ?_
     refine s_static (pc' := 189) (y := y0_idx) (argsL := [(.int (0 : Int32)), (.int (0 : Int32))]) (rest := [(.long (2 : Int64)), (.ref b2)]) A (idx l Z a0 hw n0 h2576 A.size (0 : Int32) (0 : Int32) (0 : Int32) (by decide)) (w28 hw) (w29 hw) (w30 hw) (w31 hw) (by decide) pd__II_I rfl (W := 3) (by decide) (by decide) (Nat.le_of_eq rfl) (by decide) (by decide) rfl rfl at_186 rfl fun T h2622 v2623 A Q2624 => ?_
     obtain ⟨rfl, eh⟩ := Q2624
     rw [eh] at A
     refine Wp.stk (st' := [(.int (0 : Int32)), (.long (2 : Int64)), (.ref b2)]) rfl ?_
     refine s_i2l (pc' := 190) (z := (0 : Int64)) A at_189 rfl (by decide) ?_
     refine s_ladd (pc' := 191) (z := (2 : Int64)) A at_190 rfl (by decide) ?_
     refine s_virtual (pc' := 194) (y := y6_remove) (argsL := [(.long (2 : Int64))]) (rest := []) (z := y6_remove) A E2579 (bo_remove56 l Z a0 hw n0 h2576 A.size b2 r11 (nc + (1 : Int32)) (na + (1 : Int32)) (nb + (1 : Int32)) ⟨E2579, F2580, F2581, F2582, V2583, ne2584, ge2585, ge2586⟩ znc zna znb) (w32 hw) (w33 hw) (nf_same (C := "") (w35 hw)) (w35 hw) (w34 hw) (w3 hw) (w36 hw) (by decide) pd__J_V rfl (W := 0) (by decide) (by decide) (Nat.le_of_eq rfl) (by decide) (by decide) rfl rfl at_191 rfl fun T h2627 v2628 A Q2629 => ?_
     obtain ⟨rfl, K2625, H2626⟩ := Q2629
     obtain ⟨E2630, F2631, F2632, F2633, V2634, ne2635, ge2636, ge2637⟩ := H2626
     refine Wp.stk (st' := []) rfl ?_
     refine s_iload (pc' := 196) A at_194 rfl rfl ?_
     refine s_iconst (pc' := 197) (z := (1 : Int32)) A at_196 rfl (by decide) ?_
     refine s_icmpY (pc' := 215) A at_197 (by decide) (by decide) (by decide) ?_
     refine s_iload (pc' := 217) A at_215 rfl rfl ?_
     refine s_iconst (pc' := 218) (z := (2 : Int32)) A at_217 rfl (by decide) ?_
     refine s_icmpY (pc' := 236) A at_218 (by decide) (by decide) (by decide) ?_
     refine s_iload (pc' := 238) A at_236 rfl rfl ?_
     refine s_iload (pc' := 240) A at_238 rfl rfl ?_
     refine s_iconst (pc' := 241) (z := (0 : Int32)) A at_240 rfl (by decide) ?_
     refine s_static (pc' := 244) (y := y1_removed) (argsL := [(.int (0 : Int32)), (.int (1 : Int32)), (.int (0 : Int32))]) (rest := []) A (rmd l Z a0 hw n0 h2627 A.size (0 : Int32) (1 : Int32) (0 : Int32) (1 : Int32) (by decide)) (w37 hw) (w38 hw) (w30 hw) (w39 hw) (by decide) pd__III_Z rfl (W := 0) (by decide) (by decide) (Nat.le_of_eq rfl) (by decide) (by decide) rfl rfl at_241 rfl fun T h2638 v2639 A Q2640 => ?_
     obtain ⟨rfl, eh⟩ := Q2640
     rw [eh] at A
     refine Wp.stk (st' := [(.int (1 : Int32))]) rfl ?_
     refine s_istore (pc' := 246) (Ls' := #[iv q0, iv q1, iv q2, iv q3, iv q4, iv q5, iv na, iv nb, iv nc, iv nx, iv 1, iv 2, iv 0, rv b2, iv 1, jv 2, S2, jv 2, S2, jv 3, S2, jv 4, S2, iv 1, U0, U0, U0, U0]) A at_244 rfl rfl ?_
     refine s_iload (pc' := 248) A at_246 rfl rfl ?_
     refine s_iload (pc' := 250) A at_248 rfl rfl ?_
     refine s_iconst (pc' := 251) (z := (1 : Int32)) A at_250 rfl (by decide) ?_
     refine s_static (pc' := 254) (y := y1_removed) (argsL := [(.int (0 : Int32)), (.int (1 : Int32)), (.int (1 : Int32))]) (rest := []) A (rmd l Z a0 hw n0 h2627 A.size (0 : Int32) (1 : Int32) (1 : Int32) (0 : Int32) (by decide)) (w37 hw) (w38 hw) (w30 hw) (w39 hw) (by decide) pd__III_Z rfl (W := 0) (by decide) (by decide) (Nat.le_of_eq rfl) (by decide) (by decide) rfl rfl at_251 rfl fun T h2641 v2642 A Q2643 => ?_
     obtain ⟨rfl, eh⟩ := Q2643
     rw [eh] at A
     refine Wp.stk (st' := [(.int (0 : Int32))]) rfl ?_
     refine s_istore (pc' := 256) (Ls' := #[iv q0, iv q1, iv q2, iv q3, iv q4, iv q5, iv na, iv nb, iv nc, iv nx, iv 1, iv 2, iv 0, rv b2, iv 1, jv 2, S2, jv 2, S2, jv 3, S2, jv 4, S2, iv 1, iv 0, U0, U0, U0]) A at_254 rfl rfl ?_
     refine s_iload (pc' := 258) A at_256 rfl rfl ?_
     refine s_iload (pc' := 260) A at_258 rfl rfl ?_
     refine s_iconst (pc' := 261) (z := (2 : Int32)) A at_260 rfl (by decide) ?_
     refine s_static (pc' := 264) (y := y1_removed) (argsL := [(.int (0 : Int32)), (.int (1 : Int32)), (.int (2 : Int32))]) (rest := []) A (rmd l Z a0 hw n0 h2627 A.size (0 : Int32) (1 : Int32) (2 : Int32) (0 : Int32) (by decide)) (w37 hw) (w38 hw) (w30 hw) (w39 hw) (by decide) pd__III_Z rfl (W := 0) (by decide) (by decide) (Nat.le_of_eq rfl) (by decide) (by decide) rfl rfl at_261 rfl fun T h2644 v2645 A Q2646 => ?_
     obtain ⟨rfl, eh⟩ := Q2646
     rw [eh] at A
     refine Wp.stk (st' := [(.int (0 : Int32))]) rfl ?_
     refine s_istore (pc' := 266) (Ls' := #[iv q0, iv q1, iv q2, iv q3, iv q4, iv q5, iv na, iv nb, iv nc, iv nx, iv 1, iv 2, iv 0, rv b2, iv 1, jv 2, S2, jv 2, S2, jv 3, S2, jv 4, S2, iv 1, iv 0, iv 0, U0, U0]) A at_264 rfl rfl ?_
     refine s_aload (pc' := 268) A at_266 rfl rfl rfl ?_
     refine s_virtual (pc' := 271) (y := y3_isEmpty) (argsL := []) (rest := []) (z := y3_isEmpty) A E2630 (bo_isEmpty57 l Z a0 hw n0 h2627 A.size b2 r11 [.int (nc + (1 : Int32)), .int (0 : Int32), .int (0 : Int32), .int (nb + (1 : Int32))] ⟨E2630, F2631, F2632, F2633, V2634, ne2635, ge2636, ge2637⟩) (w13 hw) (w14 hw) (nf_same (C := "") (w16 hw)) (w16 hw) (w15 hw) (w3 hw) (w17 hw) (by decide) pd___Z rfl (W := 0) (by decide) (by decide) (Nat.le_of_eq rfl) (by decide) (by decide) rfl rfl at_268 rfl fun T h2649 v2650 A Q2651 => ?_
     obtain ⟨rfl, K2647, H2648⟩ := Q2651
     obtain ⟨E2652, F2653, F2654, F2655, V2656, ne2657, ge2658, ge2659⟩ := H2648
     refine Wp.stk (st' := [(.int (0 : Int32))]) rfl ?_
     refine s_istore (pc' := 273) (Ls' := #[iv q0, iv q1, iv q2, iv q3, iv q4, iv q5, iv na, iv nb, iv nc, iv nx, iv 1, iv 2, iv 0, rv b2, iv 1, jv 2, S2, jv 2, S2, jv 3, S2, jv 4, S2, iv 1, iv 0, iv 0, iv 0, U0]) A at_271 rfl rfl ?_
     refine s_iload (pc' := 275) A at_273 rfl rfl ?_
     refine s_ifN (pc' := 278) A at_275 rfl (by decide) ?_
     refine s_iload (pc' := 280) A at_278 rfl rfl ?_
     refine s_ifY (pc' := 304) A at_280 (by decide) (by decide) (by decide) ?_
     refine s_iload (pc' := 306) A at_304 rfl rfl ?_
     refine s_ifY (pc' := 316) A at_306 (by decide) (by decide) (by decide) ?_
     refine s_iload (pc' := 318) A at_316 rfl rfl ?_
     refine s_ifN (pc' := 321) A at_318 rfl (by decide) ?_
     refine s_iload (pc' := 323) A at_321 rfl rfl ?_
     refine s_istore (pc' := 325) (Ls' := #[iv q0, iv q1, iv q2, iv q3, iv q4, iv q5, iv na, iv nb, iv nc, iv nx, iv 1, iv 2, iv 0, rv b2, iv 1, jv 2, S2, jv 2, S2, jv 3, S2, jv 4, S2, iv 1, iv 0, iv 0, iv 0, iv nb]) A at_323 rfl rfl ?_
     refine s_goto (pc' := 332) A at_325 (by decide) (by decide) ?_
     refine s_iload (pc' := 334) A at_332 rfl rfl ?_
     refine s_ifN (pc' := 337) A at_334 rfl (by decide) ?_
     refine s_iload (pc' := 339) A at_337 rfl rfl ?_
     refine s_ifN (pc' := 342) A at_339 rfl (by decide) ?_
     refine s_aload (pc' := 344) A at_342 rfl rfl rfl ?_
     refine s_virtual (pc' := 347) (y := y5_first) (argsL := []) (rest := []) (z := y5_first) A E2652 (bo_first58 l Z a0 hw n0 h2649 A.size b2 r11 (nc + (1 : Int32)) (0 : Int32) (0 : Int32) (nb + (1 : Int32)) ⟨E2652, F2653, F2654, F2655, V2656, ne2657, ge2658, ge2659⟩) (w40 hw) (w41 hw) (nf_same (C := "") (w43 hw)) (w43 hw) (w42 hw) (w3 hw) (w44 hw) (by decide) pd___I rfl (W := 0) (by decide) (by decide) (Nat.le_of_eq rfl) (by decide) (by decide) rfl rfl at_344 rfl fun T h2662 v2663 A Q2664 => ?_
     obtain ⟨rfl, K2660, H2661⟩ := Q2664
     obtain ⟨E2665, F2666, F2667, F2668, V2669, ne2670, ge2671, ge2672⟩ := H2661
     refine Wp.stk (st' := [(.int ((nb + (1 : Int32)) - (1 : Int32)))]) rfl ?_
     refine s_iload (pc' := 349) A at_347 rfl rfl ?_
     refine s_icmpN (pc' := 352) A at_349 rfl (teq (show ((nb + (1 : Int32)) - (1 : Int32)) = nb from (by have _ := rng32 nb; have _ : (1 : Int32).toInt = 1 := (by decide); have _ := rng32 (nb + (1 : Int32)); have _ := c_iadd nb (1 : Int32); have _ := rng32 ((nb + (1 : Int32)) - (1 : Int32)); have _ := c_isub (nb + (1 : Int32)) (1 : Int32); apply Int32.toInt_inj.mp; omega))).2 ?_
     refine s_iconst (pc' := 353) (z := (1 : Int32)) A at_352 rfl (by decide) ?_
     refine s_goto (pc' := 357) A at_353 (by decide) (by decide) ?_
     exact r_bool A rfl (by decide) at_357 (by decide) (by decide) (rfl)
    ·
     refine s_iload (pc' := 176) A at_174 rfl rfl ?_
     refine s_ifN (pc' := 179) A at_176 rfl (by decide) ?_
     refine s_aload (pc' := 181) A at_179 rfl rfl rfl ?_
     refine s_lload (pc' := 183) A at_181 rfl rfl ?_
     refine s_iload (pc' := 185) A at_183 rfl rfl ?_
     refine s_iconst (pc' := 186) (z := (0 : Int32)) A at_185 rfl (by decide) ?_
     refine s_static (pc' := 189) (y := y0_idx) (argsL := [(.int (1 : Int32)), (.int (0 : Int32))]) (rest := [(.long (2 : Int64)), (.ref b2)]) A (idx l Z a0 hw n0 h2576 A.size (1 : Int32) (0 : Int32) (0 : Int32) (by decide)) (w28 hw) (w29 hw) (w30 hw) (w31 hw) (by decide) pd__II_I rfl (W := 3) (by decide) (by decide) (Nat.le_of_eq rfl) (by decide) (by decide) rfl rfl at_186 rfl fun T h2673 v2674 A Q2675 => ?_
     obtain ⟨rfl, eh⟩ := Q2675
     rw [eh] at A
     refine Wp.stk (st' := [(.int (0 : Int32)), (.long (2 : Int64)), (.ref b2)]) rfl ?_
     refine s_i2l (pc' := 190) (z := (0 : Int64)) A at_189 rfl (by decide) ?_
     refine s_ladd (pc' := 191) (z := (2 : Int64)) A at_190 rfl (by decide) ?_
     refine s_virtual (pc' := 194) (y := y6_remove) (argsL := [(.long (2 : Int64))]) (rest := []) (z := y6_remove) A E2579 (bo_remove56 l Z a0 hw n0 h2576 A.size b2 r11 (nc + (1 : Int32)) (na + (1 : Int32)) (nb + (1 : Int32)) ⟨E2579, F2580, F2581, F2582, V2583, ne2584, ge2585, ge2586⟩ znc zna znb) (w32 hw) (w33 hw) (nf_same (C := "") (w35 hw)) (w35 hw) (w34 hw) (w3 hw) (w36 hw) (by decide) pd__J_V rfl (W := 0) (by decide) (by decide) (Nat.le_of_eq rfl) (by decide) (by decide) rfl rfl at_191 rfl fun T h2678 v2679 A Q2680 => ?_
     obtain ⟨rfl, K2676, H2677⟩ := Q2680
     obtain ⟨E2681, F2682, F2683, F2684, V2685, ne2686, ge2687, ge2688⟩ := H2677
     refine Wp.stk (st' := []) rfl ?_
     refine s_iload (pc' := 196) A at_194 rfl rfl ?_
     refine s_iconst (pc' := 197) (z := (1 : Int32)) A at_196 rfl (by decide) ?_
     refine s_icmpY (pc' := 215) A at_197 (by decide) (by decide) (by decide) ?_
     refine s_iload (pc' := 217) A at_215 rfl rfl ?_
     refine s_iconst (pc' := 218) (z := (2 : Int32)) A at_217 rfl (by decide) ?_
     refine s_icmpY (pc' := 236) A at_218 (by decide) (by decide) (by decide) ?_
     refine s_iload (pc' := 238) A at_236 rfl rfl ?_
     refine s_iload (pc' := 240) A at_238 rfl rfl ?_
     refine s_iconst (pc' := 241) (z := (0 : Int32)) A at_240 rfl (by decide) ?_
     refine s_static (pc' := 244) (y := y1_removed) (argsL := [(.int (1 : Int32)), (.int (1 : Int32)), (.int (0 : Int32))]) (rest := []) A (rmd l Z a0 hw n0 h2678 A.size (1 : Int32) (1 : Int32) (0 : Int32) (1 : Int32) (by decide)) (w37 hw) (w38 hw) (w30 hw) (w39 hw) (by decide) pd__III_Z rfl (W := 0) (by decide) (by decide) (Nat.le_of_eq rfl) (by decide) (by decide) rfl rfl at_241 rfl fun T h2689 v2690 A Q2691 => ?_
     obtain ⟨rfl, eh⟩ := Q2691
     rw [eh] at A
     refine Wp.stk (st' := [(.int (1 : Int32))]) rfl ?_
     refine s_istore (pc' := 246) (Ls' := #[iv q0, iv q1, iv q2, iv q3, iv q4, iv q5, iv na, iv nb, iv nc, iv nx, iv 1, iv 2, iv 1, rv b2, iv 1, jv 2, S2, jv 2, S2, jv 3, S2, jv 4, S2, iv 1, U0, U0, U0, U0]) A at_244 rfl rfl ?_
     refine s_iload (pc' := 248) A at_246 rfl rfl ?_
     refine s_iload (pc' := 250) A at_248 rfl rfl ?_
     refine s_iconst (pc' := 251) (z := (1 : Int32)) A at_250 rfl (by decide) ?_
     refine s_static (pc' := 254) (y := y1_removed) (argsL := [(.int (1 : Int32)), (.int (1 : Int32)), (.int (1 : Int32))]) (rest := []) A (rmd l Z a0 hw n0 h2678 A.size (1 : Int32) (1 : Int32) (1 : Int32) (0 : Int32) (by decide)) (w37 hw) (w38 hw) (w30 hw) (w39 hw) (by decide) pd__III_Z rfl (W := 0) (by decide) (by decide) (Nat.le_of_eq rfl) (by decide) (by decide) rfl rfl at_251 rfl fun T h2692 v2693 A Q2694 => ?_
     obtain ⟨rfl, eh⟩ := Q2694
     rw [eh] at A
     refine Wp.stk (st' := [(.int (0 : Int32))]) rfl ?_
     refine s_istore (pc' := 256) (Ls' := #[iv q0, iv q1, iv q2, iv q3, iv q4, iv q5, iv na, iv nb, iv nc, iv nx, iv 1, iv 2, iv 1, rv b2, iv 1, jv 2, S2, jv 2, S2, jv 3, S2, jv 4, S2, iv 1, iv 0, U0, U0, U0]) A at_254 rfl rfl ?_
     refine s_iload (pc' := 258) A at_256 rfl rfl ?_
     refine s_iload (pc' := 260) A at_258 rfl rfl ?_
     refine s_iconst (pc' := 261) (z := (2 : Int32)) A at_260 rfl (by decide) ?_
     refine s_static (pc' := 264) (y := y1_removed) (argsL := [(.int (1 : Int32)), (.int (1 : Int32)), (.int (2 : Int32))]) (rest := []) A (rmd l Z a0 hw n0 h2678 A.size (1 : Int32) (1 : Int32) (2 : Int32) (0 : Int32) (by decide)) (w37 hw) (w38 hw) (w30 hw) (w39 hw) (by decide) pd__III_Z rfl (W := 0) (by decide) (by decide) (Nat.le_of_eq rfl) (by decide) (by decide) rfl rfl at_261 rfl fun T h2695 v2696 A Q2697 => ?_
     obtain ⟨rfl, eh⟩ := Q2697
     rw [eh] at A
     refine Wp.stk (st' := [(.int (0 : Int32))]) rfl ?_
     refine s_istore (pc' := 266) (Ls' := #[iv q0, iv q1, iv q2, iv q3, iv q4, iv q5, iv na, iv nb, iv nc, iv nx, iv 1, iv 2, iv 1, rv b2, iv 1, jv 2, S2, jv 2, S2, jv 3, S2, jv 4, S2, iv 1, iv 0, iv 0, U0, U0]) A at_264 rfl rfl ?_
     refine s_aload (pc' := 268) A at_266 rfl rfl rfl ?_
     refine s_virtual (pc' := 271) (y := y3_isEmpty) (argsL := []) (rest := []) (z := y3_isEmpty) A E2681 (bo_isEmpty57 l Z a0 hw n0 h2678 A.size b2 r11 [.int (nc + (1 : Int32)), .int (0 : Int32), .int (0 : Int32), .int (nb + (1 : Int32))] ⟨E2681, F2682, F2683, F2684, V2685, ne2686, ge2687, ge2688⟩) (w13 hw) (w14 hw) (nf_same (C := "") (w16 hw)) (w16 hw) (w15 hw) (w3 hw) (w17 hw) (by decide) pd___Z rfl (W := 0) (by decide) (by decide) (Nat.le_of_eq rfl) (by decide) (by decide) rfl rfl at_268 rfl fun T h2700 v2701 A Q2702 => ?_
     obtain ⟨rfl, K2698, H2699⟩ := Q2702
     obtain ⟨E2703, F2704, F2705, F2706, V2707, ne2708, ge2709, ge2710⟩ := H2699
     refine Wp.stk (st' := [(.int (0 : Int32))]) rfl ?_
     refine s_istore (pc' := 273) (Ls' := #[iv q0, iv q1, iv q2, iv q3, iv q4, iv q5, iv na, iv nb, iv nc, iv nx, iv 1, iv 2, iv 1, rv b2, iv 1, jv 2, S2, jv 2, S2, jv 3, S2, jv 4, S2, iv 1, iv 0, iv 0, iv 0, U0]) A at_271 rfl rfl ?_
     refine s_iload (pc' := 275) A at_273 rfl rfl ?_
     refine s_ifN (pc' := 278) A at_275 rfl (by decide) ?_
     refine s_iload (pc' := 280) A at_278 rfl rfl ?_
     refine s_ifY (pc' := 304) A at_280 (by decide) (by decide) (by decide) ?_
     refine s_iload (pc' := 306) A at_304 rfl rfl ?_
     refine s_ifY (pc' := 316) A at_306 (by decide) (by decide) (by decide) ?_
     refine s_iload (pc' := 318) A at_316 rfl rfl ?_
     refine s_ifN (pc' := 321) A at_318 rfl (by decide) ?_
     refine s_iload (pc' := 323) A at_321 rfl rfl ?_
     refine s_istore (pc' := 325) (Ls' := #[iv q0, iv q1, iv q2, iv q3, iv q4, iv q5, iv na, iv nb, iv nc, iv nx, iv 1, iv 2, iv 1, rv b2, iv 1, jv 2, S2, jv 2, S2, jv 3, S2, jv 4, S2, iv 1, iv 0, iv 0, iv 0, iv nb]) A at_323 rfl rfl ?_
     refine s_goto (pc' := 332) A at_325 (by decide) (by decide) ?_
     refine s_iload (pc' := 334) A at_332 rfl rfl ?_
     refine s_ifN (pc' := 337) A at_334 rfl (by decide) ?_
     refine s_iload (pc' := 339) A at_337 rfl rfl ?_
     refine s_ifN (pc' := 342) A at_339 rfl (by decide) ?_
     refine s_aload (pc' := 344) A at_342 rfl rfl rfl ?_
     refine s_virtual (pc' := 347) (y := y5_first) (argsL := []) (rest := []) (z := y5_first) A E2703 (bo_first58 l Z a0 hw n0 h2700 A.size b2 r11 (nc + (1 : Int32)) (0 : Int32) (0 : Int32) (nb + (1 : Int32)) ⟨E2703, F2704, F2705, F2706, V2707, ne2708, ge2709, ge2710⟩) (w40 hw) (w41 hw) (nf_same (C := "") (w43 hw)) (w43 hw) (w42 hw) (w3 hw) (w44 hw) (by decide) pd___I rfl (W := 0) (by decide) (by decide) (Nat.le_of_eq rfl) (by decide) (by decide) rfl rfl at_344 rfl fun T h2713 v2714 A Q2715 => ?_
     obtain ⟨rfl, K2711, H2712⟩ := Q2715
     obtain ⟨E2716, F2717, F2718, F2719, V2720, ne2721, ge2722, ge2723⟩ := H2712
     refine Wp.stk (st' := [(.int ((nb + (1 : Int32)) - (1 : Int32)))]) rfl ?_
     refine s_iload (pc' := 349) A at_347 rfl rfl ?_
     refine s_icmpN (pc' := 352) A at_349 rfl (teq (show ((nb + (1 : Int32)) - (1 : Int32)) = nb from (by have _ := rng32 nb; have _ : (1 : Int32).toInt = 1 := (by decide); have _ := rng32 (nb + (1 : Int32)); have _ := c_iadd nb (1 : Int32); have _ := rng32 ((nb + (1 : Int32)) - (1 : Int32)); have _ := c_isub (nb + (1 : Int32)) (1 : Int32); apply Int32.toInt_inj.mp; omega))).2 ?_
     refine s_iconst (pc' := 353) (z := (1 : Int32)) A at_352 rfl (by decide) ?_
     refine s_goto (pc' := 357) A at_353 (by decide) (by decide) ?_
     exact r_bool A rfl (by decide) at_357 (by decide) (by decide) (rfl)
    ·
     refine s_iload (pc' := 176) A at_174 rfl rfl ?_
     refine s_ifN (pc' := 179) A at_176 rfl (by decide) ?_
     refine s_aload (pc' := 181) A at_179 rfl rfl rfl ?_
     refine s_lload (pc' := 183) A at_181 rfl rfl ?_
     refine s_iload (pc' := 185) A at_183 rfl rfl ?_
     refine s_iconst (pc' := 186) (z := (0 : Int32)) A at_185 rfl (by decide) ?_
     refine s_static (pc' := 189) (y := y0_idx) (argsL := [(.int (2 : Int32)), (.int (0 : Int32))]) (rest := [(.long (2 : Int64)), (.ref b2)]) A (idx l Z a0 hw n0 h2576 A.size (2 : Int32) (0 : Int32) (1 : Int32) (by decide)) (w28 hw) (w29 hw) (w30 hw) (w31 hw) (by decide) pd__II_I rfl (W := 3) (by decide) (by decide) (Nat.le_of_eq rfl) (by decide) (by decide) rfl rfl at_186 rfl fun T h2724 v2725 A Q2726 => ?_
     obtain ⟨rfl, eh⟩ := Q2726
     rw [eh] at A
     refine Wp.stk (st' := [(.int (1 : Int32)), (.long (2 : Int64)), (.ref b2)]) rfl ?_
     refine s_i2l (pc' := 190) (z := (1 : Int64)) A at_189 rfl (by decide) ?_
     refine s_ladd (pc' := 191) (z := (3 : Int64)) A at_190 rfl (by decide) ?_
     refine s_virtual (pc' := 194) (y := y6_remove) (argsL := [(.long (3 : Int64))]) (rest := []) (z := y6_remove) A E2579 (bo_remove59 l Z a0 hw n0 h2576 A.size b2 r11 (nc + (1 : Int32)) (na + (1 : Int32)) (nb + (1 : Int32)) ⟨E2579, F2580, F2581, F2582, V2583, ne2584, ge2585, ge2586⟩ znc zna znb) (w32 hw) (w33 hw) (nf_same (C := "") (w35 hw)) (w35 hw) (w34 hw) (w3 hw) (w36 hw) (by decide) pd__J_V rfl (W := 0) (by decide) (by decide) (Nat.le_of_eq rfl) (by decide) (by decide) rfl rfl at_191 rfl fun T h2729 v2730 A Q2731 => ?_
     obtain ⟨rfl, K2727, H2728⟩ := Q2731
     obtain ⟨E2732, F2733, F2734, F2735, V2736, ne2737, ge2738, ge2739⟩ := H2728
     refine Wp.stk (st' := []) rfl ?_
     refine s_iload (pc' := 196) A at_194 rfl rfl ?_
     refine s_iconst (pc' := 197) (z := (1 : Int32)) A at_196 rfl (by decide) ?_
     refine s_icmpY (pc' := 215) A at_197 (by decide) (by decide) (by decide) ?_
     refine s_iload (pc' := 217) A at_215 rfl rfl ?_
     refine s_iconst (pc' := 218) (z := (2 : Int32)) A at_217 rfl (by decide) ?_
     refine s_icmpY (pc' := 236) A at_218 (by decide) (by decide) (by decide) ?_
     refine s_iload (pc' := 238) A at_236 rfl rfl ?_
     refine s_iload (pc' := 240) A at_238 rfl rfl ?_
     refine s_iconst (pc' := 241) (z := (0 : Int32)) A at_240 rfl (by decide) ?_
     refine s_static (pc' := 244) (y := y1_removed) (argsL := [(.int (2 : Int32)), (.int (1 : Int32)), (.int (0 : Int32))]) (rest := []) A (rmd l Z a0 hw n0 h2729 A.size (2 : Int32) (1 : Int32) (0 : Int32) (0 : Int32) (by decide)) (w37 hw) (w38 hw) (w30 hw) (w39 hw) (by decide) pd__III_Z rfl (W := 0) (by decide) (by decide) (Nat.le_of_eq rfl) (by decide) (by decide) rfl rfl at_241 rfl fun T h2740 v2741 A Q2742 => ?_
     obtain ⟨rfl, eh⟩ := Q2742
     rw [eh] at A
     refine Wp.stk (st' := [(.int (0 : Int32))]) rfl ?_
     refine s_istore (pc' := 246) (Ls' := #[iv q0, iv q1, iv q2, iv q3, iv q4, iv q5, iv na, iv nb, iv nc, iv nx, iv 1, iv 2, iv 2, rv b2, iv 1, jv 2, S2, jv 2, S2, jv 3, S2, jv 4, S2, iv 0, U0, U0, U0, U0]) A at_244 rfl rfl ?_
     refine s_iload (pc' := 248) A at_246 rfl rfl ?_
     refine s_iload (pc' := 250) A at_248 rfl rfl ?_
     refine s_iconst (pc' := 251) (z := (1 : Int32)) A at_250 rfl (by decide) ?_
     refine s_static (pc' := 254) (y := y1_removed) (argsL := [(.int (2 : Int32)), (.int (1 : Int32)), (.int (1 : Int32))]) (rest := []) A (rmd l Z a0 hw n0 h2729 A.size (2 : Int32) (1 : Int32) (1 : Int32) (1 : Int32) (by decide)) (w37 hw) (w38 hw) (w30 hw) (w39 hw) (by decide) pd__III_Z rfl (W := 0) (by decide) (by decide) (Nat.le_of_eq rfl) (by decide) (by decide) rfl rfl at_251 rfl fun T h2743 v2744 A Q2745 => ?_
     obtain ⟨rfl, eh⟩ := Q2745
     rw [eh] at A
     refine Wp.stk (st' := [(.int (1 : Int32))]) rfl ?_
     refine s_istore (pc' := 256) (Ls' := #[iv q0, iv q1, iv q2, iv q3, iv q4, iv q5, iv na, iv nb, iv nc, iv nx, iv 1, iv 2, iv 2, rv b2, iv 1, jv 2, S2, jv 2, S2, jv 3, S2, jv 4, S2, iv 0, iv 1, U0, U0, U0]) A at_254 rfl rfl ?_
     refine s_iload (pc' := 258) A at_256 rfl rfl ?_
     refine s_iload (pc' := 260) A at_258 rfl rfl ?_
     refine s_iconst (pc' := 261) (z := (2 : Int32)) A at_260 rfl (by decide) ?_
     refine s_static (pc' := 264) (y := y1_removed) (argsL := [(.int (2 : Int32)), (.int (1 : Int32)), (.int (2 : Int32))]) (rest := []) A (rmd l Z a0 hw n0 h2729 A.size (2 : Int32) (1 : Int32) (2 : Int32) (0 : Int32) (by decide)) (w37 hw) (w38 hw) (w30 hw) (w39 hw) (by decide) pd__III_Z rfl (W := 0) (by decide) (by decide) (Nat.le_of_eq rfl) (by decide) (by decide) rfl rfl at_261 rfl fun T h2746 v2747 A Q2748 => ?_
     obtain ⟨rfl, eh⟩ := Q2748
     rw [eh] at A
     refine Wp.stk (st' := [(.int (0 : Int32))]) rfl ?_
     refine s_istore (pc' := 266) (Ls' := #[iv q0, iv q1, iv q2, iv q3, iv q4, iv q5, iv na, iv nb, iv nc, iv nx, iv 1, iv 2, iv 2, rv b2, iv 1, jv 2, S2, jv 2, S2, jv 3, S2, jv 4, S2, iv 0, iv 1, iv 0, U0, U0]) A at_264 rfl rfl ?_
     refine s_aload (pc' := 268) A at_266 rfl rfl rfl ?_
     refine s_virtual (pc' := 271) (y := y3_isEmpty) (argsL := []) (rest := []) (z := y3_isEmpty) A E2732 (bo_isEmpty54 l Z a0 hw n0 h2729 A.size b2 r11 [.int (nc + (1 : Int32)), .int (0 : Int32), .int (na + (1 : Int32)), .int (0 : Int32)] ⟨E2732, F2733, F2734, F2735, V2736, ne2737, ge2738, ge2739⟩) (w13 hw) (w14 hw) (nf_same (C := "") (w16 hw)) (w16 hw) (w15 hw) (w3 hw) (w17 hw) (by decide) pd___Z rfl (W := 0) (by decide) (by decide) (Nat.le_of_eq rfl) (by decide) (by decide) rfl rfl at_268 rfl fun T h2751 v2752 A Q2753 => ?_
     obtain ⟨rfl, K2749, H2750⟩ := Q2753
     obtain ⟨E2754, F2755, F2756, F2757, V2758, ne2759, ge2760, ge2761⟩ := H2750
     refine Wp.stk (st' := [(.int (0 : Int32))]) rfl ?_
     refine s_istore (pc' := 273) (Ls' := #[iv q0, iv q1, iv q2, iv q3, iv q4, iv q5, iv na, iv nb, iv nc, iv nx, iv 1, iv 2, iv 2, rv b2, iv 1, jv 2, S2, jv 2, S2, jv 3, S2, jv 4, S2, iv 0, iv 1, iv 0, iv 0, U0]) A at_271 rfl rfl ?_
     refine s_iload (pc' := 275) A at_273 rfl rfl ?_
     refine s_ifY (pc' := 304) A at_275 (by decide) (by decide) (by decide) ?_
     refine s_iload (pc' := 306) A at_304 rfl rfl ?_
     refine s_ifN (pc' := 309) A at_306 rfl (by decide) ?_
     refine s_iload (pc' := 311) A at_309 rfl rfl ?_
     refine s_istore (pc' := 313) (Ls' := #[iv q0, iv q1, iv q2, iv q3, iv q4, iv q5, iv na, iv nb, iv nc, iv nx, iv 1, iv 2, iv 2, rv b2, iv 1, jv 2, S2, jv 2, S2, jv 3, S2, jv 4, S2, iv 0, iv 1, iv 0, iv 0, iv na]) A at_311 rfl rfl ?_
     refine s_goto (pc' := 332) A at_313 (by decide) (by decide) ?_
     refine s_iload (pc' := 334) A at_332 rfl rfl ?_
     refine s_ifN (pc' := 337) A at_334 rfl (by decide) ?_
     refine s_iload (pc' := 339) A at_337 rfl rfl ?_
     refine s_ifN (pc' := 342) A at_339 rfl (by decide) ?_
     refine s_aload (pc' := 344) A at_342 rfl rfl rfl ?_
     refine s_virtual (pc' := 347) (y := y5_first) (argsL := []) (rest := []) (z := y5_first) A E2754 (bo_first55 l Z a0 hw n0 h2751 A.size b2 r11 (nc + (1 : Int32)) (0 : Int32) (na + (1 : Int32)) (0 : Int32) ⟨E2754, F2755, F2756, F2757, V2758, ne2759, ge2760, ge2761⟩) (w40 hw) (w41 hw) (nf_same (C := "") (w43 hw)) (w43 hw) (w42 hw) (w3 hw) (w44 hw) (by decide) pd___I rfl (W := 0) (by decide) (by decide) (Nat.le_of_eq rfl) (by decide) (by decide) rfl rfl at_344 rfl fun T h2764 v2765 A Q2766 => ?_
     obtain ⟨rfl, K2762, H2763⟩ := Q2766
     obtain ⟨E2767, F2768, F2769, F2770, V2771, ne2772, ge2773, ge2774⟩ := H2763
     refine Wp.stk (st' := [(.int ((na + (1 : Int32)) - (1 : Int32)))]) rfl ?_
     refine s_iload (pc' := 349) A at_347 rfl rfl ?_
     refine s_icmpN (pc' := 352) A at_349 rfl (teq (show ((na + (1 : Int32)) - (1 : Int32)) = na from (by have _ := rng32 na; have _ : (1 : Int32).toInt = 1 := (by decide); have _ := rng32 (na + (1 : Int32)); have _ := c_iadd na (1 : Int32); have _ := rng32 ((na + (1 : Int32)) - (1 : Int32)); have _ := c_isub (na + (1 : Int32)) (1 : Int32); apply Int32.toInt_inj.mp; omega))).2 ?_
     refine s_iconst (pc' := 353) (z := (1 : Int32)) A at_352 rfl (by decide) ?_
     refine s_goto (pc' := 357) A at_353 (by decide) (by decide) ?_
     exact r_bool A rfl (by decide) at_357 (by decide) (by decide) (rfl)
    ·
     refine s_iload (pc' := 176) A at_174 rfl rfl ?_
     refine s_ifN (pc' := 179) A at_176 rfl (by decide) ?_
     refine s_aload (pc' := 181) A at_179 rfl rfl rfl ?_
     refine s_lload (pc' := 183) A at_181 rfl rfl ?_
     refine s_iload (pc' := 185) A at_183 rfl rfl ?_
     refine s_iconst (pc' := 186) (z := (0 : Int32)) A at_185 rfl (by decide) ?_
     refine s_static (pc' := 189) (y := y0_idx) (argsL := [(.int (3 : Int32)), (.int (0 : Int32))]) (rest := [(.long (2 : Int64)), (.ref b2)]) A (idx l Z a0 hw n0 h2576 A.size (3 : Int32) (0 : Int32) (1 : Int32) (by decide)) (w28 hw) (w29 hw) (w30 hw) (w31 hw) (by decide) pd__II_I rfl (W := 3) (by decide) (by decide) (Nat.le_of_eq rfl) (by decide) (by decide) rfl rfl at_186 rfl fun T h2775 v2776 A Q2777 => ?_
     obtain ⟨rfl, eh⟩ := Q2777
     rw [eh] at A
     refine Wp.stk (st' := [(.int (1 : Int32)), (.long (2 : Int64)), (.ref b2)]) rfl ?_
     refine s_i2l (pc' := 190) (z := (1 : Int64)) A at_189 rfl (by decide) ?_
     refine s_ladd (pc' := 191) (z := (3 : Int64)) A at_190 rfl (by decide) ?_
     refine s_virtual (pc' := 194) (y := y6_remove) (argsL := [(.long (3 : Int64))]) (rest := []) (z := y6_remove) A E2579 (bo_remove59 l Z a0 hw n0 h2576 A.size b2 r11 (nc + (1 : Int32)) (na + (1 : Int32)) (nb + (1 : Int32)) ⟨E2579, F2580, F2581, F2582, V2583, ne2584, ge2585, ge2586⟩ znc zna znb) (w32 hw) (w33 hw) (nf_same (C := "") (w35 hw)) (w35 hw) (w34 hw) (w3 hw) (w36 hw) (by decide) pd__J_V rfl (W := 0) (by decide) (by decide) (Nat.le_of_eq rfl) (by decide) (by decide) rfl rfl at_191 rfl fun T h2780 v2781 A Q2782 => ?_
     obtain ⟨rfl, K2778, H2779⟩ := Q2782
     obtain ⟨E2783, F2784, F2785, F2786, V2787, ne2788, ge2789, ge2790⟩ := H2779
     refine Wp.stk (st' := []) rfl ?_
     refine s_iload (pc' := 196) A at_194 rfl rfl ?_
     refine s_iconst (pc' := 197) (z := (1 : Int32)) A at_196 rfl (by decide) ?_
     refine s_icmpY (pc' := 215) A at_197 (by decide) (by decide) (by decide) ?_
     refine s_iload (pc' := 217) A at_215 rfl rfl ?_
     refine s_iconst (pc' := 218) (z := (2 : Int32)) A at_217 rfl (by decide) ?_
     refine s_icmpY (pc' := 236) A at_218 (by decide) (by decide) (by decide) ?_
     refine s_iload (pc' := 238) A at_236 rfl rfl ?_
     refine s_iload (pc' := 240) A at_238 rfl rfl ?_
     refine s_iconst (pc' := 241) (z := (0 : Int32)) A at_240 rfl (by decide) ?_
     refine s_static (pc' := 244) (y := y1_removed) (argsL := [(.int (3 : Int32)), (.int (1 : Int32)), (.int (0 : Int32))]) (rest := []) A (rmd l Z a0 hw n0 h2780 A.size (3 : Int32) (1 : Int32) (0 : Int32) (0 : Int32) (by decide)) (w37 hw) (w38 hw) (w30 hw) (w39 hw) (by decide) pd__III_Z rfl (W := 0) (by decide) (by decide) (Nat.le_of_eq rfl) (by decide) (by decide) rfl rfl at_241 rfl fun T h2791 v2792 A Q2793 => ?_
     obtain ⟨rfl, eh⟩ := Q2793
     rw [eh] at A
     refine Wp.stk (st' := [(.int (0 : Int32))]) rfl ?_
     refine s_istore (pc' := 246) (Ls' := #[iv q0, iv q1, iv q2, iv q3, iv q4, iv q5, iv na, iv nb, iv nc, iv nx, iv 1, iv 2, iv 3, rv b2, iv 1, jv 2, S2, jv 2, S2, jv 3, S2, jv 4, S2, iv 0, U0, U0, U0, U0]) A at_244 rfl rfl ?_
     refine s_iload (pc' := 248) A at_246 rfl rfl ?_
     refine s_iload (pc' := 250) A at_248 rfl rfl ?_
     refine s_iconst (pc' := 251) (z := (1 : Int32)) A at_250 rfl (by decide) ?_
     refine s_static (pc' := 254) (y := y1_removed) (argsL := [(.int (3 : Int32)), (.int (1 : Int32)), (.int (1 : Int32))]) (rest := []) A (rmd l Z a0 hw n0 h2780 A.size (3 : Int32) (1 : Int32) (1 : Int32) (1 : Int32) (by decide)) (w37 hw) (w38 hw) (w30 hw) (w39 hw) (by decide) pd__III_Z rfl (W := 0) (by decide) (by decide) (Nat.le_of_eq rfl) (by decide) (by decide) rfl rfl at_251 rfl fun T h2794 v2795 A Q2796 => ?_
     obtain ⟨rfl, eh⟩ := Q2796
     rw [eh] at A
     refine Wp.stk (st' := [(.int (1 : Int32))]) rfl ?_
     refine s_istore (pc' := 256) (Ls' := #[iv q0, iv q1, iv q2, iv q3, iv q4, iv q5, iv na, iv nb, iv nc, iv nx, iv 1, iv 2, iv 3, rv b2, iv 1, jv 2, S2, jv 2, S2, jv 3, S2, jv 4, S2, iv 0, iv 1, U0, U0, U0]) A at_254 rfl rfl ?_
     refine s_iload (pc' := 258) A at_256 rfl rfl ?_
     refine s_iload (pc' := 260) A at_258 rfl rfl ?_
     refine s_iconst (pc' := 261) (z := (2 : Int32)) A at_260 rfl (by decide) ?_
     refine s_static (pc' := 264) (y := y1_removed) (argsL := [(.int (3 : Int32)), (.int (1 : Int32)), (.int (2 : Int32))]) (rest := []) A (rmd l Z a0 hw n0 h2780 A.size (3 : Int32) (1 : Int32) (2 : Int32) (0 : Int32) (by decide)) (w37 hw) (w38 hw) (w30 hw) (w39 hw) (by decide) pd__III_Z rfl (W := 0) (by decide) (by decide) (Nat.le_of_eq rfl) (by decide) (by decide) rfl rfl at_261 rfl fun T h2797 v2798 A Q2799 => ?_
     obtain ⟨rfl, eh⟩ := Q2799
     rw [eh] at A
     refine Wp.stk (st' := [(.int (0 : Int32))]) rfl ?_
     refine s_istore (pc' := 266) (Ls' := #[iv q0, iv q1, iv q2, iv q3, iv q4, iv q5, iv na, iv nb, iv nc, iv nx, iv 1, iv 2, iv 3, rv b2, iv 1, jv 2, S2, jv 2, S2, jv 3, S2, jv 4, S2, iv 0, iv 1, iv 0, U0, U0]) A at_264 rfl rfl ?_
     refine s_aload (pc' := 268) A at_266 rfl rfl rfl ?_
     refine s_virtual (pc' := 271) (y := y3_isEmpty) (argsL := []) (rest := []) (z := y3_isEmpty) A E2783 (bo_isEmpty54 l Z a0 hw n0 h2780 A.size b2 r11 [.int (nc + (1 : Int32)), .int (0 : Int32), .int (na + (1 : Int32)), .int (0 : Int32)] ⟨E2783, F2784, F2785, F2786, V2787, ne2788, ge2789, ge2790⟩) (w13 hw) (w14 hw) (nf_same (C := "") (w16 hw)) (w16 hw) (w15 hw) (w3 hw) (w17 hw) (by decide) pd___Z rfl (W := 0) (by decide) (by decide) (Nat.le_of_eq rfl) (by decide) (by decide) rfl rfl at_268 rfl fun T h2802 v2803 A Q2804 => ?_
     obtain ⟨rfl, K2800, H2801⟩ := Q2804
     obtain ⟨E2805, F2806, F2807, F2808, V2809, ne2810, ge2811, ge2812⟩ := H2801
     refine Wp.stk (st' := [(.int (0 : Int32))]) rfl ?_
     refine s_istore (pc' := 273) (Ls' := #[iv q0, iv q1, iv q2, iv q3, iv q4, iv q5, iv na, iv nb, iv nc, iv nx, iv 1, iv 2, iv 3, rv b2, iv 1, jv 2, S2, jv 2, S2, jv 3, S2, jv 4, S2, iv 0, iv 1, iv 0, iv 0, U0]) A at_271 rfl rfl ?_
     refine s_iload (pc' := 275) A at_273 rfl rfl ?_
     refine s_ifY (pc' := 304) A at_275 (by decide) (by decide) (by decide) ?_
     refine s_iload (pc' := 306) A at_304 rfl rfl ?_
     refine s_ifN (pc' := 309) A at_306 rfl (by decide) ?_
     refine s_iload (pc' := 311) A at_309 rfl rfl ?_
     refine s_istore (pc' := 313) (Ls' := #[iv q0, iv q1, iv q2, iv q3, iv q4, iv q5, iv na, iv nb, iv nc, iv nx, iv 1, iv 2, iv 3, rv b2, iv 1, jv 2, S2, jv 2, S2, jv 3, S2, jv 4, S2, iv 0, iv 1, iv 0, iv 0, iv na]) A at_311 rfl rfl ?_
     refine s_goto (pc' := 332) A at_313 (by decide) (by decide) ?_
     refine s_iload (pc' := 334) A at_332 rfl rfl ?_
     refine s_ifN (pc' := 337) A at_334 rfl (by decide) ?_
     refine s_iload (pc' := 339) A at_337 rfl rfl ?_
     refine s_ifN (pc' := 342) A at_339 rfl (by decide) ?_
     refine s_aload (pc' := 344) A at_342 rfl rfl rfl ?_
     refine s_virtual (pc' := 347) (y := y5_first) (argsL := []) (rest := []) (z := y5_first) A E2805 (bo_first55 l Z a0 hw n0 h2802 A.size b2 r11 (nc + (1 : Int32)) (0 : Int32) (na + (1 : Int32)) (0 : Int32) ⟨E2805, F2806, F2807, F2808, V2809, ne2810, ge2811, ge2812⟩) (w40 hw) (w41 hw) (nf_same (C := "") (w43 hw)) (w43 hw) (w42 hw) (w3 hw) (w44 hw) (by decide) pd___I rfl (W := 0) (by decide) (by decide) (Nat.le_of_eq rfl) (by decide) (by decide) rfl rfl at_344 rfl fun T h2815 v2816 A Q2817 => ?_
     obtain ⟨rfl, K2813, H2814⟩ := Q2817
     obtain ⟨E2818, F2819, F2820, F2821, V2822, ne2823, ge2824, ge2825⟩ := H2814
     refine Wp.stk (st' := [(.int ((na + (1 : Int32)) - (1 : Int32)))]) rfl ?_
     refine s_iload (pc' := 349) A at_347 rfl rfl ?_
     refine s_icmpN (pc' := 352) A at_349 rfl (teq (show ((na + (1 : Int32)) - (1 : Int32)) = na from (by have _ := rng32 na; have _ : (1 : Int32).toInt = 1 := (by decide); have _ := rng32 (na + (1 : Int32)); have _ := c_iadd na (1 : Int32); have _ := rng32 ((na + (1 : Int32)) - (1 : Int32)); have _ := c_isub (na + (1 : Int32)) (1 : Int32); apply Int32.toInt_inj.mp; omega))).2 ?_
     refine s_iconst (pc' := 353) (z := (1 : Int32)) A at_352 rfl (by decide) ?_
     refine s_goto (pc' := 357) A at_353 (by decide) (by decide) ?_
     exact r_bool A rfl (by decide) at_357 (by decide) (by decide) (rfl)
    ·
     refine s_iload (pc' := 176) A at_174 rfl rfl ?_
     refine s_ifN (pc' := 179) A at_176 rfl (by decide) ?_
     refine s_aload (pc' := 181) A at_179 rfl rfl rfl ?_
     refine s_lload (pc' := 183) A at_181 rfl rfl ?_
     refine s_iload (pc' := 185) A at_183 rfl rfl ?_
     refine s_iconst (pc' := 186) (z := (0 : Int32)) A at_185 rfl (by decide) ?_
     refine s_static (pc' := 189) (y := y0_idx) (argsL := [(.int (4 : Int32)), (.int (0 : Int32))]) (rest := [(.long (2 : Int64)), (.ref b2)]) A (idx l Z a0 hw n0 h2576 A.size (4 : Int32) (0 : Int32) (2 : Int32) (by decide)) (w28 hw) (w29 hw) (w30 hw) (w31 hw) (by decide) pd__II_I rfl (W := 3) (by decide) (by decide) (Nat.le_of_eq rfl) (by decide) (by decide) rfl rfl at_186 rfl fun T h2826 v2827 A Q2828 => ?_
     obtain ⟨rfl, eh⟩ := Q2828
     rw [eh] at A
     refine Wp.stk (st' := [(.int (2 : Int32)), (.long (2 : Int64)), (.ref b2)]) rfl ?_
     refine s_i2l (pc' := 190) (z := (2 : Int64)) A at_189 rfl (by decide) ?_
     refine s_ladd (pc' := 191) (z := (4 : Int64)) A at_190 rfl (by decide) ?_
     refine s_virtual (pc' := 194) (y := y6_remove) (argsL := [(.long (4 : Int64))]) (rest := []) (z := y6_remove) A E2579 (bo_remove60 l Z a0 hw n0 h2576 A.size b2 r11 (nc + (1 : Int32)) (na + (1 : Int32)) (nb + (1 : Int32)) ⟨E2579, F2580, F2581, F2582, V2583, ne2584, ge2585, ge2586⟩ znc zna znb) (w32 hw) (w33 hw) (nf_same (C := "") (w35 hw)) (w35 hw) (w34 hw) (w3 hw) (w36 hw) (by decide) pd__J_V rfl (W := 0) (by decide) (by decide) (Nat.le_of_eq rfl) (by decide) (by decide) rfl rfl at_191 rfl fun T h2831 v2832 A Q2833 => ?_
     obtain ⟨rfl, K2829, H2830⟩ := Q2833
     obtain ⟨E2834, F2835, F2836, F2837, V2838, ne2839, ge2840, ge2841⟩ := H2830
     refine Wp.stk (st' := []) rfl ?_
     refine s_iload (pc' := 196) A at_194 rfl rfl ?_
     refine s_iconst (pc' := 197) (z := (1 : Int32)) A at_196 rfl (by decide) ?_
     refine s_icmpY (pc' := 215) A at_197 (by decide) (by decide) (by decide) ?_
     refine s_iload (pc' := 217) A at_215 rfl rfl ?_
     refine s_iconst (pc' := 218) (z := (2 : Int32)) A at_217 rfl (by decide) ?_
     refine s_icmpY (pc' := 236) A at_218 (by decide) (by decide) (by decide) ?_
     refine s_iload (pc' := 238) A at_236 rfl rfl ?_
     refine s_iload (pc' := 240) A at_238 rfl rfl ?_
     refine s_iconst (pc' := 241) (z := (0 : Int32)) A at_240 rfl (by decide) ?_
     refine s_static (pc' := 244) (y := y1_removed) (argsL := [(.int (4 : Int32)), (.int (1 : Int32)), (.int (0 : Int32))]) (rest := []) A (rmd l Z a0 hw n0 h2831 A.size (4 : Int32) (1 : Int32) (0 : Int32) (0 : Int32) (by decide)) (w37 hw) (w38 hw) (w30 hw) (w39 hw) (by decide) pd__III_Z rfl (W := 0) (by decide) (by decide) (Nat.le_of_eq rfl) (by decide) (by decide) rfl rfl at_241 rfl fun T h2842 v2843 A Q2844 => ?_
     obtain ⟨rfl, eh⟩ := Q2844
     rw [eh] at A
     refine Wp.stk (st' := [(.int (0 : Int32))]) rfl ?_
     refine s_istore (pc' := 246) (Ls' := #[iv q0, iv q1, iv q2, iv q3, iv q4, iv q5, iv na, iv nb, iv nc, iv nx, iv 1, iv 2, iv 4, rv b2, iv 1, jv 2, S2, jv 2, S2, jv 3, S2, jv 4, S2, iv 0, U0, U0, U0, U0]) A at_244 rfl rfl ?_
     refine s_iload (pc' := 248) A at_246 rfl rfl ?_
     refine s_iload (pc' := 250) A at_248 rfl rfl ?_
     refine s_iconst (pc' := 251) (z := (1 : Int32)) A at_250 rfl (by decide) ?_
     refine s_static (pc' := 254) (y := y1_removed) (argsL := [(.int (4 : Int32)), (.int (1 : Int32)), (.int (1 : Int32))]) (rest := []) A (rmd l Z a0 hw n0 h2831 A.size (4 : Int32) (1 : Int32) (1 : Int32) (0 : Int32) (by decide)) (w37 hw) (w38 hw) (w30 hw) (w39 hw) (by decide) pd__III_Z rfl (W := 0) (by decide) (by decide) (Nat.le_of_eq rfl) (by decide) (by decide) rfl rfl at_251 rfl fun T h2845 v2846 A Q2847 => ?_
     obtain ⟨rfl, eh⟩ := Q2847
     rw [eh] at A
     refine Wp.stk (st' := [(.int (0 : Int32))]) rfl ?_
     refine s_istore (pc' := 256) (Ls' := #[iv q0, iv q1, iv q2, iv q3, iv q4, iv q5, iv na, iv nb, iv nc, iv nx, iv 1, iv 2, iv 4, rv b2, iv 1, jv 2, S2, jv 2, S2, jv 3, S2, jv 4, S2, iv 0, iv 0, U0, U0, U0]) A at_254 rfl rfl ?_
     refine s_iload (pc' := 258) A at_256 rfl rfl ?_
     refine s_iload (pc' := 260) A at_258 rfl rfl ?_
     refine s_iconst (pc' := 261) (z := (2 : Int32)) A at_260 rfl (by decide) ?_
     refine s_static (pc' := 264) (y := y1_removed) (argsL := [(.int (4 : Int32)), (.int (1 : Int32)), (.int (2 : Int32))]) (rest := []) A (rmd l Z a0 hw n0 h2831 A.size (4 : Int32) (1 : Int32) (2 : Int32) (1 : Int32) (by decide)) (w37 hw) (w38 hw) (w30 hw) (w39 hw) (by decide) pd__III_Z rfl (W := 0) (by decide) (by decide) (Nat.le_of_eq rfl) (by decide) (by decide) rfl rfl at_261 rfl fun T h2848 v2849 A Q2850 => ?_
     obtain ⟨rfl, eh⟩ := Q2850
     rw [eh] at A
     refine Wp.stk (st' := [(.int (1 : Int32))]) rfl ?_
     refine s_istore (pc' := 266) (Ls' := #[iv q0, iv q1, iv q2, iv q3, iv q4, iv q5, iv na, iv nb, iv nc, iv nx, iv 1, iv 2, iv 4, rv b2, iv 1, jv 2, S2, jv 2, S2, jv 3, S2, jv 4, S2, iv 0, iv 0, iv 1, U0, U0]) A at_264 rfl rfl ?_
     refine s_aload (pc' := 268) A at_266 rfl rfl rfl ?_
     refine s_virtual (pc' := 271) (y := y3_isEmpty) (argsL := []) (rest := []) (z := y3_isEmpty) A E2834 (bo_isEmpty54 l Z a0 hw n0 h2831 A.size b2 r11 [.int (0 : Int32), .int (0 : Int32), .int (na + (1 : Int32)), .int (nb + (1 : Int32))] ⟨E2834, F2835, F2836, F2837, V2838, ne2839, ge2840, ge2841⟩) (w13 hw) (w14 hw) (nf_same (C := "") (w16 hw)) (w16 hw) (w15 hw) (w3 hw) (w17 hw) (by decide) pd___Z rfl (W := 0) (by decide) (by decide) (Nat.le_of_eq rfl) (by decide) (by decide) rfl rfl at_268 rfl fun T h2853 v2854 A Q2855 => ?_
     obtain ⟨rfl, K2851, H2852⟩ := Q2855
     obtain ⟨E2856, F2857, F2858, F2859, V2860, ne2861, ge2862, ge2863⟩ := H2852
     refine Wp.stk (st' := [(.int (0 : Int32))]) rfl ?_
     refine s_istore (pc' := 273) (Ls' := #[iv q0, iv q1, iv q2, iv q3, iv q4, iv q5, iv na, iv nb, iv nc, iv nx, iv 1, iv 2, iv 4, rv b2, iv 1, jv 2, S2, jv 2, S2, jv 3, S2, jv 4, S2, iv 0, iv 0, iv 1, iv 0, U0]) A at_271 rfl rfl ?_
     refine s_iload (pc' := 275) A at_273 rfl rfl ?_
     refine s_ifY (pc' := 304) A at_275 (by decide) (by decide) (by decide) ?_
     refine s_iload (pc' := 306) A at_304 rfl rfl ?_
     refine s_ifN (pc' := 309) A at_306 rfl (by decide) ?_
     refine s_iload (pc' := 311) A at_309 rfl rfl ?_
     refine s_istore (pc' := 313) (Ls' := #[iv q0, iv q1, iv q2, iv q3, iv q4, iv q5, iv na, iv nb, iv nc, iv nx, iv 1, iv 2, iv 4, rv b2, iv 1, jv 2, S2, jv 2, S2, jv 3, S2, jv 4, S2, iv 0, iv 0, iv 1, iv 0, iv na]) A at_311 rfl rfl ?_
     refine s_goto (pc' := 332) A at_313 (by decide) (by decide) ?_
     refine s_iload (pc' := 334) A at_332 rfl rfl ?_
     refine s_ifN (pc' := 337) A at_334 rfl (by decide) ?_
     refine s_iload (pc' := 339) A at_337 rfl rfl ?_
     refine s_ifN (pc' := 342) A at_339 rfl (by decide) ?_
     refine s_aload (pc' := 344) A at_342 rfl rfl rfl ?_
     refine s_virtual (pc' := 347) (y := y5_first) (argsL := []) (rest := []) (z := y5_first) A E2856 (bo_first55 l Z a0 hw n0 h2853 A.size b2 r11 (0 : Int32) (0 : Int32) (na + (1 : Int32)) (nb + (1 : Int32)) ⟨E2856, F2857, F2858, F2859, V2860, ne2861, ge2862, ge2863⟩) (w40 hw) (w41 hw) (nf_same (C := "") (w43 hw)) (w43 hw) (w42 hw) (w3 hw) (w44 hw) (by decide) pd___I rfl (W := 0) (by decide) (by decide) (Nat.le_of_eq rfl) (by decide) (by decide) rfl rfl at_344 rfl fun T h2866 v2867 A Q2868 => ?_
     obtain ⟨rfl, K2864, H2865⟩ := Q2868
     obtain ⟨E2869, F2870, F2871, F2872, V2873, ne2874, ge2875, ge2876⟩ := H2865
     refine Wp.stk (st' := [(.int ((na + (1 : Int32)) - (1 : Int32)))]) rfl ?_
     refine s_iload (pc' := 349) A at_347 rfl rfl ?_
     refine s_icmpN (pc' := 352) A at_349 rfl (teq (show ((na + (1 : Int32)) - (1 : Int32)) = na from (by have _ := rng32 na; have _ : (1 : Int32).toInt = 1 := (by decide); have _ := rng32 (na + (1 : Int32)); have _ := c_iadd na (1 : Int32); have _ := rng32 ((na + (1 : Int32)) - (1 : Int32)); have _ := c_isub (na + (1 : Int32)) (1 : Int32); apply Int32.toInt_inj.mp; omega))).2 ?_
     refine s_iconst (pc' := 353) (z := (1 : Int32)) A at_352 rfl (by decide) ?_
     refine s_goto (pc' := 357) A at_353 (by decide) (by decide) ?_
     exact r_bool A rfl (by decide) at_357 (by decide) (by decide) (rfl)
    ·
     refine s_iload (pc' := 176) A at_174 rfl rfl ?_
     refine s_ifN (pc' := 179) A at_176 rfl (by decide) ?_
     refine s_aload (pc' := 181) A at_179 rfl rfl rfl ?_
     refine s_lload (pc' := 183) A at_181 rfl rfl ?_
     refine s_iload (pc' := 185) A at_183 rfl rfl ?_
     refine s_iconst (pc' := 186) (z := (0 : Int32)) A at_185 rfl (by decide) ?_
     refine s_static (pc' := 189) (y := y0_idx) (argsL := [(.int (5 : Int32)), (.int (0 : Int32))]) (rest := [(.long (2 : Int64)), (.ref b2)]) A (idx l Z a0 hw n0 h2576 A.size (5 : Int32) (0 : Int32) (2 : Int32) (by decide)) (w28 hw) (w29 hw) (w30 hw) (w31 hw) (by decide) pd__II_I rfl (W := 3) (by decide) (by decide) (Nat.le_of_eq rfl) (by decide) (by decide) rfl rfl at_186 rfl fun T h2877 v2878 A Q2879 => ?_
     obtain ⟨rfl, eh⟩ := Q2879
     rw [eh] at A
     refine Wp.stk (st' := [(.int (2 : Int32)), (.long (2 : Int64)), (.ref b2)]) rfl ?_
     refine s_i2l (pc' := 190) (z := (2 : Int64)) A at_189 rfl (by decide) ?_
     refine s_ladd (pc' := 191) (z := (4 : Int64)) A at_190 rfl (by decide) ?_
     refine s_virtual (pc' := 194) (y := y6_remove) (argsL := [(.long (4 : Int64))]) (rest := []) (z := y6_remove) A E2579 (bo_remove60 l Z a0 hw n0 h2576 A.size b2 r11 (nc + (1 : Int32)) (na + (1 : Int32)) (nb + (1 : Int32)) ⟨E2579, F2580, F2581, F2582, V2583, ne2584, ge2585, ge2586⟩ znc zna znb) (w32 hw) (w33 hw) (nf_same (C := "") (w35 hw)) (w35 hw) (w34 hw) (w3 hw) (w36 hw) (by decide) pd__J_V rfl (W := 0) (by decide) (by decide) (Nat.le_of_eq rfl) (by decide) (by decide) rfl rfl at_191 rfl fun T h2882 v2883 A Q2884 => ?_
     obtain ⟨rfl, K2880, H2881⟩ := Q2884
     obtain ⟨E2885, F2886, F2887, F2888, V2889, ne2890, ge2891, ge2892⟩ := H2881
     refine Wp.stk (st' := []) rfl ?_
     refine s_iload (pc' := 196) A at_194 rfl rfl ?_
     refine s_iconst (pc' := 197) (z := (1 : Int32)) A at_196 rfl (by decide) ?_
     refine s_icmpY (pc' := 215) A at_197 (by decide) (by decide) (by decide) ?_
     refine s_iload (pc' := 217) A at_215 rfl rfl ?_
     refine s_iconst (pc' := 218) (z := (2 : Int32)) A at_217 rfl (by decide) ?_
     refine s_icmpY (pc' := 236) A at_218 (by decide) (by decide) (by decide) ?_
     refine s_iload (pc' := 238) A at_236 rfl rfl ?_
     refine s_iload (pc' := 240) A at_238 rfl rfl ?_
     refine s_iconst (pc' := 241) (z := (0 : Int32)) A at_240 rfl (by decide) ?_
     refine s_static (pc' := 244) (y := y1_removed) (argsL := [(.int (5 : Int32)), (.int (1 : Int32)), (.int (0 : Int32))]) (rest := []) A (rmd l Z a0 hw n0 h2882 A.size (5 : Int32) (1 : Int32) (0 : Int32) (0 : Int32) (by decide)) (w37 hw) (w38 hw) (w30 hw) (w39 hw) (by decide) pd__III_Z rfl (W := 0) (by decide) (by decide) (Nat.le_of_eq rfl) (by decide) (by decide) rfl rfl at_241 rfl fun T h2893 v2894 A Q2895 => ?_
     obtain ⟨rfl, eh⟩ := Q2895
     rw [eh] at A
     refine Wp.stk (st' := [(.int (0 : Int32))]) rfl ?_
     refine s_istore (pc' := 246) (Ls' := #[iv q0, iv q1, iv q2, iv q3, iv q4, iv q5, iv na, iv nb, iv nc, iv nx, iv 1, iv 2, iv 5, rv b2, iv 1, jv 2, S2, jv 2, S2, jv 3, S2, jv 4, S2, iv 0, U0, U0, U0, U0]) A at_244 rfl rfl ?_
     refine s_iload (pc' := 248) A at_246 rfl rfl ?_
     refine s_iload (pc' := 250) A at_248 rfl rfl ?_
     refine s_iconst (pc' := 251) (z := (1 : Int32)) A at_250 rfl (by decide) ?_
     refine s_static (pc' := 254) (y := y1_removed) (argsL := [(.int (5 : Int32)), (.int (1 : Int32)), (.int (1 : Int32))]) (rest := []) A (rmd l Z a0 hw n0 h2882 A.size (5 : Int32) (1 : Int32) (1 : Int32) (0 : Int32) (by decide)) (w37 hw) (w38 hw) (w30 hw) (w39 hw) (by decide) pd__III_Z rfl (W := 0) (by decide) (by decide) (Nat.le_of_eq rfl) (by decide) (by decide) rfl rfl at_251 rfl fun T h2896 v2897 A Q2898 => ?_
     obtain ⟨rfl, eh⟩ := Q2898
     rw [eh] at A
     refine Wp.stk (st' := [(.int (0 : Int32))]) rfl ?_
     refine s_istore (pc' := 256) (Ls' := #[iv q0, iv q1, iv q2, iv q3, iv q4, iv q5, iv na, iv nb, iv nc, iv nx, iv 1, iv 2, iv 5, rv b2, iv 1, jv 2, S2, jv 2, S2, jv 3, S2, jv 4, S2, iv 0, iv 0, U0, U0, U0]) A at_254 rfl rfl ?_
     refine s_iload (pc' := 258) A at_256 rfl rfl ?_
     refine s_iload (pc' := 260) A at_258 rfl rfl ?_
     refine s_iconst (pc' := 261) (z := (2 : Int32)) A at_260 rfl (by decide) ?_
     refine s_static (pc' := 264) (y := y1_removed) (argsL := [(.int (5 : Int32)), (.int (1 : Int32)), (.int (2 : Int32))]) (rest := []) A (rmd l Z a0 hw n0 h2882 A.size (5 : Int32) (1 : Int32) (2 : Int32) (1 : Int32) (by decide)) (w37 hw) (w38 hw) (w30 hw) (w39 hw) (by decide) pd__III_Z rfl (W := 0) (by decide) (by decide) (Nat.le_of_eq rfl) (by decide) (by decide) rfl rfl at_261 rfl fun T h2899 v2900 A Q2901 => ?_
     obtain ⟨rfl, eh⟩ := Q2901
     rw [eh] at A
     refine Wp.stk (st' := [(.int (1 : Int32))]) rfl ?_
     refine s_istore (pc' := 266) (Ls' := #[iv q0, iv q1, iv q2, iv q3, iv q4, iv q5, iv na, iv nb, iv nc, iv nx, iv 1, iv 2, iv 5, rv b2, iv 1, jv 2, S2, jv 2, S2, jv 3, S2, jv 4, S2, iv 0, iv 0, iv 1, U0, U0]) A at_264 rfl rfl ?_
     refine s_aload (pc' := 268) A at_266 rfl rfl rfl ?_
     refine s_virtual (pc' := 271) (y := y3_isEmpty) (argsL := []) (rest := []) (z := y3_isEmpty) A E2885 (bo_isEmpty54 l Z a0 hw n0 h2882 A.size b2 r11 [.int (0 : Int32), .int (0 : Int32), .int (na + (1 : Int32)), .int (nb + (1 : Int32))] ⟨E2885, F2886, F2887, F2888, V2889, ne2890, ge2891, ge2892⟩) (w13 hw) (w14 hw) (nf_same (C := "") (w16 hw)) (w16 hw) (w15 hw) (w3 hw) (w17 hw) (by decide) pd___Z rfl (W := 0) (by decide) (by decide) (Nat.le_of_eq rfl) (by decide) (by decide) rfl rfl at_268 rfl fun T h2904 v2905 A Q2906 => ?_
     obtain ⟨rfl, K2902, H2903⟩ := Q2906
     obtain ⟨E2907, F2908, F2909, F2910, V2911, ne2912, ge2913, ge2914⟩ := H2903
     refine Wp.stk (st' := [(.int (0 : Int32))]) rfl ?_
     refine s_istore (pc' := 273) (Ls' := #[iv q0, iv q1, iv q2, iv q3, iv q4, iv q5, iv na, iv nb, iv nc, iv nx, iv 1, iv 2, iv 5, rv b2, iv 1, jv 2, S2, jv 2, S2, jv 3, S2, jv 4, S2, iv 0, iv 0, iv 1, iv 0, U0]) A at_271 rfl rfl ?_
     refine s_iload (pc' := 275) A at_273 rfl rfl ?_
     refine s_ifY (pc' := 304) A at_275 (by decide) (by decide) (by decide) ?_
     refine s_iload (pc' := 306) A at_304 rfl rfl ?_
     refine s_ifN (pc' := 309) A at_306 rfl (by decide) ?_
     refine s_iload (pc' := 311) A at_309 rfl rfl ?_
     refine s_istore (pc' := 313) (Ls' := #[iv q0, iv q1, iv q2, iv q3, iv q4, iv q5, iv na, iv nb, iv nc, iv nx, iv 1, iv 2, iv 5, rv b2, iv 1, jv 2, S2, jv 2, S2, jv 3, S2, jv 4, S2, iv 0, iv 0, iv 1, iv 0, iv na]) A at_311 rfl rfl ?_
     refine s_goto (pc' := 332) A at_313 (by decide) (by decide) ?_
     refine s_iload (pc' := 334) A at_332 rfl rfl ?_
     refine s_ifN (pc' := 337) A at_334 rfl (by decide) ?_
     refine s_iload (pc' := 339) A at_337 rfl rfl ?_
     refine s_ifN (pc' := 342) A at_339 rfl (by decide) ?_
     refine s_aload (pc' := 344) A at_342 rfl rfl rfl ?_
     refine s_virtual (pc' := 347) (y := y5_first) (argsL := []) (rest := []) (z := y5_first) A E2907 (bo_first55 l Z a0 hw n0 h2904 A.size b2 r11 (0 : Int32) (0 : Int32) (na + (1 : Int32)) (nb + (1 : Int32)) ⟨E2907, F2908, F2909, F2910, V2911, ne2912, ge2913, ge2914⟩) (w40 hw) (w41 hw) (nf_same (C := "") (w43 hw)) (w43 hw) (w42 hw) (w3 hw) (w44 hw) (by decide) pd___I rfl (W := 0) (by decide) (by decide) (Nat.le_of_eq rfl) (by decide) (by decide) rfl rfl at_344 rfl fun T h2917 v2918 A Q2919 => ?_
     obtain ⟨rfl, K2915, H2916⟩ := Q2919
     obtain ⟨E2920, F2921, F2922, F2923, V2924, ne2925, ge2926, ge2927⟩ := H2916
     refine Wp.stk (st' := [(.int ((na + (1 : Int32)) - (1 : Int32)))]) rfl ?_
     refine s_iload (pc' := 349) A at_347 rfl rfl ?_
     refine s_icmpN (pc' := 352) A at_349 rfl (teq (show ((na + (1 : Int32)) - (1 : Int32)) = na from (by have _ := rng32 na; have _ : (1 : Int32).toInt = 1 := (by decide); have _ := rng32 (na + (1 : Int32)); have _ := c_iadd na (1 : Int32); have _ := rng32 ((na + (1 : Int32)) - (1 : Int32)); have _ := c_isub (na + (1 : Int32)) (1 : Int32); apply Int32.toInt_inj.mp; omega))).2 ?_
     refine s_iconst (pc' := 353) (z := (1 : Int32)) A at_352 rfl (by decide) ?_
     refine s_goto (pc' := 357) A at_353 (by decide) (by decide) ?_
     exact r_bool A rfl (by decide) at_357 (by decide) (by decide) (rfl)
   ·
    rcases cpp with rfl | rfl | rfl | rfl | rfl | rfl
    ·
     refine s_iload (pc' := 176) A at_174 rfl rfl ?_
     refine s_ifN (pc' := 179) A at_176 rfl (by decide) ?_
     refine s_aload (pc' := 181) A at_179 rfl rfl rfl ?_
     refine s_lload (pc' := 183) A at_181 rfl rfl ?_
     refine s_iload (pc' := 185) A at_183 rfl rfl ?_
     refine s_iconst (pc' := 186) (z := (0 : Int32)) A at_185 rfl (by decide) ?_
     refine s_static (pc' := 189) (y := y0_idx) (argsL := [(.int (0 : Int32)), (.int (0 : Int32))]) (rest := [(.long (2 : Int64)), (.ref b2)]) A (idx l Z a0 hw n0 h2576 A.size (0 : Int32) (0 : Int32) (0 : Int32) (by decide)) (w28 hw) (w29 hw) (w30 hw) (w31 hw) (by decide) pd__II_I rfl (W := 3) (by decide) (by decide) (Nat.le_of_eq rfl) (by decide) (by decide) rfl rfl at_186 rfl fun T h2928 v2929 A Q2930 => ?_
     obtain ⟨rfl, eh⟩ := Q2930
     rw [eh] at A
     refine Wp.stk (st' := [(.int (0 : Int32)), (.long (2 : Int64)), (.ref b2)]) rfl ?_
     refine s_i2l (pc' := 190) (z := (0 : Int64)) A at_189 rfl (by decide) ?_
     refine s_ladd (pc' := 191) (z := (2 : Int64)) A at_190 rfl (by decide) ?_
     refine s_virtual (pc' := 194) (y := y6_remove) (argsL := [(.long (2 : Int64))]) (rest := []) (z := y6_remove) A E2579 (bo_remove56 l Z a0 hw n0 h2576 A.size b2 r11 (nc + (1 : Int32)) (na + (1 : Int32)) (nb + (1 : Int32)) ⟨E2579, F2580, F2581, F2582, V2583, ne2584, ge2585, ge2586⟩ znc zna znb) (w32 hw) (w33 hw) (nf_same (C := "") (w35 hw)) (w35 hw) (w34 hw) (w3 hw) (w36 hw) (by decide) pd__J_V rfl (W := 0) (by decide) (by decide) (Nat.le_of_eq rfl) (by decide) (by decide) rfl rfl at_191 rfl fun T h2933 v2934 A Q2935 => ?_
     obtain ⟨rfl, K2931, H2932⟩ := Q2935
     obtain ⟨E2936, F2937, F2938, F2939, V2940, ne2941, ge2942, ge2943⟩ := H2932
     refine Wp.stk (st' := []) rfl ?_
     refine s_iload (pc' := 196) A at_194 rfl rfl ?_
     refine s_iconst (pc' := 197) (z := (1 : Int32)) A at_196 rfl (by decide) ?_
     refine s_icmpN (pc' := 200) A at_197 rfl (by decide) ?_
     refine s_aload (pc' := 202) A at_200 rfl rfl rfl ?_
     refine s_lload (pc' := 204) A at_202 rfl rfl ?_
     refine s_iload (pc' := 206) A at_204 rfl rfl ?_
     refine s_iconst (pc' := 207) (z := (1 : Int32)) A at_206 rfl (by decide) ?_
     refine s_static (pc' := 210) (y := y0_idx) (argsL := [(.int (0 : Int32)), (.int (1 : Int32))]) (rest := [(.long (2 : Int64)), (.ref b2)]) A (idx l Z a0 hw n0 h2933 A.size (0 : Int32) (1 : Int32) (1 : Int32) (by decide)) (w28 hw) (w29 hw) (w30 hw) (w31 hw) (by decide) pd__II_I rfl (W := 3) (by decide) (by decide) (Nat.le_of_eq rfl) (by decide) (by decide) rfl rfl at_207 rfl fun T h2944 v2945 A Q2946 => ?_
     obtain ⟨rfl, eh⟩ := Q2946
     rw [eh] at A
     refine Wp.stk (st' := [(.int (1 : Int32)), (.long (2 : Int64)), (.ref b2)]) rfl ?_
     refine s_i2l (pc' := 211) (z := (1 : Int64)) A at_210 rfl (by decide) ?_
     refine s_ladd (pc' := 212) (z := (3 : Int64)) A at_211 rfl (by decide) ?_
     refine s_virtual (pc' := 215) (y := y6_remove) (argsL := [(.long (3 : Int64))]) (rest := []) (z := y6_remove) A E2936 (bo_remove61 l Z a0 hw n0 h2933 A.size b2 r11 (nc + (1 : Int32)) (nb + (1 : Int32)) ⟨E2936, F2937, F2938, F2939, V2940, ne2941, ge2942, ge2943⟩ znc znb) (w32 hw) (w33 hw) (nf_same (C := "") (w35 hw)) (w35 hw) (w34 hw) (w3 hw) (w36 hw) (by decide) pd__J_V rfl (W := 0) (by decide) (by decide) (Nat.le_of_eq rfl) (by decide) (by decide) rfl rfl at_212 rfl fun T h2949 v2950 A Q2951 => ?_
     obtain ⟨rfl, K2947, H2948⟩ := Q2951
     obtain ⟨E2952, F2953, F2954, F2955, V2956, ne2957, ge2958, ge2959⟩ := H2948
     refine Wp.stk (st' := []) rfl ?_
     refine s_iload (pc' := 217) A at_215 rfl rfl ?_
     refine s_iconst (pc' := 218) (z := (2 : Int32)) A at_217 rfl (by decide) ?_
     refine s_icmpY (pc' := 236) A at_218 (by decide) (by decide) (by decide) ?_
     refine s_iload (pc' := 238) A at_236 rfl rfl ?_
     refine s_iload (pc' := 240) A at_238 rfl rfl ?_
     refine s_iconst (pc' := 241) (z := (0 : Int32)) A at_240 rfl (by decide) ?_
     refine s_static (pc' := 244) (y := y1_removed) (argsL := [(.int (0 : Int32)), (.int (2 : Int32)), (.int (0 : Int32))]) (rest := []) A (rmd l Z a0 hw n0 h2949 A.size (0 : Int32) (2 : Int32) (0 : Int32) (1 : Int32) (by decide)) (w37 hw) (w38 hw) (w30 hw) (w39 hw) (by decide) pd__III_Z rfl (W := 0) (by decide) (by decide) (Nat.le_of_eq rfl) (by decide) (by decide) rfl rfl at_241 rfl fun T h2960 v2961 A Q2962 => ?_
     obtain ⟨rfl, eh⟩ := Q2962
     rw [eh] at A
     refine Wp.stk (st' := [(.int (1 : Int32))]) rfl ?_
     refine s_istore (pc' := 246) (Ls' := #[iv q0, iv q1, iv q2, iv q3, iv q4, iv q5, iv na, iv nb, iv nc, iv nx, iv 2, iv 2, iv 0, rv b2, iv 1, jv 2, S2, jv 2, S2, jv 3, S2, jv 4, S2, iv 1, U0, U0, U0, U0]) A at_244 rfl rfl ?_
     refine s_iload (pc' := 248) A at_246 rfl rfl ?_
     refine s_iload (pc' := 250) A at_248 rfl rfl ?_
     refine s_iconst (pc' := 251) (z := (1 : Int32)) A at_250 rfl (by decide) ?_
     refine s_static (pc' := 254) (y := y1_removed) (argsL := [(.int (0 : Int32)), (.int (2 : Int32)), (.int (1 : Int32))]) (rest := []) A (rmd l Z a0 hw n0 h2949 A.size (0 : Int32) (2 : Int32) (1 : Int32) (1 : Int32) (by decide)) (w37 hw) (w38 hw) (w30 hw) (w39 hw) (by decide) pd__III_Z rfl (W := 0) (by decide) (by decide) (Nat.le_of_eq rfl) (by decide) (by decide) rfl rfl at_251 rfl fun T h2963 v2964 A Q2965 => ?_
     obtain ⟨rfl, eh⟩ := Q2965
     rw [eh] at A
     refine Wp.stk (st' := [(.int (1 : Int32))]) rfl ?_
     refine s_istore (pc' := 256) (Ls' := #[iv q0, iv q1, iv q2, iv q3, iv q4, iv q5, iv na, iv nb, iv nc, iv nx, iv 2, iv 2, iv 0, rv b2, iv 1, jv 2, S2, jv 2, S2, jv 3, S2, jv 4, S2, iv 1, iv 1, U0, U0, U0]) A at_254 rfl rfl ?_
     refine s_iload (pc' := 258) A at_256 rfl rfl ?_
     refine s_iload (pc' := 260) A at_258 rfl rfl ?_
     refine s_iconst (pc' := 261) (z := (2 : Int32)) A at_260 rfl (by decide) ?_
     refine s_static (pc' := 264) (y := y1_removed) (argsL := [(.int (0 : Int32)), (.int (2 : Int32)), (.int (2 : Int32))]) (rest := []) A (rmd l Z a0 hw n0 h2949 A.size (0 : Int32) (2 : Int32) (2 : Int32) (0 : Int32) (by decide)) (w37 hw) (w38 hw) (w30 hw) (w39 hw) (by decide) pd__III_Z rfl (W := 0) (by decide) (by decide) (Nat.le_of_eq rfl) (by decide) (by decide) rfl rfl at_261 rfl fun T h2966 v2967 A Q2968 => ?_
     obtain ⟨rfl, eh⟩ := Q2968
     rw [eh] at A
     refine Wp.stk (st' := [(.int (0 : Int32))]) rfl ?_
     refine s_istore (pc' := 266) (Ls' := #[iv q0, iv q1, iv q2, iv q3, iv q4, iv q5, iv na, iv nb, iv nc, iv nx, iv 2, iv 2, iv 0, rv b2, iv 1, jv 2, S2, jv 2, S2, jv 3, S2, jv 4, S2, iv 1, iv 1, iv 0, U0, U0]) A at_264 rfl rfl ?_
     refine s_aload (pc' := 268) A at_266 rfl rfl rfl ?_
     refine s_virtual (pc' := 271) (y := y3_isEmpty) (argsL := []) (rest := []) (z := y3_isEmpty) A E2952 (bo_isEmpty62 l Z a0 hw n0 h2949 A.size b2 r11 [.int (nc + (1 : Int32)), .int (0 : Int32), .int (0 : Int32), .int (0 : Int32)] ⟨E2952, F2953, F2954, F2955, V2956, ne2957, ge2958, ge2959⟩) (w13 hw) (w14 hw) (nf_same (C := "") (w16 hw)) (w16 hw) (w15 hw) (w3 hw) (w17 hw) (by decide) pd___Z rfl (W := 0) (by decide) (by decide) (Nat.le_of_eq rfl) (by decide) (by decide) rfl rfl at_268 rfl fun T h2971 v2972 A Q2973 => ?_
     obtain ⟨rfl, K2969, H2970⟩ := Q2973
     obtain ⟨E2974, F2975, F2976, F2977, V2978, ne2979, ge2980, ge2981⟩ := H2970
     refine Wp.stk (st' := [(.int (0 : Int32))]) rfl ?_
     refine s_istore (pc' := 273) (Ls' := #[iv q0, iv q1, iv q2, iv q3, iv q4, iv q5, iv na, iv nb, iv nc, iv nx, iv 2, iv 2, iv 0, rv b2, iv 1, jv 2, S2, jv 2, S2, jv 3, S2, jv 4, S2, iv 1, iv 1, iv 0, iv 0, U0]) A at_271 rfl rfl ?_
     refine s_iload (pc' := 275) A at_273 rfl rfl ?_
     refine s_ifN (pc' := 278) A at_275 rfl (by decide) ?_
     refine s_iload (pc' := 280) A at_278 rfl rfl ?_
     refine s_ifN (pc' := 283) A at_280 rfl (by decide) ?_
     refine s_iload (pc' := 285) A at_283 rfl rfl ?_
     refine s_ifY (pc' := 304) A at_285 (by decide) (by decide) (by decide) ?_
     refine s_iload (pc' := 306) A at_304 rfl rfl ?_
     refine s_ifY (pc' := 316) A at_306 (by decide) (by decide) (by decide) ?_
     refine s_iload (pc' := 318) A at_316 rfl rfl ?_
     refine s_ifY (pc' := 328) A at_318 (by decide) (by decide) (by decide) ?_
     refine s_iload (pc' := 330) A at_328 rfl rfl ?_
     refine s_istore (pc' := 332) (Ls' := #[iv q0, iv q1, iv q2, iv q3, iv q4, iv q5, iv na, iv nb, iv nc, iv nx, iv 2, iv 2, iv 0, rv b2, iv 1, jv 2, S2, jv 2, S2, jv 3, S2, jv 4, S2, iv 1, iv 1, iv 0, iv 0, iv nc]) A at_330 rfl rfl ?_
     refine s_iload (pc' := 334) A at_332 rfl rfl ?_
     refine s_ifN (pc' := 337) A at_334 rfl (by decide) ?_
     refine s_iload (pc' := 339) A at_337 rfl rfl ?_
     refine s_ifN (pc' := 342) A at_339 rfl (by decide) ?_
     refine s_aload (pc' := 344) A at_342 rfl rfl rfl ?_
     refine s_virtual (pc' := 347) (y := y5_first) (argsL := []) (rest := []) (z := y5_first) A E2974 (bo_first63 l Z a0 hw n0 h2971 A.size b2 r11 (nc + (1 : Int32)) (0 : Int32) (0 : Int32) (0 : Int32) ⟨E2974, F2975, F2976, F2977, V2978, ne2979, ge2980, ge2981⟩) (w40 hw) (w41 hw) (nf_same (C := "") (w43 hw)) (w43 hw) (w42 hw) (w3 hw) (w44 hw) (by decide) pd___I rfl (W := 0) (by decide) (by decide) (Nat.le_of_eq rfl) (by decide) (by decide) rfl rfl at_344 rfl fun T h2984 v2985 A Q2986 => ?_
     obtain ⟨rfl, K2982, H2983⟩ := Q2986
     obtain ⟨E2987, F2988, F2989, F2990, V2991, ne2992, ge2993, ge2994⟩ := H2983
     refine Wp.stk (st' := [(.int ((nc + (1 : Int32)) - (1 : Int32)))]) rfl ?_
     refine s_iload (pc' := 349) A at_347 rfl rfl ?_
     refine s_icmpN (pc' := 352) A at_349 rfl (teq (show ((nc + (1 : Int32)) - (1 : Int32)) = nc from (by have _ := rng32 nc; have _ : (1 : Int32).toInt = 1 := (by decide); have _ := rng32 (nc + (1 : Int32)); have _ := c_iadd nc (1 : Int32); have _ := rng32 ((nc + (1 : Int32)) - (1 : Int32)); have _ := c_isub (nc + (1 : Int32)) (1 : Int32); apply Int32.toInt_inj.mp; omega))).2 ?_
     refine s_iconst (pc' := 353) (z := (1 : Int32)) A at_352 rfl (by decide) ?_
     refine s_goto (pc' := 357) A at_353 (by decide) (by decide) ?_
     exact r_bool A rfl (by decide) at_357 (by decide) (by decide) (rfl)
    ·
     refine s_iload (pc' := 176) A at_174 rfl rfl ?_
     refine s_ifN (pc' := 179) A at_176 rfl (by decide) ?_
     refine s_aload (pc' := 181) A at_179 rfl rfl rfl ?_
     refine s_lload (pc' := 183) A at_181 rfl rfl ?_
     refine s_iload (pc' := 185) A at_183 rfl rfl ?_
     refine s_iconst (pc' := 186) (z := (0 : Int32)) A at_185 rfl (by decide) ?_
     refine s_static (pc' := 189) (y := y0_idx) (argsL := [(.int (1 : Int32)), (.int (0 : Int32))]) (rest := [(.long (2 : Int64)), (.ref b2)]) A (idx l Z a0 hw n0 h2576 A.size (1 : Int32) (0 : Int32) (0 : Int32) (by decide)) (w28 hw) (w29 hw) (w30 hw) (w31 hw) (by decide) pd__II_I rfl (W := 3) (by decide) (by decide) (Nat.le_of_eq rfl) (by decide) (by decide) rfl rfl at_186 rfl fun T h2995 v2996 A Q2997 => ?_
     obtain ⟨rfl, eh⟩ := Q2997
     rw [eh] at A
     refine Wp.stk (st' := [(.int (0 : Int32)), (.long (2 : Int64)), (.ref b2)]) rfl ?_
     refine s_i2l (pc' := 190) (z := (0 : Int64)) A at_189 rfl (by decide) ?_
     refine s_ladd (pc' := 191) (z := (2 : Int64)) A at_190 rfl (by decide) ?_
     refine s_virtual (pc' := 194) (y := y6_remove) (argsL := [(.long (2 : Int64))]) (rest := []) (z := y6_remove) A E2579 (bo_remove56 l Z a0 hw n0 h2576 A.size b2 r11 (nc + (1 : Int32)) (na + (1 : Int32)) (nb + (1 : Int32)) ⟨E2579, F2580, F2581, F2582, V2583, ne2584, ge2585, ge2586⟩ znc zna znb) (w32 hw) (w33 hw) (nf_same (C := "") (w35 hw)) (w35 hw) (w34 hw) (w3 hw) (w36 hw) (by decide) pd__J_V rfl (W := 0) (by decide) (by decide) (Nat.le_of_eq rfl) (by decide) (by decide) rfl rfl at_191 rfl fun T h3000 v3001 A Q3002 => ?_
     obtain ⟨rfl, K2998, H2999⟩ := Q3002
     obtain ⟨E3003, F3004, F3005, F3006, V3007, ne3008, ge3009, ge3010⟩ := H2999
     refine Wp.stk (st' := []) rfl ?_
     refine s_iload (pc' := 196) A at_194 rfl rfl ?_
     refine s_iconst (pc' := 197) (z := (1 : Int32)) A at_196 rfl (by decide) ?_
     refine s_icmpN (pc' := 200) A at_197 rfl (by decide) ?_
     refine s_aload (pc' := 202) A at_200 rfl rfl rfl ?_
     refine s_lload (pc' := 204) A at_202 rfl rfl ?_
     refine s_iload (pc' := 206) A at_204 rfl rfl ?_
     refine s_iconst (pc' := 207) (z := (1 : Int32)) A at_206 rfl (by decide) ?_
     refine s_static (pc' := 210) (y := y0_idx) (argsL := [(.int (1 : Int32)), (.int (1 : Int32))]) (rest := [(.long (2 : Int64)), (.ref b2)]) A (idx l Z a0 hw n0 h3000 A.size (1 : Int32) (1 : Int32) (2 : Int32) (by decide)) (w28 hw) (w29 hw) (w30 hw) (w31 hw) (by decide) pd__II_I rfl (W := 3) (by decide) (by decide) (Nat.le_of_eq rfl) (by decide) (by decide) rfl rfl at_207 rfl fun T h3011 v3012 A Q3013 => ?_
     obtain ⟨rfl, eh⟩ := Q3013
     rw [eh] at A
     refine Wp.stk (st' := [(.int (2 : Int32)), (.long (2 : Int64)), (.ref b2)]) rfl ?_
     refine s_i2l (pc' := 211) (z := (2 : Int64)) A at_210 rfl (by decide) ?_
     refine s_ladd (pc' := 212) (z := (4 : Int64)) A at_211 rfl (by decide) ?_
     refine s_virtual (pc' := 215) (y := y6_remove) (argsL := [(.long (4 : Int64))]) (rest := []) (z := y6_remove) A E3003 (bo_remove64 l Z a0 hw n0 h3000 A.size b2 r11 (nc + (1 : Int32)) (nb + (1 : Int32)) ⟨E3003, F3004, F3005, F3006, V3007, ne3008, ge3009, ge3010⟩ znc znb) (w32 hw) (w33 hw) (nf_same (C := "") (w35 hw)) (w35 hw) (w34 hw) (w3 hw) (w36 hw) (by decide) pd__J_V rfl (W := 0) (by decide) (by decide) (Nat.le_of_eq rfl) (by decide) (by decide) rfl rfl at_212 rfl fun T h3016 v3017 A Q3018 => ?_
     obtain ⟨rfl, K3014, H3015⟩ := Q3018
     obtain ⟨E3019, F3020, F3021, F3022, V3023, ne3024, ge3025, ge3026⟩ := H3015
     refine Wp.stk (st' := []) rfl ?_
     refine s_iload (pc' := 217) A at_215 rfl rfl ?_
     refine s_iconst (pc' := 218) (z := (2 : Int32)) A at_217 rfl (by decide) ?_
     refine s_icmpY (pc' := 236) A at_218 (by decide) (by decide) (by decide) ?_
     refine s_iload (pc' := 238) A at_236 rfl rfl ?_
     refine s_iload (pc' := 240) A at_238 rfl rfl ?_
     refine s_iconst (pc' := 241) (z := (0 : Int32)) A at_240 rfl (by decide) ?_
     refine s_static (pc' := 244) (y := y1_removed) (argsL := [(.int (1 : Int32)), (.int (2 : Int32)), (.int (0 : Int32))]) (rest := []) A (rmd l Z a0 hw n0 h3016 A.size (1 : Int32) (2 : Int32) (0 : Int32) (1 : Int32) (by decide)) (w37 hw) (w38 hw) (w30 hw) (w39 hw) (by decide) pd__III_Z rfl (W := 0) (by decide) (by decide) (Nat.le_of_eq rfl) (by decide) (by decide) rfl rfl at_241 rfl fun T h3027 v3028 A Q3029 => ?_
     obtain ⟨rfl, eh⟩ := Q3029
     rw [eh] at A
     refine Wp.stk (st' := [(.int (1 : Int32))]) rfl ?_
     refine s_istore (pc' := 246) (Ls' := #[iv q0, iv q1, iv q2, iv q3, iv q4, iv q5, iv na, iv nb, iv nc, iv nx, iv 2, iv 2, iv 1, rv b2, iv 1, jv 2, S2, jv 2, S2, jv 3, S2, jv 4, S2, iv 1, U0, U0, U0, U0]) A at_244 rfl rfl ?_
     refine s_iload (pc' := 248) A at_246 rfl rfl ?_
     refine s_iload (pc' := 250) A at_248 rfl rfl ?_
     refine s_iconst (pc' := 251) (z := (1 : Int32)) A at_250 rfl (by decide) ?_
     refine s_static (pc' := 254) (y := y1_removed) (argsL := [(.int (1 : Int32)), (.int (2 : Int32)), (.int (1 : Int32))]) (rest := []) A (rmd l Z a0 hw n0 h3016 A.size (1 : Int32) (2 : Int32) (1 : Int32) (0 : Int32) (by decide)) (w37 hw) (w38 hw) (w30 hw) (w39 hw) (by decide) pd__III_Z rfl (W := 0) (by decide) (by decide) (Nat.le_of_eq rfl) (by decide) (by decide) rfl rfl at_251 rfl fun T h3030 v3031 A Q3032 => ?_
     obtain ⟨rfl, eh⟩ := Q3032
     rw [eh] at A
     refine Wp.stk (st' := [(.int (0 : Int32))]) rfl ?_
     refine s_istore (pc' := 256) (Ls' := #[iv q0, iv q1, iv q2, iv q3, iv q4, iv q5, iv na, iv nb, iv nc, iv nx, iv 2, iv 2, iv 1, rv b2, iv 1, jv 2, S2, jv 2, S2, jv 3, S2, jv 4, S2, iv 1, iv 0, U0, U0, U0]) A at_254 rfl rfl ?_
     refine s_iload (pc' := 258) A at_256 rfl rfl ?_
     refine s_iload (pc' := 260) A at_258 rfl rfl ?_
     refine s_iconst (pc' := 261) (z := (2 : Int32)) A at_260 rfl (by decide) ?_
     refine s_static (pc' := 264) (y := y1_removed) (argsL := [(.int (1 : Int32)), (.int (2 : Int32)), (.int (2 : Int32))]) (rest := []) A (rmd l Z a0 hw n0 h3016 A.size (1 : Int32) (2 : Int32) (2 : Int32) (1 : Int32) (by decide)) (w37 hw) (w38 hw) (w30 hw) (w39 hw) (by decide) pd__III_Z rfl (W := 0) (by decide) (by decide) (Nat.le_of_eq rfl) (by decide) (by decide) rfl rfl at_261 rfl fun T h3033 v3034 A Q3035 => ?_
     obtain ⟨rfl, eh⟩ := Q3035
     rw [eh] at A
     refine Wp.stk (st' := [(.int (1 : Int32))]) rfl ?_
     refine s_istore (pc' := 266) (Ls' := #[iv q0, iv q1, iv q2, iv q3, iv q4, iv q5, iv na, iv nb, iv nc, iv nx, iv 2, iv 2, iv 1, rv b2, iv 1, jv 2, S2, jv 2, S2, jv 3, S2, jv 4, S2, iv 1, iv 0, iv 1, U0, U0]) A at_264 rfl rfl ?_
     refine s_aload (pc' := 268) A at_266 rfl rfl rfl ?_
     refine s_virtual (pc' := 271) (y := y3_isEmpty) (argsL := []) (rest := []) (z := y3_isEmpty) A E3019 (bo_isEmpty57 l Z a0 hw n0 h3016 A.size b2 r11 [.int (0 : Int32), .int (0 : Int32), .int (0 : Int32), .int (nb + (1 : Int32))] ⟨E3019, F3020, F3021, F3022, V3023, ne3024, ge3025, ge3026⟩) (w13 hw) (w14 hw) (nf_same (C := "") (w16 hw)) (w16 hw) (w15 hw) (w3 hw) (w17 hw) (by decide) pd___Z rfl (W := 0) (by decide) (by decide) (Nat.le_of_eq rfl) (by decide) (by decide) rfl rfl at_268 rfl fun T h3038 v3039 A Q3040 => ?_
     obtain ⟨rfl, K3036, H3037⟩ := Q3040
     obtain ⟨E3041, F3042, F3043, F3044, V3045, ne3046, ge3047, ge3048⟩ := H3037
     refine Wp.stk (st' := [(.int (0 : Int32))]) rfl ?_
     refine s_istore (pc' := 273) (Ls' := #[iv q0, iv q1, iv q2, iv q3, iv q4, iv q5, iv na, iv nb, iv nc, iv nx, iv 2, iv 2, iv 1, rv b2, iv 1, jv 2, S2, jv 2, S2, jv 3, S2, jv 4, S2, iv 1, iv 0, iv 1, iv 0, U0]) A at_271 rfl rfl ?_
     refine s_iload (pc' := 275) A at_273 rfl rfl ?_
     refine s_ifN (pc' := 278) A at_275 rfl (by decide) ?_
     refine s_iload (pc' := 280) A at_278 rfl rfl ?_
     refine s_ifY (pc' := 304) A at_280 (by decide) (by decide) (by decide) ?_
     refine s_iload (pc' := 306) A at_304 rfl rfl ?_
     refine s_ifY (pc' := 316) A at_306 (by decide) (by decide) (by decide) ?_
     refine s_iload (pc' := 318) A at_316 rfl rfl ?_
     refine s_ifN (pc' := 321) A at_318 rfl (by decide) ?_
     refine s_iload (pc' := 323) A at_321 rfl rfl ?_
     refine s_istore (pc' := 325) (Ls' := #[iv q0, iv q1, iv q2, iv q3, iv q4, iv q5, iv na, iv nb, iv nc, iv nx, iv 2, iv 2, iv 1, rv b2, iv 1, jv 2, S2, jv 2, S2, jv 3, S2, jv 4, S2, iv 1, iv 0, iv 1, iv 0, iv nb]) A at_323 rfl rfl ?_
     refine s_goto (pc' := 332) A at_325 (by decide) (by decide) ?_
     refine s_iload (pc' := 334) A at_332 rfl rfl ?_
     refine s_ifN (pc' := 337) A at_334 rfl (by decide) ?_
     refine s_iload (pc' := 339) A at_337 rfl rfl ?_
     refine s_ifN (pc' := 342) A at_339 rfl (by decide) ?_
     refine s_aload (pc' := 344) A at_342 rfl rfl rfl ?_
     refine s_virtual (pc' := 347) (y := y5_first) (argsL := []) (rest := []) (z := y5_first) A E3041 (bo_first58 l Z a0 hw n0 h3038 A.size b2 r11 (0 : Int32) (0 : Int32) (0 : Int32) (nb + (1 : Int32)) ⟨E3041, F3042, F3043, F3044, V3045, ne3046, ge3047, ge3048⟩) (w40 hw) (w41 hw) (nf_same (C := "") (w43 hw)) (w43 hw) (w42 hw) (w3 hw) (w44 hw) (by decide) pd___I rfl (W := 0) (by decide) (by decide) (Nat.le_of_eq rfl) (by decide) (by decide) rfl rfl at_344 rfl fun T h3051 v3052 A Q3053 => ?_
     obtain ⟨rfl, K3049, H3050⟩ := Q3053
     obtain ⟨E3054, F3055, F3056, F3057, V3058, ne3059, ge3060, ge3061⟩ := H3050
     refine Wp.stk (st' := [(.int ((nb + (1 : Int32)) - (1 : Int32)))]) rfl ?_
     refine s_iload (pc' := 349) A at_347 rfl rfl ?_
     refine s_icmpN (pc' := 352) A at_349 rfl (teq (show ((nb + (1 : Int32)) - (1 : Int32)) = nb from (by have _ := rng32 nb; have _ : (1 : Int32).toInt = 1 := (by decide); have _ := rng32 (nb + (1 : Int32)); have _ := c_iadd nb (1 : Int32); have _ := rng32 ((nb + (1 : Int32)) - (1 : Int32)); have _ := c_isub (nb + (1 : Int32)) (1 : Int32); apply Int32.toInt_inj.mp; omega))).2 ?_
     refine s_iconst (pc' := 353) (z := (1 : Int32)) A at_352 rfl (by decide) ?_
     refine s_goto (pc' := 357) A at_353 (by decide) (by decide) ?_
     exact r_bool A rfl (by decide) at_357 (by decide) (by decide) (rfl)
    ·
     refine s_iload (pc' := 176) A at_174 rfl rfl ?_
     refine s_ifN (pc' := 179) A at_176 rfl (by decide) ?_
     refine s_aload (pc' := 181) A at_179 rfl rfl rfl ?_
     refine s_lload (pc' := 183) A at_181 rfl rfl ?_
     refine s_iload (pc' := 185) A at_183 rfl rfl ?_
     refine s_iconst (pc' := 186) (z := (0 : Int32)) A at_185 rfl (by decide) ?_
     refine s_static (pc' := 189) (y := y0_idx) (argsL := [(.int (2 : Int32)), (.int (0 : Int32))]) (rest := [(.long (2 : Int64)), (.ref b2)]) A (idx l Z a0 hw n0 h2576 A.size (2 : Int32) (0 : Int32) (1 : Int32) (by decide)) (w28 hw) (w29 hw) (w30 hw) (w31 hw) (by decide) pd__II_I rfl (W := 3) (by decide) (by decide) (Nat.le_of_eq rfl) (by decide) (by decide) rfl rfl at_186 rfl fun T h3062 v3063 A Q3064 => ?_
     obtain ⟨rfl, eh⟩ := Q3064
     rw [eh] at A
     refine Wp.stk (st' := [(.int (1 : Int32)), (.long (2 : Int64)), (.ref b2)]) rfl ?_
     refine s_i2l (pc' := 190) (z := (1 : Int64)) A at_189 rfl (by decide) ?_
     refine s_ladd (pc' := 191) (z := (3 : Int64)) A at_190 rfl (by decide) ?_
     refine s_virtual (pc' := 194) (y := y6_remove) (argsL := [(.long (3 : Int64))]) (rest := []) (z := y6_remove) A E2579 (bo_remove59 l Z a0 hw n0 h2576 A.size b2 r11 (nc + (1 : Int32)) (na + (1 : Int32)) (nb + (1 : Int32)) ⟨E2579, F2580, F2581, F2582, V2583, ne2584, ge2585, ge2586⟩ znc zna znb) (w32 hw) (w33 hw) (nf_same (C := "") (w35 hw)) (w35 hw) (w34 hw) (w3 hw) (w36 hw) (by decide) pd__J_V rfl (W := 0) (by decide) (by decide) (Nat.le_of_eq rfl) (by decide) (by decide) rfl rfl at_191 rfl fun T h3067 v3068 A Q3069 => ?_
     obtain ⟨rfl, K3065, H3066⟩ := Q3069
     obtain ⟨E3070, F3071, F3072, F3073, V3074, ne3075, ge3076, ge3077⟩ := H3066
     refine Wp.stk (st' := []) rfl ?_
     refine s_iload (pc' := 196) A at_194 rfl rfl ?_
     refine s_iconst (pc' := 197) (z := (1 : Int32)) A at_196 rfl (by decide) ?_
     refine s_icmpN (pc' := 200) A at_197 rfl (by decide) ?_
     refine s_aload (pc' := 202) A at_200 rfl rfl rfl ?_
     refine s_lload (pc' := 204) A at_202 rfl rfl ?_
     refine s_iload (pc' := 206) A at_204 rfl rfl ?_
     refine s_iconst (pc' := 207) (z := (1 : Int32)) A at_206 rfl (by decide) ?_
     refine s_static (pc' := 210) (y := y0_idx) (argsL := [(.int (2 : Int32)), (.int (1 : Int32))]) (rest := [(.long (2 : Int64)), (.ref b2)]) A (idx l Z a0 hw n0 h3067 A.size (2 : Int32) (1 : Int32) (0 : Int32) (by decide)) (w28 hw) (w29 hw) (w30 hw) (w31 hw) (by decide) pd__II_I rfl (W := 3) (by decide) (by decide) (Nat.le_of_eq rfl) (by decide) (by decide) rfl rfl at_207 rfl fun T h3078 v3079 A Q3080 => ?_
     obtain ⟨rfl, eh⟩ := Q3080
     rw [eh] at A
     refine Wp.stk (st' := [(.int (0 : Int32)), (.long (2 : Int64)), (.ref b2)]) rfl ?_
     refine s_i2l (pc' := 211) (z := (0 : Int64)) A at_210 rfl (by decide) ?_
     refine s_ladd (pc' := 212) (z := (2 : Int64)) A at_211 rfl (by decide) ?_
     refine s_virtual (pc' := 215) (y := y6_remove) (argsL := [(.long (2 : Int64))]) (rest := []) (z := y6_remove) A E3070 (bo_remove65 l Z a0 hw n0 h3067 A.size b2 r11 (nc + (1 : Int32)) (na + (1 : Int32)) ⟨E3070, F3071, F3072, F3073, V3074, ne3075, ge3076, ge3077⟩ znc zna) (w32 hw) (w33 hw) (nf_same (C := "") (w35 hw)) (w35 hw) (w34 hw) (w3 hw) (w36 hw) (by decide) pd__J_V rfl (W := 0) (by decide) (by decide) (Nat.le_of_eq rfl) (by decide) (by decide) rfl rfl at_212 rfl fun T h3083 v3084 A Q3085 => ?_
     obtain ⟨rfl, K3081, H3082⟩ := Q3085
     obtain ⟨E3086, F3087, F3088, F3089, V3090, ne3091, ge3092, ge3093⟩ := H3082
     refine Wp.stk (st' := []) rfl ?_
     refine s_iload (pc' := 217) A at_215 rfl rfl ?_
     refine s_iconst (pc' := 218) (z := (2 : Int32)) A at_217 rfl (by decide) ?_
     refine s_icmpY (pc' := 236) A at_218 (by decide) (by decide) (by decide) ?_
     refine s_iload (pc' := 238) A at_236 rfl rfl ?_
     refine s_iload (pc' := 240) A at_238 rfl rfl ?_
     refine s_iconst (pc' := 241) (z := (0 : Int32)) A at_240 rfl (by decide) ?_
     refine s_static (pc' := 244) (y := y1_removed) (argsL := [(.int (2 : Int32)), (.int (2 : Int32)), (.int (0 : Int32))]) (rest := []) A (rmd l Z a0 hw n0 h3083 A.size (2 : Int32) (2 : Int32) (0 : Int32) (1 : Int32) (by decide)) (w37 hw) (w38 hw) (w30 hw) (w39 hw) (by decide) pd__III_Z rfl (W := 0) (by decide) (by decide) (Nat.le_of_eq rfl) (by decide) (by decide) rfl rfl at_241 rfl fun T h3094 v3095 A Q3096 => ?_
     obtain ⟨rfl, eh⟩ := Q3096
     rw [eh] at A
     refine Wp.stk (st' := [(.int (1 : Int32))]) rfl ?_
     refine s_istore (pc' := 246) (Ls' := #[iv q0, iv q1, iv q2, iv q3, iv q4, iv q5, iv na, iv nb, iv nc, iv nx, iv 2, iv 2, iv 2, rv b2, iv 1, jv 2, S2, jv 2, S2, jv 3, S2, jv 4, S2, iv 1, U0, U0, U0, U0]) A at_244 rfl rfl ?_
     refine s_iload (pc' := 248) A at_246 rfl rfl ?_
     refine s_iload (pc' := 250) A at_248 rfl rfl ?_
     refine s_iconst (pc' := 251) (z := (1 : Int32)) A at_250 rfl (by decide) ?_
     refine s_static (pc' := 254) (y := y1_removed) (argsL := [(.int (2 : Int32)), (.int (2 : Int32)), (.int (1 : Int32))]) (rest := []) A (rmd l Z a0 hw n0 h3083 A.size (2 : Int32) (2 : Int32) (1 : Int32) (1 : Int32) (by decide)) (w37 hw) (w38 hw) (w30 hw) (w39 hw) (by decide) pd__III_Z rfl (W := 0) (by decide) (by decide) (Nat.le_of_eq rfl) (by decide) (by decide) rfl rfl at_251 rfl fun T h3097 v3098 A Q3099 => ?_
     obtain ⟨rfl, eh⟩ := Q3099
     rw [eh] at A
     refine Wp.stk (st' := [(.int (1 : Int32))]) rfl ?_
     refine s_istore (pc' := 256) (Ls' := #[iv q0, iv q1, iv q2, iv q3, iv q4, iv q5, iv na, iv nb, iv nc, iv nx, iv 2, iv 2, iv 2, rv b2, iv 1, jv 2, S2, jv 2, S2, jv 3, S2, jv 4, S2, iv 1, iv 1, U0, U0, U0]) A at_254 rfl rfl ?_
     refine s_iload (pc' := 258) A at_256 rfl rfl ?_
     refine s_iload (pc' := 260) A at_258 rfl rfl ?_
     refine s_iconst (pc' := 261) (z := (2 : Int32)) A at_260 rfl (by decide) ?_
     refine s_static (pc' := 264) (y := y1_removed) (argsL := [(.int (2 : Int32)), (.int (2 : Int32)), (.int (2 : Int32))]) (rest := []) A (rmd l Z a0 hw n0 h3083 A.size (2 : Int32) (2 : Int32) (2 : Int32) (0 : Int32) (by decide)) (w37 hw) (w38 hw) (w30 hw) (w39 hw) (by decide) pd__III_Z rfl (W := 0) (by decide) (by decide) (Nat.le_of_eq rfl) (by decide) (by decide) rfl rfl at_261 rfl fun T h3100 v3101 A Q3102 => ?_
     obtain ⟨rfl, eh⟩ := Q3102
     rw [eh] at A
     refine Wp.stk (st' := [(.int (0 : Int32))]) rfl ?_
     refine s_istore (pc' := 266) (Ls' := #[iv q0, iv q1, iv q2, iv q3, iv q4, iv q5, iv na, iv nb, iv nc, iv nx, iv 2, iv 2, iv 2, rv b2, iv 1, jv 2, S2, jv 2, S2, jv 3, S2, jv 4, S2, iv 1, iv 1, iv 0, U0, U0]) A at_264 rfl rfl ?_
     refine s_aload (pc' := 268) A at_266 rfl rfl rfl ?_
     refine s_virtual (pc' := 271) (y := y3_isEmpty) (argsL := []) (rest := []) (z := y3_isEmpty) A E3086 (bo_isEmpty62 l Z a0 hw n0 h3083 A.size b2 r11 [.int (nc + (1 : Int32)), .int (0 : Int32), .int (0 : Int32), .int (0 : Int32)] ⟨E3086, F3087, F3088, F3089, V3090, ne3091, ge3092, ge3093⟩) (w13 hw) (w14 hw) (nf_same (C := "") (w16 hw)) (w16 hw) (w15 hw) (w3 hw) (w17 hw) (by decide) pd___Z rfl (W := 0) (by decide) (by decide) (Nat.le_of_eq rfl) (by decide) (by decide) rfl rfl at_268 rfl fun T h3105 v3106 A Q3107 => ?_
     obtain ⟨rfl, K3103, H3104⟩ := Q3107
     obtain ⟨E3108, F3109, F3110, F3111, V3112, ne3113, ge3114, ge3115⟩ := H3104
     refine Wp.stk (st' := [(.int (0 : Int32))]) rfl ?_
     refine s_istore (pc' := 273) (Ls' := #[iv q0, iv q1, iv q2, iv q3, iv q4, iv q5, iv na, iv nb, iv nc, iv nx, iv 2, iv 2, iv 2, rv b2, iv 1, jv 2, S2, jv 2, S2, jv 3, S2, jv 4, S2, iv 1, iv 1, iv 0, iv 0, U0]) A at_271 rfl rfl ?_
     refine s_iload (pc' := 275) A at_273 rfl rfl ?_
     refine s_ifN (pc' := 278) A at_275 rfl (by decide) ?_
     refine s_iload (pc' := 280) A at_278 rfl rfl ?_
     refine s_ifN (pc' := 283) A at_280 rfl (by decide) ?_
     refine s_iload (pc' := 285) A at_283 rfl rfl ?_
     refine s_ifY (pc' := 304) A at_285 (by decide) (by decide) (by decide) ?_
     refine s_iload (pc' := 306) A at_304 rfl rfl ?_
     refine s_ifY (pc' := 316) A at_306 (by decide) (by decide) (by decide) ?_
     refine s_iload (pc' := 318) A at_316 rfl rfl ?_
     refine s_ifY (pc' := 328) A at_318 (by decide) (by decide) (by decide) ?_
     refine s_iload (pc' := 330) A at_328 rfl rfl ?_
     refine s_istore (pc' := 332) (Ls' := #[iv q0, iv q1, iv q2, iv q3, iv q4, iv q5, iv na, iv nb, iv nc, iv nx, iv 2, iv 2, iv 2, rv b2, iv 1, jv 2, S2, jv 2, S2, jv 3, S2, jv 4, S2, iv 1, iv 1, iv 0, iv 0, iv nc]) A at_330 rfl rfl ?_
     refine s_iload (pc' := 334) A at_332 rfl rfl ?_
     refine s_ifN (pc' := 337) A at_334 rfl (by decide) ?_
     refine s_iload (pc' := 339) A at_337 rfl rfl ?_
     refine s_ifN (pc' := 342) A at_339 rfl (by decide) ?_
     refine s_aload (pc' := 344) A at_342 rfl rfl rfl ?_
     refine s_virtual (pc' := 347) (y := y5_first) (argsL := []) (rest := []) (z := y5_first) A E3108 (bo_first63 l Z a0 hw n0 h3105 A.size b2 r11 (nc + (1 : Int32)) (0 : Int32) (0 : Int32) (0 : Int32) ⟨E3108, F3109, F3110, F3111, V3112, ne3113, ge3114, ge3115⟩) (w40 hw) (w41 hw) (nf_same (C := "") (w43 hw)) (w43 hw) (w42 hw) (w3 hw) (w44 hw) (by decide) pd___I rfl (W := 0) (by decide) (by decide) (Nat.le_of_eq rfl) (by decide) (by decide) rfl rfl at_344 rfl fun T h3118 v3119 A Q3120 => ?_
     obtain ⟨rfl, K3116, H3117⟩ := Q3120
     obtain ⟨E3121, F3122, F3123, F3124, V3125, ne3126, ge3127, ge3128⟩ := H3117
     refine Wp.stk (st' := [(.int ((nc + (1 : Int32)) - (1 : Int32)))]) rfl ?_
     refine s_iload (pc' := 349) A at_347 rfl rfl ?_
     refine s_icmpN (pc' := 352) A at_349 rfl (teq (show ((nc + (1 : Int32)) - (1 : Int32)) = nc from (by have _ := rng32 nc; have _ : (1 : Int32).toInt = 1 := (by decide); have _ := rng32 (nc + (1 : Int32)); have _ := c_iadd nc (1 : Int32); have _ := rng32 ((nc + (1 : Int32)) - (1 : Int32)); have _ := c_isub (nc + (1 : Int32)) (1 : Int32); apply Int32.toInt_inj.mp; omega))).2 ?_
     refine s_iconst (pc' := 353) (z := (1 : Int32)) A at_352 rfl (by decide) ?_
     refine s_goto (pc' := 357) A at_353 (by decide) (by decide) ?_
     exact r_bool A rfl (by decide) at_357 (by decide) (by decide) (rfl)
    ·
     refine s_iload (pc' := 176) A at_174 rfl rfl ?_
     refine s_ifN (pc' := 179) A at_176 rfl (by decide) ?_
     refine s_aload (pc' := 181) A at_179 rfl rfl rfl ?_
     refine s_lload (pc' := 183) A at_181 rfl rfl ?_
     refine s_iload (pc' := 185) A at_183 rfl rfl ?_
     refine s_iconst (pc' := 186) (z := (0 : Int32)) A at_185 rfl (by decide) ?_
     refine s_static (pc' := 189) (y := y0_idx) (argsL := [(.int (3 : Int32)), (.int (0 : Int32))]) (rest := [(.long (2 : Int64)), (.ref b2)]) A (idx l Z a0 hw n0 h2576 A.size (3 : Int32) (0 : Int32) (1 : Int32) (by decide)) (w28 hw) (w29 hw) (w30 hw) (w31 hw) (by decide) pd__II_I rfl (W := 3) (by decide) (by decide) (Nat.le_of_eq rfl) (by decide) (by decide) rfl rfl at_186 rfl fun T h3129 v3130 A Q3131 => ?_
     obtain ⟨rfl, eh⟩ := Q3131
     rw [eh] at A
     refine Wp.stk (st' := [(.int (1 : Int32)), (.long (2 : Int64)), (.ref b2)]) rfl ?_
     refine s_i2l (pc' := 190) (z := (1 : Int64)) A at_189 rfl (by decide) ?_
     refine s_ladd (pc' := 191) (z := (3 : Int64)) A at_190 rfl (by decide) ?_
     refine s_virtual (pc' := 194) (y := y6_remove) (argsL := [(.long (3 : Int64))]) (rest := []) (z := y6_remove) A E2579 (bo_remove59 l Z a0 hw n0 h2576 A.size b2 r11 (nc + (1 : Int32)) (na + (1 : Int32)) (nb + (1 : Int32)) ⟨E2579, F2580, F2581, F2582, V2583, ne2584, ge2585, ge2586⟩ znc zna znb) (w32 hw) (w33 hw) (nf_same (C := "") (w35 hw)) (w35 hw) (w34 hw) (w3 hw) (w36 hw) (by decide) pd__J_V rfl (W := 0) (by decide) (by decide) (Nat.le_of_eq rfl) (by decide) (by decide) rfl rfl at_191 rfl fun T h3134 v3135 A Q3136 => ?_
     obtain ⟨rfl, K3132, H3133⟩ := Q3136
     obtain ⟨E3137, F3138, F3139, F3140, V3141, ne3142, ge3143, ge3144⟩ := H3133
     refine Wp.stk (st' := []) rfl ?_
     refine s_iload (pc' := 196) A at_194 rfl rfl ?_
     refine s_iconst (pc' := 197) (z := (1 : Int32)) A at_196 rfl (by decide) ?_
     refine s_icmpN (pc' := 200) A at_197 rfl (by decide) ?_
     refine s_aload (pc' := 202) A at_200 rfl rfl rfl ?_
     refine s_lload (pc' := 204) A at_202 rfl rfl ?_
     refine s_iload (pc' := 206) A at_204 rfl rfl ?_
     refine s_iconst (pc' := 207) (z := (1 : Int32)) A at_206 rfl (by decide) ?_
     refine s_static (pc' := 210) (y := y0_idx) (argsL := [(.int (3 : Int32)), (.int (1 : Int32))]) (rest := [(.long (2 : Int64)), (.ref b2)]) A (idx l Z a0 hw n0 h3134 A.size (3 : Int32) (1 : Int32) (2 : Int32) (by decide)) (w28 hw) (w29 hw) (w30 hw) (w31 hw) (by decide) pd__II_I rfl (W := 3) (by decide) (by decide) (Nat.le_of_eq rfl) (by decide) (by decide) rfl rfl at_207 rfl fun T h3145 v3146 A Q3147 => ?_
     obtain ⟨rfl, eh⟩ := Q3147
     rw [eh] at A
     refine Wp.stk (st' := [(.int (2 : Int32)), (.long (2 : Int64)), (.ref b2)]) rfl ?_
     refine s_i2l (pc' := 211) (z := (2 : Int64)) A at_210 rfl (by decide) ?_
     refine s_ladd (pc' := 212) (z := (4 : Int64)) A at_211 rfl (by decide) ?_
     refine s_virtual (pc' := 215) (y := y6_remove) (argsL := [(.long (4 : Int64))]) (rest := []) (z := y6_remove) A E3137 (bo_remove66 l Z a0 hw n0 h3134 A.size b2 r11 (nc + (1 : Int32)) (na + (1 : Int32)) ⟨E3137, F3138, F3139, F3140, V3141, ne3142, ge3143, ge3144⟩ znc zna) (w32 hw) (w33 hw) (nf_same (C := "") (w35 hw)) (w35 hw) (w34 hw) (w3 hw) (w36 hw) (by decide) pd__J_V rfl (W := 0) (by decide) (by decide) (Nat.le_of_eq rfl) (by decide) (by decide) rfl rfl at_212 rfl fun T h3150 v3151 A Q3152 => ?_
     obtain ⟨rfl, K3148, H3149⟩ := Q3152
     obtain ⟨E3153, F3154, F3155, F3156, V3157, ne3158, ge3159, ge3160⟩ := H3149
     refine Wp.stk (st' := []) rfl ?_
     refine s_iload (pc' := 217) A at_215 rfl rfl ?_
     refine s_iconst (pc' := 218) (z := (2 : Int32)) A at_217 rfl (by decide) ?_
     refine s_icmpY (pc' := 236) A at_218 (by decide) (by decide) (by decide) ?_
     refine s_iload (pc' := 238) A at_236 rfl rfl ?_
     refine s_iload (pc' := 240) A at_238 rfl rfl ?_
     refine s_iconst (pc' := 241) (z := (0 : Int32)) A at_240 rfl (by decide) ?_
     refine s_static (pc' := 244) (y := y1_removed) (argsL := [(.int (3 : Int32)), (.int (2 : Int32)), (.int (0 : Int32))]) (rest := []) A (rmd l Z a0 hw n0 h3150 A.size (3 : Int32) (2 : Int32) (0 : Int32) (0 : Int32) (by decide)) (w37 hw) (w38 hw) (w30 hw) (w39 hw) (by decide) pd__III_Z rfl (W := 0) (by decide) (by decide) (Nat.le_of_eq rfl) (by decide) (by decide) rfl rfl at_241 rfl fun T h3161 v3162 A Q3163 => ?_
     obtain ⟨rfl, eh⟩ := Q3163
     rw [eh] at A
     refine Wp.stk (st' := [(.int (0 : Int32))]) rfl ?_
     refine s_istore (pc' := 246) (Ls' := #[iv q0, iv q1, iv q2, iv q3, iv q4, iv q5, iv na, iv nb, iv nc, iv nx, iv 2, iv 2, iv 3, rv b2, iv 1, jv 2, S2, jv 2, S2, jv 3, S2, jv 4, S2, iv 0, U0, U0, U0, U0]) A at_244 rfl rfl ?_
     refine s_iload (pc' := 248) A at_246 rfl rfl ?_
     refine s_iload (pc' := 250) A at_248 rfl rfl ?_
     refine s_iconst (pc' := 251) (z := (1 : Int32)) A at_250 rfl (by decide) ?_
     refine s_static (pc' := 254) (y := y1_removed) (argsL := [(.int (3 : Int32)), (.int (2 : Int32)), (.int (1 : Int32))]) (rest := []) A (rmd l Z a0 hw n0 h3150 A.size (3 : Int32) (2 : Int32) (1 : Int32) (1 : Int32) (by decide)) (w37 hw) (w38 hw) (w30 hw) (w39 hw) (by decide) pd__III_Z rfl (W := 0) (by decide) (by decide) (Nat.le_of_eq rfl) (by decide) (by decide) rfl rfl at_251 rfl fun T h3164 v3165 A Q3166 => ?_
     obtain ⟨rfl, eh⟩ := Q3166
     rw [eh] at A
     refine Wp.stk (st' := [(.int (1 : Int32))]) rfl ?_
     refine s_istore (pc' := 256) (Ls' := #[iv q0, iv q1, iv q2, iv q3, iv q4, iv q5, iv na, iv nb, iv nc, iv nx, iv 2, iv 2, iv 3, rv b2, iv 1, jv 2, S2, jv 2, S2, jv 3, S2, jv 4, S2, iv 0, iv 1, U0, U0, U0]) A at_254 rfl rfl ?_
     refine s_iload (pc' := 258) A at_256 rfl rfl ?_
     refine s_iload (pc' := 260) A at_258 rfl rfl ?_
     refine s_iconst (pc' := 261) (z := (2 : Int32)) A at_260 rfl (by decide) ?_
     refine s_static (pc' := 264) (y := y1_removed) (argsL := [(.int (3 : Int32)), (.int (2 : Int32)), (.int (2 : Int32))]) (rest := []) A (rmd l Z a0 hw n0 h3150 A.size (3 : Int32) (2 : Int32) (2 : Int32) (1 : Int32) (by decide)) (w37 hw) (w38 hw) (w30 hw) (w39 hw) (by decide) pd__III_Z rfl (W := 0) (by decide) (by decide) (Nat.le_of_eq rfl) (by decide) (by decide) rfl rfl at_261 rfl fun T h3167 v3168 A Q3169 => ?_
     obtain ⟨rfl, eh⟩ := Q3169
     rw [eh] at A
     refine Wp.stk (st' := [(.int (1 : Int32))]) rfl ?_
     refine s_istore (pc' := 266) (Ls' := #[iv q0, iv q1, iv q2, iv q3, iv q4, iv q5, iv na, iv nb, iv nc, iv nx, iv 2, iv 2, iv 3, rv b2, iv 1, jv 2, S2, jv 2, S2, jv 3, S2, jv 4, S2, iv 0, iv 1, iv 1, U0, U0]) A at_264 rfl rfl ?_
     refine s_aload (pc' := 268) A at_266 rfl rfl rfl ?_
     refine s_virtual (pc' := 271) (y := y3_isEmpty) (argsL := []) (rest := []) (z := y3_isEmpty) A E3153 (bo_isEmpty54 l Z a0 hw n0 h3150 A.size b2 r11 [.int (0 : Int32), .int (0 : Int32), .int (na + (1 : Int32)), .int (0 : Int32)] ⟨E3153, F3154, F3155, F3156, V3157, ne3158, ge3159, ge3160⟩) (w13 hw) (w14 hw) (nf_same (C := "") (w16 hw)) (w16 hw) (w15 hw) (w3 hw) (w17 hw) (by decide) pd___Z rfl (W := 0) (by decide) (by decide) (Nat.le_of_eq rfl) (by decide) (by decide) rfl rfl at_268 rfl fun T h3172 v3173 A Q3174 => ?_
     obtain ⟨rfl, K3170, H3171⟩ := Q3174
     obtain ⟨E3175, F3176, F3177, F3178, V3179, ne3180, ge3181, ge3182⟩ := H3171
     refine Wp.stk (st' := [(.int (0 : Int32))]) rfl ?_
     refine s_istore (pc' := 273) (Ls' := #[iv q0, iv q1, iv q2, iv q3, iv q4, iv q5, iv na, iv nb, iv nc, iv nx, iv 2, iv 2, iv 3, rv b2, iv 1, jv 2, S2, jv 2, S2, jv 3, S2, jv 4, S2, iv 0, iv 1, iv 1, iv 0, U0]) A at_271 rfl rfl ?_
     refine s_iload (pc' := 275) A at_273 rfl rfl ?_
     refine s_ifY (pc' := 304) A at_275 (by decide) (by decide) (by decide) ?_
     refine s_iload (pc' := 306) A at_304 rfl rfl ?_
     refine s_ifN (pc' := 309) A at_306 rfl (by decide) ?_
     refine s_iload (pc' := 311) A at_309 rfl rfl ?_
     refine s_istore (pc' := 313) (Ls' := #[iv q0, iv q1, iv q2, iv q3, iv q4, iv q5, iv na, iv nb, iv nc, iv nx, iv 2, iv 2, iv 3, rv b2, iv 1, jv 2, S2, jv 2, S2, jv 3, S2, jv 4, S2, iv 0, iv 1, iv 1, iv 0, iv na]) A at_311 rfl rfl ?_
     refine s_goto (pc' := 332) A at_313 (by decide) (by decide) ?_
     refine s_iload (pc' := 334) A at_332 rfl rfl ?_
     refine s_ifN (pc' := 337) A at_334 rfl (by decide) ?_
     refine s_iload (pc' := 339) A at_337 rfl rfl ?_
     refine s_ifN (pc' := 342) A at_339 rfl (by decide) ?_
     refine s_aload (pc' := 344) A at_342 rfl rfl rfl ?_
     refine s_virtual (pc' := 347) (y := y5_first) (argsL := []) (rest := []) (z := y5_first) A E3175 (bo_first55 l Z a0 hw n0 h3172 A.size b2 r11 (0 : Int32) (0 : Int32) (na + (1 : Int32)) (0 : Int32) ⟨E3175, F3176, F3177, F3178, V3179, ne3180, ge3181, ge3182⟩) (w40 hw) (w41 hw) (nf_same (C := "") (w43 hw)) (w43 hw) (w42 hw) (w3 hw) (w44 hw) (by decide) pd___I rfl (W := 0) (by decide) (by decide) (Nat.le_of_eq rfl) (by decide) (by decide) rfl rfl at_344 rfl fun T h3185 v3186 A Q3187 => ?_
     obtain ⟨rfl, K3183, H3184⟩ := Q3187
     obtain ⟨E3188, F3189, F3190, F3191, V3192, ne3193, ge3194, ge3195⟩ := H3184
     refine Wp.stk (st' := [(.int ((na + (1 : Int32)) - (1 : Int32)))]) rfl ?_
     refine s_iload (pc' := 349) A at_347 rfl rfl ?_
     refine s_icmpN (pc' := 352) A at_349 rfl (teq (show ((na + (1 : Int32)) - (1 : Int32)) = na from (by have _ := rng32 na; have _ : (1 : Int32).toInt = 1 := (by decide); have _ := rng32 (na + (1 : Int32)); have _ := c_iadd na (1 : Int32); have _ := rng32 ((na + (1 : Int32)) - (1 : Int32)); have _ := c_isub (na + (1 : Int32)) (1 : Int32); apply Int32.toInt_inj.mp; omega))).2 ?_
     refine s_iconst (pc' := 353) (z := (1 : Int32)) A at_352 rfl (by decide) ?_
     refine s_goto (pc' := 357) A at_353 (by decide) (by decide) ?_
     exact r_bool A rfl (by decide) at_357 (by decide) (by decide) (rfl)
    ·
     refine s_iload (pc' := 176) A at_174 rfl rfl ?_
     refine s_ifN (pc' := 179) A at_176 rfl (by decide) ?_
     refine s_aload (pc' := 181) A at_179 rfl rfl rfl ?_
     refine s_lload (pc' := 183) A at_181 rfl rfl ?_
     refine s_iload (pc' := 185) A at_183 rfl rfl ?_
     refine s_iconst (pc' := 186) (z := (0 : Int32)) A at_185 rfl (by decide) ?_
     refine s_static (pc' := 189) (y := y0_idx) (argsL := [(.int (4 : Int32)), (.int (0 : Int32))]) (rest := [(.long (2 : Int64)), (.ref b2)]) A (idx l Z a0 hw n0 h2576 A.size (4 : Int32) (0 : Int32) (2 : Int32) (by decide)) (w28 hw) (w29 hw) (w30 hw) (w31 hw) (by decide) pd__II_I rfl (W := 3) (by decide) (by decide) (Nat.le_of_eq rfl) (by decide) (by decide) rfl rfl at_186 rfl fun T h3196 v3197 A Q3198 => ?_
     obtain ⟨rfl, eh⟩ := Q3198
     rw [eh] at A
     refine Wp.stk (st' := [(.int (2 : Int32)), (.long (2 : Int64)), (.ref b2)]) rfl ?_
     refine s_i2l (pc' := 190) (z := (2 : Int64)) A at_189 rfl (by decide) ?_
     refine s_ladd (pc' := 191) (z := (4 : Int64)) A at_190 rfl (by decide) ?_
     refine s_virtual (pc' := 194) (y := y6_remove) (argsL := [(.long (4 : Int64))]) (rest := []) (z := y6_remove) A E2579 (bo_remove60 l Z a0 hw n0 h2576 A.size b2 r11 (nc + (1 : Int32)) (na + (1 : Int32)) (nb + (1 : Int32)) ⟨E2579, F2580, F2581, F2582, V2583, ne2584, ge2585, ge2586⟩ znc zna znb) (w32 hw) (w33 hw) (nf_same (C := "") (w35 hw)) (w35 hw) (w34 hw) (w3 hw) (w36 hw) (by decide) pd__J_V rfl (W := 0) (by decide) (by decide) (Nat.le_of_eq rfl) (by decide) (by decide) rfl rfl at_191 rfl fun T h3201 v3202 A Q3203 => ?_
     obtain ⟨rfl, K3199, H3200⟩ := Q3203
     obtain ⟨E3204, F3205, F3206, F3207, V3208, ne3209, ge3210, ge3211⟩ := H3200
     refine Wp.stk (st' := []) rfl ?_
     refine s_iload (pc' := 196) A at_194 rfl rfl ?_
     refine s_iconst (pc' := 197) (z := (1 : Int32)) A at_196 rfl (by decide) ?_
     refine s_icmpN (pc' := 200) A at_197 rfl (by decide) ?_
     refine s_aload (pc' := 202) A at_200 rfl rfl rfl ?_
     refine s_lload (pc' := 204) A at_202 rfl rfl ?_
     refine s_iload (pc' := 206) A at_204 rfl rfl ?_
     refine s_iconst (pc' := 207) (z := (1 : Int32)) A at_206 rfl (by decide) ?_
     refine s_static (pc' := 210) (y := y0_idx) (argsL := [(.int (4 : Int32)), (.int (1 : Int32))]) (rest := [(.long (2 : Int64)), (.ref b2)]) A (idx l Z a0 hw n0 h3201 A.size (4 : Int32) (1 : Int32) (0 : Int32) (by decide)) (w28 hw) (w29 hw) (w30 hw) (w31 hw) (by decide) pd__II_I rfl (W := 3) (by decide) (by decide) (Nat.le_of_eq rfl) (by decide) (by decide) rfl rfl at_207 rfl fun T h3212 v3213 A Q3214 => ?_
     obtain ⟨rfl, eh⟩ := Q3214
     rw [eh] at A
     refine Wp.stk (st' := [(.int (0 : Int32)), (.long (2 : Int64)), (.ref b2)]) rfl ?_
     refine s_i2l (pc' := 211) (z := (0 : Int64)) A at_210 rfl (by decide) ?_
     refine s_ladd (pc' := 212) (z := (2 : Int64)) A at_211 rfl (by decide) ?_
     refine s_virtual (pc' := 215) (y := y6_remove) (argsL := [(.long (2 : Int64))]) (rest := []) (z := y6_remove) A E3204 (bo_remove67 l Z a0 hw n0 h3201 A.size b2 r11 (na + (1 : Int32)) (nb + (1 : Int32)) ⟨E3204, F3205, F3206, F3207, V3208, ne3209, ge3210, ge3211⟩ zna znb) (w32 hw) (w33 hw) (nf_same (C := "") (w35 hw)) (w35 hw) (w34 hw) (w3 hw) (w36 hw) (by decide) pd__J_V rfl (W := 0) (by decide) (by decide) (Nat.le_of_eq rfl) (by decide) (by decide) rfl rfl at_212 rfl fun T h3217 v3218 A Q3219 => ?_
     obtain ⟨rfl, K3215, H3216⟩ := Q3219
     obtain ⟨E3220, F3221, F3222, F3223, V3224, ne3225, ge3226, ge3227⟩ := H3216
     refine Wp.stk (st' := []) rfl ?_
     refine s_iload (pc' := 217) A at_215 rfl rfl ?_
     refine s_iconst (pc' := 218) (z := (2 : Int32)) A at_217 rfl (by decide) ?_
     refine s_icmpY (pc' := 236) A at_218 (by decide) (by decide) (by decide) ?_
     refine s_iload (pc' := 238) A at_236 rfl rfl ?_
     refine s_iload (pc' := 240) A at_238 rfl rfl ?_
     refine s_iconst (pc' := 241) (z := (0 : Int32)) A at_240 rfl (by decide) ?_
     refine s_static (pc' := 244) (y := y1_removed) (argsL := [(.int (4 : Int32)), (.int (2 : Int32)), (.int (0 : Int32))]) (rest := []) A (rmd l Z a0 hw n0 h3217 A.size (4 : Int32) (2 : Int32) (0 : Int32) (1 : Int32) (by decide)) (w37 hw) (w38 hw) (w30 hw) (w39 hw) (by decide) pd__III_Z rfl (W := 0) (by decide) (by decide) (Nat.le_of_eq rfl) (by decide) (by decide) rfl rfl at_241 rfl fun T h3228 v3229 A Q3230 => ?_
     obtain ⟨rfl, eh⟩ := Q3230
     rw [eh] at A
     refine Wp.stk (st' := [(.int (1 : Int32))]) rfl ?_
     refine s_istore (pc' := 246) (Ls' := #[iv q0, iv q1, iv q2, iv q3, iv q4, iv q5, iv na, iv nb, iv nc, iv nx, iv 2, iv 2, iv 4, rv b2, iv 1, jv 2, S2, jv 2, S2, jv 3, S2, jv 4, S2, iv 1, U0, U0, U0, U0]) A at_244 rfl rfl ?_
     refine s_iload (pc' := 248) A at_246 rfl rfl ?_
     refine s_iload (pc' := 250) A at_248 rfl rfl ?_
     refine s_iconst (pc' := 251) (z := (1 : Int32)) A at_250 rfl (by decide) ?_
     refine s_static (pc' := 254) (y := y1_removed) (argsL := [(.int (4 : Int32)), (.int (2 : Int32)), (.int (1 : Int32))]) (rest := []) A (rmd l Z a0 hw n0 h3217 A.size (4 : Int32) (2 : Int32) (1 : Int32) (0 : Int32) (by decide)) (w37 hw) (w38 hw) (w30 hw) (w39 hw) (by decide) pd__III_Z rfl (W := 0) (by decide) (by decide) (Nat.le_of_eq rfl) (by decide) (by decide) rfl rfl at_251 rfl fun T h3231 v3232 A Q3233 => ?_
     obtain ⟨rfl, eh⟩ := Q3233
     rw [eh] at A
     refine Wp.stk (st' := [(.int (0 : Int32))]) rfl ?_
     refine s_istore (pc' := 256) (Ls' := #[iv q0, iv q1, iv q2, iv q3, iv q4, iv q5, iv na, iv nb, iv nc, iv nx, iv 2, iv 2, iv 4, rv b2, iv 1, jv 2, S2, jv 2, S2, jv 3, S2, jv 4, S2, iv 1, iv 0, U0, U0, U0]) A at_254 rfl rfl ?_
     refine s_iload (pc' := 258) A at_256 rfl rfl ?_
     refine s_iload (pc' := 260) A at_258 rfl rfl ?_
     refine s_iconst (pc' := 261) (z := (2 : Int32)) A at_260 rfl (by decide) ?_
     refine s_static (pc' := 264) (y := y1_removed) (argsL := [(.int (4 : Int32)), (.int (2 : Int32)), (.int (2 : Int32))]) (rest := []) A (rmd l Z a0 hw n0 h3217 A.size (4 : Int32) (2 : Int32) (2 : Int32) (1 : Int32) (by decide)) (w37 hw) (w38 hw) (w30 hw) (w39 hw) (by decide) pd__III_Z rfl (W := 0) (by decide) (by decide) (Nat.le_of_eq rfl) (by decide) (by decide) rfl rfl at_261 rfl fun T h3234 v3235 A Q3236 => ?_
     obtain ⟨rfl, eh⟩ := Q3236
     rw [eh] at A
     refine Wp.stk (st' := [(.int (1 : Int32))]) rfl ?_
     refine s_istore (pc' := 266) (Ls' := #[iv q0, iv q1, iv q2, iv q3, iv q4, iv q5, iv na, iv nb, iv nc, iv nx, iv 2, iv 2, iv 4, rv b2, iv 1, jv 2, S2, jv 2, S2, jv 3, S2, jv 4, S2, iv 1, iv 0, iv 1, U0, U0]) A at_264 rfl rfl ?_
     refine s_aload (pc' := 268) A at_266 rfl rfl rfl ?_
     refine s_virtual (pc' := 271) (y := y3_isEmpty) (argsL := []) (rest := []) (z := y3_isEmpty) A E3220 (bo_isEmpty57 l Z a0 hw n0 h3217 A.size b2 r11 [.int (0 : Int32), .int (0 : Int32), .int (0 : Int32), .int (nb + (1 : Int32))] ⟨E3220, F3221, F3222, F3223, V3224, ne3225, ge3226, ge3227⟩) (w13 hw) (w14 hw) (nf_same (C := "") (w16 hw)) (w16 hw) (w15 hw) (w3 hw) (w17 hw) (by decide) pd___Z rfl (W := 0) (by decide) (by decide) (Nat.le_of_eq rfl) (by decide) (by decide) rfl rfl at_268 rfl fun T h3239 v3240 A Q3241 => ?_
     obtain ⟨rfl, K3237, H3238⟩ := Q3241
     obtain ⟨E3242, F3243, F3244, F3245, V3246, ne3247, ge3248, ge3249⟩ := H3238
     refine Wp.stk (st' := [(.int (0 : Int32))]) rfl ?_
     refine s_istore (pc' := 273) (Ls' := #[iv q0, iv q1, iv q2, iv q3, iv q4, iv q5, iv na, iv nb, iv nc, iv nx, iv 2, iv 2, iv 4, rv b2, iv 1, jv 2, S2, jv 2, S2, jv 3, S2, jv 4, S2, iv 1, iv 0, iv 1, iv 0, U0]) A at_271 rfl rfl ?_
     refine s_iload (pc' := 275) A at_273 rfl rfl ?_
     refine s_ifN (pc' := 278) A at_275 rfl (by decide) ?_
     refine s_iload (pc' := 280) A at_278 rfl rfl ?_
     refine s_ifY (pc' := 304) A at_280 (by decide) (by decide) (by decide) ?_
     refine s_iload (pc' := 306) A at_304 rfl rfl ?_
     refine s_ifY (pc' := 316) A at_306 (by decide) (by decide) (by decide) ?_
     refine s_iload (pc' := 318) A at_316 rfl rfl ?_
     refine s_ifN (pc' := 321) A at_318 rfl (by decide) ?_
     refine s_iload (pc' := 323) A at_321 rfl rfl ?_
     refine s_istore (pc' := 325) (Ls' := #[iv q0, iv q1, iv q2, iv q3, iv q4, iv q5, iv na, iv nb, iv nc, iv nx, iv 2, iv 2, iv 4, rv b2, iv 1, jv 2, S2, jv 2, S2, jv 3, S2, jv 4, S2, iv 1, iv 0, iv 1, iv 0, iv nb]) A at_323 rfl rfl ?_
     refine s_goto (pc' := 332) A at_325 (by decide) (by decide) ?_
     refine s_iload (pc' := 334) A at_332 rfl rfl ?_
     refine s_ifN (pc' := 337) A at_334 rfl (by decide) ?_
     refine s_iload (pc' := 339) A at_337 rfl rfl ?_
     refine s_ifN (pc' := 342) A at_339 rfl (by decide) ?_
     refine s_aload (pc' := 344) A at_342 rfl rfl rfl ?_
     refine s_virtual (pc' := 347) (y := y5_first) (argsL := []) (rest := []) (z := y5_first) A E3242 (bo_first58 l Z a0 hw n0 h3239 A.size b2 r11 (0 : Int32) (0 : Int32) (0 : Int32) (nb + (1 : Int32)) ⟨E3242, F3243, F3244, F3245, V3246, ne3247, ge3248, ge3249⟩) (w40 hw) (w41 hw) (nf_same (C := "") (w43 hw)) (w43 hw) (w42 hw) (w3 hw) (w44 hw) (by decide) pd___I rfl (W := 0) (by decide) (by decide) (Nat.le_of_eq rfl) (by decide) (by decide) rfl rfl at_344 rfl fun T h3252 v3253 A Q3254 => ?_
     obtain ⟨rfl, K3250, H3251⟩ := Q3254
     obtain ⟨E3255, F3256, F3257, F3258, V3259, ne3260, ge3261, ge3262⟩ := H3251
     refine Wp.stk (st' := [(.int ((nb + (1 : Int32)) - (1 : Int32)))]) rfl ?_
     refine s_iload (pc' := 349) A at_347 rfl rfl ?_
     refine s_icmpN (pc' := 352) A at_349 rfl (teq (show ((nb + (1 : Int32)) - (1 : Int32)) = nb from (by have _ := rng32 nb; have _ : (1 : Int32).toInt = 1 := (by decide); have _ := rng32 (nb + (1 : Int32)); have _ := c_iadd nb (1 : Int32); have _ := rng32 ((nb + (1 : Int32)) - (1 : Int32)); have _ := c_isub (nb + (1 : Int32)) (1 : Int32); apply Int32.toInt_inj.mp; omega))).2 ?_
     refine s_iconst (pc' := 353) (z := (1 : Int32)) A at_352 rfl (by decide) ?_
     refine s_goto (pc' := 357) A at_353 (by decide) (by decide) ?_
     exact r_bool A rfl (by decide) at_357 (by decide) (by decide) (rfl)
    ·
     refine s_iload (pc' := 176) A at_174 rfl rfl ?_
     refine s_ifN (pc' := 179) A at_176 rfl (by decide) ?_
     refine s_aload (pc' := 181) A at_179 rfl rfl rfl ?_
     refine s_lload (pc' := 183) A at_181 rfl rfl ?_
     refine s_iload (pc' := 185) A at_183 rfl rfl ?_
     refine s_iconst (pc' := 186) (z := (0 : Int32)) A at_185 rfl (by decide) ?_
     refine s_static (pc' := 189) (y := y0_idx) (argsL := [(.int (5 : Int32)), (.int (0 : Int32))]) (rest := [(.long (2 : Int64)), (.ref b2)]) A (idx l Z a0 hw n0 h2576 A.size (5 : Int32) (0 : Int32) (2 : Int32) (by decide)) (w28 hw) (w29 hw) (w30 hw) (w31 hw) (by decide) pd__II_I rfl (W := 3) (by decide) (by decide) (Nat.le_of_eq rfl) (by decide) (by decide) rfl rfl at_186 rfl fun T h3263 v3264 A Q3265 => ?_
     obtain ⟨rfl, eh⟩ := Q3265
     rw [eh] at A
     refine Wp.stk (st' := [(.int (2 : Int32)), (.long (2 : Int64)), (.ref b2)]) rfl ?_
     refine s_i2l (pc' := 190) (z := (2 : Int64)) A at_189 rfl (by decide) ?_
     refine s_ladd (pc' := 191) (z := (4 : Int64)) A at_190 rfl (by decide) ?_
     refine s_virtual (pc' := 194) (y := y6_remove) (argsL := [(.long (4 : Int64))]) (rest := []) (z := y6_remove) A E2579 (bo_remove60 l Z a0 hw n0 h2576 A.size b2 r11 (nc + (1 : Int32)) (na + (1 : Int32)) (nb + (1 : Int32)) ⟨E2579, F2580, F2581, F2582, V2583, ne2584, ge2585, ge2586⟩ znc zna znb) (w32 hw) (w33 hw) (nf_same (C := "") (w35 hw)) (w35 hw) (w34 hw) (w3 hw) (w36 hw) (by decide) pd__J_V rfl (W := 0) (by decide) (by decide) (Nat.le_of_eq rfl) (by decide) (by decide) rfl rfl at_191 rfl fun T h3268 v3269 A Q3270 => ?_
     obtain ⟨rfl, K3266, H3267⟩ := Q3270
     obtain ⟨E3271, F3272, F3273, F3274, V3275, ne3276, ge3277, ge3278⟩ := H3267
     refine Wp.stk (st' := []) rfl ?_
     refine s_iload (pc' := 196) A at_194 rfl rfl ?_
     refine s_iconst (pc' := 197) (z := (1 : Int32)) A at_196 rfl (by decide) ?_
     refine s_icmpN (pc' := 200) A at_197 rfl (by decide) ?_
     refine s_aload (pc' := 202) A at_200 rfl rfl rfl ?_
     refine s_lload (pc' := 204) A at_202 rfl rfl ?_
     refine s_iload (pc' := 206) A at_204 rfl rfl ?_
     refine s_iconst (pc' := 207) (z := (1 : Int32)) A at_206 rfl (by decide) ?_
     refine s_static (pc' := 210) (y := y0_idx) (argsL := [(.int (5 : Int32)), (.int (1 : Int32))]) (rest := [(.long (2 : Int64)), (.ref b2)]) A (idx l Z a0 hw n0 h3268 A.size (5 : Int32) (1 : Int32) (1 : Int32) (by decide)) (w28 hw) (w29 hw) (w30 hw) (w31 hw) (by decide) pd__II_I rfl (W := 3) (by decide) (by decide) (Nat.le_of_eq rfl) (by decide) (by decide) rfl rfl at_207 rfl fun T h3279 v3280 A Q3281 => ?_
     obtain ⟨rfl, eh⟩ := Q3281
     rw [eh] at A
     refine Wp.stk (st' := [(.int (1 : Int32)), (.long (2 : Int64)), (.ref b2)]) rfl ?_
     refine s_i2l (pc' := 211) (z := (1 : Int64)) A at_210 rfl (by decide) ?_
     refine s_ladd (pc' := 212) (z := (3 : Int64)) A at_211 rfl (by decide) ?_
     refine s_virtual (pc' := 215) (y := y6_remove) (argsL := [(.long (3 : Int64))]) (rest := []) (z := y6_remove) A E3271 (bo_remove68 l Z a0 hw n0 h3268 A.size b2 r11 (na + (1 : Int32)) (nb + (1 : Int32)) ⟨E3271, F3272, F3273, F3274, V3275, ne3276, ge3277, ge3278⟩ zna znb) (w32 hw) (w33 hw) (nf_same (C := "") (w35 hw)) (w35 hw) (w34 hw) (w3 hw) (w36 hw) (by decide) pd__J_V rfl (W := 0) (by decide) (by decide) (Nat.le_of_eq rfl) (by decide) (by decide) rfl rfl at_212 rfl fun T h3284 v3285 A Q3286 => ?_
     obtain ⟨rfl, K3282, H3283⟩ := Q3286
     obtain ⟨E3287, F3288, F3289, F3290, V3291, ne3292, ge3293, ge3294⟩ := H3283
     refine Wp.stk (st' := []) rfl ?_
     refine s_iload (pc' := 217) A at_215 rfl rfl ?_
     refine s_iconst (pc' := 218) (z := (2 : Int32)) A at_217 rfl (by decide) ?_
     refine s_icmpY (pc' := 236) A at_218 (by decide) (by decide) (by decide) ?_
     refine s_iload (pc' := 238) A at_236 rfl rfl ?_
     refine s_iload (pc' := 240) A at_238 rfl rfl ?_
     refine s_iconst (pc' := 241) (z := (0 : Int32)) A at_240 rfl (by decide) ?_
     refine s_static (pc' := 244) (y := y1_removed) (argsL := [(.int (5 : Int32)), (.int (2 : Int32)), (.int (0 : Int32))]) (rest := []) A (rmd l Z a0 hw n0 h3284 A.size (5 : Int32) (2 : Int32) (0 : Int32) (0 : Int32) (by decide)) (w37 hw) (w38 hw) (w30 hw) (w39 hw) (by decide) pd__III_Z rfl (W := 0) (by decide) (by decide) (Nat.le_of_eq rfl) (by decide) (by decide) rfl rfl at_241 rfl fun T h3295 v3296 A Q3297 => ?_
     obtain ⟨rfl, eh⟩ := Q3297
     rw [eh] at A
     refine Wp.stk (st' := [(.int (0 : Int32))]) rfl ?_
     refine s_istore (pc' := 246) (Ls' := #[iv q0, iv q1, iv q2, iv q3, iv q4, iv q5, iv na, iv nb, iv nc, iv nx, iv 2, iv 2, iv 5, rv b2, iv 1, jv 2, S2, jv 2, S2, jv 3, S2, jv 4, S2, iv 0, U0, U0, U0, U0]) A at_244 rfl rfl ?_
     refine s_iload (pc' := 248) A at_246 rfl rfl ?_
     refine s_iload (pc' := 250) A at_248 rfl rfl ?_
     refine s_iconst (pc' := 251) (z := (1 : Int32)) A at_250 rfl (by decide) ?_
     refine s_static (pc' := 254) (y := y1_removed) (argsL := [(.int (5 : Int32)), (.int (2 : Int32)), (.int (1 : Int32))]) (rest := []) A (rmd l Z a0 hw n0 h3284 A.size (5 : Int32) (2 : Int32) (1 : Int32) (1 : Int32) (by decide)) (w37 hw) (w38 hw) (w30 hw) (w39 hw) (by decide) pd__III_Z rfl (W := 0) (by decide) (by decide) (Nat.le_of_eq rfl) (by decide) (by decide) rfl rfl at_251 rfl fun T h3298 v3299 A Q3300 => ?_
     obtain ⟨rfl, eh⟩ := Q3300
     rw [eh] at A
     refine Wp.stk (st' := [(.int (1 : Int32))]) rfl ?_
     refine s_istore (pc' := 256) (Ls' := #[iv q0, iv q1, iv q2, iv q3, iv q4, iv q5, iv na, iv nb, iv nc, iv nx, iv 2, iv 2, iv 5, rv b2, iv 1, jv 2, S2, jv 2, S2, jv 3, S2, jv 4, S2, iv 0, iv 1, U0, U0, U0]) A at_254 rfl rfl ?_
     refine s_iload (pc' := 258) A at_256 rfl rfl ?_
     refine s_iload (pc' := 260) A at_258 rfl rfl ?_
     refine s_iconst (pc' := 261) (z := (2 : Int32)) A at_260 rfl (by decide) ?_
     refine s_static (pc' := 264) (y := y1_removed) (argsL := [(.int (5 : Int32)), (.int (2 : Int32)), (.int (2 : Int32))]) (rest := []) A (rmd l Z a0 hw n0 h3284 A.size (5 : Int32) (2 : Int32) (2 : Int32) (1 : Int32) (by decide)) (w37 hw) (w38 hw) (w30 hw) (w39 hw) (by decide) pd__III_Z rfl (W := 0) (by decide) (by decide) (Nat.le_of_eq rfl) (by decide) (by decide) rfl rfl at_261 rfl fun T h3301 v3302 A Q3303 => ?_
     obtain ⟨rfl, eh⟩ := Q3303
     rw [eh] at A
     refine Wp.stk (st' := [(.int (1 : Int32))]) rfl ?_
     refine s_istore (pc' := 266) (Ls' := #[iv q0, iv q1, iv q2, iv q3, iv q4, iv q5, iv na, iv nb, iv nc, iv nx, iv 2, iv 2, iv 5, rv b2, iv 1, jv 2, S2, jv 2, S2, jv 3, S2, jv 4, S2, iv 0, iv 1, iv 1, U0, U0]) A at_264 rfl rfl ?_
     refine s_aload (pc' := 268) A at_266 rfl rfl rfl ?_
     refine s_virtual (pc' := 271) (y := y3_isEmpty) (argsL := []) (rest := []) (z := y3_isEmpty) A E3287 (bo_isEmpty54 l Z a0 hw n0 h3284 A.size b2 r11 [.int (0 : Int32), .int (0 : Int32), .int (na + (1 : Int32)), .int (0 : Int32)] ⟨E3287, F3288, F3289, F3290, V3291, ne3292, ge3293, ge3294⟩) (w13 hw) (w14 hw) (nf_same (C := "") (w16 hw)) (w16 hw) (w15 hw) (w3 hw) (w17 hw) (by decide) pd___Z rfl (W := 0) (by decide) (by decide) (Nat.le_of_eq rfl) (by decide) (by decide) rfl rfl at_268 rfl fun T h3306 v3307 A Q3308 => ?_
     obtain ⟨rfl, K3304, H3305⟩ := Q3308
     obtain ⟨E3309, F3310, F3311, F3312, V3313, ne3314, ge3315, ge3316⟩ := H3305
     refine Wp.stk (st' := [(.int (0 : Int32))]) rfl ?_
     refine s_istore (pc' := 273) (Ls' := #[iv q0, iv q1, iv q2, iv q3, iv q4, iv q5, iv na, iv nb, iv nc, iv nx, iv 2, iv 2, iv 5, rv b2, iv 1, jv 2, S2, jv 2, S2, jv 3, S2, jv 4, S2, iv 0, iv 1, iv 1, iv 0, U0]) A at_271 rfl rfl ?_
     refine s_iload (pc' := 275) A at_273 rfl rfl ?_
     refine s_ifY (pc' := 304) A at_275 (by decide) (by decide) (by decide) ?_
     refine s_iload (pc' := 306) A at_304 rfl rfl ?_
     refine s_ifN (pc' := 309) A at_306 rfl (by decide) ?_
     refine s_iload (pc' := 311) A at_309 rfl rfl ?_
     refine s_istore (pc' := 313) (Ls' := #[iv q0, iv q1, iv q2, iv q3, iv q4, iv q5, iv na, iv nb, iv nc, iv nx, iv 2, iv 2, iv 5, rv b2, iv 1, jv 2, S2, jv 2, S2, jv 3, S2, jv 4, S2, iv 0, iv 1, iv 1, iv 0, iv na]) A at_311 rfl rfl ?_
     refine s_goto (pc' := 332) A at_313 (by decide) (by decide) ?_
     refine s_iload (pc' := 334) A at_332 rfl rfl ?_
     refine s_ifN (pc' := 337) A at_334 rfl (by decide) ?_
     refine s_iload (pc' := 339) A at_337 rfl rfl ?_
     refine s_ifN (pc' := 342) A at_339 rfl (by decide) ?_
     refine s_aload (pc' := 344) A at_342 rfl rfl rfl ?_
     refine s_virtual (pc' := 347) (y := y5_first) (argsL := []) (rest := []) (z := y5_first) A E3309 (bo_first55 l Z a0 hw n0 h3306 A.size b2 r11 (0 : Int32) (0 : Int32) (na + (1 : Int32)) (0 : Int32) ⟨E3309, F3310, F3311, F3312, V3313, ne3314, ge3315, ge3316⟩) (w40 hw) (w41 hw) (nf_same (C := "") (w43 hw)) (w43 hw) (w42 hw) (w3 hw) (w44 hw) (by decide) pd___I rfl (W := 0) (by decide) (by decide) (Nat.le_of_eq rfl) (by decide) (by decide) rfl rfl at_344 rfl fun T h3319 v3320 A Q3321 => ?_
     obtain ⟨rfl, K3317, H3318⟩ := Q3321
     obtain ⟨E3322, F3323, F3324, F3325, V3326, ne3327, ge3328, ge3329⟩ := H3318
     refine Wp.stk (st' := [(.int ((na + (1 : Int32)) - (1 : Int32)))]) rfl ?_
     refine s_iload (pc' := 349) A at_347 rfl rfl ?_
     refine s_icmpN (pc' := 352) A at_349 rfl (teq (show ((na + (1 : Int32)) - (1 : Int32)) = na from (by have _ := rng32 na; have _ : (1 : Int32).toInt = 1 := (by decide); have _ := rng32 (na + (1 : Int32)); have _ := c_iadd na (1 : Int32); have _ := rng32 ((na + (1 : Int32)) - (1 : Int32)); have _ := c_isub (na + (1 : Int32)) (1 : Int32); apply Int32.toInt_inj.mp; omega))).2 ?_
     refine s_iconst (pc' := 353) (z := (1 : Int32)) A at_352 rfl (by decide) ?_
     refine s_goto (pc' := 357) A at_353 (by decide) (by decide) ?_
     exact r_bool A rfl (by decide) at_357 (by decide) (by decide) (rfl)
   ·
    rcases cpp with rfl | rfl | rfl | rfl | rfl | rfl
    ·
     refine s_iload (pc' := 176) A at_174 rfl rfl ?_
     refine s_ifN (pc' := 179) A at_176 rfl (by decide) ?_
     refine s_aload (pc' := 181) A at_179 rfl rfl rfl ?_
     refine s_lload (pc' := 183) A at_181 rfl rfl ?_
     refine s_iload (pc' := 185) A at_183 rfl rfl ?_
     refine s_iconst (pc' := 186) (z := (0 : Int32)) A at_185 rfl (by decide) ?_
     refine s_static (pc' := 189) (y := y0_idx) (argsL := [(.int (0 : Int32)), (.int (0 : Int32))]) (rest := [(.long (2 : Int64)), (.ref b2)]) A (idx l Z a0 hw n0 h2576 A.size (0 : Int32) (0 : Int32) (0 : Int32) (by decide)) (w28 hw) (w29 hw) (w30 hw) (w31 hw) (by decide) pd__II_I rfl (W := 3) (by decide) (by decide) (Nat.le_of_eq rfl) (by decide) (by decide) rfl rfl at_186 rfl fun T h3330 v3331 A Q3332 => ?_
     obtain ⟨rfl, eh⟩ := Q3332
     rw [eh] at A
     refine Wp.stk (st' := [(.int (0 : Int32)), (.long (2 : Int64)), (.ref b2)]) rfl ?_
     refine s_i2l (pc' := 190) (z := (0 : Int64)) A at_189 rfl (by decide) ?_
     refine s_ladd (pc' := 191) (z := (2 : Int64)) A at_190 rfl (by decide) ?_
     refine s_virtual (pc' := 194) (y := y6_remove) (argsL := [(.long (2 : Int64))]) (rest := []) (z := y6_remove) A E2579 (bo_remove56 l Z a0 hw n0 h2576 A.size b2 r11 (nc + (1 : Int32)) (na + (1 : Int32)) (nb + (1 : Int32)) ⟨E2579, F2580, F2581, F2582, V2583, ne2584, ge2585, ge2586⟩ znc zna znb) (w32 hw) (w33 hw) (nf_same (C := "") (w35 hw)) (w35 hw) (w34 hw) (w3 hw) (w36 hw) (by decide) pd__J_V rfl (W := 0) (by decide) (by decide) (Nat.le_of_eq rfl) (by decide) (by decide) rfl rfl at_191 rfl fun T h3335 v3336 A Q3337 => ?_
     obtain ⟨rfl, K3333, H3334⟩ := Q3337
     obtain ⟨E3338, F3339, F3340, F3341, V3342, ne3343, ge3344, ge3345⟩ := H3334
     refine Wp.stk (st' := []) rfl ?_
     refine s_iload (pc' := 196) A at_194 rfl rfl ?_
     refine s_iconst (pc' := 197) (z := (1 : Int32)) A at_196 rfl (by decide) ?_
     refine s_icmpN (pc' := 200) A at_197 rfl (by decide) ?_
     refine s_aload (pc' := 202) A at_200 rfl rfl rfl ?_
     refine s_lload (pc' := 204) A at_202 rfl rfl ?_
     refine s_iload (pc' := 206) A at_204 rfl rfl ?_
     refine s_iconst (pc' := 207) (z := (1 : Int32)) A at_206 rfl (by decide) ?_
     refine s_static (pc' := 210) (y := y0_idx) (argsL := [(.int (0 : Int32)), (.int (1 : Int32))]) (rest := [(.long (2 : Int64)), (.ref b2)]) A (idx l Z a0 hw n0 h3335 A.size (0 : Int32) (1 : Int32) (1 : Int32) (by decide)) (w28 hw) (w29 hw) (w30 hw) (w31 hw) (by decide) pd__II_I rfl (W := 3) (by decide) (by decide) (Nat.le_of_eq rfl) (by decide) (by decide) rfl rfl at_207 rfl fun T h3346 v3347 A Q3348 => ?_
     obtain ⟨rfl, eh⟩ := Q3348
     rw [eh] at A
     refine Wp.stk (st' := [(.int (1 : Int32)), (.long (2 : Int64)), (.ref b2)]) rfl ?_
     refine s_i2l (pc' := 211) (z := (1 : Int64)) A at_210 rfl (by decide) ?_
     refine s_ladd (pc' := 212) (z := (3 : Int64)) A at_211 rfl (by decide) ?_
     refine s_virtual (pc' := 215) (y := y6_remove) (argsL := [(.long (3 : Int64))]) (rest := []) (z := y6_remove) A E3338 (bo_remove61 l Z a0 hw n0 h3335 A.size b2 r11 (nc + (1 : Int32)) (nb + (1 : Int32)) ⟨E3338, F3339, F3340, F3341, V3342, ne3343, ge3344, ge3345⟩ znc znb) (w32 hw) (w33 hw) (nf_same (C := "") (w35 hw)) (w35 hw) (w34 hw) (w3 hw) (w36 hw) (by decide) pd__J_V rfl (W := 0) (by decide) (by decide) (Nat.le_of_eq rfl) (by decide) (by decide) rfl rfl at_212 rfl fun T h3351 v3352 A Q3353 => ?_
     obtain ⟨rfl, K3349, H3350⟩ := Q3353
     obtain ⟨E3354, F3355, F3356, F3357, V3358, ne3359, ge3360, ge3361⟩ := H3350
     refine Wp.stk (st' := []) rfl ?_
     refine s_iload (pc' := 217) A at_215 rfl rfl ?_
     refine s_iconst (pc' := 218) (z := (2 : Int32)) A at_217 rfl (by decide) ?_
     refine s_icmpN (pc' := 221) A at_218 rfl (by decide) ?_
     refine s_aload (pc' := 223) A at_221 rfl rfl rfl ?_
     refine s_lload (pc' := 225) A at_223 rfl rfl ?_
     refine s_iload (pc' := 227) A at_225 rfl rfl ?_
     refine s_iconst (pc' := 228) (z := (2 : Int32)) A at_227 rfl (by decide) ?_
     refine s_static (pc' := 231) (y := y0_idx) (argsL := [(.int (0 : Int32)), (.int (2 : Int32))]) (rest := [(.long (2 : Int64)), (.ref b2)]) A (idx l Z a0 hw n0 h3351 A.size (0 : Int32) (2 : Int32) (2 : Int32) (by decide)) (w28 hw) (w29 hw) (w30 hw) (w31 hw) (by decide) pd__II_I rfl (W := 3) (by decide) (by decide) (Nat.le_of_eq rfl) (by decide) (by decide) rfl rfl at_228 rfl fun T h3362 v3363 A Q3364 => ?_
     obtain ⟨rfl, eh⟩ := Q3364
     rw [eh] at A
     refine Wp.stk (st' := [(.int (2 : Int32)), (.long (2 : Int64)), (.ref b2)]) rfl ?_
     refine s_i2l (pc' := 232) (z := (2 : Int64)) A at_231 rfl (by decide) ?_
     refine s_ladd (pc' := 233) (z := (4 : Int64)) A at_232 rfl (by decide) ?_
     refine s_virtual (pc' := 236) (y := y6_remove) (argsL := [(.long (4 : Int64))]) (rest := []) (z := y6_remove) A E3354 (bo_remove69 l Z a0 hw n0 h3351 A.size b2 r11 (nc + (1 : Int32)) ⟨E3354, F3355, F3356, F3357, V3358, ne3359, ge3360, ge3361⟩ znc) (w32 hw) (w33 hw) (nf_same (C := "") (w35 hw)) (w35 hw) (w34 hw) (w3 hw) (w36 hw) (by decide) pd__J_V rfl (W := 0) (by decide) (by decide) (Nat.le_of_eq rfl) (by decide) (by decide) rfl rfl at_233 rfl fun T h3367 v3368 A Q3369 => ?_
     obtain ⟨rfl, K3365, H3366⟩ := Q3369
     obtain ⟨E3370, F3371, F3372, F3373, V3374, ne3375, ge3376, ge3377⟩ := H3366
     refine Wp.stk (st' := []) rfl ?_
     refine s_iload (pc' := 238) A at_236 rfl rfl ?_
     refine s_iload (pc' := 240) A at_238 rfl rfl ?_
     refine s_iconst (pc' := 241) (z := (0 : Int32)) A at_240 rfl (by decide) ?_
     refine s_static (pc' := 244) (y := y1_removed) (argsL := [(.int (0 : Int32)), (.int (3 : Int32)), (.int (0 : Int32))]) (rest := []) A (rmd l Z a0 hw n0 h3367 A.size (0 : Int32) (3 : Int32) (0 : Int32) (1 : Int32) (by decide)) (w37 hw) (w38 hw) (w30 hw) (w39 hw) (by decide) pd__III_Z rfl (W := 0) (by decide) (by decide) (Nat.le_of_eq rfl) (by decide) (by decide) rfl rfl at_241 rfl fun T h3378 v3379 A Q3380 => ?_
     obtain ⟨rfl, eh⟩ := Q3380
     rw [eh] at A
     refine Wp.stk (st' := [(.int (1 : Int32))]) rfl ?_
     refine s_istore (pc' := 246) (Ls' := #[iv q0, iv q1, iv q2, iv q3, iv q4, iv q5, iv na, iv nb, iv nc, iv nx, iv 3, iv 2, iv 0, rv b2, iv 1, jv 2, S2, jv 2, S2, jv 3, S2, jv 4, S2, iv 1, U0, U0, U0, U0]) A at_244 rfl rfl ?_
     refine s_iload (pc' := 248) A at_246 rfl rfl ?_
     refine s_iload (pc' := 250) A at_248 rfl rfl ?_
     refine s_iconst (pc' := 251) (z := (1 : Int32)) A at_250 rfl (by decide) ?_
     refine s_static (pc' := 254) (y := y1_removed) (argsL := [(.int (0 : Int32)), (.int (3 : Int32)), (.int (1 : Int32))]) (rest := []) A (rmd l Z a0 hw n0 h3367 A.size (0 : Int32) (3 : Int32) (1 : Int32) (1 : Int32) (by decide)) (w37 hw) (w38 hw) (w30 hw) (w39 hw) (by decide) pd__III_Z rfl (W := 0) (by decide) (by decide) (Nat.le_of_eq rfl) (by decide) (by decide) rfl rfl at_251 rfl fun T h3381 v3382 A Q3383 => ?_
     obtain ⟨rfl, eh⟩ := Q3383
     rw [eh] at A
     refine Wp.stk (st' := [(.int (1 : Int32))]) rfl ?_
     refine s_istore (pc' := 256) (Ls' := #[iv q0, iv q1, iv q2, iv q3, iv q4, iv q5, iv na, iv nb, iv nc, iv nx, iv 3, iv 2, iv 0, rv b2, iv 1, jv 2, S2, jv 2, S2, jv 3, S2, jv 4, S2, iv 1, iv 1, U0, U0, U0]) A at_254 rfl rfl ?_
     refine s_iload (pc' := 258) A at_256 rfl rfl ?_
     refine s_iload (pc' := 260) A at_258 rfl rfl ?_
     refine s_iconst (pc' := 261) (z := (2 : Int32)) A at_260 rfl (by decide) ?_
     refine s_static (pc' := 264) (y := y1_removed) (argsL := [(.int (0 : Int32)), (.int (3 : Int32)), (.int (2 : Int32))]) (rest := []) A (rmd l Z a0 hw n0 h3367 A.size (0 : Int32) (3 : Int32) (2 : Int32) (1 : Int32) (by decide)) (w37 hw) (w38 hw) (w30 hw) (w39 hw) (by decide) pd__III_Z rfl (W := 0) (by decide) (by decide) (Nat.le_of_eq rfl) (by decide) (by decide) rfl rfl at_261 rfl fun T h3384 v3385 A Q3386 => ?_
     obtain ⟨rfl, eh⟩ := Q3386
     rw [eh] at A
     refine Wp.stk (st' := [(.int (1 : Int32))]) rfl ?_
     refine s_istore (pc' := 266) (Ls' := #[iv q0, iv q1, iv q2, iv q3, iv q4, iv q5, iv na, iv nb, iv nc, iv nx, iv 3, iv 2, iv 0, rv b2, iv 1, jv 2, S2, jv 2, S2, jv 3, S2, jv 4, S2, iv 1, iv 1, iv 1, U0, U0]) A at_264 rfl rfl ?_
     refine s_aload (pc' := 268) A at_266 rfl rfl rfl ?_
     refine s_virtual (pc' := 271) (y := y3_isEmpty) (argsL := []) (rest := []) (z := y3_isEmpty) A E3370 (bo_isEmpty70 l Z a0 hw n0 h3367 A.size b2 r11 [.int (0 : Int32), .int (0 : Int32), .int (0 : Int32), .int (0 : Int32)] ⟨E3370, F3371, F3372, F3373, V3374, ne3375, ge3376, ge3377⟩) (w13 hw) (w14 hw) (nf_same (C := "") (w16 hw)) (w16 hw) (w15 hw) (w3 hw) (w17 hw) (by decide) pd___Z rfl (W := 0) (by decide) (by decide) (Nat.le_of_eq rfl) (by decide) (by decide) rfl rfl at_268 rfl fun T h3389 v3390 A Q3391 => ?_
     obtain ⟨rfl, K3387, H3388⟩ := Q3391
     obtain ⟨E3392, F3393, F3394, F3395, V3396, ne3397, ge3398, ge3399⟩ := H3388
     refine Wp.stk (st' := [(.int (1 : Int32))]) rfl ?_
     refine s_istore (pc' := 273) (Ls' := #[iv q0, iv q1, iv q2, iv q3, iv q4, iv q5, iv na, iv nb, iv nc, iv nx, iv 3, iv 2, iv 0, rv b2, iv 1, jv 2, S2, jv 2, S2, jv 3, S2, jv 4, S2, iv 1, iv 1, iv 1, iv 1, U0]) A at_271 rfl rfl ?_
     refine s_iload (pc' := 275) A at_273 rfl rfl ?_
     refine s_ifN (pc' := 278) A at_275 rfl (by decide) ?_
     refine s_iload (pc' := 280) A at_278 rfl rfl ?_
     refine s_ifN (pc' := 283) A at_280 rfl (by decide) ?_
     refine s_iload (pc' := 285) A at_283 rfl rfl ?_
     refine s_ifN (pc' := 288) A at_285 rfl (by decide) ?_
     refine s_iload (pc' := 290) A at_288 rfl rfl ?_
     refine s_ifN (pc' := 293) A at_290 rfl (by decide) ?_
     refine s_iload (pc' := 295) A at_293 rfl rfl ?_
     refine s_ifN (pc' := 298) A at_295 rfl (by decide) ?_
     refine s_iconst (pc' := 299) (z := (1 : Int32)) A at_298 rfl (by decide) ?_
     refine s_goto (pc' := 303) A at_299 (by decide) (by decide) ?_
     exact r_bool A rfl (by decide) at_303 (by decide) (by decide) (rfl)
    ·
     refine s_iload (pc' := 176) A at_174 rfl rfl ?_
     refine s_ifN (pc' := 179) A at_176 rfl (by decide) ?_
     refine s_aload (pc' := 181) A at_179 rfl rfl rfl ?_
     refine s_lload (pc' := 183) A at_181 rfl rfl ?_
     refine s_iload (pc' := 185) A at_183 rfl rfl ?_
     refine s_iconst (pc' := 186) (z := (0 : Int32)) A at_185 rfl (by decide) ?_
     refine s_static (pc' := 189) (y := y0_idx) (argsL := [(.int (1 : Int32)), (.int (0 : Int32))]) (rest := [(.long (2 : Int64)), (.ref b2)]) A (idx l Z a0 hw n0 h2576 A.size (1 : Int32) (0 : Int32) (0 : Int32) (by decide)) (w28 hw) (w29 hw) (w30 hw) (w31 hw) (by decide) pd__II_I rfl (W := 3) (by decide) (by decide) (Nat.le_of_eq rfl) (by decide) (by decide) rfl rfl at_186 rfl fun T h3400 v3401 A Q3402 => ?_
     obtain ⟨rfl, eh⟩ := Q3402
     rw [eh] at A
     refine Wp.stk (st' := [(.int (0 : Int32)), (.long (2 : Int64)), (.ref b2)]) rfl ?_
     refine s_i2l (pc' := 190) (z := (0 : Int64)) A at_189 rfl (by decide) ?_
     refine s_ladd (pc' := 191) (z := (2 : Int64)) A at_190 rfl (by decide) ?_
     refine s_virtual (pc' := 194) (y := y6_remove) (argsL := [(.long (2 : Int64))]) (rest := []) (z := y6_remove) A E2579 (bo_remove56 l Z a0 hw n0 h2576 A.size b2 r11 (nc + (1 : Int32)) (na + (1 : Int32)) (nb + (1 : Int32)) ⟨E2579, F2580, F2581, F2582, V2583, ne2584, ge2585, ge2586⟩ znc zna znb) (w32 hw) (w33 hw) (nf_same (C := "") (w35 hw)) (w35 hw) (w34 hw) (w3 hw) (w36 hw) (by decide) pd__J_V rfl (W := 0) (by decide) (by decide) (Nat.le_of_eq rfl) (by decide) (by decide) rfl rfl at_191 rfl fun T h3405 v3406 A Q3407 => ?_
     obtain ⟨rfl, K3403, H3404⟩ := Q3407
     obtain ⟨E3408, F3409, F3410, F3411, V3412, ne3413, ge3414, ge3415⟩ := H3404
     refine Wp.stk (st' := []) rfl ?_
     refine s_iload (pc' := 196) A at_194 rfl rfl ?_
     refine s_iconst (pc' := 197) (z := (1 : Int32)) A at_196 rfl (by decide) ?_
     refine s_icmpN (pc' := 200) A at_197 rfl (by decide) ?_
     refine s_aload (pc' := 202) A at_200 rfl rfl rfl ?_
     refine s_lload (pc' := 204) A at_202 rfl rfl ?_
     refine s_iload (pc' := 206) A at_204 rfl rfl ?_
     refine s_iconst (pc' := 207) (z := (1 : Int32)) A at_206 rfl (by decide) ?_
     refine s_static (pc' := 210) (y := y0_idx) (argsL := [(.int (1 : Int32)), (.int (1 : Int32))]) (rest := [(.long (2 : Int64)), (.ref b2)]) A (idx l Z a0 hw n0 h3405 A.size (1 : Int32) (1 : Int32) (2 : Int32) (by decide)) (w28 hw) (w29 hw) (w30 hw) (w31 hw) (by decide) pd__II_I rfl (W := 3) (by decide) (by decide) (Nat.le_of_eq rfl) (by decide) (by decide) rfl rfl at_207 rfl fun T h3416 v3417 A Q3418 => ?_
     obtain ⟨rfl, eh⟩ := Q3418
     rw [eh] at A
     refine Wp.stk (st' := [(.int (2 : Int32)), (.long (2 : Int64)), (.ref b2)]) rfl ?_
     refine s_i2l (pc' := 211) (z := (2 : Int64)) A at_210 rfl (by decide) ?_
     refine s_ladd (pc' := 212) (z := (4 : Int64)) A at_211 rfl (by decide) ?_
     refine s_virtual (pc' := 215) (y := y6_remove) (argsL := [(.long (4 : Int64))]) (rest := []) (z := y6_remove) A E3408 (bo_remove64 l Z a0 hw n0 h3405 A.size b2 r11 (nc + (1 : Int32)) (nb + (1 : Int32)) ⟨E3408, F3409, F3410, F3411, V3412, ne3413, ge3414, ge3415⟩ znc znb) (w32 hw) (w33 hw) (nf_same (C := "") (w35 hw)) (w35 hw) (w34 hw) (w3 hw) (w36 hw) (by decide) pd__J_V rfl (W := 0) (by decide) (by decide) (Nat.le_of_eq rfl) (by decide) (by decide) rfl rfl at_212 rfl fun T h3421 v3422 A Q3423 => ?_
     obtain ⟨rfl, K3419, H3420⟩ := Q3423
     obtain ⟨E3424, F3425, F3426, F3427, V3428, ne3429, ge3430, ge3431⟩ := H3420
     refine Wp.stk (st' := []) rfl ?_
     refine s_iload (pc' := 217) A at_215 rfl rfl ?_
     refine s_iconst (pc' := 218) (z := (2 : Int32)) A at_217 rfl (by decide) ?_
     refine s_icmpN (pc' := 221) A at_218 rfl (by decide) ?_
     refine s_aload (pc' := 223) A at_221 rfl rfl rfl ?_
     refine s_lload (pc' := 225) A at_223 rfl rfl ?_
     refine s_iload (pc' := 227) A at_225 rfl rfl ?_
     refine s_iconst (pc' := 228) (z := (2 : Int32)) A at_227 rfl (by decide) ?_
     refine s_static (pc' := 231) (y := y0_idx) (argsL := [(.int (1 : Int32)), (.int (2 : Int32))]) (rest := [(.long (2 : Int64)), (.ref b2)]) A (idx l Z a0 hw n0 h3421 A.size (1 : Int32) (2 : Int32) (1 : Int32) (by decide)) (w28 hw) (w29 hw) (w30 hw) (w31 hw) (by decide) pd__II_I rfl (W := 3) (by decide) (by decide) (Nat.le_of_eq rfl) (by decide) (by decide) rfl rfl at_228 rfl fun T h3432 v3433 A Q3434 => ?_
     obtain ⟨rfl, eh⟩ := Q3434
     rw [eh] at A
     refine Wp.stk (st' := [(.int (1 : Int32)), (.long (2 : Int64)), (.ref b2)]) rfl ?_
     refine s_i2l (pc' := 232) (z := (1 : Int64)) A at_231 rfl (by decide) ?_
     refine s_ladd (pc' := 233) (z := (3 : Int64)) A at_232 rfl (by decide) ?_
     refine s_virtual (pc' := 236) (y := y6_remove) (argsL := [(.long (3 : Int64))]) (rest := []) (z := y6_remove) A E3424 (bo_remove71 l Z a0 hw n0 h3421 A.size b2 r11 (nb + (1 : Int32)) ⟨E3424, F3425, F3426, F3427, V3428, ne3429, ge3430, ge3431⟩ znb) (w32 hw) (w33 hw) (nf_same (C := "") (w35 hw)) (w35 hw) (w34 hw) (w3 hw) (w36 hw) (by decide) pd__J_V rfl (W := 0) (by decide) (by decide) (Nat.le_of_eq rfl) (by decide) (by decide) rfl rfl at_233 rfl fun T h3437 v3438 A Q3439 => ?_
     obtain ⟨rfl, K3435, H3436⟩ := Q3439
     obtain ⟨E3440, F3441, F3442, F3443, V3444, ne3445, ge3446, ge3447⟩ := H3436
     refine Wp.stk (st' := []) rfl ?_
     refine s_iload (pc' := 238) A at_236 rfl rfl ?_
     refine s_iload (pc' := 240) A at_238 rfl rfl ?_
     refine s_iconst (pc' := 241) (z := (0 : Int32)) A at_240 rfl (by decide) ?_
     refine s_static (pc' := 244) (y := y1_removed) (argsL := [(.int (1 : Int32)), (.int (3 : Int32)), (.int (0 : Int32))]) (rest := []) A (rmd l Z a0 hw n0 h3437 A.size (1 : Int32) (3 : Int32) (0 : Int32) (1 : Int32) (by decide)) (w37 hw) (w38 hw) (w30 hw) (w39 hw) (by decide) pd__III_Z rfl (W := 0) (by decide) (by decide) (Nat.le_of_eq rfl) (by decide) (by decide) rfl rfl at_241 rfl fun T h3448 v3449 A Q3450 => ?_
     obtain ⟨rfl, eh⟩ := Q3450
     rw [eh] at A
     refine Wp.stk (st' := [(.int (1 : Int32))]) rfl ?_
     refine s_istore (pc' := 246) (Ls' := #[iv q0, iv q1, iv q2, iv q3, iv q4, iv q5, iv na, iv nb, iv nc, iv nx, iv 3, iv 2, iv 1, rv b2, iv 1, jv 2, S2, jv 2, S2, jv 3, S2, jv 4, S2, iv 1, U0, U0, U0, U0]) A at_244 rfl rfl ?_
     refine s_iload (pc' := 248) A at_246 rfl rfl ?_
     refine s_iload (pc' := 250) A at_248 rfl rfl ?_
     refine s_iconst (pc' := 251) (z := (1 : Int32)) A at_250 rfl (by decide) ?_
     refine s_static (pc' := 254) (y := y1_removed) (argsL := [(.int (1 : Int32)), (.int (3 : Int32)), (.int (1 : Int32))]) (rest := []) A (rmd l Z a0 hw n0 h3437 A.size (1 : Int32) (3 : Int32) (1 : Int32) (1 : Int32) (by decide)) (w37 hw) (w38 hw) (w30 hw) (w39 hw) (by decide) pd__III_Z rfl (W := 0) (by decide) (by decide) (Nat.le_of_eq rfl) (by decide) (by decide) rfl rfl at_251 rfl fun T h3451 v3452 A Q3453 => ?_
     obtain ⟨rfl, eh⟩ := Q3453
     rw [eh] at A
     refine Wp.stk (st' := [(.int (1 : Int32))]) rfl ?_
     refine s_istore (pc' := 256) (Ls' := #[iv q0, iv q1, iv q2, iv q3, iv q4, iv q5, iv na, iv nb, iv nc, iv nx, iv 3, iv 2, iv 1, rv b2, iv 1, jv 2, S2, jv 2, S2, jv 3, S2, jv 4, S2, iv 1, iv 1, U0, U0, U0]) A at_254 rfl rfl ?_
     refine s_iload (pc' := 258) A at_256 rfl rfl ?_
     refine s_iload (pc' := 260) A at_258 rfl rfl ?_
     refine s_iconst (pc' := 261) (z := (2 : Int32)) A at_260 rfl (by decide) ?_
     refine s_static (pc' := 264) (y := y1_removed) (argsL := [(.int (1 : Int32)), (.int (3 : Int32)), (.int (2 : Int32))]) (rest := []) A (rmd l Z a0 hw n0 h3437 A.size (1 : Int32) (3 : Int32) (2 : Int32) (1 : Int32) (by decide)) (w37 hw) (w38 hw) (w30 hw) (w39 hw) (by decide) pd__III_Z rfl (W := 0) (by decide) (by decide) (Nat.le_of_eq rfl) (by decide) (by decide) rfl rfl at_261 rfl fun T h3454 v3455 A Q3456 => ?_
     obtain ⟨rfl, eh⟩ := Q3456
     rw [eh] at A
     refine Wp.stk (st' := [(.int (1 : Int32))]) rfl ?_
     refine s_istore (pc' := 266) (Ls' := #[iv q0, iv q1, iv q2, iv q3, iv q4, iv q5, iv na, iv nb, iv nc, iv nx, iv 3, iv 2, iv 1, rv b2, iv 1, jv 2, S2, jv 2, S2, jv 3, S2, jv 4, S2, iv 1, iv 1, iv 1, U0, U0]) A at_264 rfl rfl ?_
     refine s_aload (pc' := 268) A at_266 rfl rfl rfl ?_
     refine s_virtual (pc' := 271) (y := y3_isEmpty) (argsL := []) (rest := []) (z := y3_isEmpty) A E3440 (bo_isEmpty70 l Z a0 hw n0 h3437 A.size b2 r11 [.int (0 : Int32), .int (0 : Int32), .int (0 : Int32), .int (0 : Int32)] ⟨E3440, F3441, F3442, F3443, V3444, ne3445, ge3446, ge3447⟩) (w13 hw) (w14 hw) (nf_same (C := "") (w16 hw)) (w16 hw) (w15 hw) (w3 hw) (w17 hw) (by decide) pd___Z rfl (W := 0) (by decide) (by decide) (Nat.le_of_eq rfl) (by decide) (by decide) rfl rfl at_268 rfl fun T h3459 v3460 A Q3461 => ?_
     obtain ⟨rfl, K3457, H3458⟩ := Q3461
     obtain ⟨E3462, F3463, F3464, F3465, V3466, ne3467, ge3468, ge3469⟩ := H3458
     refine Wp.stk (st' := [(.int (1 : Int32))]) rfl ?_
     refine s_istore (pc' := 273) (Ls' := #[iv q0, iv q1, iv q2, iv q3, iv q4, iv q5, iv na, iv nb, iv nc, iv nx, iv 3, iv 2, iv 1, rv b2, iv 1, jv 2, S2, jv 2, S2, jv 3, S2, jv 4, S2, iv 1, iv 1, iv 1, iv 1, U0]) A at_271 rfl rfl ?_
     refine s_iload (pc' := 275) A at_273 rfl rfl ?_
     refine s_ifN (pc' := 278) A at_275 rfl (by decide) ?_
     refine s_iload (pc' := 280) A at_278 rfl rfl ?_
     refine s_ifN (pc' := 283) A at_280 rfl (by decide) ?_
     refine s_iload (pc' := 285) A at_283 rfl rfl ?_
     refine s_ifN (pc' := 288) A at_285 rfl (by decide) ?_
     refine s_iload (pc' := 290) A at_288 rfl rfl ?_
     refine s_ifN (pc' := 293) A at_290 rfl (by decide) ?_
     refine s_iload (pc' := 295) A at_293 rfl rfl ?_
     refine s_ifN (pc' := 298) A at_295 rfl (by decide) ?_
     refine s_iconst (pc' := 299) (z := (1 : Int32)) A at_298 rfl (by decide) ?_
     refine s_goto (pc' := 303) A at_299 (by decide) (by decide) ?_
     exact r_bool A rfl (by decide) at_303 (by decide) (by decide) (rfl)
    ·
     refine s_iload (pc' := 176) A at_174 rfl rfl ?_
     refine s_ifN (pc' := 179) A at_176 rfl (by decide) ?_
     refine s_aload (pc' := 181) A at_179 rfl rfl rfl ?_
     refine s_lload (pc' := 183) A at_181 rfl rfl ?_
     refine s_iload (pc' := 185) A at_183 rfl rfl ?_
     refine s_iconst (pc' := 186) (z := (0 : Int32)) A at_185 rfl (by decide) ?_
     refine s_static (pc' := 189) (y := y0_idx) (argsL := [(.int (2 : Int32)), (.int (0 : Int32))]) (rest := [(.long (2 : Int64)), (.ref b2)]) A (idx l Z a0 hw n0 h2576 A.size (2 : Int32) (0 : Int32) (1 : Int32) (by decide)) (w28 hw) (w29 hw) (w30 hw) (w31 hw) (by decide) pd__II_I rfl (W := 3) (by decide) (by decide) (Nat.le_of_eq rfl) (by decide) (by decide) rfl rfl at_186 rfl fun T h3470 v3471 A Q3472 => ?_
     obtain ⟨rfl, eh⟩ := Q3472
     rw [eh] at A
     refine Wp.stk (st' := [(.int (1 : Int32)), (.long (2 : Int64)), (.ref b2)]) rfl ?_
     refine s_i2l (pc' := 190) (z := (1 : Int64)) A at_189 rfl (by decide) ?_
     refine s_ladd (pc' := 191) (z := (3 : Int64)) A at_190 rfl (by decide) ?_
     refine s_virtual (pc' := 194) (y := y6_remove) (argsL := [(.long (3 : Int64))]) (rest := []) (z := y6_remove) A E2579 (bo_remove59 l Z a0 hw n0 h2576 A.size b2 r11 (nc + (1 : Int32)) (na + (1 : Int32)) (nb + (1 : Int32)) ⟨E2579, F2580, F2581, F2582, V2583, ne2584, ge2585, ge2586⟩ znc zna znb) (w32 hw) (w33 hw) (nf_same (C := "") (w35 hw)) (w35 hw) (w34 hw) (w3 hw) (w36 hw) (by decide) pd__J_V rfl (W := 0) (by decide) (by decide) (Nat.le_of_eq rfl) (by decide) (by decide) rfl rfl at_191 rfl fun T h3475 v3476 A Q3477 => ?_
     obtain ⟨rfl, K3473, H3474⟩ := Q3477
     obtain ⟨E3478, F3479, F3480, F3481, V3482, ne3483, ge3484, ge3485⟩ := H3474
     refine Wp.stk (st' := []) rfl ?_
     refine s_iload (pc' := 196) A at_194 rfl rfl ?_
     refine s_iconst (pc' := 197) (z := (1 : Int32)) A at_196 rfl (by decide) ?_
     refine s_icmpN (pc' := 200) A at_197 rfl (by decide) ?_
     refine s_aload (pc' := 202) A at_200 rfl rfl rfl ?_
     refine s_lload (pc' := 204) A at_202 rfl rfl ?_
     refine s_iload (pc' := 206) A at_204 rfl rfl ?_
     refine s_iconst (pc' := 207) (z := (1 : Int32)) A at_206 rfl (by decide) ?_
     refine s_static (pc' := 210) (y := y0_idx) (argsL := [(.int (2 : Int32)), (.int (1 : Int32))]) (rest := [(.long (2 : Int64)), (.ref b2)]) A (idx l Z a0 hw n0 h3475 A.size (2 : Int32) (1 : Int32) (0 : Int32) (by decide)) (w28 hw) (w29 hw) (w30 hw) (w31 hw) (by decide) pd__II_I rfl (W := 3) (by decide) (by decide) (Nat.le_of_eq rfl) (by decide) (by decide) rfl rfl at_207 rfl fun T h3486 v3487 A Q3488 => ?_
     obtain ⟨rfl, eh⟩ := Q3488
     rw [eh] at A
     refine Wp.stk (st' := [(.int (0 : Int32)), (.long (2 : Int64)), (.ref b2)]) rfl ?_
     refine s_i2l (pc' := 211) (z := (0 : Int64)) A at_210 rfl (by decide) ?_
     refine s_ladd (pc' := 212) (z := (2 : Int64)) A at_211 rfl (by decide) ?_
     refine s_virtual (pc' := 215) (y := y6_remove) (argsL := [(.long (2 : Int64))]) (rest := []) (z := y6_remove) A E3478 (bo_remove65 l Z a0 hw n0 h3475 A.size b2 r11 (nc + (1 : Int32)) (na + (1 : Int32)) ⟨E3478, F3479, F3480, F3481, V3482, ne3483, ge3484, ge3485⟩ znc zna) (w32 hw) (w33 hw) (nf_same (C := "") (w35 hw)) (w35 hw) (w34 hw) (w3 hw) (w36 hw) (by decide) pd__J_V rfl (W := 0) (by decide) (by decide) (Nat.le_of_eq rfl) (by decide) (by decide) rfl rfl at_212 rfl fun T h3491 v3492 A Q3493 => ?_
     obtain ⟨rfl, K3489, H3490⟩ := Q3493
     obtain ⟨E3494, F3495, F3496, F3497, V3498, ne3499, ge3500, ge3501⟩ := H3490
     refine Wp.stk (st' := []) rfl ?_
     refine s_iload (pc' := 217) A at_215 rfl rfl ?_
     refine s_iconst (pc' := 218) (z := (2 : Int32)) A at_217 rfl (by decide) ?_
     refine s_icmpN (pc' := 221) A at_218 rfl (by decide) ?_
     refine s_aload (pc' := 223) A at_221 rfl rfl rfl ?_
     refine s_lload (pc' := 225) A at_223 rfl rfl ?_
     refine s_iload (pc' := 227) A at_225 rfl rfl ?_
     refine s_iconst (pc' := 228) (z := (2 : Int32)) A at_227 rfl (by decide) ?_
     refine s_static (pc' := 231) (y := y0_idx) (argsL := [(.int (2 : Int32)), (.int (2 : Int32))]) (rest := [(.long (2 : Int64)), (.ref b2)]) A (idx l Z a0 hw n0 h3491 A.size (2 : Int32) (2 : Int32) (2 : Int32) (by decide)) (w28 hw) (w29 hw) (w30 hw) (w31 hw) (by decide) pd__II_I rfl (W := 3) (by decide) (by decide) (Nat.le_of_eq rfl) (by decide) (by decide) rfl rfl at_228 rfl fun T h3502 v3503 A Q3504 => ?_
     obtain ⟨rfl, eh⟩ := Q3504
     rw [eh] at A
     refine Wp.stk (st' := [(.int (2 : Int32)), (.long (2 : Int64)), (.ref b2)]) rfl ?_
     refine s_i2l (pc' := 232) (z := (2 : Int64)) A at_231 rfl (by decide) ?_
     refine s_ladd (pc' := 233) (z := (4 : Int64)) A at_232 rfl (by decide) ?_
     refine s_virtual (pc' := 236) (y := y6_remove) (argsL := [(.long (4 : Int64))]) (rest := []) (z := y6_remove) A E3494 (bo_remove69 l Z a0 hw n0 h3491 A.size b2 r11 (nc + (1 : Int32)) ⟨E3494, F3495, F3496, F3497, V3498, ne3499, ge3500, ge3501⟩ znc) (w32 hw) (w33 hw) (nf_same (C := "") (w35 hw)) (w35 hw) (w34 hw) (w3 hw) (w36 hw) (by decide) pd__J_V rfl (W := 0) (by decide) (by decide) (Nat.le_of_eq rfl) (by decide) (by decide) rfl rfl at_233 rfl fun T h3507 v3508 A Q3509 => ?_
     obtain ⟨rfl, K3505, H3506⟩ := Q3509
     obtain ⟨E3510, F3511, F3512, F3513, V3514, ne3515, ge3516, ge3517⟩ := H3506
     refine Wp.stk (st' := []) rfl ?_
     refine s_iload (pc' := 238) A at_236 rfl rfl ?_
     refine s_iload (pc' := 240) A at_238 rfl rfl ?_
     refine s_iconst (pc' := 241) (z := (0 : Int32)) A at_240 rfl (by decide) ?_
     refine s_static (pc' := 244) (y := y1_removed) (argsL := [(.int (2 : Int32)), (.int (3 : Int32)), (.int (0 : Int32))]) (rest := []) A (rmd l Z a0 hw n0 h3507 A.size (2 : Int32) (3 : Int32) (0 : Int32) (1 : Int32) (by decide)) (w37 hw) (w38 hw) (w30 hw) (w39 hw) (by decide) pd__III_Z rfl (W := 0) (by decide) (by decide) (Nat.le_of_eq rfl) (by decide) (by decide) rfl rfl at_241 rfl fun T h3518 v3519 A Q3520 => ?_
     obtain ⟨rfl, eh⟩ := Q3520
     rw [eh] at A
     refine Wp.stk (st' := [(.int (1 : Int32))]) rfl ?_
     refine s_istore (pc' := 246) (Ls' := #[iv q0, iv q1, iv q2, iv q3, iv q4, iv q5, iv na, iv nb, iv nc, iv nx, iv 3, iv 2, iv 2, rv b2, iv 1, jv 2, S2, jv 2, S2, jv 3, S2, jv 4, S2, iv 1, U0, U0, U0, U0]) A at_244 rfl rfl ?_
     refine s_iload (pc' := 248) A at_246 rfl rfl ?_
     refine s_iload (pc' := 250) A at_248 rfl rfl ?_
     refine s_iconst (pc' := 251) (z := (1 : Int32)) A at_250 rfl (by decide) ?_
     refine s_static (pc' := 254) (y := y1_removed) (argsL := [(.int (2 : Int32)), (.int (3 : Int32)), (.int (1 : Int32))]) (rest := []) A (rmd l Z a0 hw n0 h3507 A.size (2 : Int32) (3 : Int32) (1 : Int32) (1 : Int32) (by decide)) (w37 hw) (w38 hw) (w30 hw) (w39 hw) (by decide) pd__III_Z rfl (W := 0) (by decide) (by decide) (Nat.le_of_eq rfl) (by decide) (by decide) rfl rfl at_251 rfl fun T h3521 v3522 A Q3523 => ?_
     obtain ⟨rfl, eh⟩ := Q3523
     rw [eh] at A
     refine Wp.stk (st' := [(.int (1 : Int32))]) rfl ?_
     refine s_istore (pc' := 256) (Ls' := #[iv q0, iv q1, iv q2, iv q3, iv q4, iv q5, iv na, iv nb, iv nc, iv nx, iv 3, iv 2, iv 2, rv b2, iv 1, jv 2, S2, jv 2, S2, jv 3, S2, jv 4, S2, iv 1, iv 1, U0, U0, U0]) A at_254 rfl rfl ?_
     refine s_iload (pc' := 258) A at_256 rfl rfl ?_
     refine s_iload (pc' := 260) A at_258 rfl rfl ?_
     refine s_iconst (pc' := 261) (z := (2 : Int32)) A at_260 rfl (by decide) ?_
     refine s_static (pc' := 264) (y := y1_removed) (argsL := [(.int (2 : Int32)), (.int (3 : Int32)), (.int (2 : Int32))]) (rest := []) A (rmd l Z a0 hw n0 h3507 A.size (2 : Int32) (3 : Int32) (2 : Int32) (1 : Int32) (by decide)) (w37 hw) (w38 hw) (w30 hw) (w39 hw) (by decide) pd__III_Z rfl (W := 0) (by decide) (by decide) (Nat.le_of_eq rfl) (by decide) (by decide) rfl rfl at_261 rfl fun T h3524 v3525 A Q3526 => ?_
     obtain ⟨rfl, eh⟩ := Q3526
     rw [eh] at A
     refine Wp.stk (st' := [(.int (1 : Int32))]) rfl ?_
     refine s_istore (pc' := 266) (Ls' := #[iv q0, iv q1, iv q2, iv q3, iv q4, iv q5, iv na, iv nb, iv nc, iv nx, iv 3, iv 2, iv 2, rv b2, iv 1, jv 2, S2, jv 2, S2, jv 3, S2, jv 4, S2, iv 1, iv 1, iv 1, U0, U0]) A at_264 rfl rfl ?_
     refine s_aload (pc' := 268) A at_266 rfl rfl rfl ?_
     refine s_virtual (pc' := 271) (y := y3_isEmpty) (argsL := []) (rest := []) (z := y3_isEmpty) A E3510 (bo_isEmpty70 l Z a0 hw n0 h3507 A.size b2 r11 [.int (0 : Int32), .int (0 : Int32), .int (0 : Int32), .int (0 : Int32)] ⟨E3510, F3511, F3512, F3513, V3514, ne3515, ge3516, ge3517⟩) (w13 hw) (w14 hw) (nf_same (C := "") (w16 hw)) (w16 hw) (w15 hw) (w3 hw) (w17 hw) (by decide) pd___Z rfl (W := 0) (by decide) (by decide) (Nat.le_of_eq rfl) (by decide) (by decide) rfl rfl at_268 rfl fun T h3529 v3530 A Q3531 => ?_
     obtain ⟨rfl, K3527, H3528⟩ := Q3531
     obtain ⟨E3532, F3533, F3534, F3535, V3536, ne3537, ge3538, ge3539⟩ := H3528
     refine Wp.stk (st' := [(.int (1 : Int32))]) rfl ?_
     refine s_istore (pc' := 273) (Ls' := #[iv q0, iv q1, iv q2, iv q3, iv q4, iv q5, iv na, iv nb, iv nc, iv nx, iv 3, iv 2, iv 2, rv b2, iv 1, jv 2, S2, jv 2, S2, jv 3, S2, jv 4, S2, iv 1, iv 1, iv 1, iv 1, U0]) A at_271 rfl rfl ?_
     refine s_iload (pc' := 275) A at_273 rfl rfl ?_
     refine s_ifN (pc' := 278) A at_275 rfl (by decide) ?_
     refine s_iload (pc' := 280) A at_278 rfl rfl ?_
     refine s_ifN (pc' := 283) A at_280 rfl (by decide) ?_
     refine s_iload (pc' := 285) A at_283 rfl rfl ?_
     refine s_ifN (pc' := 288) A at_285 rfl (by decide) ?_
     refine s_iload (pc' := 290) A at_288 rfl rfl ?_
     refine s_ifN (pc' := 293) A at_290 rfl (by decide) ?_
     refine s_iload (pc' := 295) A at_293 rfl rfl ?_
     refine s_ifN (pc' := 298) A at_295 rfl (by decide) ?_
     refine s_iconst (pc' := 299) (z := (1 : Int32)) A at_298 rfl (by decide) ?_
     refine s_goto (pc' := 303) A at_299 (by decide) (by decide) ?_
     exact r_bool A rfl (by decide) at_303 (by decide) (by decide) (rfl)
    ·
     refine s_iload (pc' := 176) A at_174 rfl rfl ?_
     refine s_ifN (pc' := 179) A at_176 rfl (by decide) ?_
     refine s_aload (pc' := 181) A at_179 rfl rfl rfl ?_
     refine s_lload (pc' := 183) A at_181 rfl rfl ?_
     refine s_iload (pc' := 185) A at_183 rfl rfl ?_
     refine s_iconst (pc' := 186) (z := (0 : Int32)) A at_185 rfl (by decide) ?_
     refine s_static (pc' := 189) (y := y0_idx) (argsL := [(.int (3 : Int32)), (.int (0 : Int32))]) (rest := [(.long (2 : Int64)), (.ref b2)]) A (idx l Z a0 hw n0 h2576 A.size (3 : Int32) (0 : Int32) (1 : Int32) (by decide)) (w28 hw) (w29 hw) (w30 hw) (w31 hw) (by decide) pd__II_I rfl (W := 3) (by decide) (by decide) (Nat.le_of_eq rfl) (by decide) (by decide) rfl rfl at_186 rfl fun T h3540 v3541 A Q3542 => ?_
     obtain ⟨rfl, eh⟩ := Q3542
     rw [eh] at A
     refine Wp.stk (st' := [(.int (1 : Int32)), (.long (2 : Int64)), (.ref b2)]) rfl ?_
     refine s_i2l (pc' := 190) (z := (1 : Int64)) A at_189 rfl (by decide) ?_
     refine s_ladd (pc' := 191) (z := (3 : Int64)) A at_190 rfl (by decide) ?_
     refine s_virtual (pc' := 194) (y := y6_remove) (argsL := [(.long (3 : Int64))]) (rest := []) (z := y6_remove) A E2579 (bo_remove59 l Z a0 hw n0 h2576 A.size b2 r11 (nc + (1 : Int32)) (na + (1 : Int32)) (nb + (1 : Int32)) ⟨E2579, F2580, F2581, F2582, V2583, ne2584, ge2585, ge2586⟩ znc zna znb) (w32 hw) (w33 hw) (nf_same (C := "") (w35 hw)) (w35 hw) (w34 hw) (w3 hw) (w36 hw) (by decide) pd__J_V rfl (W := 0) (by decide) (by decide) (Nat.le_of_eq rfl) (by decide) (by decide) rfl rfl at_191 rfl fun T h3545 v3546 A Q3547 => ?_
     obtain ⟨rfl, K3543, H3544⟩ := Q3547
     obtain ⟨E3548, F3549, F3550, F3551, V3552, ne3553, ge3554, ge3555⟩ := H3544
     refine Wp.stk (st' := []) rfl ?_
     refine s_iload (pc' := 196) A at_194 rfl rfl ?_
     refine s_iconst (pc' := 197) (z := (1 : Int32)) A at_196 rfl (by decide) ?_
     refine s_icmpN (pc' := 200) A at_197 rfl (by decide) ?_
     refine s_aload (pc' := 202) A at_200 rfl rfl rfl ?_
     refine s_lload (pc' := 204) A at_202 rfl rfl ?_
     refine s_iload (pc' := 206) A at_204 rfl rfl ?_
     refine s_iconst (pc' := 207) (z := (1 : Int32)) A at_206 rfl (by decide) ?_
     refine s_static (pc' := 210) (y := y0_idx) (argsL := [(.int (3 : Int32)), (.int (1 : Int32))]) (rest := [(.long (2 : Int64)), (.ref b2)]) A (idx l Z a0 hw n0 h3545 A.size (3 : Int32) (1 : Int32) (2 : Int32) (by decide)) (w28 hw) (w29 hw) (w30 hw) (w31 hw) (by decide) pd__II_I rfl (W := 3) (by decide) (by decide) (Nat.le_of_eq rfl) (by decide) (by decide) rfl rfl at_207 rfl fun T h3556 v3557 A Q3558 => ?_
     obtain ⟨rfl, eh⟩ := Q3558
     rw [eh] at A
     refine Wp.stk (st' := [(.int (2 : Int32)), (.long (2 : Int64)), (.ref b2)]) rfl ?_
     refine s_i2l (pc' := 211) (z := (2 : Int64)) A at_210 rfl (by decide) ?_
     refine s_ladd (pc' := 212) (z := (4 : Int64)) A at_211 rfl (by decide) ?_
     refine s_virtual (pc' := 215) (y := y6_remove) (argsL := [(.long (4 : Int64))]) (rest := []) (z := y6_remove) A E3548 (bo_remove66 l Z a0 hw n0 h3545 A.size b2 r11 (nc + (1 : Int32)) (na + (1 : Int32)) ⟨E3548, F3549, F3550, F3551, V3552, ne3553, ge3554, ge3555⟩ znc zna) (w32 hw) (w33 hw) (nf_same (C := "") (w35 hw)) (w35 hw) (w34 hw) (w3 hw) (w36 hw) (by decide) pd__J_V rfl (W := 0) (by decide) (by decide) (Nat.le_of_eq rfl) (by decide) (by decide) rfl rfl at_212 rfl fun T h3561 v3562 A Q3563 => ?_
     obtain ⟨rfl, K3559, H3560⟩ := Q3563
     obtain ⟨E3564, F3565, F3566, F3567, V3568, ne3569, ge3570, ge3571⟩ := H3560
     refine Wp.stk (st' := []) rfl ?_
     refine s_iload (pc' := 217) A at_215 rfl rfl ?_
     refine s_iconst (pc' := 218) (z := (2 : Int32)) A at_217 rfl (by decide) ?_
     refine s_icmpN (pc' := 221) A at_218 rfl (by decide) ?_
     refine s_aload (pc' := 223) A at_221 rfl rfl rfl ?_
     refine s_lload (pc' := 225) A at_223 rfl rfl ?_
     refine s_iload (pc' := 227) A at_225 rfl rfl ?_
     refine s_iconst (pc' := 228) (z := (2 : Int32)) A at_227 rfl (by decide) ?_
     refine s_static (pc' := 231) (y := y0_idx) (argsL := [(.int (3 : Int32)), (.int (2 : Int32))]) (rest := [(.long (2 : Int64)), (.ref b2)]) A (idx l Z a0 hw n0 h3561 A.size (3 : Int32) (2 : Int32) (0 : Int32) (by decide)) (w28 hw) (w29 hw) (w30 hw) (w31 hw) (by decide) pd__II_I rfl (W := 3) (by decide) (by decide) (Nat.le_of_eq rfl) (by decide) (by decide) rfl rfl at_228 rfl fun T h3572 v3573 A Q3574 => ?_
     obtain ⟨rfl, eh⟩ := Q3574
     rw [eh] at A
     refine Wp.stk (st' := [(.int (0 : Int32)), (.long (2 : Int64)), (.ref b2)]) rfl ?_
     refine s_i2l (pc' := 232) (z := (0 : Int64)) A at_231 rfl (by decide) ?_
     refine s_ladd (pc' := 233) (z := (2 : Int64)) A at_232 rfl (by decide) ?_
     refine s_virtual (pc' := 236) (y := y6_remove) (argsL := [(.long (2 : Int64))]) (rest := []) (z := y6_remove) A E3564 (bo_remove72 l Z a0 hw n0 h3561 A.size b2 r11 (na + (1 : Int32)) ⟨E3564, F3565, F3566, F3567, V3568, ne3569, ge3570, ge3571⟩ zna) (w32 hw) (w33 hw) (nf_same (C := "") (w35 hw)) (w35 hw) (w34 hw) (w3 hw) (w36 hw) (by decide) pd__J_V rfl (W := 0) (by decide) (by decide) (Nat.le_of_eq rfl) (by decide) (by decide) rfl rfl at_233 rfl fun T h3577 v3578 A Q3579 => ?_
     obtain ⟨rfl, K3575, H3576⟩ := Q3579
     obtain ⟨E3580, F3581, F3582, F3583, V3584, ne3585, ge3586, ge3587⟩ := H3576
     refine Wp.stk (st' := []) rfl ?_
     refine s_iload (pc' := 238) A at_236 rfl rfl ?_
     refine s_iload (pc' := 240) A at_238 rfl rfl ?_
     refine s_iconst (pc' := 241) (z := (0 : Int32)) A at_240 rfl (by decide) ?_
     refine s_static (pc' := 244) (y := y1_removed) (argsL := [(.int (3 : Int32)), (.int (3 : Int32)), (.int (0 : Int32))]) (rest := []) A (rmd l Z a0 hw n0 h3577 A.size (3 : Int32) (3 : Int32) (0 : Int32) (1 : Int32) (by decide)) (w37 hw) (w38 hw) (w30 hw) (w39 hw) (by decide) pd__III_Z rfl (W := 0) (by decide) (by decide) (Nat.le_of_eq rfl) (by decide) (by decide) rfl rfl at_241 rfl fun T h3588 v3589 A Q3590 => ?_
     obtain ⟨rfl, eh⟩ := Q3590
     rw [eh] at A
     refine Wp.stk (st' := [(.int (1 : Int32))]) rfl ?_
     refine s_istore (pc' := 246) (Ls' := #[iv q0, iv q1, iv q2, iv q3, iv q4, iv q5, iv na, iv nb, iv nc, iv nx, iv 3, iv 2, iv 3, rv b2, iv 1, jv 2, S2, jv 2, S2, jv 3, S2, jv 4, S2, iv 1, U0, U0, U0, U0]) A at_244 rfl rfl ?_
     refine s_iload (pc' := 248) A at_246 rfl rfl ?_
     refine s_iload (pc' := 250) A at_248 rfl rfl ?_
     refine s_iconst (pc' := 251) (z := (1 : Int32)) A at_250 rfl (by decide) ?_
     refine s_static (pc' := 254) (y := y1_removed) (argsL := [(.int (3 : Int32)), (.int (3 : Int32)), (.int (1 : Int32))]) (rest := []) A (rmd l Z a0 hw n0 h3577 A.size (3 : Int32) (3 : Int32) (1 : Int32) (1 : Int32) (by decide)) (w37 hw) (w38 hw) (w30 hw) (w39 hw) (by decide) pd__III_Z rfl (W := 0) (by decide) (by decide) (Nat.le_of_eq rfl) (by decide) (by decide) rfl rfl at_251 rfl fun T h3591 v3592 A Q3593 => ?_
     obtain ⟨rfl, eh⟩ := Q3593
     rw [eh] at A
     refine Wp.stk (st' := [(.int (1 : Int32))]) rfl ?_
     refine s_istore (pc' := 256) (Ls' := #[iv q0, iv q1, iv q2, iv q3, iv q4, iv q5, iv na, iv nb, iv nc, iv nx, iv 3, iv 2, iv 3, rv b2, iv 1, jv 2, S2, jv 2, S2, jv 3, S2, jv 4, S2, iv 1, iv 1, U0, U0, U0]) A at_254 rfl rfl ?_
     refine s_iload (pc' := 258) A at_256 rfl rfl ?_
     refine s_iload (pc' := 260) A at_258 rfl rfl ?_
     refine s_iconst (pc' := 261) (z := (2 : Int32)) A at_260 rfl (by decide) ?_
     refine s_static (pc' := 264) (y := y1_removed) (argsL := [(.int (3 : Int32)), (.int (3 : Int32)), (.int (2 : Int32))]) (rest := []) A (rmd l Z a0 hw n0 h3577 A.size (3 : Int32) (3 : Int32) (2 : Int32) (1 : Int32) (by decide)) (w37 hw) (w38 hw) (w30 hw) (w39 hw) (by decide) pd__III_Z rfl (W := 0) (by decide) (by decide) (Nat.le_of_eq rfl) (by decide) (by decide) rfl rfl at_261 rfl fun T h3594 v3595 A Q3596 => ?_
     obtain ⟨rfl, eh⟩ := Q3596
     rw [eh] at A
     refine Wp.stk (st' := [(.int (1 : Int32))]) rfl ?_
     refine s_istore (pc' := 266) (Ls' := #[iv q0, iv q1, iv q2, iv q3, iv q4, iv q5, iv na, iv nb, iv nc, iv nx, iv 3, iv 2, iv 3, rv b2, iv 1, jv 2, S2, jv 2, S2, jv 3, S2, jv 4, S2, iv 1, iv 1, iv 1, U0, U0]) A at_264 rfl rfl ?_
     refine s_aload (pc' := 268) A at_266 rfl rfl rfl ?_
     refine s_virtual (pc' := 271) (y := y3_isEmpty) (argsL := []) (rest := []) (z := y3_isEmpty) A E3580 (bo_isEmpty70 l Z a0 hw n0 h3577 A.size b2 r11 [.int (0 : Int32), .int (0 : Int32), .int (0 : Int32), .int (0 : Int32)] ⟨E3580, F3581, F3582, F3583, V3584, ne3585, ge3586, ge3587⟩) (w13 hw) (w14 hw) (nf_same (C := "") (w16 hw)) (w16 hw) (w15 hw) (w3 hw) (w17 hw) (by decide) pd___Z rfl (W := 0) (by decide) (by decide) (Nat.le_of_eq rfl) (by decide) (by decide) rfl rfl at_268 rfl fun T h3599 v3600 A Q3601 => ?_
     obtain ⟨rfl, K3597, H3598⟩ := Q3601
     obtain ⟨E3602, F3603, F3604, F3605, V3606, ne3607, ge3608, ge3609⟩ := H3598
     refine Wp.stk (st' := [(.int (1 : Int32))]) rfl ?_
     refine s_istore (pc' := 273) (Ls' := #[iv q0, iv q1, iv q2, iv q3, iv q4, iv q5, iv na, iv nb, iv nc, iv nx, iv 3, iv 2, iv 3, rv b2, iv 1, jv 2, S2, jv 2, S2, jv 3, S2, jv 4, S2, iv 1, iv 1, iv 1, iv 1, U0]) A at_271 rfl rfl ?_
     refine s_iload (pc' := 275) A at_273 rfl rfl ?_
     refine s_ifN (pc' := 278) A at_275 rfl (by decide) ?_
     refine s_iload (pc' := 280) A at_278 rfl rfl ?_
     refine s_ifN (pc' := 283) A at_280 rfl (by decide) ?_
     refine s_iload (pc' := 285) A at_283 rfl rfl ?_
     refine s_ifN (pc' := 288) A at_285 rfl (by decide) ?_
     refine s_iload (pc' := 290) A at_288 rfl rfl ?_
     refine s_ifN (pc' := 293) A at_290 rfl (by decide) ?_
     refine s_iload (pc' := 295) A at_293 rfl rfl ?_
     refine s_ifN (pc' := 298) A at_295 rfl (by decide) ?_
     refine s_iconst (pc' := 299) (z := (1 : Int32)) A at_298 rfl (by decide) ?_
     refine s_goto (pc' := 303) A at_299 (by decide) (by decide) ?_
     exact r_bool A rfl (by decide) at_303 (by decide) (by decide) (rfl)
    ·
     refine s_iload (pc' := 176) A at_174 rfl rfl ?_
     refine s_ifN (pc' := 179) A at_176 rfl (by decide) ?_
     refine s_aload (pc' := 181) A at_179 rfl rfl rfl ?_
     refine s_lload (pc' := 183) A at_181 rfl rfl ?_
     refine s_iload (pc' := 185) A at_183 rfl rfl ?_
     refine s_iconst (pc' := 186) (z := (0 : Int32)) A at_185 rfl (by decide) ?_
     refine s_static (pc' := 189) (y := y0_idx) (argsL := [(.int (4 : Int32)), (.int (0 : Int32))]) (rest := [(.long (2 : Int64)), (.ref b2)]) A (idx l Z a0 hw n0 h2576 A.size (4 : Int32) (0 : Int32) (2 : Int32) (by decide)) (w28 hw) (w29 hw) (w30 hw) (w31 hw) (by decide) pd__II_I rfl (W := 3) (by decide) (by decide) (Nat.le_of_eq rfl) (by decide) (by decide) rfl rfl at_186 rfl fun T h3610 v3611 A Q3612 => ?_
     obtain ⟨rfl, eh⟩ := Q3612
     rw [eh] at A
     refine Wp.stk (st' := [(.int (2 : Int32)), (.long (2 : Int64)), (.ref b2)]) rfl ?_
     refine s_i2l (pc' := 190) (z := (2 : Int64)) A at_189 rfl (by decide) ?_
     refine s_ladd (pc' := 191) (z := (4 : Int64)) A at_190 rfl (by decide) ?_
     refine s_virtual (pc' := 194) (y := y6_remove) (argsL := [(.long (4 : Int64))]) (rest := []) (z := y6_remove) A E2579 (bo_remove60 l Z a0 hw n0 h2576 A.size b2 r11 (nc + (1 : Int32)) (na + (1 : Int32)) (nb + (1 : Int32)) ⟨E2579, F2580, F2581, F2582, V2583, ne2584, ge2585, ge2586⟩ znc zna znb) (w32 hw) (w33 hw) (nf_same (C := "") (w35 hw)) (w35 hw) (w34 hw) (w3 hw) (w36 hw) (by decide) pd__J_V rfl (W := 0) (by decide) (by decide) (Nat.le_of_eq rfl) (by decide) (by decide) rfl rfl at_191 rfl fun T h3615 v3616 A Q3617 => ?_
     obtain ⟨rfl, K3613, H3614⟩ := Q3617
     obtain ⟨E3618, F3619, F3620, F3621, V3622, ne3623, ge3624, ge3625⟩ := H3614
     refine Wp.stk (st' := []) rfl ?_
     refine s_iload (pc' := 196) A at_194 rfl rfl ?_
     refine s_iconst (pc' := 197) (z := (1 : Int32)) A at_196 rfl (by decide) ?_
     refine s_icmpN (pc' := 200) A at_197 rfl (by decide) ?_
     refine s_aload (pc' := 202) A at_200 rfl rfl rfl ?_
     refine s_lload (pc' := 204) A at_202 rfl rfl ?_
     refine s_iload (pc' := 206) A at_204 rfl rfl ?_
     refine s_iconst (pc' := 207) (z := (1 : Int32)) A at_206 rfl (by decide) ?_
     refine s_static (pc' := 210) (y := y0_idx) (argsL := [(.int (4 : Int32)), (.int (1 : Int32))]) (rest := [(.long (2 : Int64)), (.ref b2)]) A (idx l Z a0 hw n0 h3615 A.size (4 : Int32) (1 : Int32) (0 : Int32) (by decide)) (w28 hw) (w29 hw) (w30 hw) (w31 hw) (by decide) pd__II_I rfl (W := 3) (by decide) (by decide) (Nat.le_of_eq rfl) (by decide) (by decide) rfl rfl at_207 rfl fun T h3626 v3627 A Q3628 => ?_
     obtain ⟨rfl, eh⟩ := Q3628
     rw [eh] at A
     refine Wp.stk (st' := [(.int (0 : Int32)), (.long (2 : Int64)), (.ref b2)]) rfl ?_
     refine s_i2l (pc' := 211) (z := (0 : Int64)) A at_210 rfl (by decide) ?_
     refine s_ladd (pc' := 212) (z := (2 : Int64)) A at_211 rfl (by decide) ?_
     refine s_virtual (pc' := 215) (y := y6_remove) (argsL := [(.long (2 : Int64))]) (rest := []) (z := y6_remove) A E3618 (bo_remove67 l Z a0 hw n0 h3615 A.size b2 r11 (na + (1 : Int32)) (nb + (1 : Int32)) ⟨E3618, F3619, F3620, F3621, V3622, ne3623, ge3624, ge3625⟩ zna znb) (w32 hw) (w33 hw) (nf_same (C := "") (w35 hw)) (w35 hw) (w34 hw) (w3 hw) (w36 hw) (by decide) pd__J_V rfl (W := 0) (by decide) (by decide) (Nat.le_of_eq rfl) (by decide) (by decide) rfl rfl at_212 rfl fun T h3631 v3632 A Q3633 => ?_
     obtain ⟨rfl, K3629, H3630⟩ := Q3633
     obtain ⟨E3634, F3635, F3636, F3637, V3638, ne3639, ge3640, ge3641⟩ := H3630
     refine Wp.stk (st' := []) rfl ?_
     refine s_iload (pc' := 217) A at_215 rfl rfl ?_
     refine s_iconst (pc' := 218) (z := (2 : Int32)) A at_217 rfl (by decide) ?_
     refine s_icmpN (pc' := 221) A at_218 rfl (by decide) ?_
     refine s_aload (pc' := 223) A at_221 rfl rfl rfl ?_
     refine s_lload (pc' := 225) A at_223 rfl rfl ?_
     refine s_iload (pc' := 227) A at_225 rfl rfl ?_
     refine s_iconst (pc' := 228) (z := (2 : Int32)) A at_227 rfl (by decide) ?_
     refine s_static (pc' := 231) (y := y0_idx) (argsL := [(.int (4 : Int32)), (.int (2 : Int32))]) (rest := [(.long (2 : Int64)), (.ref b2)]) A (idx l Z a0 hw n0 h3631 A.size (4 : Int32) (2 : Int32) (1 : Int32) (by decide)) (w28 hw) (w29 hw) (w30 hw) (w31 hw) (by decide) pd__II_I rfl (W := 3) (by decide) (by decide) (Nat.le_of_eq rfl) (by decide) (by decide) rfl rfl at_228 rfl fun T h3642 v3643 A Q3644 => ?_
     obtain ⟨rfl, eh⟩ := Q3644
     rw [eh] at A
     refine Wp.stk (st' := [(.int (1 : Int32)), (.long (2 : Int64)), (.ref b2)]) rfl ?_
     refine s_i2l (pc' := 232) (z := (1 : Int64)) A at_231 rfl (by decide) ?_
     refine s_ladd (pc' := 233) (z := (3 : Int64)) A at_232 rfl (by decide) ?_
     refine s_virtual (pc' := 236) (y := y6_remove) (argsL := [(.long (3 : Int64))]) (rest := []) (z := y6_remove) A E3634 (bo_remove71 l Z a0 hw n0 h3631 A.size b2 r11 (nb + (1 : Int32)) ⟨E3634, F3635, F3636, F3637, V3638, ne3639, ge3640, ge3641⟩ znb) (w32 hw) (w33 hw) (nf_same (C := "") (w35 hw)) (w35 hw) (w34 hw) (w3 hw) (w36 hw) (by decide) pd__J_V rfl (W := 0) (by decide) (by decide) (Nat.le_of_eq rfl) (by decide) (by decide) rfl rfl at_233 rfl fun T h3647 v3648 A Q3649 => ?_
     obtain ⟨rfl, K3645, H3646⟩ := Q3649
     obtain ⟨E3650, F3651, F3652, F3653, V3654, ne3655, ge3656, ge3657⟩ := H3646
     refine Wp.stk (st' := []) rfl ?_
     refine s_iload (pc' := 238) A at_236 rfl rfl ?_
     refine s_iload (pc' := 240) A at_238 rfl rfl ?_
     refine s_iconst (pc' := 241) (z := (0 : Int32)) A at_240 rfl (by decide) ?_
     refine s_static (pc' := 244) (y := y1_removed) (argsL := [(.int (4 : Int32)), (.int (3 : Int32)), (.int (0 : Int32))]) (rest := []) A (rmd l Z a0 hw n0 h3647 A.size (4 : Int32) (3 : Int32) (0 : Int32) (1 : Int32) (by decide)) (w37 hw) (w38 hw) (w30 hw) (w39 hw) (by decide) pd__III_Z rfl (W := 0) (by decide) (by decide) (Nat.le_of_eq rfl) (by decide) (by decide) rfl rfl at_241 rfl fun T h3658 v3659 A Q3660 => ?_
     obtain ⟨rfl, eh⟩ := Q3660
     rw [eh] at A
     refine Wp.stk (st' := [(.int (1 : Int32))]) rfl ?_
     refine s_istore (pc' := 246) (Ls' := #[iv q0, iv q1, iv q2, iv q3, iv q4, iv q5, iv na, iv nb, iv nc, iv nx, iv 3, iv 2, iv 4, rv b2, iv 1, jv 2, S2, jv 2, S2, jv 3, S2, jv 4, S2, iv 1, U0, U0, U0, U0]) A at_244 rfl rfl ?_
     refine s_iload (pc' := 248) A at_246 rfl rfl ?_
     refine s_iload (pc' := 250) A at_248 rfl rfl ?_
     refine s_iconst (pc' := 251) (z := (1 : Int32)) A at_250 rfl (by decide) ?_
     refine s_static (pc' := 254) (y := y1_removed) (argsL := [(.int (4 : Int32)), (.int (3 : Int32)), (.int (1 : Int32))]) (rest := []) A (rmd l Z a0 hw n0 h3647 A.size (4 : Int32) (3 : Int32) (1 : Int32) (1 : Int32) (by decide)) (w37 hw) (w38 hw) (w30 hw) (w39 hw) (by decide) pd__III_Z rfl (W := 0) (by decide) (by decide) (Nat.le_of_eq rfl) (by decide) (by decide) rfl rfl at_251 rfl fun T h3661 v3662 A Q3663 => ?_
     obtain ⟨rfl, eh⟩ := Q3663
     rw [eh] at A
     refine Wp.stk (st' := [(.int (1 : Int32))]) rfl ?_
     refine s_istore (pc' := 256) (Ls' := #[iv q0, iv q1, iv q2, iv q3, iv q4, iv q5, iv na, iv nb, iv nc, iv nx, iv 3, iv 2, iv 4, rv b2, iv 1, jv 2, S2, jv 2, S2, jv 3, S2, jv 4, S2, iv 1, iv 1, U0, U0, U0]) A at_254 rfl rfl ?_
     refine s_iload (pc' := 258) A at_256 rfl rfl ?_
     refine s_iload (pc' := 260) A at_258 rfl rfl ?_
     refine s_iconst (pc' := 261) (z := (2 : Int32)) A at_260 rfl (by decide) ?_
     refine s_static (pc' := 264) (y := y1_removed) (argsL := [(.int (4 : Int32)), (.int (3 : Int32)), (.int (2 : Int32))]) (rest := []) A (rmd l Z a0 hw n0 h3647 A.size (4 : Int32) (3 : Int32) (2 : Int32) (1 : Int32) (by decide)) (w37 hw) (w38 hw) (w30 hw) (w39 hw) (by decide) pd__III_Z rfl (W := 0) (by decide) (by decide) (Nat.le_of_eq rfl) (by decide) (by decide) rfl rfl at_261 rfl fun T h3664 v3665 A Q3666 => ?_
     obtain ⟨rfl, eh⟩ := Q3666
     rw [eh] at A
     refine Wp.stk (st' := [(.int (1 : Int32))]) rfl ?_
     refine s_istore (pc' := 266) (Ls' := #[iv q0, iv q1, iv q2, iv q3, iv q4, iv q5, iv na, iv nb, iv nc, iv nx, iv 3, iv 2, iv 4, rv b2, iv 1, jv 2, S2, jv 2, S2, jv 3, S2, jv 4, S2, iv 1, iv 1, iv 1, U0, U0]) A at_264 rfl rfl ?_
     refine s_aload (pc' := 268) A at_266 rfl rfl rfl ?_
     refine s_virtual (pc' := 271) (y := y3_isEmpty) (argsL := []) (rest := []) (z := y3_isEmpty) A E3650 (bo_isEmpty70 l Z a0 hw n0 h3647 A.size b2 r11 [.int (0 : Int32), .int (0 : Int32), .int (0 : Int32), .int (0 : Int32)] ⟨E3650, F3651, F3652, F3653, V3654, ne3655, ge3656, ge3657⟩) (w13 hw) (w14 hw) (nf_same (C := "") (w16 hw)) (w16 hw) (w15 hw) (w3 hw) (w17 hw) (by decide) pd___Z rfl (W := 0) (by decide) (by decide) (Nat.le_of_eq rfl) (by decide) (by decide) rfl rfl at_268 rfl fun T h3669 v3670 A Q3671 => ?_
     obtain ⟨rfl, K3667, H3668⟩ := Q3671
     obtain ⟨E3672, F3673, F3674, F3675, V3676, ne3677, ge3678, ge3679⟩ := H3668
     refine Wp.stk (st' := [(.int (1 : Int32))]) rfl ?_
     refine s_istore (pc' := 273) (Ls' := #[iv q0, iv q1, iv q2, iv q3, iv q4, iv q5, iv na, iv nb, iv nc, iv nx, iv 3, iv 2, iv 4, rv b2, iv 1, jv 2, S2, jv 2, S2, jv 3, S2, jv 4, S2, iv 1, iv 1, iv 1, iv 1, U0]) A at_271 rfl rfl ?_
     refine s_iload (pc' := 275) A at_273 rfl rfl ?_
     refine s_ifN (pc' := 278) A at_275 rfl (by decide) ?_
     refine s_iload (pc' := 280) A at_278 rfl rfl ?_
     refine s_ifN (pc' := 283) A at_280 rfl (by decide) ?_
     refine s_iload (pc' := 285) A at_283 rfl rfl ?_
     refine s_ifN (pc' := 288) A at_285 rfl (by decide) ?_
     refine s_iload (pc' := 290) A at_288 rfl rfl ?_
     refine s_ifN (pc' := 293) A at_290 rfl (by decide) ?_
     refine s_iload (pc' := 295) A at_293 rfl rfl ?_
     refine s_ifN (pc' := 298) A at_295 rfl (by decide) ?_
     refine s_iconst (pc' := 299) (z := (1 : Int32)) A at_298 rfl (by decide) ?_
     refine s_goto (pc' := 303) A at_299 (by decide) (by decide) ?_
     exact r_bool A rfl (by decide) at_303 (by decide) (by decide) (rfl)
    ·
     refine s_iload (pc' := 176) A at_174 rfl rfl ?_
     refine s_ifN (pc' := 179) A at_176 rfl (by decide) ?_
     refine s_aload (pc' := 181) A at_179 rfl rfl rfl ?_
     refine s_lload (pc' := 183) A at_181 rfl rfl ?_
     refine s_iload (pc' := 185) A at_183 rfl rfl ?_
     refine s_iconst (pc' := 186) (z := (0 : Int32)) A at_185 rfl (by decide) ?_
     refine s_static (pc' := 189) (y := y0_idx) (argsL := [(.int (5 : Int32)), (.int (0 : Int32))]) (rest := [(.long (2 : Int64)), (.ref b2)]) A (idx l Z a0 hw n0 h2576 A.size (5 : Int32) (0 : Int32) (2 : Int32) (by decide)) (w28 hw) (w29 hw) (w30 hw) (w31 hw) (by decide) pd__II_I rfl (W := 3) (by decide) (by decide) (Nat.le_of_eq rfl) (by decide) (by decide) rfl rfl at_186 rfl fun T h3680 v3681 A Q3682 => ?_
     obtain ⟨rfl, eh⟩ := Q3682
     rw [eh] at A
     refine Wp.stk (st' := [(.int (2 : Int32)), (.long (2 : Int64)), (.ref b2)]) rfl ?_
     refine s_i2l (pc' := 190) (z := (2 : Int64)) A at_189 rfl (by decide) ?_
     refine s_ladd (pc' := 191) (z := (4 : Int64)) A at_190 rfl (by decide) ?_
     refine s_virtual (pc' := 194) (y := y6_remove) (argsL := [(.long (4 : Int64))]) (rest := []) (z := y6_remove) A E2579 (bo_remove60 l Z a0 hw n0 h2576 A.size b2 r11 (nc + (1 : Int32)) (na + (1 : Int32)) (nb + (1 : Int32)) ⟨E2579, F2580, F2581, F2582, V2583, ne2584, ge2585, ge2586⟩ znc zna znb) (w32 hw) (w33 hw) (nf_same (C := "") (w35 hw)) (w35 hw) (w34 hw) (w3 hw) (w36 hw) (by decide) pd__J_V rfl (W := 0) (by decide) (by decide) (Nat.le_of_eq rfl) (by decide) (by decide) rfl rfl at_191 rfl fun T h3685 v3686 A Q3687 => ?_
     obtain ⟨rfl, K3683, H3684⟩ := Q3687
     obtain ⟨E3688, F3689, F3690, F3691, V3692, ne3693, ge3694, ge3695⟩ := H3684
     refine Wp.stk (st' := []) rfl ?_
     refine s_iload (pc' := 196) A at_194 rfl rfl ?_
     refine s_iconst (pc' := 197) (z := (1 : Int32)) A at_196 rfl (by decide) ?_
     refine s_icmpN (pc' := 200) A at_197 rfl (by decide) ?_
     refine s_aload (pc' := 202) A at_200 rfl rfl rfl ?_
     refine s_lload (pc' := 204) A at_202 rfl rfl ?_
     refine s_iload (pc' := 206) A at_204 rfl rfl ?_
     refine s_iconst (pc' := 207) (z := (1 : Int32)) A at_206 rfl (by decide) ?_
     refine s_static (pc' := 210) (y := y0_idx) (argsL := [(.int (5 : Int32)), (.int (1 : Int32))]) (rest := [(.long (2 : Int64)), (.ref b2)]) A (idx l Z a0 hw n0 h3685 A.size (5 : Int32) (1 : Int32) (1 : Int32) (by decide)) (w28 hw) (w29 hw) (w30 hw) (w31 hw) (by decide) pd__II_I rfl (W := 3) (by decide) (by decide) (Nat.le_of_eq rfl) (by decide) (by decide) rfl rfl at_207 rfl fun T h3696 v3697 A Q3698 => ?_
     obtain ⟨rfl, eh⟩ := Q3698
     rw [eh] at A
     refine Wp.stk (st' := [(.int (1 : Int32)), (.long (2 : Int64)), (.ref b2)]) rfl ?_
     refine s_i2l (pc' := 211) (z := (1 : Int64)) A at_210 rfl (by decide) ?_
     refine s_ladd (pc' := 212) (z := (3 : Int64)) A at_211 rfl (by decide) ?_
     refine s_virtual (pc' := 215) (y := y6_remove) (argsL := [(.long (3 : Int64))]) (rest := []) (z := y6_remove) A E3688 (bo_remove68 l Z a0 hw n0 h3685 A.size b2 r11 (na + (1 : Int32)) (nb + (1 : Int32)) ⟨E3688, F3689, F3690, F3691, V3692, ne3693, ge3694, ge3695⟩ zna znb) (w32 hw) (w33 hw) (nf_same (C := "") (w35 hw)) (w35 hw) (w34 hw) (w3 hw) (w36 hw) (by decide) pd__J_V rfl (W := 0) (by decide) (by decide) (Nat.le_of_eq rfl) (by decide) (by decide) rfl rfl at_212 rfl fun T h3701 v3702 A Q3703 => ?_
     obtain ⟨rfl, K3699, H3700⟩ := Q3703
     obtain ⟨E3704, F3705, F3706, F3707, V3708, ne3709, ge3710, ge3711⟩ := H3700
     refine Wp.stk (st' := []) rfl ?_
     refine s_iload (pc' := 217) A at_215 rfl rfl ?_
     refine s_iconst (pc' := 218) (z := (2 : Int32)) A at_217 rfl (by decide) ?_
     refine s_icmpN (pc' := 221) A at_218 rfl (by decide) ?_
     refine s_aload (pc' := 223) A at_221 rfl rfl rfl ?_
     refine s_lload (pc' := 225) A at_223 rfl rfl ?_
     refine s_iload (pc' := 227) A at_225 rfl rfl ?_
     refine s_iconst (pc' := 228) (z := (2 : Int32)) A at_227 rfl (by decide) ?_
     refine s_static (pc' := 231) (y := y0_idx) (argsL := [(.int (5 : Int32)), (.int (2 : Int32))]) (rest := [(.long (2 : Int64)), (.ref b2)]) A (idx l Z a0 hw n0 h3701 A.size (5 : Int32) (2 : Int32) (0 : Int32) (by decide)) (w28 hw) (w29 hw) (w30 hw) (w31 hw) (by decide) pd__II_I rfl (W := 3) (by decide) (by decide) (Nat.le_of_eq rfl) (by decide) (by decide) rfl rfl at_228 rfl fun T h3712 v3713 A Q3714 => ?_
     obtain ⟨rfl, eh⟩ := Q3714
     rw [eh] at A
     refine Wp.stk (st' := [(.int (0 : Int32)), (.long (2 : Int64)), (.ref b2)]) rfl ?_
     refine s_i2l (pc' := 232) (z := (0 : Int64)) A at_231 rfl (by decide) ?_
     refine s_ladd (pc' := 233) (z := (2 : Int64)) A at_232 rfl (by decide) ?_
     refine s_virtual (pc' := 236) (y := y6_remove) (argsL := [(.long (2 : Int64))]) (rest := []) (z := y6_remove) A E3704 (bo_remove72 l Z a0 hw n0 h3701 A.size b2 r11 (na + (1 : Int32)) ⟨E3704, F3705, F3706, F3707, V3708, ne3709, ge3710, ge3711⟩ zna) (w32 hw) (w33 hw) (nf_same (C := "") (w35 hw)) (w35 hw) (w34 hw) (w3 hw) (w36 hw) (by decide) pd__J_V rfl (W := 0) (by decide) (by decide) (Nat.le_of_eq rfl) (by decide) (by decide) rfl rfl at_233 rfl fun T h3717 v3718 A Q3719 => ?_
     obtain ⟨rfl, K3715, H3716⟩ := Q3719
     obtain ⟨E3720, F3721, F3722, F3723, V3724, ne3725, ge3726, ge3727⟩ := H3716
     refine Wp.stk (st' := []) rfl ?_
     refine s_iload (pc' := 238) A at_236 rfl rfl ?_
     refine s_iload (pc' := 240) A at_238 rfl rfl ?_
     refine s_iconst (pc' := 241) (z := (0 : Int32)) A at_240 rfl (by decide) ?_
     refine s_static (pc' := 244) (y := y1_removed) (argsL := [(.int (5 : Int32)), (.int (3 : Int32)), (.int (0 : Int32))]) (rest := []) A (rmd l Z a0 hw n0 h3717 A.size (5 : Int32) (3 : Int32) (0 : Int32) (1 : Int32) (by decide)) (w37 hw) (w38 hw) (w30 hw) (w39 hw) (by decide) pd__III_Z rfl (W := 0) (by decide) (by decide) (Nat.le_of_eq rfl) (by decide) (by decide) rfl rfl at_241 rfl fun T h3728 v3729 A Q3730 => ?_
     obtain ⟨rfl, eh⟩ := Q3730
     rw [eh] at A
     refine Wp.stk (st' := [(.int (1 : Int32))]) rfl ?_
     refine s_istore (pc' := 246) (Ls' := #[iv q0, iv q1, iv q2, iv q3, iv q4, iv q5, iv na, iv nb, iv nc, iv nx, iv 3, iv 2, iv 5, rv b2, iv 1, jv 2, S2, jv 2, S2, jv 3, S2, jv 4, S2, iv 1, U0, U0, U0, U0]) A at_244 rfl rfl ?_
     refine s_iload (pc' := 248) A at_246 rfl rfl ?_
     refine s_iload (pc' := 250) A at_248 rfl rfl ?_
     refine s_iconst (pc' := 251) (z := (1 : Int32)) A at_250 rfl (by decide) ?_
     refine s_static (pc' := 254) (y := y1_removed) (argsL := [(.int (5 : Int32)), (.int (3 : Int32)), (.int (1 : Int32))]) (rest := []) A (rmd l Z a0 hw n0 h3717 A.size (5 : Int32) (3 : Int32) (1 : Int32) (1 : Int32) (by decide)) (w37 hw) (w38 hw) (w30 hw) (w39 hw) (by decide) pd__III_Z rfl (W := 0) (by decide) (by decide) (Nat.le_of_eq rfl) (by decide) (by decide) rfl rfl at_251 rfl fun T h3731 v3732 A Q3733 => ?_
     obtain ⟨rfl, eh⟩ := Q3733
     rw [eh] at A
     refine Wp.stk (st' := [(.int (1 : Int32))]) rfl ?_
     refine s_istore (pc' := 256) (Ls' := #[iv q0, iv q1, iv q2, iv q3, iv q4, iv q5, iv na, iv nb, iv nc, iv nx, iv 3, iv 2, iv 5, rv b2, iv 1, jv 2, S2, jv 2, S2, jv 3, S2, jv 4, S2, iv 1, iv 1, U0, U0, U0]) A at_254 rfl rfl ?_
     refine s_iload (pc' := 258) A at_256 rfl rfl ?_
     refine s_iload (pc' := 260) A at_258 rfl rfl ?_
     refine s_iconst (pc' := 261) (z := (2 : Int32)) A at_260 rfl (by decide) ?_
     refine s_static (pc' := 264) (y := y1_removed) (argsL := [(.int (5 : Int32)), (.int (3 : Int32)), (.int (2 : Int32))]) (rest := []) A (rmd l Z a0 hw n0 h3717 A.size (5 : Int32) (3 : Int32) (2 : Int32) (1 : Int32) (by decide)) (w37 hw) (w38 hw) (w30 hw) (w39 hw) (by decide) pd__III_Z rfl (W := 0) (by decide) (by decide) (Nat.le_of_eq rfl) (by decide) (by decide) rfl rfl at_261 rfl fun T h3734 v3735 A Q3736 => ?_
     obtain ⟨rfl, eh⟩ := Q3736
     rw [eh] at A
     refine Wp.stk (st' := [(.int (1 : Int32))]) rfl ?_
     refine s_istore (pc' := 266) (Ls' := #[iv q0, iv q1, iv q2, iv q3, iv q4, iv q5, iv na, iv nb, iv nc, iv nx, iv 3, iv 2, iv 5, rv b2, iv 1, jv 2, S2, jv 2, S2, jv 3, S2, jv 4, S2, iv 1, iv 1, iv 1, U0, U0]) A at_264 rfl rfl ?_
     refine s_aload (pc' := 268) A at_266 rfl rfl rfl ?_
     refine s_virtual (pc' := 271) (y := y3_isEmpty) (argsL := []) (rest := []) (z := y3_isEmpty) A E3720 (bo_isEmpty70 l Z a0 hw n0 h3717 A.size b2 r11 [.int (0 : Int32), .int (0 : Int32), .int (0 : Int32), .int (0 : Int32)] ⟨E3720, F3721, F3722, F3723, V3724, ne3725, ge3726, ge3727⟩) (w13 hw) (w14 hw) (nf_same (C := "") (w16 hw)) (w16 hw) (w15 hw) (w3 hw) (w17 hw) (by decide) pd___Z rfl (W := 0) (by decide) (by decide) (Nat.le_of_eq rfl) (by decide) (by decide) rfl rfl at_268 rfl fun T h3739 v3740 A Q3741 => ?_
     obtain ⟨rfl, K3737, H3738⟩ := Q3741
     obtain ⟨E3742, F3743, F3744, F3745, V3746, ne3747, ge3748, ge3749⟩ := H3738
     refine Wp.stk (st' := [(.int (1 : Int32))]) rfl ?_
     refine s_istore (pc' := 273) (Ls' := #[iv q0, iv q1, iv q2, iv q3, iv q4, iv q5, iv na, iv nb, iv nc, iv nx, iv 3, iv 2, iv 5, rv b2, iv 1, jv 2, S2, jv 2, S2, jv 3, S2, jv 4, S2, iv 1, iv 1, iv 1, iv 1, U0]) A at_271 rfl rfl ?_
     refine s_iload (pc' := 275) A at_273 rfl rfl ?_
     refine s_ifN (pc' := 278) A at_275 rfl (by decide) ?_
     refine s_iload (pc' := 280) A at_278 rfl rfl ?_
     refine s_ifN (pc' := 283) A at_280 rfl (by decide) ?_
     refine s_iload (pc' := 285) A at_283 rfl rfl ?_
     refine s_ifN (pc' := 288) A at_285 rfl (by decide) ?_
     refine s_iload (pc' := 290) A at_288 rfl rfl ?_
     refine s_ifN (pc' := 293) A at_290 rfl (by decide) ?_
     refine s_iload (pc' := 295) A at_293 rfl rfl ?_
     refine s_ifN (pc' := 298) A at_295 rfl (by decide) ?_
     refine s_iconst (pc' := 299) (z := (1 : Int32)) A at_298 rfl (by decide) ?_
     refine s_goto (pc' := 303) A at_299 (by decide) (by decide) ?_
     exact r_bool A rfl (by decide) at_303 (by decide) (by decide) (rfl)
set_option maxRecDepth 65536 in
set_option maxHeartbeats 40000000 in
theorem comes_1 {Post : Tables → Env → Array Value → State → Outcome → State → Prop} (hpost : ∀ tb e args s v u, (limb_1_1.after args s (.returned v) u = true ∧ limb_1_2.after args s (.returned v) u = true ∧ True) → FrameEnd s (.returned v) u (Jvm.fieldLocs frame_1_writes args s ++ Jvm.arrayLocs frame_1_arrays args s ++ Jvm.staticLocs frame_1_statics s) 16 128 → Post tb e args s (.returned v) u) :
    ArmFor flags0 classFile x code maxLocals ret World_1 tables_1 room_1 Calls_1 rest_1 Pre_1 Post := by
  intro l hfl _ _ p e ha hc hk s m args below hf hA hF happ hP
  obtain ⟨hcalls, hrest, hpre⟩ := hP
  obtain ⟨-, -, -, hnamed, -, -, -, hat⟩ := (Spec.applies_iff hf).mp happ
  obtain ⟨hg, hn⟩ := and_e (Cond.before_iff.mp (show (Jvm.Cond.and given_1 narrow_1).before args s = true from hpre))
  obtain ⟨hcnt, hg⟩ := and_e hg
  obtain ⟨w0, w1, w2, w3, w4, w5, rfl⟩ : ∃ w0 w1 w2 w3 w4 w5 : Value, args = #[w0, w1, w2, w3, w4, w5] := by
    have hs : args.size = 6 := by simpa [Cond.value, given_1] using hcnt
    obtain ⟨L⟩ := args
    match L, hs with
    | [w0, w1, w2, w3, w4, w5], _ => exact ⟨w0, w1, w2, w3, w4, w5, rfl⟩
  have hw := fun d (hd : d ∈ tables_1) => atoms_spec (ws := Jvm.Cond.code x code maxLocals ret :: tables_1) hat d (List.mem_cons_of_mem _ hd)
  have hfit : Fit s := fun {y c} hc i hi => by
    obtain ⟨ha, rfl⟩ := Array.getElem?_eq_some_iff.mp hc
    have q := List.all_eq_true.mp ((Array.all_eq_true_iff_forall_mem.mp hF) _ (Array.getElem_mem ha)) i (List.mem_range.mpr hi)
    simpa [Array.getElem?_eq_getElem hi] using q
  obtain ⟨g0, hg⟩ := and_e hg
  obtain ⟨x0, e0⟩ := is_v g0
  obtain rfl : w0 = (.int x0) := Option.some.inj e0
  obtain ⟨g1, hg⟩ := and_e hg
  obtain ⟨x1, e1⟩ := is_v g1
  obtain rfl : w1 = (.int x1) := Option.some.inj e1
  obtain ⟨g2, hg⟩ := and_e hg
  obtain ⟨x2, e2⟩ := is_v g2
  obtain rfl : w2 = (.int x2) := Option.some.inj e2
  obtain ⟨g3, hg⟩ := and_e hg
  obtain ⟨x3, e3⟩ := is_v g3
  obtain rfl : w3 = (.int x3) := Option.some.inj e3
  obtain ⟨g4, hg⟩ := and_e hg
  obtain ⟨x4, e4⟩ := is_v g4
  obtain rfl : w4 = (.int x4) := Option.some.inj e4
  obtain ⟨x5, e5⟩ := is_v hg
  obtain rfl : w5 = (.int x5) := Option.some.inj e5
  obtain ⟨n, o, h1, h2, h3, _, L, rfl, ⟨N, rfl⟩, hq⟩ := rm0 l s _ hw s.heap.size s.heap (Nat.le_refl _) x0 x1 x2 x3 x4 x5 tables_1 p e ha hc hk s m _ below hf ((Spec.applies_iff_loose hf).mp happ).1 ⟨rfl, State.Warmed39.refl s, rfl⟩ trivial
  refine ⟨n, _, h1, h2, h3, hpost _ _ _ _ _ _ ⟨Cond.after_iff.mpr rfl, Cond.after_iff.mpr (eq_i res_at (Term.int_eval (1)) rfl), trivial⟩ ⟨hq.1, hq.2.1, (hq.2.2.sift fun y hy => Or.inr (N y hy)).mono (by decide) (by decide)⟩⟩
theorem main_1_1 : Claimed_1_1 := comes_1 fun _ _ _ _ _ _ h hF => ⟨h.1, hF⟩
theorem main_1_2 : Claimed_1_2 := comes_1 fun _ _ _ _ _ _ h hF => ⟨h.2.1, hF⟩
end Jvm.Pilot.@@N@@
namespace Jvm.Pilot.@@N@@
open Jvm Jvm.ClassFile Sem Op Lib Jvm.Free Jvm.Stand Jvm.Pilot.@@N@@.Jvm.D
/-! MADE BY PROGRAM (witnessworld.py) out of the Statement's table words and the real class files: 9 classes; the members and pool entries that the words name. The judged class is class 1, her method 3. -/
namespace start1
open Jvm.ClassFile
def u (s : String) : CpInfo := .utf8 (stringToUtf16 s)
/-- a pool by its gaps: so many unusable entries, then the entry; so many at the end -/
def gap : Nat → List CpInfo → List CpInfo
  | 0, r => r
  | n + 1, r => .unusable :: gap n r
def poolList (es : List (Nat × CpInfo)) (last : Nat) : List CpInfo := es.foldr (fun e r => gap e.1 (e.2 :: r)) (gap last [])
def pool (es : List (Nat × CpInfo)) (last : Nat) : Array CpInfo := ⟨poolList es last⟩
def fileOf (pool : Array CpInfo) (this : Nat) (attrs : Array Attribute := #[]) (ms : Array MethodInfo := #[]) (fl : Nat := 33) (sup : Nat := 0) (ifs : Array Nat := #[]) (fds : Array FieldInfo := #[]) : ClassFile where
  minorVersion := 0
  majorVersion := 65
  constantPool := pool
  accessFlags := fl
  thisClass := this
  superClass := sup
  interfaces := ifs
  fields := fds
  methods := ms
  attributes := attrs
def plain (name : String) (sup : Option ClassId) : Class where
  name := name
  kind := .ordinary
  loader := none
  accessFlags := 33
  super := sup
  interfaces := #[]
  cf := none
  fields := #[]
  methods := #[]
  instanceTypes := #[]
  staticTypes := #[]
  resolved := #[]
  callSites := []
  init := .initialized
  statics := none
  mirror := none

def pool0 : Array CpInfo := pool [(5, u "<init>"), (0, u "()V"), (1, .class_ 10), (1, u "java/lang/Object")] 113

def k0c0 : Code := { maxStack := 0, maxLocals := 1, code := object_method_1_code, exceptionTable := #[], attributes := #[] }
def k0m0 : Method := { name := "<init>", desc := "()V", sig := { parameters := [], returnType := none }, accessFlags := 1, code := some k0c0 }
/-- java/lang/Object -/
def k0 : Class := { plain "java/lang/Object" none with
  accessFlags := 33
  interfaces := #[]
  cf := some (fileOf pool0 8 #[] #[{ accessFlags := 1, nameIndex := 5, descriptorIndex := 6, attributes := #[] }] 33 0 #[] #[])
  fields := #[]
  methods := #[k0m0]
  instanceTypes := #[]
  staticTypes := #[]
  resolved := Array.replicate 124 none
  statics := none }

def pool1 : Array CpInfo := pool [(2, .class_ 4), (0, .nameAndType 5 6), (0, u "java/lang/Object"), (0, u "<init>"), (0, u "()V"), (0, .methodref 8 9), (0, .class_ 10), (0, .nameAndType 11 12), (0, u "com/example/wirefram/wirefram/sequence/BeginOrderRemovePinLaw"), (0, u "idx"), (0, u "(II)I"), (0, .integer 2147483647), (0, .class_ 15), (0, u "com/example/wirefram/wirefram/sequence/BeginOrder"), (0, .methodref 14 3), (0, .methodref 14 18), (0, .nameAndType 19 20), (0, u "add"), (0, u "(I)J"), (0, .methodref 14 22), (0, .nameAndType 23 24), (0, u "remove"), (0, u "(J)V"), (0, .methodref 14 26), (0, .nameAndType 27 28), (0, u "isEmpty"), (0, u "()Z"), (0, .long 2), (1, .methodref 8 32), (0, .nameAndType 33 34), (0, u "removed"), (0, u "(III)Z"), (0, .methodref 14 36), (0, .nameAndType 37 38), (0, u "first"), (0, u "()I"), (3, u "law"), (0, u "(IIIIII)Z")] 2

def k1m0 : Method := { name := "<init>", desc := "()V", sig := { parameters := [], returnType := none }, accessFlags := 1, code := none }
def k1c1 : Code := { maxStack := 2, maxLocals := 5, code := method_2_code, exceptionTable := #[], attributes := #[] }
def k1m1 : Method := { name := "idx", desc := "(II)I", sig := { parameters := [.int, .int], returnType := some .int }, accessFlags := 10, code := some k1c1 }
def k1c2 : Code := { maxStack := 2, maxLocals := 3, code := method_3_code, exceptionTable := #[], attributes := #[] }
def k1m2 : Method := { name := "removed", desc := "(III)Z", sig := { parameters := [.int, .int, .int], returnType := some .boolean }, accessFlags := 10, code := some k1c2 }
def k1c3 : Code := { maxStack := 6, maxLocals := 28, code := code, exceptionTable := #[], attributes := #[] }
def k1m3 : Method := { name := "law", desc := "(IIIIII)Z", sig := { parameters := [.int, .int, .int, .int, .int, .int], returnType := some .boolean }, accessFlags := 9, code := some k1c3 }
/-- com/example/wirefram/wirefram/sequence/BeginOrderRemovePinLaw -/
def k1 : Class := { plain "com/example/wirefram/wirefram/sequence/BeginOrderRemovePinLaw" (some 0) with
  accessFlags := 49
  interfaces := #[]
  cf := some (fileOf pool1 8 #[] #[{ accessFlags := 1, nameIndex := 5, descriptorIndex := 6, attributes := #[] }, { accessFlags := 10, nameIndex := 11, descriptorIndex := 12, attributes := #[] }, { accessFlags := 10, nameIndex := 33, descriptorIndex := 34, attributes := #[] }, { accessFlags := 9, nameIndex := 42, descriptorIndex := 43, attributes := #[] }] 49 2 #[] #[])
  fields := #[]
  methods := #[k1m0, k1m1, k1m2, k1m3]
  instanceTypes := #[]
  staticTypes := #[]
  resolved := Array.replicate 46 none
  statics := none }

def pool2 : Array CpInfo := pool [(1, .methodref 2 3), (0, .class_ 4), (0, .nameAndType 5 6), (0, u "java/lang/Object"), (0, u "<init>"), (0, u "()V"), (0, .fieldref 8 9), (0, .class_ 10), (0, .nameAndType 11 12), (0, u "com/example/wirefram/wirefram/sequence/BeginOrder"), (0, u "ring"), (0, u "[I"), (0, .fieldref 8 14), (0, .nameAndType 15 16), (0, u "next"), (0, u "J"), (0, .fieldref 8 18), (0, .nameAndType 19 16), (0, u "first"), (5, u "add"), (0, u "(I)J"), (1, u "remove"), (0, u "(J)V"), (0, u "isEmpty"), (0, u "()Z"), (0, u "()I")] 3

def k2c0 : Code := { maxStack := 2, maxLocals := 1, code := prog_63_method_1_code, exceptionTable := #[], attributes := #[] }
def k2m0 : Method := { name := "<init>", desc := "()V", sig := { parameters := [], returnType := none }, accessFlags := 0, code := some k2c0 }
def k2c1 : Code := { maxStack := 7, maxLocals := 2, code := prog_63_method_2_code, exceptionTable := #[], attributes := #[] }
def k2m1 : Method := { name := "add", desc := "(I)J", sig := { parameters := [.int], returnType := some .long }, accessFlags := 0, code := some k2c1 }
def k2c2 : Code := { maxStack := 5, maxLocals := 4, code := prog_63_method_3_code, exceptionTable := #[], attributes := #[] }
def k2m2 : Method := { name := "remove", desc := "(J)V", sig := { parameters := [.long], returnType := none }, accessFlags := 0, code := some k2c2 }
def k2c3 : Code := { maxStack := 4, maxLocals := 1, code := prog_63_method_4_code, exceptionTable := #[], attributes := #[] }
def k2m3 : Method := { name := "isEmpty", desc := "()Z", sig := { parameters := [], returnType := some .boolean }, accessFlags := 0, code := some k2c3 }
def k2c4 : Code := { maxStack := 4, maxLocals := 1, code := prog_63_method_5_code, exceptionTable := #[], attributes := #[] }
def k2m4 : Method := { name := "first", desc := "()I", sig := { parameters := [], returnType := some .int }, accessFlags := 0, code := some k2c4 }
/-- com/example/wirefram/wirefram/sequence/BeginOrder -/
def k2 : Class := { plain "com/example/wirefram/wirefram/sequence/BeginOrder" (some 0) with
  accessFlags := 32
  interfaces := #[]
  cf := some (fileOf pool2 8 #[] #[{ accessFlags := 0, nameIndex := 5, descriptorIndex := 6, attributes := #[] }, { accessFlags := 0, nameIndex := 25, descriptorIndex := 26, attributes := #[] }, { accessFlags := 0, nameIndex := 28, descriptorIndex := 29, attributes := #[] }, { accessFlags := 0, nameIndex := 30, descriptorIndex := 31, attributes := #[] }, { accessFlags := 0, nameIndex := 19, descriptorIndex := 32, attributes := #[] }] 32 2 #[] #[{ accessFlags := 2, nameIndex := 11, descriptorIndex := 12, attributes := #[] }, { accessFlags := 2, nameIndex := 19, descriptorIndex := 16, attributes := #[] }, { accessFlags := 2, nameIndex := 15, descriptorIndex := 16, attributes := #[] }])
  fields := #[{ name := "ring", type := (.array .int), accessFlags := 2, slot := 0, constantValue := 0 }, { name := "first", type := .long, accessFlags := 2, slot := 1, constantValue := 0 }, { name := "next", type := .long, accessFlags := 2, slot := 2, constantValue := 0 }]
  methods := #[k2m0, k2m1, k2m2, k2m3, k2m4]
  instanceTypes := #[(.array .int), .long, .long]
  staticTypes := #[]
  resolved := Array.replicate 36 none
  statics := none }

def pool3 : Array CpInfo := pool [(1, u "java/lang/Cloneable"), (0, .class_ 1), (0, u "java/lang/Object"), (0, .class_ 3)] 3

/-- java/lang/Cloneable -/
def k3 : Class := { plain "java/lang/Cloneable" (some 0) with
  accessFlags := 1537
  interfaces := #[]
  cf := some (fileOf pool3 2 #[] #[] 1537 4 #[] #[])
  fields := #[]
  methods := #[]
  instanceTypes := #[]
  staticTypes := #[]
  resolved := Array.replicate 8 none
  statics := none }

def pool4 : Array CpInfo := pool [(1, u "java/io/Serializable"), (0, .class_ 1), (0, u "java/lang/Object"), (0, .class_ 3)] 3

/-- java/io/Serializable -/
def k4 : Class := { plain "java/io/Serializable" (some 0) with
  accessFlags := 1537
  interfaces := #[]
  cf := some (fileOf pool4 2 #[] #[] 1537 4 #[] #[])
  fields := #[]
  methods := #[]
  instanceTypes := #[]
  staticTypes := #[]
  resolved := Array.replicate 8 none
  statics := none }

/-- the primitive byte -/
def k5 : Class := { plain "byte" none with kind := .primitive 'B', accessFlags := 0x411 }
/-- [B -/
def k6 : Class := { plain "[B" (some 0) with kind := .array 5 .byte, interfaces := #[3, 4], accessFlags := 1041 }

/-- the primitive int -/
def k7 : Class := { plain "int" none with kind := .primitive 'I', accessFlags := 0x411 }
/-- [I -/
def k8 : Class := { plain "[I" (some 0) with kind := .array 7 .int, interfaces := #[3, 4], accessFlags := 1041 }

def heap : Heap := #[]
def classes : Array Class := #[k0, k1, k2, k3, k4, k5, k6, k7, k8]
def interned : List (Array UInt16 × Addr) := []
def slotsUsed : Nat := 0
def theMethod : MethodId := ⟨1, 3⟩
def args0 : Array Value := #[.int 0, .int 1, .int 2, .int 3, .int 4, .int 5]
def aboutOver (below : List Frame) : State where
  vm := { classes := classes, interned := interned.toArray }
  heap := heap
  slotsUsed := slotsUsed
  threads := #[{ frames := .invoking theMethod args0 :: below }]
def below0 : List Frame := [.native { method := ⟨0, 0⟩, args := #[] }]
def about1 : State := aboutOver below0
def p0 : Program := .bare "" "" ""
def e0 : Env := launch0.env 0 0 0
theorem w_frames : about1.frames = Frame.invoking theMethod args0 :: below0 := rfl
set_option maxRecDepth 65536 in
theorem w_args : argsFit about1.vm theMethod args0 = true := by decide +kernel
set_option maxRecDepth 65536 in
theorem w_heap : heapFits about1 = true := by decide +kernel
set_option maxRecDepth 65536 in
theorem w_runnable : about1.curStatus? = some .runnable := by decide +kernel
set_option maxRecDepth 65536 in
theorem w_alone : about1.alone = true := by decide +kernel
set_option maxRecDepth 65536 in
theorem w_named : about1.methodNamed? x = some theMethod := by decide +kernel
set_option maxRecDepth 65536 in
theorem w_hears : about1.hears theMethod below0 = true := by decide +kernel
set_option maxRecDepth 65536 in
theorem w_ripe : about1.ripe theMethod args0 below0 = true := by decide +kernel
theorem w_running : about1.status = .running := rfl
set_option maxRecDepth 65536 in
theorem w_room : about1.hasRoom e0.platform room_1 = true :=
  launch0.hasRoom_least _ room_1 (by decide +kernel) (by decide +kernel) (by decide +kernel) (by decide +kernel) (by decide +kernel) (by decide +kernel)
theorem allAtoms_all (ts : List Jvm.Cond) (a : Array Jvm.Value) (st : Jvm.State) : (allAtoms ts).before a st = ts.all (fun c => c.before a st) := by
  induction ts with
  | nil => rfl
  | cons c t ih =>
    show (Jvm.Cond.and c (allAtoms t)).before a st = _
    rw [Jvm.Cond.before_and, ih, List.all_cons]
def words1 : List Jvm.Cond := Jvm.Cond.code x code maxLocals ret :: tables_1
/-- a 'code' word, met by the world's own term for the bytes: nothing is compared byte by byte -/
theorem code_word {y : MethodName} {bytes : ByteArray} {mx : Nat} {rt : Option FieldType} {a : Array Value} {s : State} {m : MethodId} {meth : Method} {c : Code} (h1 : s.methodNamed? y = some m) (h2 : s.vm.method? m = some meth) (h3 : meth.code = some c) (h4 : c.code = bytes)
    (h5 : (c.maxLocals == mx && c.exceptionTable.isEmpty && decide (c.maxStack ≤ mostOperands) && decide (meth.sig.returnType = rt) && !meth.locks && decide (parseMethodDescriptor y.desc = some meth.sig)) = true) : (Jvm.Cond.code y bytes mx rt).before a s = true := by
  simp only [Bool.and_eq_true, beq_iff_eq, Bool.not_eq_true', decide_eq_true_eq] at h5
  obtain ⟨⟨⟨⟨⟨g1, g2⟩, g3⟩, g4⟩, g5⟩, g6⟩ := h5
  simp [Cond.before, Cond.holds, Cond.value, h1, h2, h3, h4, g1, g2, g3, g4, g5, g6]
def isCode : Jvm.Cond → Bool
  | .code _ _ _ _ => true
  | _ => false
theorem all_split {L : List Jvm.Cond} {P : Jvm.Cond → Bool} (h1 : L.all (fun c => isCode c || P c) = true) (h2 : ∀ c ∈ L.filter isCode, P c = true) : L.all P = true := by
  refine List.all_eq_true.mpr fun c hc => ?_
  have h := List.all_eq_true.mp h1 c hc
  rcases Bool.eq_false_or_eq_true (isCode c) with hi | hi
  · exact h2 c (List.mem_filter.mpr ⟨hc, hi⟩)
  · simpa [hi] using h
set_option maxRecDepth 65536 in
theorem w_c0 : (Jvm.Cond.code x code maxLocals ret).before args0 about1 = true := code_word (m := ⟨1, 3⟩) (meth := k1m3) (c := k1c3) (by decide +kernel) rfl rfl rfl (by decide +kernel)
set_option maxRecDepth 65536 in
theorem w_c1 : (Jvm.Cond.code ({ cls := "com/example/wirefram/wirefram/sequence/BeginOrder", name := "<init>", desc := "()V" } : Jvm.MethodName) prog_63_method_1_code (1 : Nat) (Option.none : Option Jvm.ClassFile.FieldType)).before args0 about1 = true := code_word (m := ⟨2, 0⟩) (meth := k2m0) (c := k2c0) (by decide +kernel) rfl rfl rfl (by decide +kernel)
set_option maxRecDepth 65536 in
theorem w_c2 : (Jvm.Cond.code ({ cls := "java/lang/Object", name := "<init>", desc := "()V" } : Jvm.MethodName) object_method_1_code (1 : Nat) (Option.none : Option Jvm.ClassFile.FieldType)).before args0 about1 = true := code_word (m := ⟨0, 0⟩) (meth := k0m0) (c := k0c0) (by decide +kernel) rfl rfl rfl (by decide +kernel)
set_option maxRecDepth 65536 in
theorem w_c3 : (Jvm.Cond.code ({ cls := "com/example/wirefram/wirefram/sequence/BeginOrder", name := "isEmpty", desc := "()Z" } : Jvm.MethodName) prog_63_method_4_code (1 : Nat) (Option.some Jvm.ClassFile.FieldType.boolean)).before args0 about1 = true := code_word (m := ⟨2, 3⟩) (meth := k2m3) (c := k2c3) (by decide +kernel) rfl rfl rfl (by decide +kernel)
set_option maxRecDepth 65536 in
theorem w_c4 : (Jvm.Cond.code ({ cls := "com/example/wirefram/wirefram/sequence/BeginOrder", name := "add", desc := "(I)J" } : Jvm.MethodName) prog_63_method_2_code (2 : Nat) (Option.some Jvm.ClassFile.FieldType.long)).before args0 about1 = true := code_word (m := ⟨2, 1⟩) (meth := k2m1) (c := k2c1) (by decide +kernel) rfl rfl rfl (by decide +kernel)
set_option maxRecDepth 65536 in
theorem w_c5 : (Jvm.Cond.code ({ cls := "com/example/wirefram/wirefram/sequence/BeginOrderRemovePinLaw", name := "idx", desc := "(II)I" } : Jvm.MethodName) method_2_code (5 : Nat) (Option.some Jvm.ClassFile.FieldType.int)).before args0 about1 = true := code_word (m := ⟨1, 1⟩) (meth := k1m1) (c := k1c1) (by decide +kernel) rfl rfl rfl (by decide +kernel)
set_option maxRecDepth 65536 in
theorem w_c6 : (Jvm.Cond.code ({ cls := "com/example/wirefram/wirefram/sequence/BeginOrder", name := "remove", desc := "(J)V" } : Jvm.MethodName) prog_63_method_3_code (4 : Nat) (Option.none : Option Jvm.ClassFile.FieldType)).before args0 about1 = true := code_word (m := ⟨2, 2⟩) (meth := k2m2) (c := k2c2) (by decide +kernel) rfl rfl rfl (by decide +kernel)
set_option maxRecDepth 65536 in
theorem w_c7 : (Jvm.Cond.code ({ cls := "com/example/wirefram/wirefram/sequence/BeginOrderRemovePinLaw", name := "removed", desc := "(III)Z" } : Jvm.MethodName) method_3_code (3 : Nat) (Option.some Jvm.ClassFile.FieldType.boolean)).before args0 about1 = true := code_word (m := ⟨1, 2⟩) (meth := k1m2) (c := k1c2) (by decide +kernel) rfl rfl rfl (by decide +kernel)
set_option maxRecDepth 65536 in
theorem w_c8 : (Jvm.Cond.code ({ cls := "com/example/wirefram/wirefram/sequence/BeginOrder", name := "first", desc := "()I" } : Jvm.MethodName) prog_63_method_5_code (1 : Nat) (Option.some Jvm.ClassFile.FieldType.int)).before args0 about1 = true := code_word (m := ⟨2, 4⟩) (meth := k2m4) (c := k2c4) (by decide +kernel) rfl rfl rfl (by decide +kernel)
def codes1 : List Jvm.Cond := [Jvm.Cond.code x code maxLocals ret, Jvm.Cond.code ({ cls := "com/example/wirefram/wirefram/sequence/BeginOrder", name := "<init>", desc := "()V" } : Jvm.MethodName) prog_63_method_1_code (1 : Nat) (Option.none : Option Jvm.ClassFile.FieldType), Jvm.Cond.code ({ cls := "java/lang/Object", name := "<init>", desc := "()V" } : Jvm.MethodName) object_method_1_code (1 : Nat) (Option.none : Option Jvm.ClassFile.FieldType), Jvm.Cond.code ({ cls := "com/example/wirefram/wirefram/sequence/BeginOrder", name := "isEmpty", desc := "()Z" } : Jvm.MethodName) prog_63_method_4_code (1 : Nat) (Option.some Jvm.ClassFile.FieldType.boolean), Jvm.Cond.code ({ cls := "com/example/wirefram/wirefram/sequence/BeginOrder", name := "add", desc := "(I)J" } : Jvm.MethodName) prog_63_method_2_code (2 : Nat) (Option.some Jvm.ClassFile.FieldType.long), Jvm.Cond.code ({ cls := "com/example/wirefram/wirefram/sequence/BeginOrderRemovePinLaw", name := "idx", desc := "(II)I" } : Jvm.MethodName) method_2_code (5 : Nat) (Option.some Jvm.ClassFile.FieldType.int), Jvm.Cond.code ({ cls := "com/example/wirefram/wirefram/sequence/BeginOrder", name := "remove", desc := "(J)V" } : Jvm.MethodName) prog_63_method_3_code (4 : Nat) (Option.none : Option Jvm.ClassFile.FieldType), Jvm.Cond.code ({ cls := "com/example/wirefram/wirefram/sequence/BeginOrderRemovePinLaw", name := "removed", desc := "(III)Z" } : Jvm.MethodName) method_3_code (3 : Nat) (Option.some Jvm.ClassFile.FieldType.boolean), Jvm.Cond.code ({ cls := "com/example/wirefram/wirefram/sequence/BeginOrder", name := "first", desc := "()I" } : Jvm.MethodName) prog_63_method_5_code (1 : Nat) (Option.some Jvm.ClassFile.FieldType.int)]
set_option maxRecDepth 65536 in
theorem codes_eq : words1.filter isCode = codes1 := rfl
theorem w_codes : ∀ c ∈ words1.filter isCode, c.before args0 about1 = true := by
  rw [codes_eq]
  intro c hc
  simp only [codes1, List.mem_cons, List.not_mem_nil, or_false] at hc
  rcases hc with rfl | rfl | rfl | rfl | rfl | rfl | rfl | rfl | rfl
  · exact w_c0
  · exact w_c1
  · exact w_c2
  · exact w_c3
  · exact w_c4
  · exact w_c5
  · exact w_c6
  · exact w_c7
  · exact w_c8
set_option maxRecDepth 65536 in
theorem w_t1 : (words1.take 24).all (fun c => isCode c || c.before args0 about1) = true := by decide +kernel
set_option maxRecDepth 65536 in
theorem w_t2 : (words1.drop 24).all (fun c => isCode c || c.before args0 about1) = true := by decide +kernel
theorem w_tables : (allAtoms (Jvm.Cond.code x code maxLocals ret :: tables_1)).before args0 about1 = true := by
  rw [allAtoms_all]
  show words1.all (fun c => c.before args0 about1) = true
  refine all_split ?_ w_codes
  rw [← List.take_append_drop 24 words1, List.all_append, w_t1, w_t2]
  rfl
set_option maxRecDepth 65536 in
theorem w_case : (Jvm.Cond.and given_1 narrow_1).before args0 about1 = true := by decide +kernel
theorem w_applies : (headSpec (Jvm.Cond.code x code maxLocals ret :: tables_1) room_1).applies x e0.platform about1 = true :=
  (Spec.applies_iff w_frames).mpr ⟨w_running, w_runnable, w_alone, w_named, w_hears, w_ripe, w_room, w_tables⟩
theorem atStart : AtStart classFile x code maxLocals ret World_1 tables_1 room_1 Calls_1 rest_1 Pre_1 launch0 p0 e0 about1 theMethod args0 below0 :=
  ⟨lists_1, trivial, launch0.admits_env _ _ _, launch0.least_env, fairChoices_fair.cas, fairChoices_fair.clock, w_frames, w_args, w_heap, w_applies, trivial, trivial, w_case⟩
end start1
theorem witness_1 : WitnessClaimed_1 := ⟨start1.p0, start1.e0, start1.about1, start1.theMethod, start1.args0, start1.below0, start1.atStart⟩
end Jvm.Pilot.@@N@@
