import JvmDerived
import JvmDerived.Pilot.@@N@@Statement
import JvmDerived.Pilot.@@N@@Code
set_option linter.unusedVariables false
set_option linter.unusedSimpArgs false
namespace Jvm.Ow
open Sem ClassFile Op Lib Jvm.Stand Jvm.Free Jvm.LawKit Jvm.RoadKit
abbrev jv (x : Int64) : Slot := .val (.long x)
abbrev U0 : Slot := .unset
abbrev S2 : Slot := .second
def ush (x y : Int32) : Int32 := (x.toUInt32 >>> (y &&& 31).toUInt32).toInt32
def On (l : Launch) (Z : State) (n0 : Nat) (own : String) (bytes : ByteArray) (maxL : Nat) (ret : Option FieldType) (R : Room) (p : Program) (e : Env) (s : State) (m : MethodId) (args : Array Value) (below : List Frame) (meth : Method) (c : Code) (T : State) (h : Heap) (k n : Nat) : Prop :=
  ∃ locs, Stand p l e R s m args below meth c T locs k n ∧ Fr n0 locs ∧ T.heap = h ∧ p.tables.exec = Jvm.exec ∧ Z.Warmed39 s.vm ∧ c.code = bytes ∧ c.maxLocals = maxL ∧ s.vm.findClass own = some m.cls ∧ meth.sig.returnType = ret ∧ meth.locks = false ∧ n0 ≤ s.heap.size
def Wp (p : Program) (e : Env) (below : List Frame) (s : State) (n0 ck cs : Nat) (Q : Option Value → Heap → Prop) (U : State) : Prop :=
  ∃ t o, Steps p.tables e below U t ∧ t.status = .running ∧ Ended t below o ∧ ∃ v L, o = .returned v ∧ (Fr n0 L ∧ Q v t.heap) ∧ FrameEnd s o t L ck cs
def Met (l : Launch) (Z : State) (n0 : Nat) (y : MethodName) (bytes : ByteArray) (maxL : Nat) (ret : Option FieldType) (rm : Room) (as : Array Value) (h : Heap) (Q : Option Value → Heap → Prop) : Prop :=
  ∀ ws, MetFree l y (head1 (Cond.code y bytes maxL ret :: ws) rm) (fun a U => a = as ∧ Z.Warmed39 U.vm ∧ U.heap = h) (fun _ _ _ _ _ => True) (fun _ U o U' => ∃ v L, o = .returned v ∧ (Fr n0 L ∧ Q v U'.heap) ∧ FrameEnd U o U' L rm.cells rm.slots)
def AA (Z : State) (h : Heap) (a : Addr) (ty : FieldType) (vs : List Value) : Prop := ∃ c : Cell, Arr Z h a c ty ∧ c.slots = vs.toArray ∧ vs.length < 2147483648
section Kit
variable {l : Launch} {Z : State} {n0 : Nat} {own : String} {bytes : ByteArray} {maxL : Nat} {ret : Option FieldType} {R : Room} {p : Program} {e : Env} {s : State} {m : MethodId} {args : Array Value} {below : List Frame} {meth : Method} {c : Code} {T : State} {h h' : Heap} {k n ck cs : Nat} {Q : Option Value → Heap → Prop} {pc pc' : Nat} {Ls Ls' : Array Slot} {st : List Value} {a0 : Array Value} {a b : Addr} {ty : FieldType} {vs : List Value} {sl : Nat} {v w : Value} {ws : List Addr}
theorem AA.ext (F : AA Z h a ty vs) (E : Ext h h') : AA Z h' a ty vs := by obtain ⟨c, A, r⟩ := F; exact ⟨c, A.ext E, r⟩
theorem AA.other (F : AA Z h b ty vs) (W : Wr h h' a sl v) (q : b ≠ a) : AA Z h' b ty vs := by obtain ⟨c, A, r⟩ := F; exact ⟨c, A.other W q, r⟩
theorem AA.keep (F : AA Z h a ty vs) (K : Keep h h' ws) (q : a ∉ ws) : AA Z h' a ty vs := by obtain ⟨c, A, r⟩ := F; exact ⟨c, ⟨K.2.1 a c A.1 q, A.2⟩, r⟩
theorem AA.set (F : AA Z h a ty vs) (W : Wr h h' a sl v) : AA Z h' a ty (vs.set sl v) := by
  obtain ⟨c, A, r1, r2⟩ := F
  exact ⟨_, A.same W, by simp [Cell.setSlot, r1], by simpa using r2⟩
theorem AA.lt (F : AA Z h a ty vs) : a < h.size := by obtain ⟨c, A, -⟩ := F; exact A.lt
theorem AA.cast {vs' : List Value} (F : AA Z h a ty vs) (q : vs = vs') : AA Z h a ty vs' := q ▸ F
theorem Fld.cast {C f d : String} (F : Fld Z h a C f d v) (q : v = w) : Fld Z h a C f d w := q ▸ F
theorem AA.new {cA : ClassId} {z : Int32} {i : Nat} (A : Arr Z h a (newA cA ty z) ty) (hz : z.toInt = (i : Int)) : AA Z h a ty (List.replicate i (defaultValue ty)) := by
  have q : z.toNatClampNeg = i := by show z.toInt.toNat = i; omega
  have := z.toInt_lt
  refine ⟨_, A, ?_, ?_⟩
  · simp [newA, q]
  · simp; omega
theorem lt_ne {x y z : Nat} (q : x < y) (r : y = z) : x ≠ z := by omega
theorem le_eq {x y z : Nat} (q : x ≤ y) (r : y = z) : x ≤ z := by omega
theorem On.size(A : On l Z n0 own bytes maxL ret R p e s m args below meth c T h k n) : n0 ≤ h.size := by
  obtain ⟨locs, X, N, eT, hx, hZ, hby, hml, hown, hret, hlk, hsz⟩ := A
  have := X.same.2.1
  subst eT
  exact Nat.le_trans hsz this
theorem Wp.goo {U U' : State} (f : ∀ t, Steps p.tables e below U' t → Steps p.tables e below U t) (K : Wp p e below s n0 ck cs Q U') : Wp p e below s n0 ck cs Q U := by
  obtain ⟨t, o, q, r⟩ := K; exact ⟨t, o, f t q, r⟩
theorem Wp.cast {g g' : JFrame} (q : g = g') (K : Wp p e below s n0 ck cs Q (T.setTop g')) : Wp p e below s n0 ck cs Q (T.setTop g) := q ▸ K
theorem Wp.stk {st' : List Value} (q : st = st') (K : Wp p e below s n0 ck cs Q (T.setTop (mkF m pc Ls st'))) : Wp p e below s n0 ck cs Q (T.setTop (mkF m pc Ls st)) := q ▸ K
theorem Wp.mono {Q' : Option Value → Heap → Prop} {U : State} (K : Wp p e below s n0 ck cs Q U) (q : ∀ v h, Q v h → Q' v h) : Wp p e below s n0 ck cs Q' U := by
  obtain ⟨t, o, h1, h2, h3, v, L, h4, ⟨h5, h6⟩, h7⟩ := K; exact ⟨t, o, h1, h2, h3, v, L, h4, ⟨h5, q _ _ h6⟩, h7⟩
theorem met_intro {y : MethodName} {rm : Room} {as : Array Value} (hpl : plainFor y = true) (ho : y.cls = own) (hsz : n0 ≤ h.size)
    (body : ∀ p e s m below meth c T, On l Z n0 own bytes maxL ret rm p e s m as below meth c T h 0 0 → meth.name = y.name → Wp p e below s n0 rm.cells rm.slots Q (T.setTop (entryFrame m as maxL))) : Met l Z n0 y bytes maxL ret rm as h Q := by
  subst ho
  intro ws
  refine MetFree.of_bodySF hpl hisR ?_
  intro p e s m args below meth c s₁ Bd hml0 hP hK
  obtain ⟨rfl, hZ, hh⟩ := hP
  have X0 : Stand p l e rm s m args below meth c s₁ [] 0 0 := Stand.of_body Bd
  have e0 : s₁.heap = h := by rw [← hh, Bd.state]; rfl
  exact body p e s m below meth c s₁ ⟨[], X0, Fr.nil n0, e0, Bd.exec, hZ, Bd.bytes, hml0, findClass_of_methodNamed Bd.named, Bd.returns, Bd.notSynchronized, by rw [hh]; exact hsz⟩ (name_of_methodNamed Bd.named Bd.method).1
theorem Met.mono {y : MethodName} {rm : Room} {as : Array Value} {Q' : Option Value → Heap → Prop} (M : Met l Z n0 y bytes maxL ret rm as h Q) (q : ∀ v h, Q v h → Q' v h) : Met l Z n0 y bytes maxL ret rm as h Q' := by
  intro ws p e ha hc hk s m args below hf happ hP hK
  obtain ⟨n, o, h1, h2, h3, v, L, h4, ⟨h5, h6⟩, h7⟩ := M ws p e ha hc hk s m args below hf happ hP hK
  exact ⟨n, o, h1, h2, h3, v, L, h4, ⟨h5, q _ _ h6⟩, h7⟩
theorem s_iloadN (A : On l Z n0 own bytes maxL ret R p e s m args below meth c T h k n) {i : Fin 4} {z : Int32} (hd : decode bytes pc = .ok (.iload_n i, 1)) (hp : pc + 1 = pc') (hl : Ls[i.val]? = some (.val (.int z))) (K : Wp p e below s n0 ck cs Q (T.setTop (mkF m pc' Ls (.int z :: st)))) : Wp p e below s n0 ck cs Q (T.setTop (mkF m pc Ls st)) := by
  obtain ⟨locs, X, N, eT, hx, hZ, hby, hml, hown, hret, hlk, hsz⟩ := A
  subst hp
  exact K.goo fun t q => XS.iloadN X.here hx rfl (hb hby hd) hl q
theorem s_lloadN (A : On l Z n0 own bytes maxL ret R p e s m args below meth c T h k n) {i : Fin 4} {z : Int64} (hd : decode bytes pc = .ok (.lload_n i, 1)) (hp : pc + 1 = pc') (hl : Ls[i.val]? = some (.val (.long z))) (K : Wp p e below s n0 ck cs Q (T.setTop (mkF m pc' Ls (.long z :: st)))) : Wp p e below s n0 ck cs Q (T.setTop (mkF m pc Ls st)) := by
  obtain ⟨locs, X, N, eT, hx, hZ, hby, hml, hown, hret, hlk, hsz⟩ := A
  subst hp
  exact K.goo fun t q => XS.lloadN X.here hx rfl (hb hby hd) hl q
theorem s_aloadN (A : On l Z n0 own bytes maxL ret R p e s m args below meth c T h k n) {i : Fin 4} (hd : decode bytes pc = .ok (.aload_n i, 1)) (hp : pc + 1 = pc') (hl : Ls[i.val]? = some (.val v)) (hv : v.isRef = true) (K : Wp p e below s n0 ck cs Q (T.setTop (mkF m pc' Ls (v :: st)))) : Wp p e below s n0 ck cs Q (T.setTop (mkF m pc Ls st)) := by
  obtain ⟨locs, X, N, eT, hx, hZ, hby, hml, hown, hret, hlk, hsz⟩ := A
  subst hp
  exact K.goo fun t q => XS.aloadN X.here hx rfl (hb hby hd) hl hv q
theorem s_istoreN (A : On l Z n0 own bytes maxL ret R p e s m args below meth c T h k n) {i : Fin 4} {z : Int32} (hd : decode bytes pc = .ok (.istore_n i, 1)) (hp : pc + 1 = pc') (hl : storeLocals Ls i.val (.int z) = some Ls') (K : Wp p e below s n0 ck cs Q (T.setTop (mkF m pc' Ls' st))) : Wp p e below s n0 ck cs Q (T.setTop (mkF m pc Ls (.int z :: st))) := by
  obtain ⟨locs, X, N, eT, hx, hZ, hby, hml, hown, hret, hlk, hsz⟩ := A
  subst hp
  exact K.goo fun t q => XS.istoreN X.here hx rfl (hb hby hd) rfl hl q
theorem s_astoreN (A : On l Z n0 own bytes maxL ret R p e s m args below meth c T h k n) {i : Fin 4} (hd : decode bytes pc = .ok (.astore_n i, 1)) (hp : pc + 1 = pc') (hv : v.isRef = true) (hl : storeLocals Ls i.val v = some Ls') (K : Wp p e below s n0 ck cs Q (T.setTop (mkF m pc' Ls' st))) : Wp p e below s n0 ck cs Q (T.setTop (mkF m pc Ls (v :: st))) := by
  obtain ⟨locs, X, N, eT, hx, hZ, hby, hml, hown, hret, hlk, hsz⟩ := A
  subst hp
  exact K.goo fun t q => XS.astoreN X.here hx rfl (hb hby hd) rfl hv hl q
theorem s_iload (A : On l Z n0 own bytes maxL ret R p e s m args below meth c T h k n) {i : Nat} {z : Int32} (hd : decode bytes pc = .ok (.iload i, 2)) (hp : pc + 2 = pc') (hl : Ls[i]? = some (.val (.int z))) (K : Wp p e below s n0 ck cs Q (T.setTop (mkF m pc' Ls (.int z :: st)))) : Wp p e below s n0 ck cs Q (T.setTop (mkF m pc Ls st)) := by
  obtain ⟨locs, X, N, eT, hx, hZ, hby, hml, hown, hret, hlk, hsz⟩ := A
  subst hp
  exact K.goo fun t q => XS.iload X.here hx rfl (hb hby hd) hl q
theorem s_lload (A : On l Z n0 own bytes maxL ret R p e s m args below meth c T h k n) {i : Nat} {z : Int64} (hd : decode bytes pc = .ok (.lload i, 2)) (hp : pc + 2 = pc') (hl : Ls[i]? = some (.val (.long z))) (K : Wp p e below s n0 ck cs Q (T.setTop (mkF m pc' Ls (.long z :: st)))) : Wp p e below s n0 ck cs Q (T.setTop (mkF m pc Ls st)) := by
  obtain ⟨locs, X, N, eT, hx, hZ, hby, hml, hown, hret, hlk, hsz⟩ := A
  subst hp
  exact K.goo fun t q => XS.lload X.here hx rfl (hb hby hd) hl q
theorem s_aload (A : On l Z n0 own bytes maxL ret R p e s m args below meth c T h k n) {i : Nat} (hd : decode bytes pc = .ok (.aload i, 2)) (hp : pc + 2 = pc') (hl : Ls[i]? = some (.val v)) (hv : v.isRef = true) (K : Wp p e below s n0 ck cs Q (T.setTop (mkF m pc' Ls (v :: st)))) : Wp p e below s n0 ck cs Q (T.setTop (mkF m pc Ls st)) := by
  obtain ⟨locs, X, N, eT, hx, hZ, hby, hml, hown, hret, hlk, hsz⟩ := A
  subst hp
  exact K.goo fun t q => XS.aload X.here hx rfl (hb hby hd) hl hv q
theorem s_istore (A : On l Z n0 own bytes maxL ret R p e s m args below meth c T h k n) {i : Nat} {z : Int32} (hd : decode bytes pc = .ok (.istore i, 2)) (hp : pc + 2 = pc') (hl : storeLocals Ls i (.int z) = some Ls') (K : Wp p e below s n0 ck cs Q (T.setTop (mkF m pc' Ls' st))) : Wp p e below s n0 ck cs Q (T.setTop (mkF m pc Ls (.int z :: st))) := by
  obtain ⟨locs, X, N, eT, hx, hZ, hby, hml, hown, hret, hlk, hsz⟩ := A
  subst hp
  exact K.goo fun t q => XS.istore X.here hx rfl (hb hby hd) rfl hl q
theorem s_lstore (A : On l Z n0 own bytes maxL ret R p e s m args below meth c T h k n) {i : Nat} {z : Int64} (hd : decode bytes pc = .ok (.lstore i, 2)) (hp : pc + 2 = pc') (hl : storeLocals Ls i (.long z) = some Ls') (K : Wp p e below s n0 ck cs Q (T.setTop (mkF m pc' Ls' st))) : Wp p e below s n0 ck cs Q (T.setTop (mkF m pc Ls (.long z :: st))) := by
  obtain ⟨locs, X, N, eT, hx, hZ, hby, hml, hown, hret, hlk, hsz⟩ := A
  subst hp
  exact K.goo fun t q => XS.lstore X.here hx rfl (hb hby hd) rfl hl q
theorem s_astore (A : On l Z n0 own bytes maxL ret R p e s m args below meth c T h k n) {i : Nat} (hd : decode bytes pc = .ok (.astore i, 2)) (hp : pc + 2 = pc') (hv : v.isRef = true) (hl : storeLocals Ls i v = some Ls') (K : Wp p e below s n0 ck cs Q (T.setTop (mkF m pc' Ls' st))) : Wp p e below s n0 ck cs Q (T.setTop (mkF m pc Ls (v :: st))) := by
  obtain ⟨locs, X, N, eT, hx, hZ, hby, hml, hown, hret, hlk, hsz⟩ := A
  subst hp
  exact K.goo fun t q => XS.astore X.here hx rfl (hb hby hd) rfl hv hl q
theorem s_iconst (A : On l Z n0 own bytes maxL ret R p e s m args below meth c T h k n) {i : Int} {z : Int32} (hd : decode bytes pc = .ok (.iconst i, 1)) (hp : pc + 1 = pc') (hz : Int32.ofInt i = z) (K : Wp p e below s n0 ck cs Q (T.setTop (mkF m pc' Ls (.int z :: st)))) : Wp p e below s n0 ck cs Q (T.setTop (mkF m pc Ls st)) := by
  obtain ⟨locs, X, N, eT, hx, hZ, hby, hml, hown, hret, hlk, hsz⟩ := A
  subst hp
  subst hz
  exact K.goo fun t q => XS.iconst X.here hx rfl (hb hby hd) q
theorem s_bipush (A : On l Z n0 own bytes maxL ret R p e s m args below meth c T h k n) {i : Int} {z : Int32} (hd : decode bytes pc = .ok (.bipush i, 2)) (hp : pc + 2 = pc') (hz : (Int8.ofInt i).toInt32 = z) (K : Wp p e below s n0 ck cs Q (T.setTop (mkF m pc' Ls (.int z :: st)))) : Wp p e below s n0 ck cs Q (T.setTop (mkF m pc Ls st)) := by
  obtain ⟨locs, X, N, eT, hx, hZ, hby, hml, hown, hret, hlk, hsz⟩ := A
  subst hp
  subst hz
  exact K.goo fun t q => XS.bipush X.here hx rfl (hb hby hd) q
theorem s_iadd (A : On l Z n0 own bytes maxL ret R p e s m args below meth c T h k n) {x y z : Int32} (hd : decode bytes pc = .ok (.iadd, 1)) (hp : pc + 1 = pc') (hz : x + y = z) (K : Wp p e below s n0 ck cs Q (T.setTop (mkF m pc' Ls (.int z :: st)))) : Wp p e below s n0 ck cs Q (T.setTop (mkF m pc Ls (.int y :: .int x :: st))) := by
  obtain ⟨locs, X, N, eT, hx, hZ, hby, hml, hown, hret, hlk, hsz⟩ := A
  subst hp
  subst hz
  exact K.goo fun t q => XS.iadd X.here hx rfl (hb hby hd) rfl q
theorem s_ladd (A : On l Z n0 own bytes maxL ret R p e s m args below meth c T h k n) {x y z : Int64} (hd : decode bytes pc = .ok (.ladd, 1)) (hp : pc + 1 = pc') (hz : x + y = z) (K : Wp p e below s n0 ck cs Q (T.setTop (mkF m pc' Ls (.long z :: st)))) : Wp p e below s n0 ck cs Q (T.setTop (mkF m pc Ls (.long y :: .long x :: st))) := by
  obtain ⟨locs, X, N, eT, hx, hZ, hby, hml, hown, hret, hlk, hsz⟩ := A
  subst hp
  subst hz
  exact K.goo fun t q => XS.ladd X.here hx rfl (hb hby hd) rfl q
theorem s_isub (A : On l Z n0 own bytes maxL ret R p e s m args below meth c T h k n) {x y z : Int32} (hd : decode bytes pc = .ok (.isub, 1)) (hp : pc + 1 = pc') (hz : x - y = z) (K : Wp p e below s n0 ck cs Q (T.setTop (mkF m pc' Ls (.int z :: st)))) : Wp p e below s n0 ck cs Q (T.setTop (mkF m pc Ls (.int y :: .int x :: st))) := by
  obtain ⟨locs, X, N, eT, hx, hZ, hby, hml, hown, hret, hlk, hsz⟩ := A
  subst hp
  subst hz
  exact K.goo fun t q => XS.isub X.here hx rfl (hb hby hd) rfl q
theorem s_imul (A : On l Z n0 own bytes maxL ret R p e s m args below meth c T h k n) {x y z : Int32} (hd : decode bytes pc = .ok (.imul, 1)) (hp : pc + 1 = pc') (hz : x * y = z) (K : Wp p e below s n0 ck cs Q (T.setTop (mkF m pc' Ls (.int z :: st)))) : Wp p e below s n0 ck cs Q (T.setTop (mkF m pc Ls (.int y :: .int x :: st))) := by
  obtain ⟨locs, X, N, eT, hx, hZ, hby, hml, hown, hret, hlk, hsz⟩ := A
  subst hp
  subst hz
  exact K.goo fun t q => XS.imul X.here hx rfl (hb hby hd) rfl q
theorem s_iand (A : On l Z n0 own bytes maxL ret R p e s m args below meth c T h k n) {x y z : Int32} (hd : decode bytes pc = .ok (.iand, 1)) (hp : pc + 1 = pc') (hz : x &&& y = z) (K : Wp p e below s n0 ck cs Q (T.setTop (mkF m pc' Ls (.int z :: st)))) : Wp p e below s n0 ck cs Q (T.setTop (mkF m pc Ls (.int y :: .int x :: st))) := by
  obtain ⟨locs, X, N, eT, hx, hZ, hby, hml, hown, hret, hlk, hsz⟩ := A
  subst hp
  subst hz
  exact K.goo fun t q => XS.iand X.here hx rfl (hb hby hd) rfl q
theorem s_lor (A : On l Z n0 own bytes maxL ret R p e s m args below meth c T h k n) {x y z : Int64} (hd : decode bytes pc = .ok (.lor, 1)) (hp : pc + 1 = pc') (hz : x ||| y = z) (K : Wp p e below s n0 ck cs Q (T.setTop (mkF m pc' Ls (.long z :: st)))) : Wp p e below s n0 ck cs Q (T.setTop (mkF m pc Ls (.long y :: .long x :: st))) := by
  obtain ⟨locs, X, N, eT, hx, hZ, hby, hml, hown, hret, hlk, hsz⟩ := A
  subst hp
  subst hz
  exact K.goo fun t q => XS.lor X.here hx rfl (hb hby hd) rfl q
theorem s_irem (A : On l Z n0 own bytes maxL ret R p e s m args below meth c T h k n) {x y z : Int32} (hd : decode bytes pc = .ok (.irem, 1)) (hp : pc + 1 = pc') (hy : y ≠ 0) (hz : x % y = z) (K : Wp p e below s n0 ck cs Q (T.setTop (mkF m pc' Ls (.int z :: st)))) : Wp p e below s n0 ck cs Q (T.setTop (mkF m pc Ls (.int y :: .int x :: st))) := by
  obtain ⟨locs, X, N, eT, hx, hZ, hby, hml, hown, hret, hlk, hsz⟩ := A
  subst hp
  subst hz
  exact K.goo fun t q => iremM X hx rfl (hb hby hd) rfl hy q
theorem s_iushr (A : On l Z n0 own bytes maxL ret R p e s m args below meth c T h k n) {x y z : Int32} (hd : decode bytes pc = .ok (.iushr, 1)) (hp : pc + 1 = pc') (hz : ush x y = z) (K : Wp p e below s n0 ck cs Q (T.setTop (mkF m pc' Ls (.int z :: st)))) : Wp p e below s n0 ck cs Q (T.setTop (mkF m pc Ls (.int y :: .int x :: st))) := by
  obtain ⟨locs, X, N, eT, hx, hZ, hby, hml, hown, hret, hlk, hsz⟩ := A
  subst hp
  subst hz
  exact K.goo fun t q => XS.iushr X.here hx rfl (hb hby hd) rfl q
theorem s_lshl (A : On l Z n0 own bytes maxL ret R p e s m args below meth c T h k n) {x z : Int64} {y : Int32} (hd : decode bytes pc = .ok (.lshl, 1)) (hp : pc + 1 = pc') (hz : x <<< (y &&& 0x3f).toInt64 = z) (K : Wp p e below s n0 ck cs Q (T.setTop (mkF m pc' Ls (.long z :: st)))) : Wp p e below s n0 ck cs Q (T.setTop (mkF m pc Ls (.int y :: .long x :: st))) := by
  obtain ⟨locs, X, N, eT, hx, hZ, hby, hml, hown, hret, hlk, hsz⟩ := A
  subst hp
  subst hz
  exact K.goo fun t q => XS.lshl X.here hx rfl (hb hby hd) rfl q
theorem s_lcmp (A : On l Z n0 own bytes maxL ret R p e s m args below meth c T h k n) {x y : Int64} (hd : decode bytes pc = .ok (.lcmp, 1)) (hp : pc + 1 = pc') (K : Wp p e below s n0 ck cs Q (T.setTop (mkF m pc' Ls (.int (lcmpW x y) :: st)))) : Wp p e below s n0 ck cs Q (T.setTop (mkF m pc Ls (.long y :: .long x :: st))) := by
  obtain ⟨locs, X, N, eT, hx, hZ, hby, hml, hown, hret, hlk, hsz⟩ := A
  subst hp
  exact K.goo fun t q => XS.lcmp X.here hx rfl (hb hby hd) rfl q
theorem s_i2l (A : On l Z n0 own bytes maxL ret R p e s m args below meth c T h k n) {x : Int32} {z : Int64} (hd : decode bytes pc = .ok (.i2l, 1)) (hp : pc + 1 = pc') (hz : x.toInt64 = z) (K : Wp p e below s n0 ck cs Q (T.setTop (mkF m pc' Ls (.long z :: st)))) : Wp p e below s n0 ck cs Q (T.setTop (mkF m pc Ls (.int x :: st))) := by
  obtain ⟨locs, X, N, eT, hx, hZ, hby, hml, hown, hret, hlk, hsz⟩ := A
  subst hp
  subst hz
  exact K.goo fun t q => XS.i2l X.here hx rfl (hb hby hd) rfl q
theorem s_l2i (A : On l Z n0 own bytes maxL ret R p e s m args below meth c T h k n) {x : Int64} {z : Int32} (hd : decode bytes pc = .ok (.l2i, 1)) (hp : pc + 1 = pc') (hz : x.toInt32 = z) (K : Wp p e below s n0 ck cs Q (T.setTop (mkF m pc' Ls (.int z :: st)))) : Wp p e below s n0 ck cs Q (T.setTop (mkF m pc Ls (.long x :: st))) := by
  obtain ⟨locs, X, N, eT, hx, hZ, hby, hml, hown, hret, hlk, hsz⟩ := A
  subst hp
  subst hz
  exact K.goo fun t q => XS.l2i X.here hx rfl (hb hby hd) rfl q
theorem s_dup (A : On l Z n0 own bytes maxL ret R p e s m args below meth c T h k n)  (hd : decode bytes pc = .ok (.dup, 1)) (hp : pc + 1 = pc') (hc : v.category = 1) (K : Wp p e below s n0 ck cs Q (T.setTop (mkF m pc' Ls (v :: v :: st)))) : Wp p e below s n0 ck cs Q (T.setTop (mkF m pc Ls (v :: st))) := by
  obtain ⟨locs, X, N, eT, hx, hZ, hby, hml, hown, hret, hlk, hsz⟩ := A
  subst hp
  exact K.goo fun t q => XS.dup X.here hx rfl (hb hby hd) rfl hc q
theorem s_iinc (A : On l Z n0 own bytes maxL ret R p e s m args below meth c T h k n) {i : Nat} {j : Int} {x z : Int32} (hd : decode bytes pc = .ok (.iinc i j, 3)) (hp : pc + 3 = pc') (hl : Ls[i]? = some (.val (.int x))) (hz : x + Int32.ofInt j = z) (hs : storeLocals Ls i (.int z) = some Ls') (K : Wp p e below s n0 ck cs Q (T.setTop (mkF m pc' Ls' st))) : Wp p e below s n0 ck cs Q (T.setTop (mkF m pc Ls st)) := by
  obtain ⟨locs, X, N, eT, hx, hZ, hby, hml, hown, hret, hlk, hsz⟩ := A
  subst hp
  subst hz
  exact K.goo fun t q => XS.iinc X.here hx rfl (hb hby hd) hl hs q
theorem s_goto (A : On l Z n0 own bytes maxL ret R p e s m args below meth c T h k n)  {o : Int} (hd : decode bytes pc = .ok (.goto o, 3))  (ho : 0 ≤ (pc : Int) + o) (hp : ((pc : Int) + o).toNat = pc') (K : Wp p e below s n0 ck cs Q (T.setTop (mkF m pc' Ls st))) : Wp p e below s n0 ck cs Q (T.setTop (mkF m pc Ls st)) := by
  obtain ⟨locs, X, N, eT, hx, hZ, hby, hml, hown, hret, hlk, hsz⟩ := A
  exact K.goo fun t q => XS.goto X.here hx rfl (pc0 := pc) rfl (hb hby hd) ho hp q
theorem s_ifY (A : On l Z n0 own bytes maxL ret R p e s m args below meth c T h k n) {cd : ClassFile.Cond} {x : Int32} {o : Int} (hd : decode bytes pc = .ok (.ifCond cd o, 3)) (hc : ifCond.holds cd x = true) (ho : 0 ≤ (pc : Int) + o) (hp : ((pc : Int) + o).toNat = pc') (K : Wp p e below s n0 ck cs Q (T.setTop (mkF m pc' Ls st))) : Wp p e below s n0 ck cs Q (T.setTop (mkF m pc Ls (.int x :: st))) := by
  obtain ⟨locs, X, N, eT, hx, hZ, hby, hml, hown, hret, hlk, hsz⟩ := A
  exact K.goo fun t q => XS.ifYes X.here hx rfl (pc0 := pc) rfl (hb hby hd) rfl hc ho hp q
theorem s_icmpY (A : On l Z n0 own bytes maxL ret R p e s m args below meth c T h k n) {cd : ClassFile.Cond} {x y : Int32} {o : Int} (hd : decode bytes pc = .ok (.if_icmp cd o, 3)) (hc : if_icmp.holds cd x y = true) (ho : 0 ≤ (pc : Int) + o) (hp : ((pc : Int) + o).toNat = pc') (K : Wp p e below s n0 ck cs Q (T.setTop (mkF m pc' Ls st))) : Wp p e below s n0 ck cs Q (T.setTop (mkF m pc Ls (.int y :: .int x :: st))) := by
  obtain ⟨locs, X, N, eT, hx, hZ, hby, hml, hown, hret, hlk, hsz⟩ := A
  exact K.goo fun t q => XS.icmpYes X.here hx rfl (pc0 := pc) rfl (hb hby hd) rfl hc ho hp q
theorem s_ifN (A : On l Z n0 own bytes maxL ret R p e s m args below meth c T h k n) {cd : ClassFile.Cond} {x : Int32} {o : Int} (hd : decode bytes pc = .ok (.ifCond cd o, 3)) (hp : pc + 3 = pc') (hc : ifCond.holds cd x = false) (K : Wp p e below s n0 ck cs Q (T.setTop (mkF m pc' Ls st))) : Wp p e below s n0 ck cs Q (T.setTop (mkF m pc Ls (.int x :: st))) := by
  obtain ⟨locs, X, N, eT, hx, hZ, hby, hml, hown, hret, hlk, hsz⟩ := A
  subst hp
  exact K.goo fun t q => XS.ifNo X.here hx rfl (hb hby hd) rfl hc q
theorem s_icmpN (A : On l Z n0 own bytes maxL ret R p e s m args below meth c T h k n) {cd : ClassFile.Cond} {x y : Int32} {o : Int} (hd : decode bytes pc = .ok (.if_icmp cd o, 3)) (hp : pc + 3 = pc') (hc : if_icmp.holds cd x y = false) (K : Wp p e below s n0 ck cs Q (T.setTop (mkF m pc' Ls st))) : Wp p e below s n0 ck cs Q (T.setTop (mkF m pc Ls (.int y :: .int x :: st))) := by
  obtain ⟨locs, X, N, eT, hx, hZ, hby, hml, hown, hret, hlk, hsz⟩ := A
  subst hp
  exact K.goo fun t q => XS.icmpNo X.here hx rfl (hb hby hd) rfl hc q
theorem s_ldcInt (A : On l Z n0 own bytes maxL ret R p e s m args below meth c T h k n) {i : Nat} {z : Int32} (hd : decode bytes pc = .ok (.ldc i, 2)) (hp : pc + 2 = pc') (w0 : (Cond.constant own i z).before a0 Z = true) (K : Wp p e below s n0 ck cs Q (T.setTop (mkF m pc' Ls (.int z :: st)))) : Wp p e below s n0 ck cs Q (T.setTop (mkF m pc Ls st)) := by
  obtain ⟨locs, X, N, eT, hx, hZ, hby, hml, hown, hret, hlk, hsz⟩ := A
  subst hp
  exact K.goo fun t q => X.ldcInt hx hown (mvT hZ w0) (g := mkF m pc Ls st) rfl (hb hby hd) t q
theorem idx_ok {j : Int32} {i : Nat} (hj : j.toInt = (i : Int)) : j.toNatClampNeg = i := by show j.toInt.toNat = i; omega
theorem idx_in' {j : Int32} {i : Nat} {N : Nat} (hj : j.toInt = (i : Int)) (hi : i < N) : ¬ (j < 0 ∨ N ≤ j.toNatClampNeg) := by
  rw [idx_ok hj, Int32.lt_iff_toInt_lt, hj]
  have : (0 : Int32).toInt = 0 := by decide
  omega
theorem s_getfield (A : On l Z n0 own bytes maxL ret R p e s m args below meth c T h k n) {index : Nat} {R0 O f d host : String} (w0 : (Cond.fieldLink own index R0 f d).before a0 Z = true ∨ (Cond.fieldLinkNest own index R0 f d host).before a0 Z = true) (via : Via Z R0 O f d) (F : Fld Z h a O f d v) (hd : decode bytes pc = .ok (.getfield index, 3)) (hp : pc + 3 = pc') (K : ∀ T' , On l Z n0 own bytes maxL ret R p e s m args below meth c T' h k n → Wp p e below s n0 ck cs Q (T'.setTop (mkF m pc' Ls (v :: st)))) : Wp p e below s n0 ck cs Q (T.setTop (mkF m pc Ls (.ref a :: st))) := by
  obtain ⟨locs, X, N, eT, hx, hZ, hby, hml, hown, hret, hlk, hsz⟩ := A
  subst hp
  obtain ⟨T', X', e', q⟩ := getF X hx hZ hown w0 via eT F (g := mkF m pc Ls (.ref a :: st)) rfl rfl (hb hby hd)
  exact (K T' ⟨_, X', N, e', hx, hZ, hby, hml, hown, hret, hlk, hsz⟩).goo q
theorem s_putfield (A : On l Z n0 own bytes maxL ret R p e s m args below meth c T h k n) {index kk : Nat} {R0 O f d host C : String} (w0 : (Cond.fieldLink own index R0 f d).before a0 Z = true ∨ (Cond.fieldLinkNest own index R0 f d host).before a0 Z = true) (via : Via Z R0 O f d) (F : Fld Z h a O f d w) (E : Exa Z h a C) (L : (Cond.lays C O f d).before a0 Z = true ∨ ((Cond.laysFinal C O f d).before a0 Z = true ∧ own = O ∧ meth.name = "<init>")) (wi : (Cond.instantiable C kk).before a0 Z = true) (hty : parseFieldDescriptor d = some ty) (hnar : narrow ty v = v) (hfit : fits ty v = true) (ha : n0 ≤ a) (hd : decode bytes pc = .ok (.putfield index, 3)) (hp : pc + 3 = pc') (K : ∀ T' h', On l Z n0 own bytes maxL ret R p e s m args below meth c T' h' k n → Wr h h' a (Jvm.RoadKit.slotOf Z O f d) v → Wp p e below s n0 ck cs Q (T'.setTop (mkF m pc' Ls st))) : Wp p e below s n0 ck cs Q (T.setTop (mkF m pc Ls (v :: .ref a :: st))) := by
  obtain ⟨locs, X, N, eT, hx, hZ, hby, hml, hown, hret, hlk, hsz⟩ := A
  subst hp
  obtain ⟨T', h', X', e', W, q⟩ := putF X hx hZ hown w0 via eT F E L wi hty hnar hfit (g := mkF m pc Ls (v :: .ref a :: st)) rfl rfl (hb hby hd)
  exact (K T' h' ⟨_, X', Fr.snoc X' N ha, e', hx, hZ, hby, hml, hown, hret, hlk, hsz⟩ W).goo q
theorem s_new (A : On l Z n0 own bytes maxL ret R p e s m args below meth c T h k n) {index ns : Nat} {C : String} (w0 : (Cond.classLink own index C).before a0 Z = true) (wi : (Cond.instantiable C ns).before a0 Z = true) (wz : (Cond.initialized C).before a0 Z = true) (hc : k + 1 ≤ R.cells) (hs : n + ns ≤ R.slots) (hd : decode bytes pc = .ok (.new index, 3)) (hp : pc + 3 = pc') (K : ∀ T' h' b, On l Z n0 own bytes maxL ret R p e s m args below meth c T' h' (k + 1) (n + ns) → h.size = b → n0 ≤ b → Ext h h' → Exa Z h' b C → (∀ {O nm d : String} {ty : FieldType}, Laid Z a0 C O nm d → parseFieldDescriptor d = some ty → Fld Z h' b O nm d (defaultValue ty)) → Wp p e below s n0 ck cs Q (T'.setTop (mkF m pc' Ls (.ref b :: st)))) : Wp p e below s n0 ck cs Q (T.setTop (mkF m pc Ls st)) := by
  obtain ⟨locs, X, N, eT, hx, hZ, hby, hml, hown, hret, hlk, hsz⟩ := A
  subst hp
  obtain ⟨T', h', X', e', E, A', D, -, q⟩ := newO X hx hZ hown w0 wi wz eT (g := mkF m pc Ls st) rfl (hb hby hd) hc hs
  have hz : n0 ≤ h.size := by rw [← eT]; exact Nat.le_trans hsz X.same.2.1
  exact (K T' h' _ ⟨_, X', N, e', hx, hZ, hby, hml, hown, hret, hlk, hsz⟩ rfl hz E A' D).goo q
theorem s_newarray (A : On l Z n0 own bytes maxL ret R p e s m args below meth c T h k n) {aty : ArrayType} {dv : Value} {z : Int32} {i cap : Nat} (hty : newarray.typeOf aty = ty) (hdv : defaultValue ty = dv) (wa : (Cond.arrayClass ty).before a0 Z = true) (hz : z.toInt = (i : Int)) (hcap : i ≤ cap) (hbig : cap * 8 ≤ 536870912) (hc : k + 1 ≤ R.cells) (hs : n + cap ≤ R.slots) (hd : decode bytes pc = .ok (.newarray aty, 2)) (hp : pc + 2 = pc') (K : ∀ T' h' b, On l Z n0 own bytes maxL ret R p e s m args below meth c T' h' (k + 1) (n + cap) → h.size = b → n0 ≤ b → Ext h h' → AA Z h' b ty (List.replicate i dv) → Wp p e below s n0 ck cs Q (T'.setTop (mkF m pc' Ls (.ref b :: st)))) : Wp p e below s n0 ck cs Q (T.setTop (mkF m pc Ls (.int z :: st))) := by
  obtain ⟨locs, X, N, eT, hx, hZ, hby, hml, hown, hret, hlk, hsz⟩ := A
  subst hp
  subst hty hdv
  have z0 : ¬ z < 0 := by rw [Int32.lt_iff_toInt_lt, hz]; have : (0 : Int32).toInt = 0 := by decide
                          omega
  obtain ⟨T', h', cA, X', e', E, A', q⟩ := newP X hx hZ wa eT (g := mkF m pc Ls (.int z :: st)) rfl (hb hby hd) rfl z0 (cap := cap) (by rw [idx_ok hz]; exact hcap) hbig hc hs
  have hz' : n0 ≤ h.size := by rw [← eT]; exact Nat.le_trans hsz X.same.2.1
  exact (K T' h' _ ⟨_, X', N, e', hx, hZ, hby, hml, hown, hret, hlk, hsz⟩ rfl hz' E (AA.new A' hz)).goo q
theorem s_iastore (A : On l Z n0 own bytes maxL ret R p e s m args below meth c T h k n) {x : Int32} {j : Int32} {i : Nat} (V : AA Z h a .int vs) (hj : j.toInt = (i : Int)) (hi : i < vs.length) (ha : n0 ≤ a) (hd : decode bytes pc = .ok (.iastore, 1)) (hp : pc + 1 = pc') (K : ∀ T' h', On l Z n0 own bytes maxL ret R p e s m args below meth c T' h' k n → Wr h h' a i (.int x) → AA Z h' a .int (vs.set i (.int x)) → Wp p e below s n0 ck cs Q (T'.setTop (mkF m pc' Ls st))) : Wp p e below s n0 ck cs Q (T.setTop (mkF m pc Ls (.int x :: .int j :: .ref a :: st))) := by
  obtain ⟨locs, X, N, eT, hx, hZ, hby, hml, hown, hret, hlk, hsz⟩ := A
  subst hp
  have V0 := V
  obtain ⟨cl, Ar, r1, r2⟩ := V0
  obtain ⟨T', h', X', e', W, q⟩ := stI X hx hZ eT Ar (j := j) (idx_in' hj (by rw [r1]; simpa using hi)) (g := mkF m pc Ls (.int x :: .int j :: .ref a :: st)) rfl rfl (hb hby hd)
  have W' := W
  rw [idx_ok hj] at W'
  exact (K T' h' ⟨_, X', Fr.snoc X' N ha, e', hx, hZ, hby, hml, hown, hret, hlk, hsz⟩ W' (V.set W')).goo q
theorem s_lastore (A : On l Z n0 own bytes maxL ret R p e s m args below meth c T h k n) {x : Int64} {j : Int32} {i : Nat} (V : AA Z h a .long vs) (hj : j.toInt = (i : Int)) (hi : i < vs.length) (ha : n0 ≤ a) (hd : decode bytes pc = .ok (.lastore, 1)) (hp : pc + 1 = pc') (K : ∀ T' h', On l Z n0 own bytes maxL ret R p e s m args below meth c T' h' k n → Wr h h' a i (.long x) → AA Z h' a .long (vs.set i (.long x)) → Wp p e below s n0 ck cs Q (T'.setTop (mkF m pc' Ls st))) : Wp p e below s n0 ck cs Q (T.setTop (mkF m pc Ls (.long x :: .int j :: .ref a :: st))) := by
  obtain ⟨locs, X, N, eT, hx, hZ, hby, hml, hown, hret, hlk, hsz⟩ := A
  subst hp
  have V0 := V
  obtain ⟨cl, Ar, r1, r2⟩ := V0
  obtain ⟨T', h', X', e', W, q⟩ := stJ X hx hZ eT Ar (j := j) (idx_in' hj (by rw [r1]; simpa using hi)) (g := mkF m pc Ls (.long x :: .int j :: .ref a :: st)) rfl rfl (hb hby hd)
  have W' := W
  rw [idx_ok hj] at W'
  exact (K T' h' ⟨_, X', Fr.snoc X' N ha, e', hx, hZ, hby, hml, hown, hret, hlk, hsz⟩ W' (V.set W')).goo q
theorem s_iaload (A : On l Z n0 own bytes maxL ret R p e s m args below meth c T h k n) {j : Int32} {i : Nat} (V : AA Z h a .int vs) (hj : j.toInt = (i : Int)) (hv : vs[i]? = some v) (hd : decode bytes pc = .ok (.iaload, 1)) (hp : pc + 1 = pc') (K : Wp p e below s n0 ck cs Q (T.setTop (mkF m pc' Ls (v :: st)))) : Wp p e below s n0 ck cs Q (T.setTop (mkF m pc Ls (.int j :: .ref a :: st))) := by
  obtain ⟨locs, X, N, eT, hx, hZ, hby, hml, hown, hret, hlk, hsz⟩ := A
  subst hp
  obtain ⟨cl, Ar, r1, r2⟩ := V
  have hi : i < vs.length := (List.getElem?_eq_some_iff.mp hv).1
  exact K.goo fun t q => X.iaload hx (j := j) (v := v) (by rw [eT]; exact Ar.1) (State.isArrayOf_alike hZ.alike Ar.2.1) Ar.2.2 (idx_in' hj (by rw [r1]; simpa using hi)) (by rw [idx_ok hj, r1]; simpa using hv) (g := mkF m pc Ls (.int j :: .ref a :: st)) rfl rfl (hb hby hd) t q
theorem s_laload (A : On l Z n0 own bytes maxL ret R p e s m args below meth c T h k n) {j : Int32} {i : Nat} (V : AA Z h a .long vs) (hj : j.toInt = (i : Int)) (hv : vs[i]? = some v) (hd : decode bytes pc = .ok (.laload, 1)) (hp : pc + 1 = pc') (K : Wp p e below s n0 ck cs Q (T.setTop (mkF m pc' Ls (v :: st)))) : Wp p e below s n0 ck cs Q (T.setTop (mkF m pc Ls (.int j :: .ref a :: st))) := by
  obtain ⟨locs, X, N, eT, hx, hZ, hby, hml, hown, hret, hlk, hsz⟩ := A
  subst hp
  obtain ⟨cl, Ar, r1, r2⟩ := V
  have hi : i < vs.length := (List.getElem?_eq_some_iff.mp hv).1
  exact K.goo fun t q => X.laload hx (j := j) (v := v) (by rw [eT]; exact Ar.1) (State.isArrayOf_alike hZ.alike Ar.2.1) Ar.2.2 (idx_in' hj (by rw [r1]; simpa using hi)) (by rw [idx_ok hj, r1]; simpa using hv) (g := mkF m pc Ls (.int j :: .ref a :: st)) rfl rfl (hb hby hd) t q
theorem s_arraylength (A : On l Z n0 own bytes maxL ret R p e s m args below meth c T h k n) {z : Int32} (V : AA Z h a ty vs) (hz : z.toInt = (vs.length : Int)) (hd : decode bytes pc = .ok (.arraylength, 1)) (hp : pc + 1 = pc') (K : Wp p e below s n0 ck cs Q (T.setTop (mkF m pc' Ls (.int z :: st)))) : Wp p e below s n0 ck cs Q (T.setTop (mkF m pc Ls (.ref a :: st))) := by
  obtain ⟨locs, X, N, eT, hx, hZ, hby, hml, hown, hret, hlk, hsz⟩ := A
  subst hp
  obtain ⟨cl, Ar, r1, r2⟩ := V
  have q0 : cl.slots.size.toInt32 = z := by
    rw [r1]; apply Int32.toInt_inj.mp; rw [len_toInt (by simpa using r2), hz]; simp
  exact K.goo fun t q => X.arraylength hx (by rw [eT]; exact Ar.1) (State.isArrayOf_alike hZ.alike Ar.2.1) (g := mkF m pc Ls (.ref a :: st)) rfl rfl (hb hby hd) t (by rw [q0]; exact q)
theorem s_static (A : On l Z n0 own bytes maxL ret R p e s m args below meth c T h k n) {index : Nat} {y : MethodName} {bytes' : ByteArray} {maxL' : Nat} {ret' : Option FieldType} {rm : Room} {argsL rest : List Value} {Q' : Option Value → Heap → Prop} (M : Met l Z n0 y bytes' maxL' ret' rm argsL.toArray h Q') (wl : (Cond.methodLink own index y).before a0 Z = true) (ws : (Cond.static y).before a0 Z = true) (wz : (Cond.initialized y.cls).before a0 Z = true) (wc : (Cond.code y bytes' maxL' ret').before a0 Z = true) (hy : y.cls ≠ "java/lang/invoke/MethodHandle" ∧ y.cls ≠ "java/lang/invoke/VarHandle") {sig : MethodDescriptor} (hsig : parseMethodDescriptor y.desc = some sig) (hlen : argsL.length = sig.parameters.length) {W : Nat} (hf : rm.frames + 1 ≤ R.frames) (hl : W + (maxL' + 11) + rm.locals ≤ R.locals) (hW : (rest.map fun v => v.category).sum ≤ W) (hc : k + rm.cells ≤ R.cells) (hs : n + rm.slots ≤ R.slots) (hLs : Ls.size = maxL) {stk : List Value} (hst : stk = argsL.reverse ++ rest) (hd : decode bytes pc = .ok (.invokestatic index, 3)) (hp : pc + 3 = pc') (K : ∀ T' h' v, On l Z n0 own bytes maxL ret R p e s m args below meth c T' h' (k + rm.cells) (n + rm.slots) → Q' v h' → Wp p e below s n0 ck cs Q (T'.setTop (mkF m pc' Ls (v.toList ++ rest)))) : Wp p e below s n0 ck cs Q (T.setTop (mkF m pc Ls stk)) := by
  obtain ⟨locs, X, N, eT, hx, hZ, hby, hml, hown, hret, hlk, hsz⟩ := A
  subst hp
  obtain ⟨v, _, ⟨T', L', k', n'⟩, -, X', ⟨Lc, ⟨Nq, hQ⟩, l1, l2, l3⟩, q⟩ := Jvm.LawKit.callS X hx (y := y) hown (mvT hZ wl) (mvT hZ ws) (mvT hZ wz) (mvT hZ wc) hy (backOf (Q := fun v h L => Fr n0 L ∧ Q' v h) (W := W) (M []) hZ wc wz hf hl) (g := mkF m pc Ls stk) rfl (by rw [hml]; exact hLs) (argsL := argsL) (rest := rest) (lenOf hsig hlen) hst (by show 2 * 0 + _ ≤ _; simpa using hW) (hb hby hd) (fun _ _ => ⟨rfl, eT, hc, hs⟩)
  dsimp only [Pt.U, Pt.locs, Pt.cells, Pt.slots] at X' l1 l2 l3 q hQ Nq
  subst l1 l2 l3
  exact (K T' T'.heap v ⟨_, X', Fr.app N Nq, rfl, hx, hZ, hby, hml, hown, hret, hlk, hsz⟩ hQ).goo q
theorem s_virtual (A : On l Z n0 own bytes maxL ret R p e s m args below meth c T h k n) {index : Nat} {y : MethodName} {bytes' : ByteArray} {maxL' : Nat} {ret' : Option FieldType} {rm : Room} {argsL rest : List Value} {Q' : Option Value → Heap → Prop} {C : String} {z : MethodName} (E : Exa Z h b C) (M : Met l Z n0 z bytes' maxL' ret' rm (.ref b :: argsL).toArray h Q') (wl : (Cond.methodLink own index y).before a0 Z = true) (wd : (Cond.declares y).before a0 Z = true) (wn : ∀ (args : Array Value) (s : State), Z.Warmed39 s.vm → NotFace s y) (wsel : (Cond.selects C y z).before a0 Z = true) (wim : (Cond.instanceMethod z).before a0 Z = true) (wz : (Cond.initialized z.cls).before a0 Z = true) (wc : (Cond.code z bytes' maxL' ret').before a0 Z = true) (hy : y.cls ≠ "java/lang/invoke/MethodHandle" ∧ y.cls ≠ "java/lang/invoke/VarHandle") {sig : MethodDescriptor} (hsig : parseMethodDescriptor y.desc = some sig) (hlen : argsL.length = sig.parameters.length) {W : Nat} (hf : rm.frames + 1 ≤ R.frames) (hl : W + (maxL' + 11) + rm.locals ≤ R.locals) (hW : (rest.map fun v => v.category).sum ≤ W) (hc : k + rm.cells ≤ R.cells) (hs : n + rm.slots ≤ R.slots) (hLs : Ls.size = maxL) {stk : List Value} (hst : stk = argsL.reverse ++ .ref b :: rest) (hd : decode bytes pc = .ok (.invokevirtual index, 3)) (hp : pc + 3 = pc') (K : ∀ T' h' v, On l Z n0 own bytes maxL ret R p e s m args below meth c T' h' (k + rm.cells) (n + rm.slots) → Q' v h' → Wp p e below s n0 ck cs Q (T'.setTop (mkF m pc' Ls (v.toList ++ rest)))) : Wp p e below s n0 ck cs Q (T.setTop (mkF m pc Ls stk)) := by
  obtain ⟨locs, X, N, eT, hx, hZ, hby, hml, hown, hret, hlk, hsz⟩ := A
  subst hp
  obtain ⟨cq, kq, qa, qb, qc⟩ := isOf hZ eT E
  obtain ⟨v, _, ⟨T', L', k', n'⟩, -, X', ⟨Lc, ⟨Nq, hQ⟩, l1, l2, l3⟩, q⟩ := X.virtualBack hx (y := y) (z := z) hown (mvT hZ wl) (mvT hZ wd) (wn #[] s hZ) (mvT hZ wsel) (mvT hZ wim) hy (backOf (Q := fun v h L => Fr n0 L ∧ Q' v h) (W := W) (M []) hZ wc wz hf hl) qa qc (g := mkF m pc Ls stk) rfl (by rw [hml]; exact hLs) (Steps.refl _) (argsL := argsL) (rest := rest) (lenOf hsig hlen) hst (by show 2 * 0 + _ ≤ _; simpa using hW) (hb hby hd) (fun _ _ => ⟨rfl, eT, hc, hs⟩)
  dsimp only [Pt.U, Pt.locs, Pt.cells, Pt.slots] at X' l1 l2 l3 q hQ Nq
  subst l1 l2 l3
  exact (K T' T'.heap v ⟨_, X', Fr.app N Nq, rfl, hx, hZ, hby, hml, hown, hret, hlk, hsz⟩ hQ).goo (fun t r => q.trans r)
theorem nf_same {y : MethodName} {C : String} (wsel : (Cond.selects y.cls y y).before a0 Z = true) : ∀ (args : Array Value) (s : State), Z.Warmed39 s.vm → NotFace s y := fun args s hZ => notFace_of_selects (args := #[]) (mvT hZ wsel)
theorem s_special (A : On l Z n0 own bytes maxL ret R p e s m args below meth c T h k n) {index : Nat} {y : MethodName} {bytes' : ByteArray} {maxL' : Nat} {rm : Room} {argsL rest : List Value} {Q' : Option Value → Heap → Prop} (M : Met l Z n0 y bytes' maxL' none rm (.ref b :: argsL).toArray h Q') (hy1 : y.name = "<init>") (wl : (Cond.methodLink own index y).before a0 Z = true) (wim : (Cond.instanceMethod y).before a0 Z = true) (wz : (Cond.initialized y.cls).before a0 Z = true) (wc : (Cond.code y bytes' maxL' none).before a0 Z = true) (hy : y.cls ≠ "java/lang/invoke/MethodHandle" ∧ y.cls ≠ "java/lang/invoke/VarHandle") {sig : MethodDescriptor} (hsig : parseMethodDescriptor y.desc = some sig) (hlen : argsL.length = sig.parameters.length) {W : Nat} (hf : rm.frames + 1 ≤ R.frames) (hl : W + (maxL' + 11) + rm.locals ≤ R.locals) (hW : (rest.map fun v => v.category).sum ≤ W) (hc : k + rm.cells ≤ R.cells) (hs : n + rm.slots ≤ R.slots) (hLs : Ls.size = maxL) {stk : List Value} (hst : stk = argsL.reverse ++ .ref b :: rest) (hd : decode bytes pc = .ok (.invokespecial index, 3)) (hp : pc + 3 = pc') (K : ∀ T' h' v, On l Z n0 own bytes maxL ret R p e s m args below meth c T' h' (k + rm.cells) (n + rm.slots) → Q' v h' → Wp p e below s n0 ck cs Q (T'.setTop (mkF m pc' Ls (v.toList ++ rest)))) : Wp p e below s n0 ck cs Q (T.setTop (mkF m pc Ls stk)) := by
  obtain ⟨locs, X, N, eT, hx, hZ, hby, hml, hown, hret, hlk, hsz⟩ := A
  subst hp
  obtain ⟨v, _, ⟨T', L', k', n'⟩, -, X', ⟨Lc, ⟨Nq, hQ⟩, l1, l2, l3⟩, q⟩ := X.specialBack hx (y := y) hy1 hown (mvT hZ wl) (mvT hZ wim) (mvT hZ wc) hy (backOf (Q := fun v h L => Fr n0 L ∧ Q' v h) (W := W) (M []) hZ wc wz hf hl) (g := mkF m pc Ls stk) rfl (by rw [hml]; exact hLs) (Steps.refl _) (a := b) (argsL := argsL) (rest := rest) (lenOf hsig hlen) hst (by show 2 * 0 + _ ≤ _; simpa using hW) (hb hby hd) (fun _ _ => ⟨rfl, eT, hc, hs⟩)
  dsimp only [Pt.U, Pt.locs, Pt.cells, Pt.slots] at X' l1 l2 l3 q hQ Nq
  subst l1 l2 l3
  exact (K T' T'.heap v ⟨_, X', Fr.app N Nq, rfl, hx, hZ, hby, hml, hown, hret, hlk, hsz⟩ hQ).goo (fun t r => q.trans r)
theorem s_private (A : On l Z n0 own bytes maxL ret R p e s m args below meth c T h k n) {index : Nat} {y : MethodName} {bytes' : ByteArray} {maxL' : Nat} {ret' : Option FieldType} {rm : Room} {argsL rest : List Value} {Q' : Option Value → Heap → Prop} {C : String} (E : Exa Z h b C) (M : Met l Z n0 y bytes' maxL' ret' rm (.ref b :: argsL).toArray h Q') (wl : (Cond.methodLink own index y).before a0 Z = true) (wim : (Cond.instanceMethod y).before a0 Z = true) {kk : Nat} (wi : (Cond.instantiable y.cls kk).before a0 Z = true) (wp : (Cond.privateMethod y).before a0 Z = true) (wz : (Cond.initialized y.cls).before a0 Z = true) (wc : (Cond.code y bytes' maxL' ret').before a0 Z = true) (hy : y.cls ≠ "java/lang/invoke/MethodHandle" ∧ y.cls ≠ "java/lang/invoke/VarHandle") {sig : MethodDescriptor} (hsig : parseMethodDescriptor y.desc = some sig) (hlen : argsL.length = sig.parameters.length) {W : Nat} (hf : rm.frames + 1 ≤ R.frames) (hl : W + (maxL' + 11) + rm.locals ≤ R.locals) (hW : (rest.map fun v => v.category).sum ≤ W) (hc : k + rm.cells ≤ R.cells) (hs : n + rm.slots ≤ R.slots) (hLs : Ls.size = maxL) {stk : List Value} (hst : stk = argsL.reverse ++ .ref b :: rest) (hd : decode bytes pc = .ok (.invokevirtual index, 3)) (hp : pc + 3 = pc') (K : ∀ T' h' v, On l Z n0 own bytes maxL ret R p e s m args below meth c T' h' (k + rm.cells) (n + rm.slots) → Q' v h' → Wp p e below s n0 ck cs Q (T'.setTop (mkF m pc' Ls (v.toList ++ rest)))) : Wp p e below s n0 ck cs Q (T.setTop (mkF m pc Ls stk)) := by
  obtain ⟨locs, X, N, eT, hx, hZ, hby, hml, hown, hret, hlk, hsz⟩ := A
  subst hp
  obtain ⟨cq, q0, q1⟩ := E.cell
  obtain ⟨ci, ki, i1, i2, -, i4, -⟩ := Cond.instantiable_spec (show (Cond.instantiable y.cls kk).before args s = true from mvT hZ wi)
  have i5 : ki.isInterface = false := by simp only [Bool.or_eq_false_iff] at i4; exact i4.1
  have hpriv := Cond.privateMethod_at (mvP hZ wp (args := args))
  have hsel := selects_self_of_private (args := args) i1 i2 i5 hpriv (mvT hZ wim) hy
  obtain ⟨v, _, ⟨T', L', k', n'⟩, -, X', ⟨Lc, ⟨Nq, hQ⟩, l1, l2, l3⟩, q⟩ := X.privateBack hx (y := y) hown (mvT hZ wl) (mvT hZ wim) hsel hpriv (mvT hZ wc) hy (backOf (Q := fun v h L => Fr n0 L ∧ Q' v h) (W := W) (M []) hZ wc wz hf hl) (g := mkF m pc Ls stk) rfl (by rw [hml]; exact hLs) (Steps.refl _) (a := b) (by rw [eT]; exact q0) q1 (argsL := argsL) (rest := rest) (lenOf hsig hlen) hst (by show 2 * 0 + _ ≤ _; simpa using hW) (hb hby hd) (fun _ _ => ⟨rfl, eT, hc, hs⟩)
  dsimp only [Pt.U, Pt.locs, Pt.cells, Pt.slots] at X' l1 l2 l3 q hQ Nq
  subst l1 l2 l3
  exact (K T' T'.heap v ⟨_, X', Fr.app N Nq, rfl, hx, hZ, hby, hml, hown, hret, hlk, hsz⟩ hQ).goo (fun t r => q.trans r)
theorem s_initO (A : On l Z n0 own bytes maxL ret R p e s m args below meth c T h k n) {index : Nat} (w1 : (Cond.methodLink own index Lib.objectInit).before a0 Z = true) (w2 : (Cond.instanceMethod Lib.objectInit).before a0 Z = true) (w3 : (Cond.code Lib.objectInit ⟨#[0xb1]⟩ 1 none).before a0 Z = true) {W : Nat} (hf : 1 ≤ R.frames) (hW : (st.map fun v => v.category).sum ≤ W) (hl : W + 12 ≤ R.locals) (hLs : Ls.size = maxL) (hd : decode bytes pc = .ok (.invokespecial index, 3)) (hp : pc + 3 = pc') (K : ∀ T', On l Z n0 own bytes maxL ret R p e s m args below meth c T' h k n → Wp p e below s n0 ck cs Q (T'.setTop (mkF m pc' Ls st))) : Wp p e below s n0 ck cs Q (T.setTop (mkF m pc Ls (.ref a :: st))) := by
  obtain ⟨locs, X, N, eT, hx, hZ, hby, hml, hown, hret, hlk, hsz⟩ := A
  subst hp
  obtain ⟨T', X', e', q⟩ := initO X hx hZ hown w1 w2 w3 eT (g := mkF m pc Ls (.ref a :: st)) rfl (by rw [hml]; exact hLs) rfl (hb hby hd) hf (W := W) (by show 2 * 0 + _ ≤ _; simpa using hW) hl
  exact (K T' ⟨_, X', N, e', hx, hZ, hby, hml, hown, hret, hlk, hsz⟩).goo q
theorem r_void (A : On l Z n0 own bytes maxL ret R p e s m args below meth c T h k n) (hr : ret = none) (hd : decode bytes pc = .ok (.return_, 1)) (hk : k ≤ ck) (hn : n ≤ cs) (q : Q none h) : Wp p e below s n0 ck cs Q (T.setTop (mkF m pc Ls [])) := by
  obtain ⟨locs, X, N, eT, hx, hZ, hby, hml, hown, hret, hlk, hsz⟩ := A
  have hR : meth.sig.returnType = none := hret.trans hr
  obtain ⟨fs, h1, hrun, hended, hW, hsame⟩ := X.leave (v := none) (fun _ => rfl) hlk
  exact ⟨_, _, X.returnOut hx hR (hb hby hd) h1, hrun, hended, _, _, rfl, ⟨N, by show Q none T.heap; rw [eT]; exact q⟩, ⟨_, rfl⟩, hW, hsame.mono hk hn⟩
theorem r_val (A : On l Z n0 own bytes maxL ret R p e s m args below meth c T h k n) {i : Instr} {t : FieldType} (hr : ret = some t) (hn0 : narrow t v = v) (hi : (i = .ireturn ∧ (t = .int ∨ t = .boolean ∨ t = .byte ∨ t = .char ∨ t = .short) ∧ ∃ z, v = .int z) ∨ (i = .lreturn ∧ t = .long ∧ ∃ z, v = .long z) ∨ (i = .dreturn ∧ t = .double ∧ ∃ z, v = .double z) ∨ (i = .freturn ∧ t = .float ∧ ∃ z, v = .float z) ∨ (i = .areturn ∧ t.isReference = true ∧ v.isRef = true)) (hd : decode bytes pc = .ok (i, 1)) (hk : k ≤ ck) (hn : n ≤ cs) (q : Q (some v) h) : Wp p e below s n0 ck cs Q (T.setTop (mkF m pc Ls (v :: st))) := by
  obtain ⟨locs, X, N, eT, hx, hZ, hby, hml, hown, hret, hlk, hsz⟩ := A
  have hR : meth.sig.returnType = some t := hret.trans hr
  obtain ⟨fs, h1, hrun, hended, hW, hsame⟩ := X.leave (v := some v) (fun z => by rw [hR] at z; cases z) hlk
  exact ⟨_, _, retOut X hx hR hn0 hi (hb hby hd) h1, hrun, hended, _, _, rfl, ⟨N, by show Q (some v) T.heap; rw [eT]; exact q⟩, ⟨_, rfl⟩, hW, hsame.mono hk hn⟩
theorem r_int (A : On l Z n0 own bytes maxL ret R p e s m args below meth c T h k n) {z : Int32} (hr : ret = some .int) (hd : decode bytes pc = .ok (.ireturn, 1)) (hk : k ≤ ck) (hn : n ≤ cs) (q : Q (some (.int z)) h) : Wp p e below s n0 ck cs Q (T.setTop (mkF m pc Ls (.int z :: st))) := r_val A hr rfl (Or.inl ⟨rfl, Or.inl rfl, _, rfl⟩) hd hk hn q
theorem r_bool (A : On l Z n0 own bytes maxL ret R p e s m args below meth c T h k n) {z : Int32} (hr : ret = some .boolean) (hz : z = 0 ∨ z = 1) (hd : decode bytes pc = .ok (.ireturn, 1)) (hk : k ≤ ck) (hn : n ≤ cs) (q : Q (some (.int z)) h) : Wp p e below s n0 ck cs Q (T.setTop (mkF m pc Ls (.int z :: st))) := r_val A hr (by rcases hz with rfl | rfl <;> rfl) (Or.inl ⟨rfl, Or.inr (Or.inl rfl), _, rfl⟩) hd hk hn q
theorem r_long (A : On l Z n0 own bytes maxL ret R p e s m args below meth c T h k n) {z : Int64} (hr : ret = some .long) (hd : decode bytes pc = .ok (.lreturn, 1)) (hk : k ≤ ck) (hn : n ≤ cs) (q : Q (some (.long z)) h) : Wp p e below s n0 ck cs Q (T.setTop (mkF m pc Ls (.long z :: st))) := r_val A hr rfl (Or.inr (Or.inl ⟨rfl, rfl, _, rfl⟩)) hd hk hn q
theorem r_ref (A : On l Z n0 own bytes maxL ret R p e s m args below meth c T h k n) {t : FieldType} (hr : ret = some t) (ht : t.isReference = true) (hv : v.isRef = true) (hd : decode bytes pc = .ok (.areturn, 1)) (hk : k ≤ ck) (hn : n ≤ cs) (q : Q (some v) h) : Wp p e below s n0 ck cs Q (T.setTop (mkF m pc Ls (v :: st))) := r_val A hr (by cases t <;> first | rfl | cases ht) (Or.inr (Or.inr (Or.inr (Or.inr ⟨rfl, ht, hv⟩)))) hd hk hn q
end Kit
end Jvm.Ow
namespace Jvm.Pilot.@@N@@
open Jvm Jvm.ClassFile Sem Op Lib Jvm.Free Jvm.Stand Jvm.LawKit Jvm.RoadKit Jvm.Ow Bundle Jvm.Pilot.@@N@@.Jvm.D
abbrev c0_PositionIndex : String := "com/example/wirefram/wirefram/sequence/PositionIndex"
theorem d9_14 : decode prog_75_method_2_code 14 = .ok (.aload_n 0, 1) := by decide +kernel
theorem d9_15 : decode prog_75_method_2_code 15 = .ok (.getfield 17, 3) := by decide +kernel
theorem w25 {Z : State} {a0 : Array Value} (hw : ∀ d ∈ tables_1, d.before a0 Z = true) : (Jvm.Cond.fieldLink "com/example/wirefram/wirefram/sequence/PositionIndex" (17 : Nat) "com/example/wirefram/wirefram/sequence/PositionIndex" "numbers" "[I").before a0 Z = true := hw _ (List.mem_of_getElem? (i := 25) rfl)
theorem d9_18 : decode prog_75_method_2_code 18 = .ok (.iload 4, 2) := by decide +kernel
theorem d9_20 : decode prog_75_method_2_code 20 = .ok (.iaload, 1) := by decide +kernel
theorem d9_21 : decode prog_75_method_2_code 21 = .ok (.iconst (-1), 1) := by decide +kernel
theorem d9_22 : decode prog_75_method_2_code 22 = .ok (.if_icmp .eq 34, 3) := by decide +kernel
theorem d9_56 : decode prog_75_method_2_code 56 = .ok (.iconst (-1), 1) := by decide +kernel
theorem d9_57 : decode prog_75_method_2_code 57 = .ok (.ireturn, 1) := by decide +kernel
theorem d9_25 : decode prog_75_method_2_code 25 = .ok (.aload_n 0, 1) := by decide +kernel
theorem d9_26 : decode prog_75_method_2_code 26 = .ok (.getfield 9, 3) := by decide +kernel
theorem w15 {Z : State} {a0 : Array Value} (hw : ∀ d ∈ tables_1, d.before a0 Z = true) : (Jvm.Cond.fieldLink "com/example/wirefram/wirefram/sequence/PositionIndex" (9 : Nat) "com/example/wirefram/wirefram/sequence/PositionIndex" "positions" "[J").before a0 Z = true := hw _ (List.mem_of_getElem? (i := 15) rfl)
theorem d9_29 : decode prog_75_method_2_code 29 = .ok (.iload 4, 2) := by decide +kernel
theorem d9_31 : decode prog_75_method_2_code 31 = .ok (.laload, 1) := by decide +kernel
theorem d9_32 : decode prog_75_method_2_code 32 = .ok (.lload_n 1, 1) := by decide +kernel
theorem d9_33 : decode prog_75_method_2_code 33 = .ok (.lcmp, 1) := by decide +kernel
theorem d9_34 : decode prog_75_method_2_code 34 = .ok (.ifCond .ne 11, 3) := by decide +kernel
theorem d9_37 : decode prog_75_method_2_code 37 = .ok (.aload_n 0, 1) := by decide +kernel
theorem d9_38 : decode prog_75_method_2_code 38 = .ok (.getfield 17, 3) := by decide +kernel
theorem d9_41 : decode prog_75_method_2_code 41 = .ok (.iload 4, 2) := by decide +kernel
theorem d9_43 : decode prog_75_method_2_code 43 = .ok (.iaload, 1) := by decide +kernel
theorem d9_44 : decode prog_75_method_2_code 44 = .ok (.ireturn, 1) := by decide +kernel
theorem d9_45 : decode prog_75_method_2_code 45 = .ok (.iload 4, 2) := by decide +kernel
theorem d9_47 : decode prog_75_method_2_code 47 = .ok (.iconst 1, 1) := by decide +kernel
theorem d9_48 : decode prog_75_method_2_code 48 = .ok (.iadd, 1) := by decide +kernel
theorem d9_49 : decode prog_75_method_2_code 49 = .ok (.iload_n 3, 1) := by decide +kernel
theorem d9_50 : decode prog_75_method_2_code 50 = .ok (.iand, 1) := by decide +kernel
theorem d9_51 : decode prog_75_method_2_code 51 = .ok (.istore 4, 2) := by decide +kernel
theorem d9_53 : decode prog_75_method_2_code 53 = .ok (.goto (-39), 3) := by decide +kernel
theorem d9_0 : decode prog_75_method_2_code 0 = .ok (.aload_n 0, 1) := by decide +kernel
theorem d9_1 : decode prog_75_method_2_code 1 = .ok (.getfield 17, 3) := by decide +kernel
theorem d9_4 : decode prog_75_method_2_code 4 = .ok (.arraylength, 1) := by decide +kernel
theorem d9_5 : decode prog_75_method_2_code 5 = .ok (.iconst 1, 1) := by decide +kernel
theorem d9_6 : decode prog_75_method_2_code 6 = .ok (.isub, 1) := by decide +kernel
theorem d9_7 : decode prog_75_method_2_code 7 = .ok (.istore_n 3, 1) := by decide +kernel
theorem d9_8 : decode prog_75_method_2_code 8 = .ok (.lload_n 1, 1) := by decide +kernel
theorem d9_9 : decode prog_75_method_2_code 9 = .ok (.l2i, 1) := by decide +kernel
theorem d9_10 : decode prog_75_method_2_code 10 = .ok (.iload_n 3, 1) := by decide +kernel
theorem d9_11 : decode prog_75_method_2_code 11 = .ok (.iand, 1) := by decide +kernel
theorem d9_12 : decode prog_75_method_2_code 12 = .ok (.istore 4, 2) := by decide +kernel
abbrev y0_get : MethodName := ⟨"com/example/wirefram/wirefram/sequence/PositionIndex", "get", "(J)I"⟩
theorem pn_com_example_wirefram_wirefram_sequence_PositionIndex : plainName "com/example/wirefram/wirefram/sequence/PositionIndex" = true := by first | (simp [plainName, overriddenIn]; done) | decide +kernel
theorem d7_16 : decode prog_75_method_5_code 16 = .ok (.aload_n 0, 1) := by decide +kernel
theorem d7_17 : decode prog_75_method_5_code 17 = .ok (.getfield 17, 3) := by decide +kernel
theorem d7_20 : decode prog_75_method_5_code 20 = .ok (.iload 5, 2) := by decide +kernel
theorem d7_22 : decode prog_75_method_5_code 22 = .ok (.iaload, 1) := by decide +kernel
theorem d7_23 : decode prog_75_method_5_code 23 = .ok (.iconst (-1), 1) := by decide +kernel
theorem d7_24 : decode prog_75_method_5_code 24 = .ok (.if_icmp .eq 15, 3) := by decide +kernel
theorem d7_39 : decode prog_75_method_5_code 39 = .ok (.aload_n 0, 1) := by decide +kernel
theorem d7_40 : decode prog_75_method_5_code 40 = .ok (.getfield 9, 3) := by decide +kernel
theorem d7_43 : decode prog_75_method_5_code 43 = .ok (.iload 5, 2) := by decide +kernel
theorem d7_45 : decode prog_75_method_5_code 45 = .ok (.lload_n 1, 1) := by decide +kernel
theorem d7_46 : decode prog_75_method_5_code 46 = .ok (.lastore, 1) := by decide +kernel
theorem d7_47 : decode prog_75_method_5_code 47 = .ok (.aload_n 0, 1) := by decide +kernel
theorem d7_48 : decode prog_75_method_5_code 48 = .ok (.getfield 17, 3) := by decide +kernel
theorem d7_51 : decode prog_75_method_5_code 51 = .ok (.iload 5, 2) := by decide +kernel
theorem d7_53 : decode prog_75_method_5_code 53 = .ok (.iload_n 3, 1) := by decide +kernel
theorem d7_54 : decode prog_75_method_5_code 54 = .ok (.iastore, 1) := by decide +kernel
theorem d7_55 : decode prog_75_method_5_code 55 = .ok (.aload_n 0, 1) := by decide +kernel
theorem d7_56 : decode prog_75_method_5_code 56 = .ok (.dup, 1) := by decide +kernel
theorem d7_57 : decode prog_75_method_5_code 57 = .ok (.getfield 21, 3) := by decide +kernel
theorem w32 {Z : State} {a0 : Array Value} (hw : ∀ d ∈ tables_1, d.before a0 Z = true) : (Jvm.Cond.fieldLink "com/example/wirefram/wirefram/sequence/PositionIndex" (21 : Nat) "com/example/wirefram/wirefram/sequence/PositionIndex" "size" "I").before a0 Z = true := hw _ (List.mem_of_getElem? (i := 32) rfl)
theorem d7_60 : decode prog_75_method_5_code 60 = .ok (.iconst 1, 1) := by decide +kernel
theorem d7_61 : decode prog_75_method_5_code 61 = .ok (.iadd, 1) := by decide +kernel
theorem d7_62 : decode prog_75_method_5_code 62 = .ok (.putfield 21, 3) := by decide +kernel
theorem w33 {Z : State} {a0 : Array Value} (hw : ∀ d ∈ tables_1, d.before a0 Z = true) : (Jvm.Cond.lays "com/example/wirefram/wirefram/sequence/PositionIndex" "com/example/wirefram/wirefram/sequence/PositionIndex" "size" "I").before a0 Z = true := hw _ (List.mem_of_getElem? (i := 33) rfl)
theorem w6 {Z : State} {a0 : Array Value} (hw : ∀ d ∈ tables_1, d.before a0 Z = true) : (Jvm.Cond.instantiable "com/example/wirefram/wirefram/sequence/PositionIndex" (3 : Nat)).before a0 Z = true := hw _ (List.mem_of_getElem? (i := 6) rfl)
theorem d7_65 : decode prog_75_method_5_code 65 = .ok (.return_, 1) := by decide +kernel
theorem w16 {Z : State} {a0 : Array Value} (hw : ∀ d ∈ tables_1, d.before a0 Z = true) : (Jvm.Cond.lays "com/example/wirefram/wirefram/sequence/PositionIndex" "com/example/wirefram/wirefram/sequence/PositionIndex" "positions" "[J").before a0 Z = true := hw _ (List.mem_of_getElem? (i := 16) rfl)
theorem sn_PositionIndex_positions_size {Z : State} {a0 : Array Value} (hw : ∀ d ∈ tables_1, d.before a0 Z = true) : Jvm.RoadKit.slotOf Z "com/example/wirefram/wirefram/sequence/PositionIndex" "positions" "[J" ≠ Jvm.RoadKit.slotOf Z "com/example/wirefram/wirefram/sequence/PositionIndex" "size" "I" := slot_ne (a0 := a0) (C := "com/example/wirefram/wirefram/sequence/PositionIndex") (Or.inl (w16 hw)) (Or.inl (w33 hw)) (by decide) (t := (.array .long)) (t' := .int) (by decide) (by decide)
theorem w26 {Z : State} {a0 : Array Value} (hw : ∀ d ∈ tables_1, d.before a0 Z = true) : (Jvm.Cond.lays "com/example/wirefram/wirefram/sequence/PositionIndex" "com/example/wirefram/wirefram/sequence/PositionIndex" "numbers" "[I").before a0 Z = true := hw _ (List.mem_of_getElem? (i := 26) rfl)
theorem sn_PositionIndex_numbers_size {Z : State} {a0 : Array Value} (hw : ∀ d ∈ tables_1, d.before a0 Z = true) : Jvm.RoadKit.slotOf Z "com/example/wirefram/wirefram/sequence/PositionIndex" "numbers" "[I" ≠ Jvm.RoadKit.slotOf Z "com/example/wirefram/wirefram/sequence/PositionIndex" "size" "I" := slot_ne (a0 := a0) (C := "com/example/wirefram/wirefram/sequence/PositionIndex") (Or.inl (w26 hw)) (Or.inl (w33 hw)) (by decide) (t := (.array .int)) (t' := .int) (by decide) (by decide)
theorem d7_27 : decode prog_75_method_5_code 27 = .ok (.iload 5, 2) := by decide +kernel
theorem d7_29 : decode prog_75_method_5_code 29 = .ok (.iconst 1, 1) := by decide +kernel
theorem d7_30 : decode prog_75_method_5_code 30 = .ok (.iadd, 1) := by decide +kernel
theorem d7_31 : decode prog_75_method_5_code 31 = .ok (.iload 4, 2) := by decide +kernel
theorem d7_33 : decode prog_75_method_5_code 33 = .ok (.iand, 1) := by decide +kernel
theorem d7_34 : decode prog_75_method_5_code 34 = .ok (.istore 5, 2) := by decide +kernel
theorem d7_36 : decode prog_75_method_5_code 36 = .ok (.goto (-20), 3) := by decide +kernel
theorem d7_0 : decode prog_75_method_5_code 0 = .ok (.aload_n 0, 1) := by decide +kernel
theorem d7_1 : decode prog_75_method_5_code 1 = .ok (.getfield 17, 3) := by decide +kernel
theorem d7_4 : decode prog_75_method_5_code 4 = .ok (.arraylength, 1) := by decide +kernel
theorem d7_5 : decode prog_75_method_5_code 5 = .ok (.iconst 1, 1) := by decide +kernel
theorem d7_6 : decode prog_75_method_5_code 6 = .ok (.isub, 1) := by decide +kernel
theorem d7_7 : decode prog_75_method_5_code 7 = .ok (.istore 4, 2) := by decide +kernel
theorem d7_9 : decode prog_75_method_5_code 9 = .ok (.lload_n 1, 1) := by decide +kernel
theorem d7_10 : decode prog_75_method_5_code 10 = .ok (.l2i, 1) := by decide +kernel
theorem d7_11 : decode prog_75_method_5_code 11 = .ok (.iload 4, 2) := by decide +kernel
theorem d7_13 : decode prog_75_method_5_code 13 = .ok (.iand, 1) := by decide +kernel
theorem d7_14 : decode prog_75_method_5_code 14 = .ok (.istore 5, 2) := by decide +kernel
abbrev y1_place : MethodName := ⟨"com/example/wirefram/wirefram/sequence/PositionIndex", "place", "(JI)V"⟩
theorem d6_0 : decode prog_75_method_3_code 0 = .ok (.iconst 2, 1) := by decide +kernel
theorem d6_1 : decode prog_75_method_3_code 1 = .ok (.aload_n 0, 1) := by decide +kernel
theorem d6_2 : decode prog_75_method_3_code 2 = .ok (.getfield 21, 3) := by decide +kernel
theorem d6_5 : decode prog_75_method_3_code 5 = .ok (.iconst 1, 1) := by decide +kernel
theorem d6_6 : decode prog_75_method_3_code 6 = .ok (.iadd, 1) := by decide +kernel
theorem d6_7 : decode prog_75_method_3_code 7 = .ok (.imul, 1) := by decide +kernel
theorem d6_8 : decode prog_75_method_3_code 8 = .ok (.aload_n 0, 1) := by decide +kernel
theorem d6_9 : decode prog_75_method_3_code 9 = .ok (.getfield 17, 3) := by decide +kernel
theorem d6_12 : decode prog_75_method_3_code 12 = .ok (.arraylength, 1) := by decide +kernel
theorem d6_13 : decode prog_75_method_3_code 13 = .ok (.if_icmp .le 7, 3) := by decide +kernel
theorem d6_20 : decode prog_75_method_3_code 20 = .ok (.aload_n 0, 1) := by decide +kernel
theorem d6_21 : decode prog_75_method_3_code 21 = .ok (.lload_n 1, 1) := by decide +kernel
theorem d6_22 : decode prog_75_method_3_code 22 = .ok (.iload_n 3, 1) := by decide +kernel
theorem d6_23 : decode prog_75_method_3_code 23 = .ok (.invokevirtual 28, 3) := by decide +kernel
theorem w34 {Z : State} {a0 : Array Value} (hw : ∀ d ∈ tables_1, d.before a0 Z = true) : (Jvm.Cond.methodLink "com/example/wirefram/wirefram/sequence/PositionIndex" (28 : Nat) ({ cls := "com/example/wirefram/wirefram/sequence/PositionIndex", name := "place", desc := "(JI)V" } : Jvm.MethodName)).before a0 Z = true := hw _ (List.mem_of_getElem? (i := 34) rfl)
theorem pd__JI_V : parseMethodDescriptor "(JI)V" = some ⟨[.long, .int], none⟩ := by decide +kernel
theorem w7 {Z : State} {a0 : Array Value} (hw : ∀ d ∈ tables_1, d.before a0 Z = true) : (Jvm.Cond.initialized "com/example/wirefram/wirefram/sequence/PositionIndex").before a0 Z = true := hw _ (List.mem_of_getElem? (i := 7) rfl)
theorem w37 {Z : State} {a0 : Array Value} (hw : ∀ d ∈ tables_1, d.before a0 Z = true) : (Jvm.Cond.code ({ cls := "com/example/wirefram/wirefram/sequence/PositionIndex", name := "place", desc := "(JI)V" } : Jvm.MethodName) prog_75_method_5_code (6 : Nat) (Option.none : Option Jvm.ClassFile.FieldType)).before a0 Z = true := hw _ (List.mem_of_getElem? (i := 37) rfl)
theorem w35 {Z : State} {a0 : Array Value} (hw : ∀ d ∈ tables_1, d.before a0 Z = true) : (Jvm.Cond.instanceMethod ({ cls := "com/example/wirefram/wirefram/sequence/PositionIndex", name := "place", desc := "(JI)V" } : Jvm.MethodName)).before a0 Z = true := hw _ (List.mem_of_getElem? (i := 35) rfl)
theorem w36 {Z : State} {a0 : Array Value} (hw : ∀ d ∈ tables_1, d.before a0 Z = true) : (Jvm.Cond.privateMethod ({ cls := "com/example/wirefram/wirefram/sequence/PositionIndex", name := "place", desc := "(JI)V" } : Jvm.MethodName)).before a0 Z = true := hw _ (List.mem_of_getElem? (i := 36) rfl)
theorem d6_26 : decode prog_75_method_3_code 26 = .ok (.return_, 1) := by decide +kernel
abbrev y2_put : MethodName := ⟨"com/example/wirefram/wirefram/sequence/PositionIndex", "put", "(JI)V"⟩
theorem d8_72 : decode prog_75_method_4_code 72 = .ok (.aload_n 0, 1) := by decide +kernel
theorem d8_73 : decode prog_75_method_4_code 73 = .ok (.getfield 17, 3) := by decide +kernel
theorem d8_76 : decode prog_75_method_4_code 76 = .ok (.iload 6, 2) := by decide +kernel
theorem d8_78 : decode prog_75_method_4_code 78 = .ok (.iaload, 1) := by decide +kernel
theorem d8_79 : decode prog_75_method_4_code 79 = .ok (.iconst (-1), 1) := by decide +kernel
theorem d8_80 : decode prog_75_method_4_code 80 = .ok (.if_icmp .eq 75, 3) := by decide +kernel
theorem d8_155 : decode prog_75_method_4_code 155 = .ok (.aload_n 0, 1) := by decide +kernel
theorem d8_156 : decode prog_75_method_4_code 156 = .ok (.getfield 17, 3) := by decide +kernel
theorem d8_159 : decode prog_75_method_4_code 159 = .ok (.iload 5, 2) := by decide +kernel
theorem d8_161 : decode prog_75_method_4_code 161 = .ok (.iconst (-1), 1) := by decide +kernel
theorem d8_162 : decode prog_75_method_4_code 162 = .ok (.iastore, 1) := by decide +kernel
theorem d8_163 : decode prog_75_method_4_code 163 = .ok (.aload_n 0, 1) := by decide +kernel
theorem d8_164 : decode prog_75_method_4_code 164 = .ok (.dup, 1) := by decide +kernel
theorem d8_165 : decode prog_75_method_4_code 165 = .ok (.getfield 21, 3) := by decide +kernel
theorem d8_168 : decode prog_75_method_4_code 168 = .ok (.iconst 1, 1) := by decide +kernel
theorem d8_169 : decode prog_75_method_4_code 169 = .ok (.isub, 1) := by decide +kernel
theorem d8_170 : decode prog_75_method_4_code 170 = .ok (.putfield 21, 3) := by decide +kernel
theorem d8_173 : decode prog_75_method_4_code 173 = .ok (.return_, 1) := by decide +kernel
theorem d8_83 : decode prog_75_method_4_code 83 = .ok (.aload_n 0, 1) := by decide +kernel
theorem d8_84 : decode prog_75_method_4_code 84 = .ok (.getfield 9, 3) := by decide +kernel
theorem d8_87 : decode prog_75_method_4_code 87 = .ok (.iload 6, 2) := by decide +kernel
theorem d8_89 : decode prog_75_method_4_code 89 = .ok (.laload, 1) := by decide +kernel
theorem d8_90 : decode prog_75_method_4_code 90 = .ok (.l2i, 1) := by decide +kernel
theorem d8_91 : decode prog_75_method_4_code 91 = .ok (.iload_n 3, 1) := by decide +kernel
theorem d8_92 : decode prog_75_method_4_code 92 = .ok (.iand, 1) := by decide +kernel
theorem d8_93 : decode prog_75_method_4_code 93 = .ok (.istore 7, 2) := by decide +kernel
theorem d8_95 : decode prog_75_method_4_code 95 = .ok (.iload 6, 2) := by decide +kernel
theorem d8_97 : decode prog_75_method_4_code 97 = .ok (.iload 7, 2) := by decide +kernel
theorem d8_99 : decode prog_75_method_4_code 99 = .ok (.isub, 1) := by decide +kernel
theorem d8_100 : decode prog_75_method_4_code 100 = .ok (.iload_n 3, 1) := by decide +kernel
theorem d8_101 : decode prog_75_method_4_code 101 = .ok (.iand, 1) := by decide +kernel
theorem d8_102 : decode prog_75_method_4_code 102 = .ok (.iload 6, 2) := by decide +kernel
theorem d8_104 : decode prog_75_method_4_code 104 = .ok (.iload 5, 2) := by decide +kernel
theorem d8_106 : decode prog_75_method_4_code 106 = .ok (.isub, 1) := by decide +kernel
theorem d8_107 : decode prog_75_method_4_code 107 = .ok (.iload_n 3, 1) := by decide +kernel
theorem d8_108 : decode prog_75_method_4_code 108 = .ok (.iand, 1) := by decide +kernel
theorem d8_109 : decode prog_75_method_4_code 109 = .ok (.if_icmp .lt 35, 3) := by decide +kernel
theorem d8_144 : decode prog_75_method_4_code 144 = .ok (.iload 6, 2) := by decide +kernel
theorem d8_146 : decode prog_75_method_4_code 146 = .ok (.iconst 1, 1) := by decide +kernel
theorem d8_147 : decode prog_75_method_4_code 147 = .ok (.iadd, 1) := by decide +kernel
theorem d8_148 : decode prog_75_method_4_code 148 = .ok (.iload_n 3, 1) := by decide +kernel
theorem d8_149 : decode prog_75_method_4_code 149 = .ok (.iand, 1) := by decide +kernel
theorem d8_150 : decode prog_75_method_4_code 150 = .ok (.istore 6, 2) := by decide +kernel
theorem d8_152 : decode prog_75_method_4_code 152 = .ok (.goto (-80), 3) := by decide +kernel
theorem d8_112 : decode prog_75_method_4_code 112 = .ok (.aload_n 0, 1) := by decide +kernel
theorem d8_113 : decode prog_75_method_4_code 113 = .ok (.getfield 9, 3) := by decide +kernel
theorem d8_116 : decode prog_75_method_4_code 116 = .ok (.iload 5, 2) := by decide +kernel
theorem d8_118 : decode prog_75_method_4_code 118 = .ok (.aload_n 0, 1) := by decide +kernel
theorem d8_119 : decode prog_75_method_4_code 119 = .ok (.getfield 9, 3) := by decide +kernel
theorem d8_122 : decode prog_75_method_4_code 122 = .ok (.iload 6, 2) := by decide +kernel
theorem d8_124 : decode prog_75_method_4_code 124 = .ok (.laload, 1) := by decide +kernel
theorem d8_125 : decode prog_75_method_4_code 125 = .ok (.lastore, 1) := by decide +kernel
theorem d8_126 : decode prog_75_method_4_code 126 = .ok (.aload_n 0, 1) := by decide +kernel
theorem d8_127 : decode prog_75_method_4_code 127 = .ok (.getfield 17, 3) := by decide +kernel
theorem d8_130 : decode prog_75_method_4_code 130 = .ok (.iload 5, 2) := by decide +kernel
theorem d8_132 : decode prog_75_method_4_code 132 = .ok (.aload_n 0, 1) := by decide +kernel
theorem d8_133 : decode prog_75_method_4_code 133 = .ok (.getfield 17, 3) := by decide +kernel
theorem d8_136 : decode prog_75_method_4_code 136 = .ok (.iload 6, 2) := by decide +kernel
theorem d8_138 : decode prog_75_method_4_code 138 = .ok (.iaload, 1) := by decide +kernel
theorem d8_139 : decode prog_75_method_4_code 139 = .ok (.iastore, 1) := by decide +kernel
theorem d8_140 : decode prog_75_method_4_code 140 = .ok (.iload 6, 2) := by decide +kernel
theorem d8_142 : decode prog_75_method_4_code 142 = .ok (.istore 5, 2) := by decide +kernel
theorem d8_14 : decode prog_75_method_4_code 14 = .ok (.aload_n 0, 1) := by decide +kernel
theorem d8_15 : decode prog_75_method_4_code 15 = .ok (.getfield 17, 3) := by decide +kernel
theorem d8_18 : decode prog_75_method_4_code 18 = .ok (.iload 4, 2) := by decide +kernel
theorem d8_20 : decode prog_75_method_4_code 20 = .ok (.iaload, 1) := by decide +kernel
theorem d8_21 : decode prog_75_method_4_code 21 = .ok (.iconst (-1), 1) := by decide +kernel
theorem d8_22 : decode prog_75_method_4_code 22 = .ok (.if_icmp .eq 26, 3) := by decide +kernel
theorem d8_48 : decode prog_75_method_4_code 48 = .ok (.aload_n 0, 1) := by decide +kernel
theorem d8_49 : decode prog_75_method_4_code 49 = .ok (.getfield 17, 3) := by decide +kernel
theorem d8_52 : decode prog_75_method_4_code 52 = .ok (.iload 4, 2) := by decide +kernel
theorem d8_54 : decode prog_75_method_4_code 54 = .ok (.iaload, 1) := by decide +kernel
theorem d8_55 : decode prog_75_method_4_code 55 = .ok (.iconst (-1), 1) := by decide +kernel
theorem d8_56 : decode prog_75_method_4_code 56 = .ok (.if_icmp .ne 4, 3) := by decide +kernel
theorem d8_59 : decode prog_75_method_4_code 59 = .ok (.return_, 1) := by decide +kernel
theorem d8_25 : decode prog_75_method_4_code 25 = .ok (.aload_n 0, 1) := by decide +kernel
theorem d8_26 : decode prog_75_method_4_code 26 = .ok (.getfield 9, 3) := by decide +kernel
theorem d8_29 : decode prog_75_method_4_code 29 = .ok (.iload 4, 2) := by decide +kernel
theorem d8_31 : decode prog_75_method_4_code 31 = .ok (.laload, 1) := by decide +kernel
theorem d8_32 : decode prog_75_method_4_code 32 = .ok (.lload_n 1, 1) := by decide +kernel
theorem d8_33 : decode prog_75_method_4_code 33 = .ok (.lcmp, 1) := by decide +kernel
theorem d8_34 : decode prog_75_method_4_code 34 = .ok (.ifCond .eq 14, 3) := by decide +kernel
theorem d8_60 : decode prog_75_method_4_code 60 = .ok (.iload 4, 2) := by decide +kernel
theorem d8_62 : decode prog_75_method_4_code 62 = .ok (.istore 5, 2) := by decide +kernel
theorem d8_64 : decode prog_75_method_4_code 64 = .ok (.iload 5, 2) := by decide +kernel
theorem d8_66 : decode prog_75_method_4_code 66 = .ok (.iconst 1, 1) := by decide +kernel
theorem d8_67 : decode prog_75_method_4_code 67 = .ok (.iadd, 1) := by decide +kernel
theorem d8_68 : decode prog_75_method_4_code 68 = .ok (.iload_n 3, 1) := by decide +kernel
theorem d8_69 : decode prog_75_method_4_code 69 = .ok (.iand, 1) := by decide +kernel
theorem d8_70 : decode prog_75_method_4_code 70 = .ok (.istore 6, 2) := by decide +kernel
theorem d8_37 : decode prog_75_method_4_code 37 = .ok (.iload 4, 2) := by decide +kernel
theorem d8_39 : decode prog_75_method_4_code 39 = .ok (.iconst 1, 1) := by decide +kernel
theorem d8_40 : decode prog_75_method_4_code 40 = .ok (.iadd, 1) := by decide +kernel
theorem d8_41 : decode prog_75_method_4_code 41 = .ok (.iload_n 3, 1) := by decide +kernel
theorem d8_42 : decode prog_75_method_4_code 42 = .ok (.iand, 1) := by decide +kernel
theorem d8_43 : decode prog_75_method_4_code 43 = .ok (.istore 4, 2) := by decide +kernel
theorem d8_45 : decode prog_75_method_4_code 45 = .ok (.goto (-31), 3) := by decide +kernel
theorem d8_0 : decode prog_75_method_4_code 0 = .ok (.aload_n 0, 1) := by decide +kernel
theorem d8_1 : decode prog_75_method_4_code 1 = .ok (.getfield 17, 3) := by decide +kernel
theorem d8_4 : decode prog_75_method_4_code 4 = .ok (.arraylength, 1) := by decide +kernel
theorem d8_5 : decode prog_75_method_4_code 5 = .ok (.iconst 1, 1) := by decide +kernel
theorem d8_6 : decode prog_75_method_4_code 6 = .ok (.isub, 1) := by decide +kernel
theorem d8_7 : decode prog_75_method_4_code 7 = .ok (.istore_n 3, 1) := by decide +kernel
theorem d8_8 : decode prog_75_method_4_code 8 = .ok (.lload_n 1, 1) := by decide +kernel
theorem d8_9 : decode prog_75_method_4_code 9 = .ok (.l2i, 1) := by decide +kernel
theorem d8_10 : decode prog_75_method_4_code 10 = .ok (.iload_n 3, 1) := by decide +kernel
theorem d8_11 : decode prog_75_method_4_code 11 = .ok (.iand, 1) := by decide +kernel
theorem d8_12 : decode prog_75_method_4_code 12 = .ok (.istore 4, 2) := by decide +kernel
abbrev y3_remove : MethodName := ⟨"com/example/wirefram/wirefram/sequence/PositionIndex", "remove", "(J)V"⟩
theorem d5_0 : decode jdk_65_method_103_code 0 = .ok (.iconst 0, 1) := by decide +kernel
theorem d5_1 : decode jdk_65_method_103_code 1 = .ok (.istore_n 2, 1) := by decide +kernel
theorem d5_2 : decode jdk_65_method_103_code 2 = .ok (.aload_n 0, 1) := by decide +kernel
theorem d5_3 : decode jdk_65_method_103_code 3 = .ok (.arraylength, 1) := by decide +kernel
theorem d5_4 : decode jdk_65_method_103_code 4 = .ok (.istore_n 3, 1) := by decide +kernel
theorem d5_5 : decode jdk_65_method_103_code 5 = .ok (.iload_n 2, 1) := by decide +kernel
theorem d5_6 : decode jdk_65_method_103_code 6 = .ok (.iload_n 3, 1) := by decide +kernel
theorem d5_7 : decode jdk_65_method_103_code 7 = .ok (.if_icmp .ge 13, 3) := by decide +kernel
theorem d5_10 : decode jdk_65_method_103_code 10 = .ok (.aload_n 0, 1) := by decide +kernel
theorem d5_11 : decode jdk_65_method_103_code 11 = .ok (.iload_n 2, 1) := by decide +kernel
theorem d5_12 : decode jdk_65_method_103_code 12 = .ok (.iload_n 1, 1) := by decide +kernel
theorem d5_13 : decode jdk_65_method_103_code 13 = .ok (.iastore, 1) := by decide +kernel
theorem d5_14 : decode jdk_65_method_103_code 14 = .ok (.iinc 2 1, 3) := by decide +kernel
theorem d5_17 : decode jdk_65_method_103_code 17 = .ok (.goto (-12), 3) := by decide +kernel
theorem d5_20 : decode jdk_65_method_103_code 20 = .ok (.return_, 1) := by decide +kernel
abbrev y4_fill : MethodName := ⟨"java/util/Arrays", "fill", "([II)V"⟩
theorem pn_java_util_Arrays : plainName "java/util/Arrays" = true := by first | (simp [plainName, overriddenIn]; done) | decide +kernel
abbrev c1_Arrays : String := "java/util/Arrays"
theorem d4_0 : decode prog_75_method_7_code 0 = .ok (.iload_n 0, 1) := by decide +kernel
theorem d4_1 : decode prog_75_method_7_code 1 = .ok (.newarray .int, 2) := by decide +kernel
theorem w20 {Z : State} {a0 : Array Value} (hw : ∀ d ∈ tables_1, d.before a0 Z = true) : (Jvm.Cond.arrayClass Jvm.ClassFile.FieldType.int).before a0 Z = true := hw _ (List.mem_of_getElem? (i := 20) rfl)
theorem d4_3 : decode prog_75_method_7_code 3 = .ok (.astore_n 1, 1) := by decide +kernel
theorem d4_4 : decode prog_75_method_7_code 4 = .ok (.aload_n 1, 1) := by decide +kernel
theorem d4_5 : decode prog_75_method_7_code 5 = .ok (.iconst (-1), 1) := by decide +kernel
theorem d4_6 : decode prog_75_method_7_code 6 = .ok (.invokestatic 32, 3) := by decide +kernel
theorem w21 {Z : State} {a0 : Array Value} (hw : ∀ d ∈ tables_1, d.before a0 Z = true) : (Jvm.Cond.methodLink "com/example/wirefram/wirefram/sequence/PositionIndex" (32 : Nat) ({ cls := "java/util/Arrays", name := "fill", desc := "([II)V" } : Jvm.MethodName)).before a0 Z = true := hw _ (List.mem_of_getElem? (i := 21) rfl)
theorem pd___II_V : parseMethodDescriptor "([II)V" = some ⟨[(.array .int), .int], none⟩ := by decide +kernel
theorem w23 {Z : State} {a0 : Array Value} (hw : ∀ d ∈ tables_1, d.before a0 Z = true) : (Jvm.Cond.initialized "java/util/Arrays").before a0 Z = true := hw _ (List.mem_of_getElem? (i := 23) rfl)
theorem w24 {Z : State} {a0 : Array Value} (hw : ∀ d ∈ tables_1, d.before a0 Z = true) : (Jvm.Cond.code ({ cls := "java/util/Arrays", name := "fill", desc := "([II)V" } : Jvm.MethodName) jdk_65_method_103_code (4 : Nat) (Option.none : Option Jvm.ClassFile.FieldType)).before a0 Z = true := hw _ (List.mem_of_getElem? (i := 24) rfl)
theorem w22 {Z : State} {a0 : Array Value} (hw : ∀ d ∈ tables_1, d.before a0 Z = true) : (Jvm.Cond.static ({ cls := "java/util/Arrays", name := "fill", desc := "([II)V" } : Jvm.MethodName)).before a0 Z = true := hw _ (List.mem_of_getElem? (i := 22) rfl)
theorem d4_9 : decode prog_75_method_7_code 9 = .ok (.aload_n 1, 1) := by decide +kernel
theorem d4_10 : decode prog_75_method_7_code 10 = .ok (.areturn, 1) := by decide +kernel
abbrev y5_filled : MethodName := ⟨"com/example/wirefram/wirefram/sequence/PositionIndex", "filled", "(I)[I"⟩
theorem d2_0 : decode prog_75_method_1_code 0 = .ok (.aload_n 0, 1) := by decide +kernel
theorem d2_1 : decode prog_75_method_1_code 1 = .ok (.invokespecial 1, 3) := by decide +kernel
theorem w11 {Z : State} {a0 : Array Value} (hw : ∀ d ∈ tables_1, d.before a0 Z = true) : (Jvm.Cond.methodLink "com/example/wirefram/wirefram/sequence/PositionIndex" (1 : Nat) ({ cls := "java/lang/Object", name := "<init>", desc := "()V" } : Jvm.MethodName)).before a0 Z = true := hw _ (List.mem_of_getElem? (i := 11) rfl)
theorem w12 {Z : State} {a0 : Array Value} (hw : ∀ d ∈ tables_1, d.before a0 Z = true) : (Jvm.Cond.instanceMethod ({ cls := "java/lang/Object", name := "<init>", desc := "()V" } : Jvm.MethodName)).before a0 Z = true := hw _ (List.mem_of_getElem? (i := 12) rfl)
theorem w13 {Z : State} {a0 : Array Value} (hw : ∀ d ∈ tables_1, d.before a0 Z = true) : (Jvm.Cond.code ({ cls := "java/lang/Object", name := "<init>", desc := "()V" } : Jvm.MethodName) object_method_1_code (1 : Nat) (Option.none : Option Jvm.ClassFile.FieldType)).before a0 Z = true := hw _ (List.mem_of_getElem? (i := 13) rfl)
theorem d2_4 : decode prog_75_method_1_code 4 = .ok (.aload_n 0, 1) := by decide +kernel
theorem d2_5 : decode prog_75_method_1_code 5 = .ok (.bipush 16, 2) := by decide +kernel
theorem d2_7 : decode prog_75_method_1_code 7 = .ok (.newarray .long, 2) := by decide +kernel
theorem w14 {Z : State} {a0 : Array Value} (hw : ∀ d ∈ tables_1, d.before a0 Z = true) : (Jvm.Cond.arrayClass Jvm.ClassFile.FieldType.long).before a0 Z = true := hw _ (List.mem_of_getElem? (i := 14) rfl)
theorem d2_9 : decode prog_75_method_1_code 9 = .ok (.putfield 9, 3) := by decide +kernel
theorem d2_12 : decode prog_75_method_1_code 12 = .ok (.aload_n 0, 1) := by decide +kernel
theorem d2_13 : decode prog_75_method_1_code 13 = .ok (.bipush 16, 2) := by decide +kernel
theorem d2_15 : decode prog_75_method_1_code 15 = .ok (.invokestatic 13, 3) := by decide +kernel
theorem w17 {Z : State} {a0 : Array Value} (hw : ∀ d ∈ tables_1, d.before a0 Z = true) : (Jvm.Cond.methodLink "com/example/wirefram/wirefram/sequence/PositionIndex" (13 : Nat) ({ cls := "com/example/wirefram/wirefram/sequence/PositionIndex", name := "filled", desc := "(I)[I" } : Jvm.MethodName)).before a0 Z = true := hw _ (List.mem_of_getElem? (i := 17) rfl)
theorem pd__I__I : parseMethodDescriptor "(I)[I" = some ⟨[.int], some (.array .int)⟩ := by decide +kernel
theorem w19 {Z : State} {a0 : Array Value} (hw : ∀ d ∈ tables_1, d.before a0 Z = true) : (Jvm.Cond.code ({ cls := "com/example/wirefram/wirefram/sequence/PositionIndex", name := "filled", desc := "(I)[I" } : Jvm.MethodName) prog_75_method_7_code (2 : Nat) (Option.some (Jvm.ClassFile.FieldType.array Jvm.ClassFile.FieldType.int))).before a0 Z = true := hw _ (List.mem_of_getElem? (i := 19) rfl)
theorem w18 {Z : State} {a0 : Array Value} (hw : ∀ d ∈ tables_1, d.before a0 Z = true) : (Jvm.Cond.static ({ cls := "com/example/wirefram/wirefram/sequence/PositionIndex", name := "filled", desc := "(I)[I" } : Jvm.MethodName)).before a0 Z = true := hw _ (List.mem_of_getElem? (i := 18) rfl)
theorem d2_18 : decode prog_75_method_1_code 18 = .ok (.putfield 17, 3) := by decide +kernel
theorem sn_PositionIndex_numbers_positions {Z : State} {a0 : Array Value} (hw : ∀ d ∈ tables_1, d.before a0 Z = true) : Jvm.RoadKit.slotOf Z "com/example/wirefram/wirefram/sequence/PositionIndex" "numbers" "[I" ≠ Jvm.RoadKit.slotOf Z "com/example/wirefram/wirefram/sequence/PositionIndex" "positions" "[J" := slot_ne (a0 := a0) (C := "com/example/wirefram/wirefram/sequence/PositionIndex") (Or.inl (w26 hw)) (Or.inl (w16 hw)) (by decide) (t := (.array .int)) (t' := (.array .long)) (by decide) (by decide)
theorem d2_21 : decode prog_75_method_1_code 21 = .ok (.return_, 1) := by decide +kernel
theorem sn_PositionIndex_positions_numbers {Z : State} {a0 : Array Value} (hw : ∀ d ∈ tables_1, d.before a0 Z = true) : Jvm.RoadKit.slotOf Z "com/example/wirefram/wirefram/sequence/PositionIndex" "positions" "[J" ≠ Jvm.RoadKit.slotOf Z "com/example/wirefram/wirefram/sequence/PositionIndex" "numbers" "[I" := slot_ne (a0 := a0) (C := "com/example/wirefram/wirefram/sequence/PositionIndex") (Or.inl (w16 hw)) (Or.inl (w26 hw)) (by decide) (t := (.array .long)) (t' := (.array .int)) (by decide) (by decide)
theorem sn_PositionIndex_size_positions {Z : State} {a0 : Array Value} (hw : ∀ d ∈ tables_1, d.before a0 Z = true) : Jvm.RoadKit.slotOf Z "com/example/wirefram/wirefram/sequence/PositionIndex" "size" "I" ≠ Jvm.RoadKit.slotOf Z "com/example/wirefram/wirefram/sequence/PositionIndex" "positions" "[J" := slot_ne (a0 := a0) (C := "com/example/wirefram/wirefram/sequence/PositionIndex") (Or.inl (w33 hw)) (Or.inl (w16 hw)) (by decide) (t := .int) (t' := (.array .long)) (by decide) (by decide)
theorem sn_PositionIndex_size_numbers {Z : State} {a0 : Array Value} (hw : ∀ d ∈ tables_1, d.before a0 Z = true) : Jvm.RoadKit.slotOf Z "com/example/wirefram/wirefram/sequence/PositionIndex" "size" "I" ≠ Jvm.RoadKit.slotOf Z "com/example/wirefram/wirefram/sequence/PositionIndex" "numbers" "[I" := slot_ne (a0 := a0) (C := "com/example/wirefram/wirefram/sequence/PositionIndex") (Or.inl (w33 hw)) (Or.inl (w26 hw)) (by decide) (t := .int) (t' := (.array .int)) (by decide) (by decide)
abbrev y6_init : MethodName := ⟨"com/example/wirefram/wirefram/sequence/PositionIndex", "<init>", "()V"⟩
theorem d1_0 : decode method_3_code 0 = .ok (.lload_n 0, 1) := by decide +kernel
theorem d1_1 : decode method_3_code 1 = .ok (.iload_n 2, 1) := by decide +kernel
theorem d1_2 : decode method_3_code 2 = .ok (.i2l, 1) := by decide +kernel
theorem d1_3 : decode method_3_code 3 = .ok (.ladd, 1) := by decide +kernel
theorem d1_4 : decode method_3_code 4 = .ok (.iconst 4, 1) := by decide +kernel
theorem d1_5 : decode method_3_code 5 = .ok (.lshl, 1) := by decide +kernel
theorem d1_6 : decode method_3_code 6 = .ok (.iload_n 3, 1) := by decide +kernel
theorem d1_7 : decode method_3_code 7 = .ok (.iconst 4, 1) := by decide +kernel
theorem d1_8 : decode method_3_code 8 = .ok (.iload_n 2, 1) := by decide +kernel
theorem d1_9 : decode method_3_code 9 = .ok (.imul, 1) := by decide +kernel
theorem d1_10 : decode method_3_code 10 = .ok (.iushr, 1) := by decide +kernel
theorem d1_11 : decode method_3_code 11 = .ok (.bipush 15, 2) := by decide +kernel
theorem d1_13 : decode method_3_code 13 = .ok (.iand, 1) := by decide +kernel
theorem d1_14 : decode method_3_code 14 = .ok (.i2l, 1) := by decide +kernel
theorem d1_15 : decode method_3_code 15 = .ok (.lor, 1) := by decide +kernel
theorem d1_16 : decode method_3_code 16 = .ok (.lreturn, 1) := by decide +kernel
abbrev y7_pos : MethodName := ⟨"com/example/wirefram/wirefram/sequence/PositionIndexRemovePinLaw", "pos", "(JII)J"⟩
theorem pn_com_example_wirefram_wirefram_sequence_PositionIndexRemovePinLaw : plainName "com/example/wirefram/wirefram/sequence/PositionIndexRemovePinLaw" = true := by first | (simp [plainName, overriddenIn]; done) | decide +kernel
abbrev c2_PositionIndexRemovePinLaw : String := "com/example/wirefram/wirefram/sequence/PositionIndexRemovePinLaw"
theorem d10_0 : decode method_4_code 0 = .ok (.iload_n 1, 1) := by decide +kernel
theorem d10_1 : decode method_4_code 1 = .ok (.iload_n 2, 1) := by decide +kernel
theorem d10_2 : decode method_4_code 2 = .ok (.if_icmp .ge 15, 3) := by decide +kernel
theorem d10_5 : decode method_4_code 5 = .ok (.iload_n 1, 1) := by decide +kernel
theorem d10_6 : decode method_4_code 6 = .ok (.iload_n 3, 1) := by decide +kernel
theorem d10_7 : decode method_4_code 7 = .ok (.if_icmp .eq 10, 3) := by decide +kernel
theorem d10_10 : decode method_4_code 10 = .ok (.iload 4, 2) := by decide +kernel
theorem d10_12 : decode method_4_code 12 = .ok (.iload_n 1, 1) := by decide +kernel
theorem d10_13 : decode method_4_code 13 = .ok (.iadd, 1) := by decide +kernel
theorem d10_14 : decode method_4_code 14 = .ok (.goto 4, 3) := by decide +kernel
theorem d10_18 : decode method_4_code 18 = .ok (.istore 5, 2) := by decide +kernel
theorem d10_20 : decode method_4_code 20 = .ok (.iload_n 0, 1) := by decide +kernel
theorem d10_21 : decode method_4_code 21 = .ok (.iload 5, 2) := by decide +kernel
theorem d10_23 : decode method_4_code 23 = .ok (.if_icmp .ne 7, 3) := by decide +kernel
theorem d10_26 : decode method_4_code 26 = .ok (.iconst 1, 1) := by decide +kernel
theorem d10_27 : decode method_4_code 27 = .ok (.goto 4, 3) := by decide +kernel
theorem d10_31 : decode method_4_code 31 = .ok (.ireturn, 1) := by decide +kernel
abbrev y8_check : MethodName := ⟨"com/example/wirefram/wirefram/sequence/PositionIndexRemovePinLaw", "check", "(IIIII)Z"⟩
theorem d10_17 : decode method_4_code 17 = .ok (.iconst (-1), 1) := by decide +kernel
theorem w0 {Z : State} {a0 : Array Value} (hw : ∀ d ∈ tables_1, d.before a0 Z = true) : (Jvm.Cond.methodLink "com/example/wirefram/wirefram/sequence/PositionIndexRemovePinLaw" (7 : Nat) ({ cls := "com/example/wirefram/wirefram/sequence/PositionIndexRemovePinLaw", name := "pos", desc := "(JII)J" } : Jvm.MethodName)).before a0 Z = true := hw _ (List.mem_of_getElem? (i := 0) rfl)
theorem pd__JII_J : parseMethodDescriptor "(JII)J" = some ⟨[.long, .int, .int], some .long⟩ := by decide +kernel
theorem w2 {Z : State} {a0 : Array Value} (hw : ∀ d ∈ tables_1, d.before a0 Z = true) : (Jvm.Cond.initialized "com/example/wirefram/wirefram/sequence/PositionIndexRemovePinLaw").before a0 Z = true := hw _ (List.mem_of_getElem? (i := 2) rfl)
theorem w3 {Z : State} {a0 : Array Value} (hw : ∀ d ∈ tables_1, d.before a0 Z = true) : (Jvm.Cond.code ({ cls := "com/example/wirefram/wirefram/sequence/PositionIndexRemovePinLaw", name := "pos", desc := "(JII)J" } : Jvm.MethodName) method_3_code (4 : Nat) (Option.some Jvm.ClassFile.FieldType.long)).before a0 Z = true := hw _ (List.mem_of_getElem? (i := 3) rfl)
theorem w1 {Z : State} {a0 : Array Value} (hw : ∀ d ∈ tables_1, d.before a0 Z = true) : (Jvm.Cond.static ({ cls := "com/example/wirefram/wirefram/sequence/PositionIndexRemovePinLaw", name := "pos", desc := "(JII)J" } : Jvm.MethodName)).before a0 Z = true := hw _ (List.mem_of_getElem? (i := 1) rfl)
theorem w4 {Z : State} {a0 : Array Value} (hw : ∀ d ∈ tables_1, d.before a0 Z = true) : (Jvm.Cond.constant "com/example/wirefram/wirefram/sequence/PositionIndexRemovePinLaw" (13 : Nat) (65535 : Int32)).before a0 Z = true := hw _ (List.mem_of_getElem? (i := 4) rfl)
theorem w5 {Z : State} {a0 : Array Value} (hw : ∀ d ∈ tables_1, d.before a0 Z = true) : (Jvm.Cond.classLink "com/example/wirefram/wirefram/sequence/PositionIndexRemovePinLaw" (14 : Nat) "com/example/wirefram/wirefram/sequence/PositionIndex").before a0 Z = true := hw _ (List.mem_of_getElem? (i := 5) rfl)
theorem w8 {Z : State} {a0 : Array Value} (hw : ∀ d ∈ tables_1, d.before a0 Z = true) : (Jvm.Cond.methodLink "com/example/wirefram/wirefram/sequence/PositionIndexRemovePinLaw" (16 : Nat) ({ cls := "com/example/wirefram/wirefram/sequence/PositionIndex", name := "<init>", desc := "()V" } : Jvm.MethodName)).before a0 Z = true := hw _ (List.mem_of_getElem? (i := 8) rfl)
theorem pd___V : parseMethodDescriptor "()V" = some ⟨[], none⟩ := by decide +kernel
theorem w10 {Z : State} {a0 : Array Value} (hw : ∀ d ∈ tables_1, d.before a0 Z = true) : (Jvm.Cond.code ({ cls := "com/example/wirefram/wirefram/sequence/PositionIndex", name := "<init>", desc := "()V" } : Jvm.MethodName) prog_75_method_1_code (1 : Nat) (Option.none : Option Jvm.ClassFile.FieldType)).before a0 Z = true := hw _ (List.mem_of_getElem? (i := 10) rfl)
theorem w9 {Z : State} {a0 : Array Value} (hw : ∀ d ∈ tables_1, d.before a0 Z = true) : (Jvm.Cond.instanceMethod ({ cls := "com/example/wirefram/wirefram/sequence/PositionIndex", name := "<init>", desc := "()V" } : Jvm.MethodName)).before a0 Z = true := hw _ (List.mem_of_getElem? (i := 9) rfl)
theorem w27 {Z : State} {a0 : Array Value} (hw : ∀ d ∈ tables_1, d.before a0 Z = true) : (Jvm.Cond.methodLink "com/example/wirefram/wirefram/sequence/PositionIndexRemovePinLaw" (17 : Nat) ({ cls := "com/example/wirefram/wirefram/sequence/PositionIndex", name := "put", desc := "(JI)V" } : Jvm.MethodName)).before a0 Z = true := hw _ (List.mem_of_getElem? (i := 27) rfl)
theorem w31 {Z : State} {a0 : Array Value} (hw : ∀ d ∈ tables_1, d.before a0 Z = true) : (Jvm.Cond.code ({ cls := "com/example/wirefram/wirefram/sequence/PositionIndex", name := "put", desc := "(JI)V" } : Jvm.MethodName) prog_75_method_3_code (4 : Nat) (Option.none : Option Jvm.ClassFile.FieldType)).before a0 Z = true := hw _ (List.mem_of_getElem? (i := 31) rfl)
theorem w30 {Z : State} {a0 : Array Value} (hw : ∀ d ∈ tables_1, d.before a0 Z = true) : (Jvm.Cond.selects "com/example/wirefram/wirefram/sequence/PositionIndex" ({ cls := "com/example/wirefram/wirefram/sequence/PositionIndex", name := "put", desc := "(JI)V" } : Jvm.MethodName) ({ cls := "com/example/wirefram/wirefram/sequence/PositionIndex", name := "put", desc := "(JI)V" } : Jvm.MethodName)).before a0 Z = true := hw _ (List.mem_of_getElem? (i := 30) rfl)
theorem w28 {Z : State} {a0 : Array Value} (hw : ∀ d ∈ tables_1, d.before a0 Z = true) : (Jvm.Cond.declares ({ cls := "com/example/wirefram/wirefram/sequence/PositionIndex", name := "put", desc := "(JI)V" } : Jvm.MethodName)).before a0 Z = true := hw _ (List.mem_of_getElem? (i := 28) rfl)
theorem w29 {Z : State} {a0 : Array Value} (hw : ∀ d ∈ tables_1, d.before a0 Z = true) : (Jvm.Cond.instanceMethod ({ cls := "com/example/wirefram/wirefram/sequence/PositionIndex", name := "put", desc := "(JI)V" } : Jvm.MethodName)).before a0 Z = true := hw _ (List.mem_of_getElem? (i := 29) rfl)
theorem w38 {Z : State} {a0 : Array Value} (hw : ∀ d ∈ tables_1, d.before a0 Z = true) : (Jvm.Cond.methodLink "com/example/wirefram/wirefram/sequence/PositionIndexRemovePinLaw" (21 : Nat) ({ cls := "com/example/wirefram/wirefram/sequence/PositionIndex", name := "remove", desc := "(J)V" } : Jvm.MethodName)).before a0 Z = true := hw _ (List.mem_of_getElem? (i := 38) rfl)
theorem pd__J_V : parseMethodDescriptor "(J)V" = some ⟨[.long], none⟩ := by decide +kernel
theorem w42 {Z : State} {a0 : Array Value} (hw : ∀ d ∈ tables_1, d.before a0 Z = true) : (Jvm.Cond.code ({ cls := "com/example/wirefram/wirefram/sequence/PositionIndex", name := "remove", desc := "(J)V" } : Jvm.MethodName) prog_75_method_4_code (8 : Nat) (Option.none : Option Jvm.ClassFile.FieldType)).before a0 Z = true := hw _ (List.mem_of_getElem? (i := 42) rfl)
theorem w41 {Z : State} {a0 : Array Value} (hw : ∀ d ∈ tables_1, d.before a0 Z = true) : (Jvm.Cond.selects "com/example/wirefram/wirefram/sequence/PositionIndex" ({ cls := "com/example/wirefram/wirefram/sequence/PositionIndex", name := "remove", desc := "(J)V" } : Jvm.MethodName) ({ cls := "com/example/wirefram/wirefram/sequence/PositionIndex", name := "remove", desc := "(J)V" } : Jvm.MethodName)).before a0 Z = true := hw _ (List.mem_of_getElem? (i := 41) rfl)
theorem w39 {Z : State} {a0 : Array Value} (hw : ∀ d ∈ tables_1, d.before a0 Z = true) : (Jvm.Cond.declares ({ cls := "com/example/wirefram/wirefram/sequence/PositionIndex", name := "remove", desc := "(J)V" } : Jvm.MethodName)).before a0 Z = true := hw _ (List.mem_of_getElem? (i := 39) rfl)
theorem w40 {Z : State} {a0 : Array Value} (hw : ∀ d ∈ tables_1, d.before a0 Z = true) : (Jvm.Cond.instanceMethod ({ cls := "com/example/wirefram/wirefram/sequence/PositionIndex", name := "remove", desc := "(J)V" } : Jvm.MethodName)).before a0 Z = true := hw _ (List.mem_of_getElem? (i := 40) rfl)
theorem w43 {Z : State} {a0 : Array Value} (hw : ∀ d ∈ tables_1, d.before a0 Z = true) : (Jvm.Cond.methodLink "com/example/wirefram/wirefram/sequence/PositionIndexRemovePinLaw" (25 : Nat) ({ cls := "com/example/wirefram/wirefram/sequence/PositionIndex", name := "get", desc := "(J)I" } : Jvm.MethodName)).before a0 Z = true := hw _ (List.mem_of_getElem? (i := 43) rfl)
theorem pd__J_I : parseMethodDescriptor "(J)I" = some ⟨[.long], some .int⟩ := by decide +kernel
theorem w47 {Z : State} {a0 : Array Value} (hw : ∀ d ∈ tables_1, d.before a0 Z = true) : (Jvm.Cond.code ({ cls := "com/example/wirefram/wirefram/sequence/PositionIndex", name := "get", desc := "(J)I" } : Jvm.MethodName) prog_75_method_2_code (5 : Nat) (Option.some Jvm.ClassFile.FieldType.int)).before a0 Z = true := hw _ (List.mem_of_getElem? (i := 47) rfl)
theorem w46 {Z : State} {a0 : Array Value} (hw : ∀ d ∈ tables_1, d.before a0 Z = true) : (Jvm.Cond.selects "com/example/wirefram/wirefram/sequence/PositionIndex" ({ cls := "com/example/wirefram/wirefram/sequence/PositionIndex", name := "get", desc := "(J)I" } : Jvm.MethodName) ({ cls := "com/example/wirefram/wirefram/sequence/PositionIndex", name := "get", desc := "(J)I" } : Jvm.MethodName)).before a0 Z = true := hw _ (List.mem_of_getElem? (i := 46) rfl)
theorem w44 {Z : State} {a0 : Array Value} (hw : ∀ d ∈ tables_1, d.before a0 Z = true) : (Jvm.Cond.declares ({ cls := "com/example/wirefram/wirefram/sequence/PositionIndex", name := "get", desc := "(J)I" } : Jvm.MethodName)).before a0 Z = true := hw _ (List.mem_of_getElem? (i := 44) rfl)
theorem w45 {Z : State} {a0 : Array Value} (hw : ∀ d ∈ tables_1, d.before a0 Z = true) : (Jvm.Cond.instanceMethod ({ cls := "com/example/wirefram/wirefram/sequence/PositionIndex", name := "get", desc := "(J)I" } : Jvm.MethodName)).before a0 Z = true := hw _ (List.mem_of_getElem? (i := 45) rfl)
theorem w48 {Z : State} {a0 : Array Value} (hw : ∀ d ∈ tables_1, d.before a0 Z = true) : (Jvm.Cond.methodLink "com/example/wirefram/wirefram/sequence/PositionIndexRemovePinLaw" (29 : Nat) ({ cls := "com/example/wirefram/wirefram/sequence/PositionIndexRemovePinLaw", name := "check", desc := "(IIIII)Z" } : Jvm.MethodName)).before a0 Z = true := hw _ (List.mem_of_getElem? (i := 48) rfl)
theorem pd__IIIII_Z : parseMethodDescriptor "(IIIII)Z" = some ⟨[.int, .int, .int, .int, .int], some .boolean⟩ := by decide +kernel
theorem w50 {Z : State} {a0 : Array Value} (hw : ∀ d ∈ tables_1, d.before a0 Z = true) : (Jvm.Cond.code ({ cls := "com/example/wirefram/wirefram/sequence/PositionIndexRemovePinLaw", name := "check", desc := "(IIIII)Z" } : Jvm.MethodName) method_4_code (6 : Nat) (Option.some Jvm.ClassFile.FieldType.boolean)).before a0 Z = true := hw _ (List.mem_of_getElem? (i := 50) rfl)
theorem w49 {Z : State} {a0 : Array Value} (hw : ∀ d ∈ tables_1, d.before a0 Z = true) : (Jvm.Cond.static ({ cls := "com/example/wirefram/wirefram/sequence/PositionIndexRemovePinLaw", name := "check", desc := "(IIIII)Z" } : Jvm.MethodName)).before a0 Z = true := hw _ (List.mem_of_getElem? (i := 49) rfl)
def upd {α : Type} (N : Nat → α) (j : Nat) (v : α) : Nat → α := fun i => if i = j then v else N i
def TN (N : Nat → Int32) : List Value := (List.range 16).map (fun j => Value.int (N j))
def TP (P : Nat → Int64) : List Value := (List.range 16).map (fun j => Value.long (P j))
theorem own_rset {α : Type} (f : α → Value) (N : Nat → α) (j : Nat) (v : α) : ((List.range 16).map (fun j => f (N j))).set j (f v) = (List.range 16).map (fun i => f (upd N j v i)) := by
  apply List.ext_getElem?
  intro i
  rw [List.getElem?_set]
  by_cases h : j = i
  · subst h
    by_cases hj : j < 16 <;> simp [upd, hj]
  · have h' : ¬ i = j := fun q => h q.symm
    by_cases hj : i < 16 <;> simp [upd, hj, h, h']
theorem own_tns (N : Nat → Int32) (j : Nat) (v : Int32) : (TN N).set j (.int v) = TN (upd N j v) := own_rset Value.int N j v
theorem own_tps (P : Nat → Int64) (j : Nat) (v : Int64) : (TP P).set j (.long v) = TP (upd P j v) := own_rset Value.long P j v
theorem own_tng (N : Nat → Int32) (j : Nat) (h : j < 16) : (TN N)[j]? = some (.int (N j)) := by simp [TN, h]
theorem own_tpg (P : Nat → Int64) (j : Nat) (h : j < 16) : (TP P)[j]? = some (.long (P j)) := by simp [TP, h]
theorem own_tnl (N : Nat → Int32) : (TN N).length = 16 := by simp [TN]
theorem own_tpl (P : Nat → Int64) : (TP P).length = 16 := by simp [TP]
def hm (q : Int64) : Nat := (q.toInt32 &&& (15 : Int32)).toInt.toNat
theorem own_hm (q : Int64) : (q.toInt32 &&& (15 : Int32)).toInt = (hm q : Int) ∧ hm q < 16 := by
  have e := c_mask q.toInt32 (15 : Int32) 4 (by decide) (by decide)
  unfold hm
  omega
theorem own_nxt (x : Int32) (j : Nat) (h : x.toInt = (j : Int)) (hj : j < 16) : ((x + (1 : Int32)) &&& (15 : Int32)).toInt = (((j + 1) % 16 : Nat) : Int) := by
  have e := c_mask (x + (1 : Int32)) (15 : Int32) 4 (by decide) (by decide)
  have e1 := c_iadd x 1
  have e2 : (1 : Int32).toInt = 1 := by decide
  have e3 := rng32 (x + 1)
  omega
theorem own_dst (x y : Int32) (i j : Nat) (h : x.toInt = (i : Int)) (h' : y.toInt = (j : Int)) (hi : i < 16) (hj : j < 16) : ((x - y) &&& (15 : Int32)).toInt = (((i + 16 - j) % 16 : Nat) : Int) := by
  have e := c_mask (x - y) (15 : Int32) 4 (by decide) (by decide)
  have e1 := c_isub x y
  have e3 := rng32 (x - y)
  omega
def Tab (P : Nat → Int64) (N : Nat → Int32) (M : Int64 → Int32) : Prop :=
  (∀ j, j < 16 → N j ≠ -1 → M (P j) = N j) ∧
  (∀ q, M q ≠ -1 → ∃ j, j < 16 ∧ P j = q ∧ N j = M q) ∧
  (∀ i j, i < 16 → j < 16 → N i ≠ -1 → N j ≠ -1 → P i = P j → i = j) ∧
  (∀ j, j < 16 → N j ≠ -1 → ∀ d, d < (j + 16 - hm (P j)) % 16 → N ((hm (P j) + d) % 16) ≠ -1)
def Free (N : Nat → Int32) (c : Nat) : Prop := ∃ L : List Nat, L.Nodup ∧ c ≤ L.length ∧ ∀ j ∈ L, j < 16 ∧ N j = -1
theorem Free.ex {N : Nat → Int32} {c : Nat} (H : Free N (c + 1)) : ∃ f, f < 16 ∧ N f = -1 := by
  obtain ⟨L, -, h, H⟩ := H
  match L, h with
  | a :: L, _ => exact ⟨a, H a (List.mem_cons_self ..)⟩
theorem Free.put {N : Nat → Int32} {c : Nat} (H : Free N (c + 1)) (j : Nat) (v : Int32) : Free (upd N j v) c := by
  obtain ⟨L, n, h, H⟩ := H
  refine ⟨L.erase j, n.erase j, ?_, ?_⟩
  · rw [List.length_erase]; split <;> omega
  · intro i hi
    have q := n.mem_erase_iff.mp hi
    obtain ⟨q1, q2⟩ := H i q.2
    exact ⟨q1, by simp [upd, q.1, q2]⟩
theorem own_free0 : Free (fun _ => (-1 : Int32)) 16 := ⟨List.range 16, List.nodup_range, by simp, fun j h => ⟨List.mem_range.mp h, rfl⟩⟩
def seen (P : Nat → Int64) (N : Nat → Int32) (q : Int64) (d : Nat) : Prop := ∀ e, e < d → N ((hm q + e) % 16) ≠ -1 ∧ P ((hm q + e) % 16) ≠ q
theorem own_seen0 (P : Nat → Int64) (N : Nat → Int32) (q : Int64) : seen P N q 0 := fun e h => absurd h (Nat.not_lt_zero e)
theorem own_seenS {P : Nat → Int64} {N : Nat → Int32} {q : Int64} {d : Nat} (H : seen P N q d) (h1 : N ((hm q + d) % 16) ≠ -1) (h2 : P ((hm q + d) % 16) ≠ q) : seen P N q (d + 1) := by
  intro e h
  by_cases h' : e = d
  · subst h'; exact ⟨h1, h2⟩
  · exact H e (by omega)
theorem own_absent {P : Nat → Int64} {N : Nat → Int32} {M : Int64 → Int32} {q : Int64} {d : Nat} (T : Tab P N M) (H : seen P N q d) (hd : d < 16) (h1 : N ((hm q + d) % 16) = -1) : M q = -1 := by
  apply Classical.byContradiction
  intro h
  obtain ⟨j, hj, e1, e2⟩ := T.2.1 q h
  have hq := (own_hm q).2
  have e3 : N j ≠ -1 := by rw [e2]; exact h
  have dd := T.2.2.2 j hj e3
  rw [e1] at dd
  by_cases h3 : (j + 16 - hm q) % 16 < d
  · have := (H _ h3).2
    rw [show (hm q + (j + 16 - hm q) % 16) % 16 = j by omega] at this
    exact this e1
  · by_cases h4 : (j + 16 - hm q) % 16 = d
    · rw [show (hm q + d) % 16 = j by omega] at h1
      exact e3 h1
    · exact dd d (by omega) h1
def ocp (N : Nat → Int32) (q : Int64) (d : Nat) : Prop := ∀ e, e < d → N ((hm q + e) % 16) ≠ -1
theorem own_ocp0 (N : Nat → Int32) (q : Int64) : ocp N q 0 := fun e h => absurd h (Nat.not_lt_zero e)
theorem own_ocpS {N : Nat → Int32} {q : Int64} {d : Nat} (H : ocp N q d) (h1 : N ((hm q + d) % 16) ≠ -1) : ocp N q (d + 1) := by
  intro e h
  by_cases h' : e = d
  · subst h'; exact h1
  · exact H e (by omega)
theorem own_place {P : Nat → Int64} {N : Nat → Int32} {M : Int64 → Int32} {q : Int64} {d : Nat} {v : Int32} (T : Tab P N M) (H : ocp N q d) (hd : d < 16) (h1 : N ((hm q + d) % 16) = -1) (hv : v ≠ -1) (hM : M q = -1) : Tab (upd P ((hm q + d) % 16) q) (upd N ((hm q + d) % 16) v) (fun r => if r = q then v else M r) := by
  obtain ⟨a, b, c, dd⟩ := T
  have hq := (own_hm q).2
  obtain ⟨s, hs⟩ : ∃ s, s = (hm q + d) % 16 := ⟨_, rfl⟩
  rw [← hs] at h1 ⊢
  have ne : ∀ j, j < 16 → N j ≠ -1 → P j ≠ q := fun j hj h q' => h (by rw [← a j hj h, q', hM])
  refine ⟨?_, ?_, ?_, ?_⟩
  · intro j hj h
    by_cases e : j = s
    · simp [upd, e]
    · simp only [upd, e, if_false] at h ⊢
      rw [if_neg (ne j hj h)]; exact a j hj h
  · intro r h
    by_cases e : r = q
    · exact ⟨s, by omega, by simp [upd, e], by simp [upd, e]⟩
    · simp only [e, if_false] at h ⊢
      obtain ⟨j, hj, e1, e2⟩ := b r h
      have e3 : j ≠ s := fun z => h (by rw [← e2, z, h1])
      exact ⟨j, hj, by simp [upd, e3, e1], by simp [upd, e3, e2]⟩
  · intro i j hi hj h h' z
    by_cases e : i = s <;> by_cases e' : j = s
    · rw [e, e']
    · simp only [upd, e, e', if_true, if_false] at h h' z
      exact absurd z.symm (ne j hj h')
    · simp only [upd, e, e', if_true, if_false] at h h' z
      exact absurd z (ne i hi h)
    · simp only [upd, e, e', if_false] at h h' z
      exact c i j hi hj h h' z
  · intro j hj h k hk
    by_cases e : j = s
    · simp only [upd, e, if_true] at hk ⊢
      split
      · exact hv
      · exact H k (by omega)
    · simp only [upd, e, if_false] at h hk ⊢
      split
      · exact hv
      · exact dd j hj h k hk
def Tab2 (P : Nat → Int64) (N : Nat → Int32) (M : Int64 → Int32) (g x : Nat) : Prop :=
  (∀ j, j < 16 → j ≠ g → N j ≠ -1 → M (P j) = N j) ∧
  (∀ q, M q ≠ -1 → ∃ j, j < 16 ∧ j ≠ g ∧ P j = q ∧ N j = M q) ∧
  (∀ i j, i < 16 → j < 16 → i ≠ g → j ≠ g → N i ≠ -1 → N j ≠ -1 → P i = P j → i = j) ∧
  (∀ j, j < 16 → j ≠ g → N j ≠ -1 → ∀ d, d < (j + 16 - hm (P j)) % 16 → N ((hm (P j) + d) % 16) ≠ -1 ∧ ((hm (P j) + d) % 16 = g → (x + 16 - g) % 16 ≤ (j + 16 - g) % 16)) ∧ N g ≠ -1
theorem own_t2 {P : Nat → Int64} {N : Nat → Int32} {M : Int64 → Int32} {q : Int64} {g : Nat} (T : Tab P N M) (hg : g < 16) (h1 : N g ≠ -1) (h2 : P g = q) : Tab2 P N (fun r => if r = q then -1 else M r) g ((g + 1) % 16) := by
  obtain ⟨a, b, c, dd⟩ := T
  have ne : ∀ j, j < 16 → j ≠ g → N j ≠ -1 → P j ≠ q := fun j hj h h' z => h (c j g hj hg h' h1 (by rw [z, h2]))
  refine ⟨?_, ?_, ?_, ?_, h1⟩
  · intro j hj h h'
    show (if P j = q then _ else _) = _
    rw [if_neg (ne j hj h h')]; exact a j hj h'
  · intro r h
    by_cases e : r = q
    · simp [e] at h
    · simp only [e, if_false] at h ⊢
      obtain ⟨j, hj, e1, e2⟩ := b r h
      exact ⟨j, hj, fun z => e (by rw [← e1, z, h2]), e1, e2⟩
  · intro i j hi hj _ _ h h' z
    exact c i j hi hj h h' z
  · intro j hj h h' d hd
    exact ⟨dd j hj h' d hd, fun _ => by omega⟩
theorem own_keep {P : Nat → Int64} {N : Nat → Int32} {M : Int64 → Int32} {g x : Nat} (T : Tab2 P N M g x) (hg : g < 16) (hx : x < 16) (h14 : (x + 16 - g) % 16 < 15) (hlt : (x + 16 - hm (P x)) % 16 < (x + 16 - g) % 16) : Tab2 P N M g ((x + 1) % 16) := by
  obtain ⟨a, b, c, dd, e⟩ := T
  refine ⟨a, b, c, ?_, e⟩
  intro j hj h h' d hd
  obtain ⟨q1, q2⟩ := dd j hj h h' d hd
  refine ⟨q1, fun z => ?_⟩
  have q3 := q2 z
  by_cases e' : j = x
  · subst e'
    have := (own_hm (P j)).2
    omega
  · omega
theorem own_move {P : Nat → Int64} {N : Nat → Int32} {M : Int64 → Int32} {g x : Nat} (T : Tab2 P N M g x) (hg : g < 16) (hx : x < 16) (hxg : x ≠ g) (hox : N x ≠ -1) (hlt : ¬ (x + 16 - hm (P x)) % 16 < (x + 16 - g) % 16) : Tab2 (upd P g (P x)) (upd N g (N x)) M x ((x + 1) % 16) := by
  obtain ⟨a, b, c, dd, e⟩ := T
  have hh := (own_hm (P x)).2
  refine ⟨?_, ?_, ?_, ?_, ?_⟩
  · intro j hj h h'
    by_cases e' : j = g
    · simp only [upd, e', if_true]; exact a x hx hxg hox
    · simp only [upd, e', if_false] at h' ⊢
      exact a j hj e' h'
  · intro r h
    obtain ⟨j, hj, e0, e1, e2⟩ := b r h
    by_cases e' : j = x
    · subst e'
      exact ⟨g, hg, Ne.symm hxg, by simp [upd, e1], by simp [upd, e2]⟩
    · exact ⟨j, hj, e', by simp [upd, e0, e1], by simp [upd, e0, e2]⟩
  · intro i j hi hj h h' z z' w
    by_cases e1 : i = g <;> by_cases e2 : j = g
    · rw [e1, e2]
    · simp only [upd, e1, e2, if_true, if_false] at z z' w
      exact absurd (c x j hx hj hxg e2 hox z' w).symm h'
    · simp only [upd, e1, e2, if_true, if_false] at z z' w
      exact absurd (c i x hi hx e1 hxg z hox w) h
    · simp only [upd, e1, e2, if_false] at z z' w
      exact c i j hi hj e1 e2 z z' w
  · intro j hj h h' d hd
    refine ⟨?_, fun _ => by omega⟩
    by_cases e1 : j = g
    · simp only [upd, e1, if_true] at hd ⊢
      split
      · exact hox
      · exact (dd x hx hxg hox d (by omega)).1
    · simp only [upd, e1, if_false] at h' hd ⊢
      split
      · exact hox
      · exact (dd j hj e1 h' d hd).1
  · simp only [upd, hxg, if_false]; exact hox
theorem own_done {P : Nat → Int64} {N : Nat → Int32} {M : Int64 → Int32} {g x : Nat} (T : Tab2 P N M g x) (hg : g < 16) (hx : x < 16) (hfx : N x = -1) : Tab P (upd N g (-1)) M := by
  obtain ⟨a, b, c, dd, e⟩ := T
  have hn : ∀ j, upd N g (-1) j ≠ -1 → j ≠ g ∧ N j ≠ -1 := by
    intro j h
    by_cases e1 : j = g
    · simp [upd, e1] at h
    · simp only [upd, e1, if_false] at h; exact ⟨e1, h⟩
  have hu : ∀ j, j ≠ g → upd N g (-1) j = N j := fun j h => by simp [upd, h]
  refine ⟨?_, ?_, ?_, ?_⟩
  · intro j hj h
    obtain ⟨h1, h2⟩ := hn j h
    rw [hu j h1]; exact a j hj h1 h2
  · intro r h
    obtain ⟨j, hj, e0, e1, e2⟩ := b r h
    exact ⟨j, hj, e1, by rw [hu j e0]; exact e2⟩
  · intro i j hi hj h h' z
    exact c i j hi hj (hn i h).1 (hn j h').1 (hn i h).2 (hn j h').2 z
  · intro j hj h d hd
    obtain ⟨h1, h2⟩ := hn j h
    obtain ⟨q1, q2⟩ := dd j hj h1 h2 d hd
    have hh := (own_hm (P j)).2
    have hne : (hm (P j) + d) % 16 ≠ g := by
      intro z
      have q3 := q2 z
      by_cases e1 : j = x
      · exact h2 (by rw [e1]; exact hfx)
      · have q4 := (dd j hj h1 h2 (d + (x + 16 - g) % 16) (by omega)).1
        rw [show (hm (P j) + (d + (x + 16 - g) % 16)) % 16 = x by omega] at q4
        exact q4 hfx
    rw [hu _ hne]; exact q1
theorem own_tab0 (P : Nat → Int64) : Tab P (fun _ => -1) (fun _ => -1) :=
  ⟨fun _ _ h => absurd rfl h, fun _ h => absurd rfl h, fun _ _ _ _ h => absurd rfl h, fun _ _ h => absurd rfl h⟩
theorem own_same {P : Nat → Int64} {N : Nat → Int32} {M : Int64 → Int32} {q : Int64} (T : Tab P N M) (h : M q = -1) : Tab P N (fun r => if r = q then -1 else M r) := by
  have e : (fun r => if r = q then -1 else M r) = M := by
    funext r
    by_cases z : r = q
    · simp [z, h]
    · simp [z]
  rw [e]; exact T
def posf (b : Int64) (i s : Int32) : Int64 := ((b + i.toInt64) <<< ((4 : Int32) &&& 63).toInt64) ||| ((ush s ((4 : Int32) * i)) &&& (15 : Int32)).toInt64
theorem own_posf (b : Int64) (i s : Int32) (k : Nat) (hi : i.toInt64.toBitVec = BitVec.ofNat 64 k) (hk : k < 16) : (posf b i s).toBitVec.toNat / 16 = (b.toBitVec.toNat + k) % 1152921504606846976 := by
  obtain ⟨n, hn⟩ : ∃ n, n = ((ush s ((4 : Int32) * i)) &&& (15 : Int32)).toInt64 := ⟨_, rfl⟩
  have h1 := c_mask (ush s ((4 : Int32) * i)) (15 : Int32) 4 (by decide) (by decide)
  have h2 := c_i2l ((ush s ((4 : Int32) * i)) &&& (15 : Int32))
  rw [← hn] at h2
  have h3 : n.toBitVec.toNat < 16 := by
    have t1 : n.toInt = n.toBitVec.toInt := rfl
    have b1 := n.toBitVec.isLt
    rw [BitVec.toInt_eq_toNat_cond] at t1
    split at t1 <;> omega
  have h4 : ((b + i.toInt64) <<< ((4 : Int32) &&& 63).toInt64).toBitVec = (b + i.toInt64).toBitVec <<< 4 := by
    show (b + i.toInt64).toBitVec <<< (((4 : Int32) &&& 0x3f).toInt64.toBitVec.smod 64) = _
    rw [BitVec.shiftLeft_eq', (sm64 4 4 (by decide)).1, smod64 4 (sm64 4 4 (by decide)).2]
  unfold posf
  rw [← hn, Int64.toBitVec_or, h4, BitVec.toNat_or, BitVec.toNat_shiftLeft, Int64.toBitVec_add, hi, BitVec.toNat_add, BitVec.toNat_ofNat, Nat.shiftLeft_eq]
  have h5 : ∀ u v : Nat, v < 16 → (u * 16 ||| v) / 16 = u := by
    intro u v hv
    rw [show u * 16 = u <<< 4 from by rw [Nat.shiftLeft_eq], show (16 : Nat) = 2 ^ 4 from rfl, ← Nat.shiftRight_eq_div_pow, Nat.shiftRight_or_distrib, Nat.shiftLeft_shiftRight, Nat.shiftRight_eq_div_pow, Nat.div_eq_of_lt hv, Nat.or_zero]
  rw [show (b.toBitVec.toNat + k % 2 ^ 64) % 2 ^ 64 * 2 ^ 4 % 2 ^ 64 = ((b.toBitVec.toNat + k) % 1152921504606846976) * 16 by omega]
  exact h5 _ _ h3
theorem own_pne (b : Int64) (i j s : Int32) (k k' : Nat) (hi : i.toInt64.toBitVec = BitVec.ofNat 64 k) (hj : j.toInt64.toBitVec = BitVec.ofNat 64 k') (hk : k < 16) (hk' : k' < 16) (h : k ≠ k') : ¬ posf b i s = posf b j s := by
  intro q
  have e : (posf b i s).toBitVec.toNat / 16 = (posf b j s).toBitVec.toNat / 16 := by rw [q]
  rw [own_posf b i s k hi hk, own_posf b j s k' hj hk'] at e
  omega
theorem own_absent' {P : Nat → Int64} {N : Nat → Int32} {M : Int64 → Int32} {q : Int64} {d j : Nat} (T : Tab P N M) (H : seen P N q d) (hd : d < 16) (hj : j = (hm q + d) % 16) (h1 : N j = -1) : M q = -1 := own_absent T H hd (by rw [← hj]; exact h1)
theorem own_seenS' {P : Nat → Int64} {N : Nat → Int32} {q : Int64} {d j : Nat} (H : seen P N q d) (hj : j = (hm q + d) % 16) (h1 : ¬ N j = -1) (h2 : ¬ P j = q) : seen P N q (d + 1) := own_seenS H (by rw [← hj]; exact h1) (by rw [← hj]; exact h2)
theorem own_ocpS' {N : Nat → Int32} {q : Int64} {d j : Nat} (H : ocp N q d) (hj : j = (hm q + d) % 16) (h1 : ¬ N j = -1) : ocp N q (d + 1) := own_ocpS H (by rw [← hj]; exact h1)
theorem own_place' {P : Nat → Int64} {N : Nat → Int32} {M : Int64 → Int32} {q : Int64} {d j : Nat} {v : Int32} (T : Tab P N M) (H : ocp N q d) (hd : d < 16) (hj : j = (hm q + d) % 16) (h1 : N j = -1) (hv : v ≠ -1) (hM : M q = -1) : Tab (upd P j q) (upd N j v) (fun r => if r = q then v else M r) := by
  subst hj; exact own_place T H hd h1 hv hM
theorem own_lt (x y : Int32) (i j : Nat) (h : x.toInt = (i : Int)) (h' : y.toInt = (j : Int)) : x < y ↔ i < j := by
  rw [Int32.lt_iff_toInt_lt, h, h']; omega
theorem own_cmp (x y w : Int32) (i j k : Nat) (h : x.toInt = (i : Int)) (h' : y.toInt = (j : Int)) (h'' : w.toInt = (k : Int)) (hi : i < 16) (hj : j < 16) (hk : k < 16) : ((x - y) &&& (15 : Int32)) < ((x - w) &&& (15 : Int32)) ↔ (i + 16 - j) % 16 < (i + 16 - k) % 16 :=
  own_lt _ _ _ _ (own_dst x y i j h h' hi hj) (own_dst x w i k h h'' hi hk)
def Ix (Z : State) (n0 : Nat) (h : Heap) (o a b : Addr) (z : Int32) (P : Nat → Int64) (N : Nat → Int32) : Prop :=
  Exa Z h o "com/example/wirefram/wirefram/sequence/PositionIndex" ∧ Fld Z h o "com/example/wirefram/wirefram/sequence/PositionIndex" "positions" "[J" (.ref a) ∧ Fld Z h o "com/example/wirefram/wirefram/sequence/PositionIndex" "numbers" "[I" (.ref b) ∧ Fld Z h o "com/example/wirefram/wirefram/sequence/PositionIndex" "size" "I" (.int z) ∧ AA Z h a .long (TP P) ∧ AA Z h b .int (TN N) ∧ o ≠ a ∧ o ≠ b ∧ a ≠ b ∧ n0 ≤ o ∧ n0 ≤ a ∧ n0 ≤ b
set_option maxRecDepth 65536 in
set_option maxHeartbeats 40000000 in
theorem l_get (l : Launch) (Z : State) (a0 : Array Value) (hw : ∀ d ∈ tables_1, d.before a0 Z = true) (n0 : Nat) (p : Program) (e : Env) (s : State) (m : MethodId) (args : Array Value) (below : List Frame) (meth : Method) (c : Code) (o a b : Addr) (z : Int32) (P : Nat → Int64) (N : Nat → Int32) (M : Int64 → Int32) (q : Int64) (HT : Tab P N M) (f : Nat) (hf16 : f < 16) (hf : N f = -1) :
    ∀ k d, d + k = (f + 16 - hm q) % 16 → ∀ (x : Int32) (j : Nat), x.toInt = (j : Int) → j = (hm q + d) % 16 → ∀ T h, Ix Z n0 h o a b z P N → seen P N q d → On l Z n0 c0_PositionIndex prog_75_method_2_code 5 (Option.some Jvm.ClassFile.FieldType.int) ({ frames := 0, cells := 0, slots := 0, locals := 0 } : Room) p e s m args below meth c T h 0 0 → Wp p e below s n0 ({ frames := 0, cells := 0, slots := 0, locals := 0 } : Room).cells ({ frames := 0, cells := 0, slots := 0, locals := 0 } : Room).slots (fun v h' => v = some (.int (M q)) ∧ h' = h) (T.setTop (mkF m 14 #[rv o, jv q, S2, iv 15, iv x] [])) := by
  intro k
  induction k with
  | zero =>
   intro d hd x j hx hj T h H Hs A
   have hq := (own_hm q).2
   obtain ⟨E, Fp, Fn, Fs, Va, Vb, noa, nob, nab, go, ga, gb⟩ := H
   have hz : N j = (-1 : Int32) := by rw [show j = f by omega]; exact hf
   refine s_aloadN (pc' := 15) A d9_14 rfl rfl rfl ?_
   refine s_getfield (pc' := 18) (host := "") A (Or.inl (w25 hw)) Via.refl Fn d9_15 rfl fun T A => ?_
   refine s_iload (pc' := 20) A d9_18 rfl rfl ?_
   refine s_iaload (pc' := 21) (i := j) (v := (.int (N j))) A Vb hx (own_tng N j (by omega)) d9_20 rfl ?_
   refine s_iconst (pc' := 22) (z := (-1 : Int32)) A d9_21 rfl (by decide) ?_
   refine s_icmpY (pc' := 56) A d9_22 (teq hz).1 (by decide) (by decide) ?_
   refine s_iconst (pc' := 57) (z := (-1 : Int32)) A d9_56 rfl (by decide) ?_
   exact r_int A rfl d9_57 (by decide) (by decide) (⟨by rw [own_absent' HT Hs (by omega) hj hz], rfl⟩)
  | succ k ih =>
   intro d hd x j hx hj T h H Hs A
   have hq := (own_hm q).2
   obtain ⟨E, Fp, Fn, Fs, Va, Vb, noa, nob, nab, go, ga, gb⟩ := H
   refine s_aloadN (pc' := 15) A d9_14 rfl rfl rfl ?_
   refine s_getfield (pc' := 18) (host := "") A (Or.inl (w25 hw)) Via.refl Fn d9_15 rfl fun T A => ?_
   refine s_iload (pc' := 20) A d9_18 rfl rfl ?_
   refine s_iaload (pc' := 21) (i := j) (v := (.int (N j))) A Vb hx (own_tng N j (by omega)) d9_20 rfl ?_
   refine s_iconst (pc' := 22) (z := (-1 : Int32)) A d9_21 rfl (by decide) ?_
   by_cases hc22_1 : (N j) = (-1 : Int32)
   ·
    refine s_icmpY (pc' := 56) A d9_22 (teq hc22_1).1 (by decide) (by decide) ?_
    refine s_iconst (pc' := 57) (z := (-1 : Int32)) A d9_56 rfl (by decide) ?_
    exact r_int A rfl d9_57 (by decide) (by decide) (⟨by rw [own_absent' HT Hs (by omega) hj hc22_1], rfl⟩)
   ·
    refine s_icmpN (pc' := 25) A d9_22 rfl (feq hc22_1).1 ?_
    refine s_aloadN (pc' := 26) A d9_25 rfl rfl rfl ?_
    refine s_getfield (pc' := 29) (host := "") A (Or.inl (w15 hw)) Via.refl Fp d9_26 rfl fun T A => ?_
    refine s_iload (pc' := 31) A d9_29 rfl rfl ?_
    refine s_laload (pc' := 32) (i := j) (v := (.long (P j))) A Va hx (own_tpg P j (by omega)) d9_31 rfl ?_
    refine s_lloadN (pc' := 33) A d9_32 rfl rfl ?_
    refine s_lcmp (pc' := 34) A d9_33 rfl ?_
    by_cases hc34_1 : (P j) = q
    ·
     refine s_ifN (pc' := 37) A d9_34 rfl ((if0 _ _).trans (teq ((lw_eq (P j) q).2 hc34_1)).2) ?_
     refine s_aloadN (pc' := 38) A d9_37 rfl rfl rfl ?_
     refine s_getfield (pc' := 41) (host := "") A (Or.inl (w25 hw)) Via.refl Fn d9_38 rfl fun T A => ?_
     refine s_iload (pc' := 43) A d9_41 rfl rfl ?_
     refine s_iaload (pc' := 44) (i := j) (v := (.int (N j))) A Vb hx (own_tng N j (by omega)) d9_43 rfl ?_
     exact r_int A rfl d9_44 (by decide) (by decide) (⟨by rw [← hc34_1, HT.1 j (by omega) hc22_1], rfl⟩)
    ·
     refine s_ifY (pc' := 45) A d9_34 ((if0 _ _).trans (feq (fun qz => hc34_1 ((lw_eq (P j) q).1 qz))).2) (by decide) (by decide) ?_
     refine s_iload (pc' := 47) A d9_45 rfl rfl ?_
     refine s_iconst (pc' := 48) (z := (1 : Int32)) A d9_47 rfl (by decide) ?_
     refine s_iadd (pc' := 49) (z := (x + (1 : Int32))) A d9_48 rfl rfl ?_
     refine s_iloadN (pc' := 50) A d9_49 rfl rfl ?_
     refine s_iand (pc' := 51) (z := ((x + (1 : Int32)) &&& (15 : Int32))) A d9_50 rfl rfl ?_
     refine s_istore (pc' := 53) (Ls' := #[rv o, jv q, S2, iv 15, iv ((x + (1 : Int32)) &&& (15 : Int32))]) A d9_51 rfl rfl ?_
     refine s_goto (pc' := 14) A d9_53 (by decide) (by decide) ?_
     exact ih (d + 1) (by omega) _ _ (own_nxt x j hx (by omega)) (by omega) T h ⟨E, Fp, Fn, Fs, Va, Vb, noa, nob, nab, go, ga, gb⟩ (own_seenS' Hs hj hc22_1 hc34_1) A
set_option maxRecDepth 65536 in
set_option maxHeartbeats 40000000 in
theorem m_get (l : Launch) (Z : State) (a0 : Array Value) (hw : ∀ d ∈ tables_1, d.before a0 Z = true) (n0 : Nat) (h0 : Heap) (Z0 : n0 ≤ h0.size) (o a b : Addr) (z : Int32) (P : Nat → Int64) (N : Nat → Int32) (M : Int64 → Int32) (q : Int64) (H : Ix Z n0 h0 o a b z P N) (HT : Tab P N M) (f : Nat) (hf16 : f < 16) (hf : N f = -1) :
    Met l Z n0 y0_get prog_75_method_2_code 5 (Option.some Jvm.ClassFile.FieldType.int) ({ frames := 0, cells := 0, slots := 0, locals := 0 } : Room) #[(.ref o), (.long q)] h0 (fun v h => v = some (.int (M q)) ∧ h = h0) := by
  refine met_intro (own := c0_PositionIndex) (plainFor_of_name pn_com_example_wirefram_wirefram_sequence_PositionIndex) rfl Z0 ?_
  intro p e s m below meth c T A hnm
  refine Wp.cast (g' := mkF m 0 #[rv o, jv q, S2, U0, U0] []) (by first | (simp [entryFrame, mkF, argsToLocals, Value.category, maxLocals, jv, S2, U0, iv, rv]; done) | rfl) ?_
  obtain ⟨E, Fp, Fn, Fs, Va, Vb, noa, nob, nab, go, ga, gb⟩ := H
  refine s_aloadN (pc' := 1) A d9_0 rfl rfl rfl ?_
  refine s_getfield (pc' := 4) (host := "") A (Or.inl (w25 hw)) Via.refl Fn d9_1 rfl fun T A => ?_
  refine s_arraylength (pc' := 5) (z := (16 : Int32)) A Vb (by rw [own_tnl]; decide) d9_4 rfl ?_
  refine s_iconst (pc' := 6) (z := (1 : Int32)) A d9_5 rfl (by decide) ?_
  refine s_isub (pc' := 7) (z := (15 : Int32)) A d9_6 rfl (by decide) ?_
  refine s_istoreN (pc' := 8) (Ls' := #[rv o, jv q, S2, iv 15, U0]) A d9_7 rfl rfl ?_
  refine s_lloadN (pc' := 9) A d9_8 rfl rfl ?_
  refine s_l2i (pc' := 10) (z := (q).toInt32) A d9_9 rfl rfl ?_
  refine s_iloadN (pc' := 11) A d9_10 rfl rfl ?_
  refine s_iand (pc' := 12) (z := ((q).toInt32 &&& (15 : Int32))) A d9_11 rfl rfl ?_
  refine s_istore (pc' := 14) (Ls' := #[rv o, jv q, S2, iv 15, iv ((q).toInt32 &&& (15 : Int32))]) A d9_12 rfl rfl ?_
  exact l_get l Z a0 hw n0 p e s m _ below meth c o a b z P N M q HT f hf16 hf _ 0 (Nat.zero_add _) _ _ (own_hm q).1 (by have := (own_hm q).2; omega) T h0 ⟨E, Fp, Fn, Fs, Va, Vb, noa, nob, nab, go, ga, gb⟩ (own_seen0 P N q) A
set_option maxRecDepth 65536 in
set_option maxHeartbeats 40000000 in
theorem l_place (l : Launch) (Z : State) (a0 : Array Value) (hw : ∀ d ∈ tables_1, d.before a0 Z = true) (n0 : Nat) (p : Program) (e : Env) (s : State) (m : MethodId) (args : Array Value) (below : List Frame) (meth : Method) (c : Code) (o a b : Addr) (z : Int32) (P : Nat → Int64) (N : Nat → Int32) (M : Int64 → Int32) (q : Int64) (v z' : Int32) (HT : Tab P N M) (f : Nat) (hf16 : f < 16) (hf : N f = -1) (hv : v ≠ -1) (hM : M q = -1) (hz' : z + 1 = z') :
    ∀ k d, d + k = (f + 16 - hm q) % 16 → ∀ (x : Int32) (j : Nat), x.toInt = (j : Int) → j = (hm q + d) % 16 → ∀ T h, Ix Z n0 h o a b z P N → ocp N q d → On l Z n0 c0_PositionIndex prog_75_method_5_code 6 (Option.none : Option Jvm.ClassFile.FieldType) ({ frames := 0, cells := 0, slots := 0, locals := 0 } : Room) p e s m args below meth c T h 0 0 → Wp p e below s n0 ({ frames := 0, cells := 0, slots := 0, locals := 0 } : Room).cells ({ frames := 0, cells := 0, slots := 0, locals := 0 } : Room).slots (fun v' h' => v' = none ∧ ∃ P' N', Ix Z n0 h' o a b z' P' N' ∧ Tab P' N' (fun r => if r = q then v else M r) ∧ ∀ t, Free N (t + 1) → Free N' t) (T.setTop (mkF m 16 #[rv o, jv q, S2, iv v, iv 15, iv x] [])) := by
  intro k
  induction k with
  | zero =>
   intro d hd x j hx hj T h H Ho A
   have hq := (own_hm q).2
   obtain ⟨E, Fp, Fn, Fs, Va, Vb, noa, nob, nab, go, ga, gb⟩ := H
   have hz : N j = (-1 : Int32) := by rw [show j = f by omega]; exact hf
   refine s_aloadN (pc' := 17) A d7_16 rfl rfl rfl ?_
   refine s_getfield (pc' := 20) (host := "") A (Or.inl (w25 hw)) Via.refl Fn d7_17 rfl fun T A => ?_
   refine s_iload (pc' := 22) A d7_20 rfl rfl ?_
   refine s_iaload (pc' := 23) (i := j) (v := (.int (N j))) A Vb hx (own_tng N j (by omega)) d7_22 rfl ?_
   refine s_iconst (pc' := 24) (z := (-1 : Int32)) A d7_23 rfl (by decide) ?_
   refine s_icmpY (pc' := 39) A d7_24 (teq hz).1 (by decide) (by decide) ?_
   refine s_aloadN (pc' := 40) A d7_39 rfl rfl rfl ?_
   refine s_getfield (pc' := 43) (host := "") A (Or.inl (w15 hw)) Via.refl Fp d7_40 rfl fun T A => ?_
   refine s_iload (pc' := 45) A d7_43 rfl rfl ?_
   refine s_lloadN (pc' := 46) A d7_45 rfl rfl ?_
   refine s_lastore (pc' := 47) (i := j) A Va hx (by rw [own_tpl]; omega) ga d7_46 rfl fun T h1 A W2 V3 => ?_
   have V3 : AA Z h1 a .long (TP (upd P j q)) := (AA.cast V3 (own_tps P j q))
   refine s_aloadN (pc' := 48) A d7_47 rfl rfl rfl ?_
   have F4 := (Fn.other W2 (Or.inl noa))
   refine s_getfield (pc' := 51) (host := "") A (Or.inl (w25 hw)) Via.refl F4 d7_48 rfl fun T A => ?_
   refine s_iload (pc' := 53) A d7_51 rfl rfl ?_
   refine s_iloadN (pc' := 54) A d7_53 rfl rfl ?_
   have V5 := (Vb.other W2 (Ne.symm nab))
   refine s_iastore (pc' := 55) (i := j) A V5 hx (by rw [own_tnl]; omega) gb d7_54 rfl fun T h6 A W7 V8 => ?_
   have V8 : AA Z h6 b .int (TN (upd N j v)) := (AA.cast V8 (own_tns N j v))
   refine s_aloadN (pc' := 56) A d7_55 rfl rfl rfl ?_
   refine s_dup (pc' := 57) A d7_56 rfl rfl ?_
   have F9 := ((Fs.other W2 (Or.inl noa)).other W7 (Or.inl nob))
   refine s_getfield (pc' := 60) (host := "") A (Or.inl (w32 hw)) Via.refl F9 d7_57 rfl fun T A => ?_
   refine s_iconst (pc' := 61) (z := (1 : Int32)) A d7_60 rfl (by decide) ?_
   refine s_iadd (pc' := 62) (z := z') A d7_61 rfl hz' ?_
   have E10 := ((E.wr W2).wr W7)
   refine s_putfield (pc' := 65) (host := "") A (Or.inl (w32 hw)) Via.refl F9 E10 (Or.inl (w33 hw)) (w6 hw) (ty := .int) (by decide) rfl rfl go d7_62 rfl fun T h11 A W12 => ?_
   have F13 := F9.same W12
   have E14 := (E10.wr W12)
   have F15 := (((Fp.other W2 (Or.inl noa)).other W7 (Or.inl nob)).other W12 (Or.inr (sn_PositionIndex_positions_size hw)))
   have F16 := ((F4.other W7 (Or.inl nob)).other W12 (Or.inr (sn_PositionIndex_numbers_size hw)))
   have V17 := ((V3.other W7 nab).other W12 (Ne.symm noa))
   have V18 := (V8.other W12 (Ne.symm nob))
   exact r_void A rfl d7_65 (by decide) (by decide) (⟨rfl, upd P j q, upd N j v, ⟨E14, F15, F16, F13, V17, V18, noa, nob, nab, go, ga, gb⟩, own_place' HT Ho (by omega) hj hz hv hM, fun _ hc => hc.put j v⟩)
  | succ k ih =>
   intro d hd x j hx hj T h H Ho A
   have hq := (own_hm q).2
   obtain ⟨E, Fp, Fn, Fs, Va, Vb, noa, nob, nab, go, ga, gb⟩ := H
   refine s_aloadN (pc' := 17) A d7_16 rfl rfl rfl ?_
   refine s_getfield (pc' := 20) (host := "") A (Or.inl (w25 hw)) Via.refl Fn d7_17 rfl fun T A => ?_
   refine s_iload (pc' := 22) A d7_20 rfl rfl ?_
   refine s_iaload (pc' := 23) (i := j) (v := (.int (N j))) A Vb hx (own_tng N j (by omega)) d7_22 rfl ?_
   refine s_iconst (pc' := 24) (z := (-1 : Int32)) A d7_23 rfl (by decide) ?_
   by_cases hc24_1 : (N j) = (-1 : Int32)
   ·
    refine s_icmpY (pc' := 39) A d7_24 (teq hc24_1).1 (by decide) (by decide) ?_
    refine s_aloadN (pc' := 40) A d7_39 rfl rfl rfl ?_
    refine s_getfield (pc' := 43) (host := "") A (Or.inl (w15 hw)) Via.refl Fp d7_40 rfl fun T A => ?_
    refine s_iload (pc' := 45) A d7_43 rfl rfl ?_
    refine s_lloadN (pc' := 46) A d7_45 rfl rfl ?_
    refine s_lastore (pc' := 47) (i := j) A Va hx (by rw [own_tpl]; omega) ga d7_46 rfl fun T h19 A W20 V21 => ?_
    have V21 : AA Z h19 a .long (TP (upd P j q)) := (AA.cast V21 (own_tps P j q))
    refine s_aloadN (pc' := 48) A d7_47 rfl rfl rfl ?_
    have F22 := (Fn.other W20 (Or.inl noa))
    refine s_getfield (pc' := 51) (host := "") A (Or.inl (w25 hw)) Via.refl F22 d7_48 rfl fun T A => ?_
    refine s_iload (pc' := 53) A d7_51 rfl rfl ?_
    refine s_iloadN (pc' := 54) A d7_53 rfl rfl ?_
    have V23 := (Vb.other W20 (Ne.symm nab))
    refine s_iastore (pc' := 55) (i := j) A V23 hx (by rw [own_tnl]; omega) gb d7_54 rfl fun T h24 A W25 V26 => ?_
    have V26 : AA Z h24 b .int (TN (upd N j v)) := (AA.cast V26 (own_tns N j v))
    refine s_aloadN (pc' := 56) A d7_55 rfl rfl rfl ?_
    refine s_dup (pc' := 57) A d7_56 rfl rfl ?_
    have F27 := ((Fs.other W20 (Or.inl noa)).other W25 (Or.inl nob))
    refine s_getfield (pc' := 60) (host := "") A (Or.inl (w32 hw)) Via.refl F27 d7_57 rfl fun T A => ?_
    refine s_iconst (pc' := 61) (z := (1 : Int32)) A d7_60 rfl (by decide) ?_
    refine s_iadd (pc' := 62) (z := z') A d7_61 rfl hz' ?_
    have E28 := ((E.wr W20).wr W25)
    refine s_putfield (pc' := 65) (host := "") A (Or.inl (w32 hw)) Via.refl F27 E28 (Or.inl (w33 hw)) (w6 hw) (ty := .int) (by decide) rfl rfl go d7_62 rfl fun T h29 A W30 => ?_
    have F31 := F27.same W30
    have E32 := (E28.wr W30)
    have F33 := (((Fp.other W20 (Or.inl noa)).other W25 (Or.inl nob)).other W30 (Or.inr (sn_PositionIndex_positions_size hw)))
    have F34 := ((F22.other W25 (Or.inl nob)).other W30 (Or.inr (sn_PositionIndex_numbers_size hw)))
    have V35 := ((V21.other W25 nab).other W30 (Ne.symm noa))
    have V36 := (V26.other W30 (Ne.symm nob))
    exact r_void A rfl d7_65 (by decide) (by decide) (⟨rfl, upd P j q, upd N j v, ⟨E32, F33, F34, F31, V35, V36, noa, nob, nab, go, ga, gb⟩, own_place' HT Ho (by omega) hj hc24_1 hv hM, fun _ hc => hc.put j v⟩)
   ·
    refine s_icmpN (pc' := 27) A d7_24 rfl (feq hc24_1).1 ?_
    refine s_iload (pc' := 29) A d7_27 rfl rfl ?_
    refine s_iconst (pc' := 30) (z := (1 : Int32)) A d7_29 rfl (by decide) ?_
    refine s_iadd (pc' := 31) (z := (x + (1 : Int32))) A d7_30 rfl rfl ?_
    refine s_iload (pc' := 33) A d7_31 rfl rfl ?_
    refine s_iand (pc' := 34) (z := ((x + (1 : Int32)) &&& (15 : Int32))) A d7_33 rfl rfl ?_
    refine s_istore (pc' := 36) (Ls' := #[rv o, jv q, S2, iv v, iv 15, iv ((x + (1 : Int32)) &&& (15 : Int32))]) A d7_34 rfl rfl ?_
    refine s_goto (pc' := 16) A d7_36 (by decide) (by decide) ?_
    exact ih (d + 1) (by omega) _ _ (own_nxt x j hx (by omega)) (by omega) T h ⟨E, Fp, Fn, Fs, Va, Vb, noa, nob, nab, go, ga, gb⟩ (own_ocpS' Ho hj hc24_1) A
set_option maxRecDepth 65536 in
set_option maxHeartbeats 40000000 in
theorem m_place (l : Launch) (Z : State) (a0 : Array Value) (hw : ∀ d ∈ tables_1, d.before a0 Z = true) (n0 : Nat) (h0 : Heap) (Z0 : n0 ≤ h0.size) (o a b : Addr) (z : Int32) (P : Nat → Int64) (N : Nat → Int32) (M : Int64 → Int32) (H : Ix Z n0 h0 o a b z P N) (q : Int64) (v z' : Int32) (HT : Tab P N M) (f : Nat) (hf16 : f < 16) (hf : N f = -1) (hv : v ≠ -1) (hM : M q = -1) (hz' : z + 1 = z') :
    Met l Z n0 y1_place prog_75_method_5_code 6 (Option.none : Option Jvm.ClassFile.FieldType) ({ frames := 0, cells := 0, slots := 0, locals := 0 } : Room) #[(.ref o), (.long q), (.int v)] h0 (fun v' h' => v' = none ∧ ∃ P' N', Ix Z n0 h' o a b z' P' N' ∧ Tab P' N' (fun r => if r = q then v else M r) ∧ ∀ t, Free N (t + 1) → Free N' t) := by
  refine met_intro (own := c0_PositionIndex) (plainFor_of_name pn_com_example_wirefram_wirefram_sequence_PositionIndex) rfl Z0 ?_
  intro p e s m below meth c T A hnm
  refine Wp.cast (g' := mkF m 0 #[rv o, jv q, S2, iv v, U0, U0] []) (by first | (simp [entryFrame, mkF, argsToLocals, Value.category, maxLocals, jv, S2, U0, iv, rv]; done) | rfl) ?_
  obtain ⟨E, Fp, Fn, Fs, Va, Vb, noa, nob, nab, go, ga, gb⟩ := H
  refine s_aloadN (pc' := 1) A d7_0 rfl rfl rfl ?_
  refine s_getfield (pc' := 4) (host := "") A (Or.inl (w25 hw)) Via.refl Fn d7_1 rfl fun T A => ?_
  refine s_arraylength (pc' := 5) (z := (16 : Int32)) A Vb (by rw [own_tnl]; decide) d7_4 rfl ?_
  refine s_iconst (pc' := 6) (z := (1 : Int32)) A d7_5 rfl (by decide) ?_
  refine s_isub (pc' := 7) (z := (15 : Int32)) A d7_6 rfl (by decide) ?_
  refine s_istore (pc' := 9) (Ls' := #[rv o, jv q, S2, iv v, iv 15, U0]) A d7_7 rfl rfl ?_
  refine s_lloadN (pc' := 10) A d7_9 rfl rfl ?_
  refine s_l2i (pc' := 11) (z := (q).toInt32) A d7_10 rfl rfl ?_
  refine s_iload (pc' := 13) A d7_11 rfl rfl ?_
  refine s_iand (pc' := 14) (z := ((q).toInt32 &&& (15 : Int32))) A d7_13 rfl rfl ?_
  refine s_istore (pc' := 16) (Ls' := #[rv o, jv q, S2, iv v, iv 15, iv ((q).toInt32 &&& (15 : Int32))]) A d7_14 rfl rfl ?_
  exact l_place l Z a0 hw n0 p e s m _ below meth c o a b z P N M q v z' HT f hf16 hf hv hM hz' _ 0 (Nat.zero_add _) _ _ (own_hm q).1 (by have := (own_hm q).2; omega) T h0 ⟨E, Fp, Fn, Fs, Va, Vb, noa, nob, nab, go, ga, gb⟩ (own_ocp0 N q) A
set_option maxRecDepth 65536 in
set_option maxHeartbeats 40000000 in
theorem m_put (l : Launch) (Z : State) (a0 : Array Value) (hw : ∀ d ∈ tables_1, d.before a0 Z = true) (n0 : Nat) (h0 : Heap) (Z0 : n0 ≤ h0.size) (o a b : Addr) (z : Int32) (P : Nat → Int64) (N : Nat → Int32) (M : Int64 → Int32) (H : Ix Z n0 h0 o a b z P N) (q : Int64) (v z' : Int32) (HT : Tab P N M) (f : Nat) (hf16 : f < 16) (hf : N f = -1) (hv : v ≠ -1) (hM : M q = -1) (hz' : z + 1 = z') (hsz : ¬ (16 : Int32) < ((2 : Int32) * (z + (1 : Int32)))) :
    Met l Z n0 y2_put prog_75_method_3_code 4 (Option.none : Option Jvm.ClassFile.FieldType) ({ frames := 1, cells := 0, slots := 0, locals := 17 } : Room) #[(.ref o), (.long q), (.int v)] h0 (fun v' h' => v' = none ∧ ∃ P' N', Ix Z n0 h' o a b z' P' N' ∧ Tab P' N' (fun r => if r = q then v else M r) ∧ ∀ t, Free N (t + 1) → Free N' t) := by
  refine met_intro (own := c0_PositionIndex) (plainFor_of_name pn_com_example_wirefram_wirefram_sequence_PositionIndex) rfl Z0 ?_
  intro p e s m below meth c T A hnm
  refine Wp.cast (g' := mkF m 0 #[rv o, jv q, S2, iv v] []) (by first | (simp [entryFrame, mkF, argsToLocals, Value.category, maxLocals, jv, S2, U0, iv, rv]; done) | rfl) ?_
  obtain ⟨E, Fp, Fn, Fs, Va, Vb, noa, nob, nab, go, ga, gb⟩ := H
  refine s_iconst (pc' := 1) (z := (2 : Int32)) A d6_0 rfl (by decide) ?_
  refine s_aloadN (pc' := 2) A d6_1 rfl rfl rfl ?_
  refine s_getfield (pc' := 5) (host := "") A (Or.inl (w32 hw)) Via.refl Fs d6_2 rfl fun T A => ?_
  refine s_iconst (pc' := 6) (z := (1 : Int32)) A d6_5 rfl (by decide) ?_
  refine s_iadd (pc' := 7) (z := (z + (1 : Int32))) A d6_6 rfl rfl ?_
  refine s_imul (pc' := 8) (z := ((2 : Int32) * (z + (1 : Int32)))) A d6_7 rfl rfl ?_
  refine s_aloadN (pc' := 9) A d6_8 rfl rfl rfl ?_
  refine s_getfield (pc' := 12) (host := "") A (Or.inl (w25 hw)) Via.refl Fn d6_9 rfl fun T A => ?_
  refine s_arraylength (pc' := 13) (z := (16 : Int32)) A Vb (by rw [own_tnl]; decide) d6_12 rfl ?_
  refine s_icmpY (pc' := 20) A d6_13 (flt hsz).2.2.2 (by decide) (by decide) ?_
  refine s_aloadN (pc' := 21) A d6_20 rfl rfl rfl ?_
  refine s_lloadN (pc' := 22) A d6_21 rfl rfl ?_
  refine s_iloadN (pc' := 23) A d6_22 rfl rfl ?_
  refine s_private (pc' := 26) (y := y1_place) (argsL := [(.long q), (.int v)]) (rest := []) A E (m_place l Z a0 hw n0 h0 A.size o a b z P N M ⟨E, Fp, Fn, Fs, Va, Vb, noa, nob, nab, go, ga, gb⟩ q v z' HT f hf16 hf hv hM hz') (w34 hw) (w35 hw) (w6 hw) (w36 hw) (w7 hw) (w37 hw) (by decide) pd__JI_V rfl (W := 0) (by decide) (by decide) (Nat.le_of_eq rfl) (by decide) (by decide) rfl rfl d6_23 rfl fun T h1 v2 A Q3 => ?_
  obtain ⟨rfl, R⟩ := Q3
  refine Wp.stk (st' := []) rfl ?_
  exact r_void A rfl d6_26 (by decide) (by decide) (⟨rfl, R⟩)
set_option maxRecDepth 65536 in
set_option maxHeartbeats 40000000 in
theorem l_rem2 (l : Launch) (Z : State) (a0 : Array Value) (hw : ∀ d ∈ tables_1, d.before a0 Z = true) (n0 : Nat) (p : Program) (e : Env) (s : State) (m : MethodId) (args : Array Value) (below : List Frame) (meth : Method) (c : Code) (o a b : Addr) (z : Int32) (M : Int64 → Int32) (q : Int64) (x0 : Int32) (f : Nat) :
    ∀ (k : Nat) (P : Nat → Int64) (N : Nat → Int32) (g : Nat) (y : Int32) (u : Slot) (x : Int32) (j : Nat), y.toInt = (g : Int) → g < 16 → N f = -1 → f < 16 → x.toInt = (j : Int) → j < 16 → (j + 16 - g) % 16 + k = (f + 16 - g) % 16 → 1 ≤ (j + 16 - g) % 16 → Tab2 P N M g j → (u = U0 ∨ ∃ w, u = iv w) → ∀ T h, Ix Z n0 h o a b z P N → On l Z n0 c0_PositionIndex prog_75_method_4_code 8 (Option.none : Option Jvm.ClassFile.FieldType) ({ frames := 0, cells := 0, slots := 0, locals := 0 } : Room) p e s m args below meth c T h 0 0 → Wp p e below s n0 ({ frames := 0, cells := 0, slots := 0, locals := 0 } : Room).cells ({ frames := 0, cells := 0, slots := 0, locals := 0 } : Room).slots (fun v' h' => v' = none ∧ ∃ P' N' z', Ix Z n0 h' o a b z' P' N' ∧ Tab P' N' M ∧ ∃ f, f < 16 ∧ N' f = -1) (T.setTop (mkF m 72 #[rv o, jv q, S2, iv 15, iv x0, iv y, iv x, u] [])) := by
  intro k
  induction k with
  | zero =>
   intro P N g y u x j hg hg16 hf hf16 hx hj16 hkf h1 HT hu T h H A
   obtain ⟨E, Fp, Fn, Fs, Va, Vb, noa, nob, nab, go, ga, gb⟩ := H
   have hz : N j = (-1 : Int32) := by rw [show j = f by omega]; exact hf
   refine s_aloadN (pc' := 73) A d8_72 rfl rfl rfl ?_
   refine s_getfield (pc' := 76) (host := "") A (Or.inl (w25 hw)) Via.refl Fn d8_73 rfl fun T A => ?_
   refine s_iload (pc' := 78) A d8_76 rfl rfl ?_
   refine s_iaload (pc' := 79) (i := j) (v := (.int (N j))) A Vb hx (own_tng N j (by omega)) d8_78 rfl ?_
   refine s_iconst (pc' := 80) (z := (-1 : Int32)) A d8_79 rfl (by decide) ?_
   refine s_icmpY (pc' := 155) A d8_80 (teq hz).1 (by decide) (by decide) ?_
   refine s_aloadN (pc' := 156) A d8_155 rfl rfl rfl ?_
   refine s_getfield (pc' := 159) (host := "") A (Or.inl (w25 hw)) Via.refl Fn d8_156 rfl fun T A => ?_
   refine s_iload (pc' := 161) A d8_159 rfl rfl ?_
   refine s_iconst (pc' := 162) (z := (-1 : Int32)) A d8_161 rfl (by decide) ?_
   refine s_iastore (pc' := 163) (i := g) A Vb hg (by rw [own_tnl]; omega) gb d8_162 rfl fun T h1 A W2 V3 => ?_
   have V3 : AA Z h1 b .int (TN (upd N g (-1))) := (AA.cast V3 (own_tns N g (-1)))
   refine s_aloadN (pc' := 164) A d8_163 rfl rfl rfl ?_
   refine s_dup (pc' := 165) A d8_164 rfl rfl ?_
   have F4 := (Fs.other W2 (Or.inl nob))
   refine s_getfield (pc' := 168) (host := "") A (Or.inl (w32 hw)) Via.refl F4 d8_165 rfl fun T A => ?_
   refine s_iconst (pc' := 169) (z := (1 : Int32)) A d8_168 rfl (by decide) ?_
   refine s_isub (pc' := 170) (z := (z - (1 : Int32))) A d8_169 rfl rfl ?_
   have E5 := (E.wr W2)
   refine s_putfield (pc' := 173) (host := "") A (Or.inl (w32 hw)) Via.refl F4 E5 (Or.inl (w33 hw)) (w6 hw) (ty := .int) (by decide) rfl rfl go d8_170 rfl fun T h6 A W7 => ?_
   have F8 := F4.same W7
   have E9 := (E5.wr W7)
   have F10 := ((Fp.other W2 (Or.inl nob)).other W7 (Or.inr (sn_PositionIndex_positions_size hw)))
   have F11 := ((Fn.other W2 (Or.inl nob)).other W7 (Or.inr (sn_PositionIndex_numbers_size hw)))
   have V12 := ((Va.other W2 nab).other W7 (Ne.symm noa))
   have V13 := (V3.other W7 (Ne.symm nob))
   exact r_void A rfl d8_173 (by decide) (by decide) (⟨rfl, P, upd N g (-1), _, ⟨E9, F10, F11, F8, V12, V13, noa, nob, nab, go, ga, gb⟩, own_done HT hg16 hj16 hz, g, hg16, by simp [upd]⟩)
  | succ k ih =>
   intro P N g y u x j hg hg16 hf hf16 hx hj16 hkf h1 HT hu T h H A
   obtain ⟨E, Fp, Fn, Fs, Va, Vb, noa, nob, nab, go, ga, gb⟩ := H
   rcases hu with rfl | ⟨u0, rfl⟩
   ·
    refine s_aloadN (pc' := 73) A d8_72 rfl rfl rfl ?_
    refine s_getfield (pc' := 76) (host := "") A (Or.inl (w25 hw)) Via.refl Fn d8_73 rfl fun T A => ?_
    refine s_iload (pc' := 78) A d8_76 rfl rfl ?_
    refine s_iaload (pc' := 79) (i := j) (v := (.int (N j))) A Vb hx (own_tng N j (by omega)) d8_78 rfl ?_
    refine s_iconst (pc' := 80) (z := (-1 : Int32)) A d8_79 rfl (by decide) ?_
    by_cases hc80_1 : (N j) = (-1 : Int32)
    ·
     refine s_icmpY (pc' := 155) A d8_80 (teq hc80_1).1 (by decide) (by decide) ?_
     refine s_aloadN (pc' := 156) A d8_155 rfl rfl rfl ?_
     refine s_getfield (pc' := 159) (host := "") A (Or.inl (w25 hw)) Via.refl Fn d8_156 rfl fun T A => ?_
     refine s_iload (pc' := 161) A d8_159 rfl rfl ?_
     refine s_iconst (pc' := 162) (z := (-1 : Int32)) A d8_161 rfl (by decide) ?_
     refine s_iastore (pc' := 163) (i := g) A Vb hg (by rw [own_tnl]; omega) gb d8_162 rfl fun T h14 A W15 V16 => ?_
     have V16 : AA Z h14 b .int (TN (upd N g (-1))) := (AA.cast V16 (own_tns N g (-1)))
     refine s_aloadN (pc' := 164) A d8_163 rfl rfl rfl ?_
     refine s_dup (pc' := 165) A d8_164 rfl rfl ?_
     have F17 := (Fs.other W15 (Or.inl nob))
     refine s_getfield (pc' := 168) (host := "") A (Or.inl (w32 hw)) Via.refl F17 d8_165 rfl fun T A => ?_
     refine s_iconst (pc' := 169) (z := (1 : Int32)) A d8_168 rfl (by decide) ?_
     refine s_isub (pc' := 170) (z := (z - (1 : Int32))) A d8_169 rfl rfl ?_
     have E18 := (E.wr W15)
     refine s_putfield (pc' := 173) (host := "") A (Or.inl (w32 hw)) Via.refl F17 E18 (Or.inl (w33 hw)) (w6 hw) (ty := .int) (by decide) rfl rfl go d8_170 rfl fun T h19 A W20 => ?_
     have F21 := F17.same W20
     have E22 := (E18.wr W20)
     have F23 := ((Fp.other W15 (Or.inl nob)).other W20 (Or.inr (sn_PositionIndex_positions_size hw)))
     have F24 := ((Fn.other W15 (Or.inl nob)).other W20 (Or.inr (sn_PositionIndex_numbers_size hw)))
     have V25 := ((Va.other W15 nab).other W20 (Ne.symm noa))
     have V26 := (V16.other W20 (Ne.symm nob))
     exact r_void A rfl d8_173 (by decide) (by decide) (⟨rfl, P, upd N g (-1), _, ⟨E22, F23, F24, F21, V25, V26, noa, nob, nab, go, ga, gb⟩, own_done HT hg16 hj16 hc80_1, g, hg16, by simp [upd]⟩)
    ·
     refine s_icmpN (pc' := 83) A d8_80 rfl (feq hc80_1).1 ?_
     refine s_aloadN (pc' := 84) A d8_83 rfl rfl rfl ?_
     refine s_getfield (pc' := 87) (host := "") A (Or.inl (w15 hw)) Via.refl Fp d8_84 rfl fun T A => ?_
     refine s_iload (pc' := 89) A d8_87 rfl rfl ?_
     refine s_laload (pc' := 90) (i := j) (v := (.long (P j))) A Va hx (own_tpg P j (by omega)) d8_89 rfl ?_
     refine s_l2i (pc' := 91) (z := ((P j)).toInt32) A d8_90 rfl rfl ?_
     refine s_iloadN (pc' := 92) A d8_91 rfl rfl ?_
     refine s_iand (pc' := 93) (z := (((P j)).toInt32 &&& (15 : Int32))) A d8_92 rfl rfl ?_
     refine s_istore (pc' := 95) (Ls' := #[rv o, jv q, S2, iv 15, iv x0, iv y, iv x, iv (((P j)).toInt32 &&& (15 : Int32))]) A d8_93 rfl rfl ?_
     refine s_iload (pc' := 97) A d8_95 rfl rfl ?_
     refine s_iload (pc' := 99) A d8_97 rfl rfl ?_
     refine s_isub (pc' := 100) (z := (x - (((P j)).toInt32 &&& (15 : Int32)))) A d8_99 rfl rfl ?_
     refine s_iloadN (pc' := 101) A d8_100 rfl rfl ?_
     refine s_iand (pc' := 102) (z := ((x - (((P j)).toInt32 &&& (15 : Int32))) &&& (15 : Int32))) A d8_101 rfl rfl ?_
     refine s_iload (pc' := 104) A d8_102 rfl rfl ?_
     refine s_iload (pc' := 106) A d8_104 rfl rfl ?_
     refine s_isub (pc' := 107) (z := (x - y)) A d8_106 rfl rfl ?_
     refine s_iloadN (pc' := 108) A d8_107 rfl rfl ?_
     refine s_iand (pc' := 109) (z := ((x - y) &&& (15 : Int32))) A d8_108 rfl rfl ?_
     by_cases hc109_1 : ((x - (((P j)).toInt32 &&& (15 : Int32))) &&& (15 : Int32)) < ((x - y) &&& (15 : Int32))
     ·
      refine s_icmpY (pc' := 144) A d8_109 (tlt hc109_1).1 (by decide) (by decide) ?_
      refine s_iload (pc' := 146) A d8_144 rfl rfl ?_
      refine s_iconst (pc' := 147) (z := (1 : Int32)) A d8_146 rfl (by decide) ?_
      refine s_iadd (pc' := 148) (z := (x + (1 : Int32))) A d8_147 rfl rfl ?_
      refine s_iloadN (pc' := 149) A d8_148 rfl rfl ?_
      refine s_iand (pc' := 150) (z := ((x + (1 : Int32)) &&& (15 : Int32))) A d8_149 rfl rfl ?_
      refine s_istore (pc' := 152) (Ls' := #[rv o, jv q, S2, iv 15, iv x0, iv y, iv ((x + (1 : Int32)) &&& (15 : Int32)), iv (((P j)).toInt32 &&& (15 : Int32))]) A d8_150 rfl rfl ?_
      refine s_goto (pc' := 72) A d8_152 (by decide) (by decide) ?_
      exact ih P N g y (iv (((P j).toInt32) &&& (15 : Int32))) _ _ hg hg16 hf hf16 (own_nxt x j hx (by omega)) (by omega) (by omega) (by omega) (own_keep HT hg16 hj16 (by omega) ((own_cmp x _ y j _ g hx (own_hm (P j)).1 hg hj16 (own_hm (P j)).2 hg16).mp hc109_1)) (Or.inr ⟨_, rfl⟩) T h ⟨E, Fp, Fn, Fs, Va, Vb, noa, nob, nab, go, ga, gb⟩ A
     ·
      refine s_icmpN (pc' := 112) A d8_109 rfl (flt hc109_1).1 ?_
      refine s_aloadN (pc' := 113) A d8_112 rfl rfl rfl ?_
      refine s_getfield (pc' := 116) (host := "") A (Or.inl (w15 hw)) Via.refl Fp d8_113 rfl fun T A => ?_
      refine s_iload (pc' := 118) A d8_116 rfl rfl ?_
      refine s_aloadN (pc' := 119) A d8_118 rfl rfl rfl ?_
      refine s_getfield (pc' := 122) (host := "") A (Or.inl (w15 hw)) Via.refl Fp d8_119 rfl fun T A => ?_
      refine s_iload (pc' := 124) A d8_122 rfl rfl ?_
      refine s_laload (pc' := 125) (i := j) (v := (.long (P j))) A Va hx (own_tpg P j (by omega)) d8_124 rfl ?_
      refine s_lastore (pc' := 126) (i := g) A Va hg (by rw [own_tpl]; omega) ga d8_125 rfl fun T h27 A W28 V29 => ?_
      have V29 : AA Z h27 a .long (TP (upd P g (P j))) := (AA.cast V29 (own_tps P g (P j)))
      refine s_aloadN (pc' := 127) A d8_126 rfl rfl rfl ?_
      have F30 := (Fn.other W28 (Or.inl noa))
      refine s_getfield (pc' := 130) (host := "") A (Or.inl (w25 hw)) Via.refl F30 d8_127 rfl fun T A => ?_
      refine s_iload (pc' := 132) A d8_130 rfl rfl ?_
      refine s_aloadN (pc' := 133) A d8_132 rfl rfl rfl ?_
      refine s_getfield (pc' := 136) (host := "") A (Or.inl (w25 hw)) Via.refl F30 d8_133 rfl fun T A => ?_
      refine s_iload (pc' := 138) A d8_136 rfl rfl ?_
      have V31 := (Vb.other W28 (Ne.symm nab))
      refine s_iaload (pc' := 139) (i := j) (v := (.int (N j))) A V31 hx (own_tng N j (by omega)) d8_138 rfl ?_
      refine s_iastore (pc' := 140) (i := g) A V31 hg (by rw [own_tnl]; omega) gb d8_139 rfl fun T h32 A W33 V34 => ?_
      have V34 : AA Z h32 b .int (TN (upd N g (N j))) := (AA.cast V34 (own_tns N g (N j)))
      refine s_iload (pc' := 142) A d8_140 rfl rfl ?_
      refine s_istore (pc' := 144) (Ls' := #[rv o, jv q, S2, iv 15, iv x0, iv x, iv x, iv (((P j)).toInt32 &&& (15 : Int32))]) A d8_142 rfl rfl ?_
      refine s_iload (pc' := 146) A d8_144 rfl rfl ?_
      refine s_iconst (pc' := 147) (z := (1 : Int32)) A d8_146 rfl (by decide) ?_
      refine s_iadd (pc' := 148) (z := (x + (1 : Int32))) A d8_147 rfl rfl ?_
      refine s_iloadN (pc' := 149) A d8_148 rfl rfl ?_
      refine s_iand (pc' := 150) (z := ((x + (1 : Int32)) &&& (15 : Int32))) A d8_149 rfl rfl ?_
      refine s_istore (pc' := 152) (Ls' := #[rv o, jv q, S2, iv 15, iv x0, iv x, iv ((x + (1 : Int32)) &&& (15 : Int32)), iv (((P j)).toInt32 &&& (15 : Int32))]) A d8_150 rfl rfl ?_
      refine s_goto (pc' := 72) A d8_152 (by decide) (by decide) ?_
      have E35 := ((E.wr W28).wr W33)
      have F36 := ((Fp.other W28 (Or.inl noa)).other W33 (Or.inl nob))
      have F37 := (F30.other W33 (Or.inl nob))
      have F38 := ((Fs.other W28 (Or.inl noa)).other W33 (Or.inl nob))
      have V39 := (V29.other W33 nab)
      have hfg : ¬ f = g := fun q' => HT.2.2.2.2 (by rw [← q']; exact hf)
      exact ih (upd P g (P j)) (upd N g (N j)) j x (iv (((P j).toInt32) &&& (15 : Int32))) _ _ hx hj16 (by simp only [upd, hfg, if_false]; exact hf) hf16 (own_nxt x j hx (by omega)) (by omega) (by omega) (by omega) (own_move HT hg16 hj16 (by omega) hc80_1 (fun q' => hc109_1 ((own_cmp x _ y j _ g hx (own_hm (P j)).1 hg hj16 (own_hm (P j)).2 hg16).mpr q'))) (Or.inr ⟨_, rfl⟩) T h32 ⟨E35, F36, F37, F38, V39, V34, noa, nob, nab, go, ga, gb⟩ A
   ·
    refine s_aloadN (pc' := 73) A d8_72 rfl rfl rfl ?_
    refine s_getfield (pc' := 76) (host := "") A (Or.inl (w25 hw)) Via.refl Fn d8_73 rfl fun T A => ?_
    refine s_iload (pc' := 78) A d8_76 rfl rfl ?_
    refine s_iaload (pc' := 79) (i := j) (v := (.int (N j))) A Vb hx (own_tng N j (by omega)) d8_78 rfl ?_
    refine s_iconst (pc' := 80) (z := (-1 : Int32)) A d8_79 rfl (by decide) ?_
    by_cases hc80_1 : (N j) = (-1 : Int32)
    ·
     refine s_icmpY (pc' := 155) A d8_80 (teq hc80_1).1 (by decide) (by decide) ?_
     refine s_aloadN (pc' := 156) A d8_155 rfl rfl rfl ?_
     refine s_getfield (pc' := 159) (host := "") A (Or.inl (w25 hw)) Via.refl Fn d8_156 rfl fun T A => ?_
     refine s_iload (pc' := 161) A d8_159 rfl rfl ?_
     refine s_iconst (pc' := 162) (z := (-1 : Int32)) A d8_161 rfl (by decide) ?_
     refine s_iastore (pc' := 163) (i := g) A Vb hg (by rw [own_tnl]; omega) gb d8_162 rfl fun T h40 A W41 V42 => ?_
     have V42 : AA Z h40 b .int (TN (upd N g (-1))) := (AA.cast V42 (own_tns N g (-1)))
     refine s_aloadN (pc' := 164) A d8_163 rfl rfl rfl ?_
     refine s_dup (pc' := 165) A d8_164 rfl rfl ?_
     have F43 := (Fs.other W41 (Or.inl nob))
     refine s_getfield (pc' := 168) (host := "") A (Or.inl (w32 hw)) Via.refl F43 d8_165 rfl fun T A => ?_
     refine s_iconst (pc' := 169) (z := (1 : Int32)) A d8_168 rfl (by decide) ?_
     refine s_isub (pc' := 170) (z := (z - (1 : Int32))) A d8_169 rfl rfl ?_
     have E44 := (E.wr W41)
     refine s_putfield (pc' := 173) (host := "") A (Or.inl (w32 hw)) Via.refl F43 E44 (Or.inl (w33 hw)) (w6 hw) (ty := .int) (by decide) rfl rfl go d8_170 rfl fun T h45 A W46 => ?_
     have F47 := F43.same W46
     have E48 := (E44.wr W46)
     have F49 := ((Fp.other W41 (Or.inl nob)).other W46 (Or.inr (sn_PositionIndex_positions_size hw)))
     have F50 := ((Fn.other W41 (Or.inl nob)).other W46 (Or.inr (sn_PositionIndex_numbers_size hw)))
     have V51 := ((Va.other W41 nab).other W46 (Ne.symm noa))
     have V52 := (V42.other W46 (Ne.symm nob))
     exact r_void A rfl d8_173 (by decide) (by decide) (⟨rfl, P, upd N g (-1), _, ⟨E48, F49, F50, F47, V51, V52, noa, nob, nab, go, ga, gb⟩, own_done HT hg16 hj16 hc80_1, g, hg16, by simp [upd]⟩)
    ·
     refine s_icmpN (pc' := 83) A d8_80 rfl (feq hc80_1).1 ?_
     refine s_aloadN (pc' := 84) A d8_83 rfl rfl rfl ?_
     refine s_getfield (pc' := 87) (host := "") A (Or.inl (w15 hw)) Via.refl Fp d8_84 rfl fun T A => ?_
     refine s_iload (pc' := 89) A d8_87 rfl rfl ?_
     refine s_laload (pc' := 90) (i := j) (v := (.long (P j))) A Va hx (own_tpg P j (by omega)) d8_89 rfl ?_
     refine s_l2i (pc' := 91) (z := ((P j)).toInt32) A d8_90 rfl rfl ?_
     refine s_iloadN (pc' := 92) A d8_91 rfl rfl ?_
     refine s_iand (pc' := 93) (z := (((P j)).toInt32 &&& (15 : Int32))) A d8_92 rfl rfl ?_
     refine s_istore (pc' := 95) (Ls' := #[rv o, jv q, S2, iv 15, iv x0, iv y, iv x, iv (((P j)).toInt32 &&& (15 : Int32))]) A d8_93 rfl rfl ?_
     refine s_iload (pc' := 97) A d8_95 rfl rfl ?_
     refine s_iload (pc' := 99) A d8_97 rfl rfl ?_
     refine s_isub (pc' := 100) (z := (x - (((P j)).toInt32 &&& (15 : Int32)))) A d8_99 rfl rfl ?_
     refine s_iloadN (pc' := 101) A d8_100 rfl rfl ?_
     refine s_iand (pc' := 102) (z := ((x - (((P j)).toInt32 &&& (15 : Int32))) &&& (15 : Int32))) A d8_101 rfl rfl ?_
     refine s_iload (pc' := 104) A d8_102 rfl rfl ?_
     refine s_iload (pc' := 106) A d8_104 rfl rfl ?_
     refine s_isub (pc' := 107) (z := (x - y)) A d8_106 rfl rfl ?_
     refine s_iloadN (pc' := 108) A d8_107 rfl rfl ?_
     refine s_iand (pc' := 109) (z := ((x - y) &&& (15 : Int32))) A d8_108 rfl rfl ?_
     by_cases hc109_1 : ((x - (((P j)).toInt32 &&& (15 : Int32))) &&& (15 : Int32)) < ((x - y) &&& (15 : Int32))
     ·
      refine s_icmpY (pc' := 144) A d8_109 (tlt hc109_1).1 (by decide) (by decide) ?_
      refine s_iload (pc' := 146) A d8_144 rfl rfl ?_
      refine s_iconst (pc' := 147) (z := (1 : Int32)) A d8_146 rfl (by decide) ?_
      refine s_iadd (pc' := 148) (z := (x + (1 : Int32))) A d8_147 rfl rfl ?_
      refine s_iloadN (pc' := 149) A d8_148 rfl rfl ?_
      refine s_iand (pc' := 150) (z := ((x + (1 : Int32)) &&& (15 : Int32))) A d8_149 rfl rfl ?_
      refine s_istore (pc' := 152) (Ls' := #[rv o, jv q, S2, iv 15, iv x0, iv y, iv ((x + (1 : Int32)) &&& (15 : Int32)), iv (((P j)).toInt32 &&& (15 : Int32))]) A d8_150 rfl rfl ?_
      refine s_goto (pc' := 72) A d8_152 (by decide) (by decide) ?_
      exact ih P N g y (iv (((P j).toInt32) &&& (15 : Int32))) _ _ hg hg16 hf hf16 (own_nxt x j hx (by omega)) (by omega) (by omega) (by omega) (own_keep HT hg16 hj16 (by omega) ((own_cmp x _ y j _ g hx (own_hm (P j)).1 hg hj16 (own_hm (P j)).2 hg16).mp hc109_1)) (Or.inr ⟨_, rfl⟩) T h ⟨E, Fp, Fn, Fs, Va, Vb, noa, nob, nab, go, ga, gb⟩ A
     ·
      refine s_icmpN (pc' := 112) A d8_109 rfl (flt hc109_1).1 ?_
      refine s_aloadN (pc' := 113) A d8_112 rfl rfl rfl ?_
      refine s_getfield (pc' := 116) (host := "") A (Or.inl (w15 hw)) Via.refl Fp d8_113 rfl fun T A => ?_
      refine s_iload (pc' := 118) A d8_116 rfl rfl ?_
      refine s_aloadN (pc' := 119) A d8_118 rfl rfl rfl ?_
      refine s_getfield (pc' := 122) (host := "") A (Or.inl (w15 hw)) Via.refl Fp d8_119 rfl fun T A => ?_
      refine s_iload (pc' := 124) A d8_122 rfl rfl ?_
      refine s_laload (pc' := 125) (i := j) (v := (.long (P j))) A Va hx (own_tpg P j (by omega)) d8_124 rfl ?_
      refine s_lastore (pc' := 126) (i := g) A Va hg (by rw [own_tpl]; omega) ga d8_125 rfl fun T h53 A W54 V55 => ?_
      have V55 : AA Z h53 a .long (TP (upd P g (P j))) := (AA.cast V55 (own_tps P g (P j)))
      refine s_aloadN (pc' := 127) A d8_126 rfl rfl rfl ?_
      have F56 := (Fn.other W54 (Or.inl noa))
      refine s_getfield (pc' := 130) (host := "") A (Or.inl (w25 hw)) Via.refl F56 d8_127 rfl fun T A => ?_
      refine s_iload (pc' := 132) A d8_130 rfl rfl ?_
      refine s_aloadN (pc' := 133) A d8_132 rfl rfl rfl ?_
      refine s_getfield (pc' := 136) (host := "") A (Or.inl (w25 hw)) Via.refl F56 d8_133 rfl fun T A => ?_
      refine s_iload (pc' := 138) A d8_136 rfl rfl ?_
      have V57 := (Vb.other W54 (Ne.symm nab))
      refine s_iaload (pc' := 139) (i := j) (v := (.int (N j))) A V57 hx (own_tng N j (by omega)) d8_138 rfl ?_
      refine s_iastore (pc' := 140) (i := g) A V57 hg (by rw [own_tnl]; omega) gb d8_139 rfl fun T h58 A W59 V60 => ?_
      have V60 : AA Z h58 b .int (TN (upd N g (N j))) := (AA.cast V60 (own_tns N g (N j)))
      refine s_iload (pc' := 142) A d8_140 rfl rfl ?_
      refine s_istore (pc' := 144) (Ls' := #[rv o, jv q, S2, iv 15, iv x0, iv x, iv x, iv (((P j)).toInt32 &&& (15 : Int32))]) A d8_142 rfl rfl ?_
      refine s_iload (pc' := 146) A d8_144 rfl rfl ?_
      refine s_iconst (pc' := 147) (z := (1 : Int32)) A d8_146 rfl (by decide) ?_
      refine s_iadd (pc' := 148) (z := (x + (1 : Int32))) A d8_147 rfl rfl ?_
      refine s_iloadN (pc' := 149) A d8_148 rfl rfl ?_
      refine s_iand (pc' := 150) (z := ((x + (1 : Int32)) &&& (15 : Int32))) A d8_149 rfl rfl ?_
      refine s_istore (pc' := 152) (Ls' := #[rv o, jv q, S2, iv 15, iv x0, iv x, iv ((x + (1 : Int32)) &&& (15 : Int32)), iv (((P j)).toInt32 &&& (15 : Int32))]) A d8_150 rfl rfl ?_
      refine s_goto (pc' := 72) A d8_152 (by decide) (by decide) ?_
      have E61 := ((E.wr W54).wr W59)
      have F62 := ((Fp.other W54 (Or.inl noa)).other W59 (Or.inl nob))
      have F63 := (F56.other W59 (Or.inl nob))
      have F64 := ((Fs.other W54 (Or.inl noa)).other W59 (Or.inl nob))
      have V65 := (V55.other W59 nab)
      have hfg : ¬ f = g := fun q' => HT.2.2.2.2 (by rw [← q']; exact hf)
      exact ih (upd P g (P j)) (upd N g (N j)) j x (iv (((P j).toInt32) &&& (15 : Int32))) _ _ hx hj16 (by simp only [upd, hfg, if_false]; exact hf) hf16 (own_nxt x j hx (by omega)) (by omega) (by omega) (by omega) (own_move HT hg16 hj16 (by omega) hc80_1 (fun q' => hc109_1 ((own_cmp x _ y j _ g hx (own_hm (P j)).1 hg hj16 (own_hm (P j)).2 hg16).mpr q'))) (Or.inr ⟨_, rfl⟩) T h58 ⟨E61, F62, F63, F64, V65, V60, noa, nob, nab, go, ga, gb⟩ A
set_option maxRecDepth 65536 in
set_option maxHeartbeats 40000000 in
theorem l_rem (l : Launch) (Z : State) (a0 : Array Value) (hw : ∀ d ∈ tables_1, d.before a0 Z = true) (n0 : Nat) (p : Program) (e : Env) (s : State) (m : MethodId) (args : Array Value) (below : List Frame) (meth : Method) (c : Code) (o a b : Addr) (z : Int32) (P : Nat → Int64) (N : Nat → Int32) (M : Int64 → Int32) (q : Int64) (HT : Tab P N M) (f : Nat) (hf16 : f < 16) (hf : N f = -1) :
    ∀ k d, d + k = (f + 16 - hm q) % 16 → ∀ (x : Int32) (j : Nat), x.toInt = (j : Int) → j = (hm q + d) % 16 → ∀ T h, Ix Z n0 h o a b z P N → seen P N q d → On l Z n0 c0_PositionIndex prog_75_method_4_code 8 (Option.none : Option Jvm.ClassFile.FieldType) ({ frames := 0, cells := 0, slots := 0, locals := 0 } : Room) p e s m args below meth c T h 0 0 → Wp p e below s n0 ({ frames := 0, cells := 0, slots := 0, locals := 0 } : Room).cells ({ frames := 0, cells := 0, slots := 0, locals := 0 } : Room).slots (fun v' h' => v' = none ∧ ∃ P' N' z', Ix Z n0 h' o a b z' P' N' ∧ Tab P' N' (fun r => if r = q then -1 else M r) ∧ ∃ f, f < 16 ∧ N' f = -1) (T.setTop (mkF m 14 #[rv o, jv q, S2, iv 15, iv x, U0, U0, U0] [])) := by
  intro k
  induction k with
  | zero =>
   intro d hd x j hx hj T h H Hs A
   have hq := (own_hm q).2
   obtain ⟨E, Fp, Fn, Fs, Va, Vb, noa, nob, nab, go, ga, gb⟩ := H
   have hz : N j = (-1 : Int32) := by rw [show j = f by omega]; exact hf
   refine s_aloadN (pc' := 15) A d8_14 rfl rfl rfl ?_
   refine s_getfield (pc' := 18) (host := "") A (Or.inl (w25 hw)) Via.refl Fn d8_15 rfl fun T A => ?_
   refine s_iload (pc' := 20) A d8_18 rfl rfl ?_
   refine s_iaload (pc' := 21) (i := j) (v := (.int (N j))) A Vb hx (own_tng N j (by omega)) d8_20 rfl ?_
   refine s_iconst (pc' := 22) (z := (-1 : Int32)) A d8_21 rfl (by decide) ?_
   refine s_icmpY (pc' := 48) A d8_22 (teq hz).1 (by decide) (by decide) ?_
   refine s_aloadN (pc' := 49) A d8_48 rfl rfl rfl ?_
   refine s_getfield (pc' := 52) (host := "") A (Or.inl (w25 hw)) Via.refl Fn d8_49 rfl fun T A => ?_
   refine s_iload (pc' := 54) A d8_52 rfl rfl ?_
   refine s_iaload (pc' := 55) (i := j) (v := (.int (N j))) A Vb hx (own_tng N j (by omega)) d8_54 rfl ?_
   refine s_iconst (pc' := 56) (z := (-1 : Int32)) A d8_55 rfl (by decide) ?_
   refine s_icmpN (pc' := 59) A d8_56 rfl (teq hz).2 ?_
   exact r_void A rfl d8_59 (by decide) (by decide) (⟨rfl, P, N, z, ⟨E, Fp, Fn, Fs, Va, Vb, noa, nob, nab, go, ga, gb⟩, own_same HT (own_absent' HT Hs (by omega) hj hz), f, hf16, hf⟩)
  | succ k ih =>
   intro d hd x j hx hj T h H Hs A
   have hq := (own_hm q).2
   obtain ⟨E, Fp, Fn, Fs, Va, Vb, noa, nob, nab, go, ga, gb⟩ := H
   refine s_aloadN (pc' := 15) A d8_14 rfl rfl rfl ?_
   refine s_getfield (pc' := 18) (host := "") A (Or.inl (w25 hw)) Via.refl Fn d8_15 rfl fun T A => ?_
   refine s_iload (pc' := 20) A d8_18 rfl rfl ?_
   refine s_iaload (pc' := 21) (i := j) (v := (.int (N j))) A Vb hx (own_tng N j (by omega)) d8_20 rfl ?_
   refine s_iconst (pc' := 22) (z := (-1 : Int32)) A d8_21 rfl (by decide) ?_
   by_cases hc22_1 : (N j) = (-1 : Int32)
   ·
    refine s_icmpY (pc' := 48) A d8_22 (teq hc22_1).1 (by decide) (by decide) ?_
    refine s_aloadN (pc' := 49) A d8_48 rfl rfl rfl ?_
    refine s_getfield (pc' := 52) (host := "") A (Or.inl (w25 hw)) Via.refl Fn d8_49 rfl fun T A => ?_
    refine s_iload (pc' := 54) A d8_52 rfl rfl ?_
    refine s_iaload (pc' := 55) (i := j) (v := (.int (N j))) A Vb hx (own_tng N j (by omega)) d8_54 rfl ?_
    refine s_iconst (pc' := 56) (z := (-1 : Int32)) A d8_55 rfl (by decide) ?_
    refine s_icmpN (pc' := 59) A d8_56 rfl (teq hc22_1).2 ?_
    exact r_void A rfl d8_59 (by decide) (by decide) (⟨rfl, P, N, z, ⟨E, Fp, Fn, Fs, Va, Vb, noa, nob, nab, go, ga, gb⟩, own_same HT (own_absent' HT Hs (by omega) hj hc22_1), f, hf16, hf⟩)
   ·
    refine s_icmpN (pc' := 25) A d8_22 rfl (feq hc22_1).1 ?_
    refine s_aloadN (pc' := 26) A d8_25 rfl rfl rfl ?_
    refine s_getfield (pc' := 29) (host := "") A (Or.inl (w15 hw)) Via.refl Fp d8_26 rfl fun T A => ?_
    refine s_iload (pc' := 31) A d8_29 rfl rfl ?_
    refine s_laload (pc' := 32) (i := j) (v := (.long (P j))) A Va hx (own_tpg P j (by omega)) d8_31 rfl ?_
    refine s_lloadN (pc' := 33) A d8_32 rfl rfl ?_
    refine s_lcmp (pc' := 34) A d8_33 rfl ?_
    by_cases hc34_1 : (P j) = q
    ·
     refine s_ifY (pc' := 48) A d8_34 ((if0 _ _).trans (teq ((lw_eq (P j) q).2 hc34_1)).1) (by decide) (by decide) ?_
     refine s_aloadN (pc' := 49) A d8_48 rfl rfl rfl ?_
     refine s_getfield (pc' := 52) (host := "") A (Or.inl (w25 hw)) Via.refl Fn d8_49 rfl fun T A => ?_
     refine s_iload (pc' := 54) A d8_52 rfl rfl ?_
     refine s_iaload (pc' := 55) (i := j) (v := (.int (N j))) A Vb hx (own_tng N j (by omega)) d8_54 rfl ?_
     refine s_iconst (pc' := 56) (z := (-1 : Int32)) A d8_55 rfl (by decide) ?_
     refine s_icmpY (pc' := 60) A d8_56 (feq hc22_1).2 (by decide) (by decide) ?_
     refine s_iload (pc' := 62) A d8_60 rfl rfl ?_
     refine s_istore (pc' := 64) (Ls' := #[rv o, jv q, S2, iv 15, iv x, iv x, U0, U0]) A d8_62 rfl rfl ?_
     refine s_iload (pc' := 66) A d8_64 rfl rfl ?_
     refine s_iconst (pc' := 67) (z := (1 : Int32)) A d8_66 rfl (by decide) ?_
     refine s_iadd (pc' := 68) (z := (x + (1 : Int32))) A d8_67 rfl rfl ?_
     refine s_iloadN (pc' := 69) A d8_68 rfl rfl ?_
     refine s_iand (pc' := 70) (z := ((x + (1 : Int32)) &&& (15 : Int32))) A d8_69 rfl rfl ?_
     refine s_istore (pc' := 72) (Ls' := #[rv o, jv q, S2, iv 15, iv x, iv x, iv ((x + (1 : Int32)) &&& (15 : Int32)), U0]) A d8_70 rfl rfl ?_
     have hfj : ¬ f = j := fun q' => hc22_1 (by rw [← q']; exact hf)
     exact l_rem2 l Z a0 hw n0 p e s m args below meth c o a b z (fun r => if r = q then -1 else M r) q x f _ P N j x U0 _ _ hx (by omega) hf hf16 (own_nxt x j hx (by omega)) (by omega) (show ((j + 1) % 16 + 16 - j) % 16 + ((f + 16 - j) % 16 - 1) = _ by omega) (by omega) (own_t2 HT (by omega) hc22_1 hc34_1) (Or.inl rfl) T h ⟨E, Fp, Fn, Fs, Va, Vb, noa, nob, nab, go, ga, gb⟩ A
    ·
     refine s_ifN (pc' := 37) A d8_34 rfl ((if0 _ _).trans (feq (fun qz => hc34_1 ((lw_eq (P j) q).1 qz))).1) ?_
     refine s_iload (pc' := 39) A d8_37 rfl rfl ?_
     refine s_iconst (pc' := 40) (z := (1 : Int32)) A d8_39 rfl (by decide) ?_
     refine s_iadd (pc' := 41) (z := (x + (1 : Int32))) A d8_40 rfl rfl ?_
     refine s_iloadN (pc' := 42) A d8_41 rfl rfl ?_
     refine s_iand (pc' := 43) (z := ((x + (1 : Int32)) &&& (15 : Int32))) A d8_42 rfl rfl ?_
     refine s_istore (pc' := 45) (Ls' := #[rv o, jv q, S2, iv 15, iv ((x + (1 : Int32)) &&& (15 : Int32)), U0, U0, U0]) A d8_43 rfl rfl ?_
     refine s_goto (pc' := 14) A d8_45 (by decide) (by decide) ?_
     exact ih (d + 1) (by omega) _ _ (own_nxt x j hx (by omega)) (by omega) T h ⟨E, Fp, Fn, Fs, Va, Vb, noa, nob, nab, go, ga, gb⟩ (own_seenS' Hs hj hc22_1 hc34_1) A
set_option maxRecDepth 65536 in
set_option maxHeartbeats 40000000 in
theorem m_rem (l : Launch) (Z : State) (a0 : Array Value) (hw : ∀ d ∈ tables_1, d.before a0 Z = true) (n0 : Nat) (h0 : Heap) (Z0 : n0 ≤ h0.size) (o a b : Addr) (z : Int32) (P : Nat → Int64) (N : Nat → Int32) (M : Int64 → Int32) (q : Int64) (H : Ix Z n0 h0 o a b z P N) (HT : Tab P N M) (f : Nat) (hf16 : f < 16) (hf : N f = -1) :
    Met l Z n0 y3_remove prog_75_method_4_code 8 (Option.none : Option Jvm.ClassFile.FieldType) ({ frames := 0, cells := 0, slots := 0, locals := 0 } : Room) #[(.ref o), (.long q)] h0 (fun v' h' => v' = none ∧ ∃ P' N' z', Ix Z n0 h' o a b z' P' N' ∧ Tab P' N' (fun r => if r = q then -1 else M r) ∧ ∃ f, f < 16 ∧ N' f = -1) := by
  refine met_intro (own := c0_PositionIndex) (plainFor_of_name pn_com_example_wirefram_wirefram_sequence_PositionIndex) rfl Z0 ?_
  intro p e s m below meth c T A hnm
  refine Wp.cast (g' := mkF m 0 #[rv o, jv q, S2, U0, U0, U0, U0, U0] []) (by first | (simp [entryFrame, mkF, argsToLocals, Value.category, maxLocals, jv, S2, U0, iv, rv]; done) | rfl) ?_
  obtain ⟨E, Fp, Fn, Fs, Va, Vb, noa, nob, nab, go, ga, gb⟩ := H
  refine s_aloadN (pc' := 1) A d8_0 rfl rfl rfl ?_
  refine s_getfield (pc' := 4) (host := "") A (Or.inl (w25 hw)) Via.refl Fn d8_1 rfl fun T A => ?_
  refine s_arraylength (pc' := 5) (z := (16 : Int32)) A Vb (by rw [own_tnl]; decide) d8_4 rfl ?_
  refine s_iconst (pc' := 6) (z := (1 : Int32)) A d8_5 rfl (by decide) ?_
  refine s_isub (pc' := 7) (z := (15 : Int32)) A d8_6 rfl (by decide) ?_
  refine s_istoreN (pc' := 8) (Ls' := #[rv o, jv q, S2, iv 15, U0, U0, U0, U0]) A d8_7 rfl rfl ?_
  refine s_lloadN (pc' := 9) A d8_8 rfl rfl ?_
  refine s_l2i (pc' := 10) (z := (q).toInt32) A d8_9 rfl rfl ?_
  refine s_iloadN (pc' := 11) A d8_10 rfl rfl ?_
  refine s_iand (pc' := 12) (z := ((q).toInt32 &&& (15 : Int32))) A d8_11 rfl rfl ?_
  refine s_istore (pc' := 14) (Ls' := #[rv o, jv q, S2, iv 15, iv ((q).toInt32 &&& (15 : Int32)), U0, U0, U0]) A d8_12 rfl rfl ?_
  exact l_rem l Z a0 hw n0 p e s m _ below meth c o a b z P N M q HT f hf16 hf _ 0 (Nat.zero_add _) _ _ (own_hm q).1 (by have := (own_hm q).2; omega) T h0 ⟨E, Fp, Fn, Fs, Va, Vb, noa, nob, nab, go, ga, gb⟩ (own_seen0 P N q) A
set_option maxRecDepth 65536 in
set_option maxHeartbeats 40000000 in
theorem fil (l : Launch) (Z : State) (a0 : Array Value) (hw : ∀ d ∈ tables_1, d.before a0 Z = true) (n0 : Nat) (h0 : Heap) (Z0 : n0 ≤ h0.size) (r : Addr) (V : AA Z h0 r .int [.int (0 : Int32), .int (0 : Int32), .int (0 : Int32), .int (0 : Int32), .int (0 : Int32), .int (0 : Int32), .int (0 : Int32), .int (0 : Int32), .int (0 : Int32), .int (0 : Int32), .int (0 : Int32), .int (0 : Int32), .int (0 : Int32), .int (0 : Int32), .int (0 : Int32), .int (0 : Int32)]) (g : n0 ≤ r) :
    Met l Z n0 y4_fill jdk_65_method_103_code 4 (Option.none : Option Jvm.ClassFile.FieldType) ({ frames := 0, cells := 0, slots := 0, locals := 0 } : Room) #[(.ref r), (.int (-1 : Int32))] h0 (fun v h => v = none ∧ Keep h0 h [r] ∧ AA Z h r .int [.int (-1 : Int32), .int (-1 : Int32), .int (-1 : Int32), .int (-1 : Int32), .int (-1 : Int32), .int (-1 : Int32), .int (-1 : Int32), .int (-1 : Int32), .int (-1 : Int32), .int (-1 : Int32), .int (-1 : Int32), .int (-1 : Int32), .int (-1 : Int32), .int (-1 : Int32), .int (-1 : Int32), .int (-1 : Int32)]) := by
  refine met_intro (own := c1_Arrays) (plainFor_of_name pn_java_util_Arrays) rfl Z0 ?_
  intro p e s m below meth c T A hnm
  refine Wp.cast (g' := mkF m 0 #[rv r, iv (-1), U0, U0] []) (by first | (simp [entryFrame, mkF, argsToLocals, Value.category, maxLocals, jv, S2, U0, iv, rv]; done) | rfl) ?_
  refine s_iconst (pc' := 1) (z := (0 : Int32)) A d5_0 rfl (by decide) ?_
  refine s_istoreN (pc' := 2) (Ls' := #[rv r, iv (-1), iv 0, U0]) A d5_1 rfl rfl ?_
  refine s_aloadN (pc' := 3) A d5_2 rfl rfl rfl ?_
  refine s_arraylength (pc' := 4) (z := (16 : Int32)) A V (by show _ = ((16 : Nat) : Int); decide) d5_3 rfl ?_
  refine s_istoreN (pc' := 5) (Ls' := #[rv r, iv (-1), iv 0, iv 16]) A d5_4 rfl rfl ?_
  refine s_iloadN (pc' := 6) A d5_5 rfl rfl ?_
  refine s_iloadN (pc' := 7) A d5_6 rfl rfl ?_
  refine s_icmpN (pc' := 10) A d5_7 rfl (by decide) ?_
  refine s_aloadN (pc' := 11) A d5_10 rfl rfl rfl ?_
  refine s_iloadN (pc' := 12) A d5_11 rfl rfl ?_
  refine s_iloadN (pc' := 13) A d5_12 rfl rfl ?_
  refine s_iastore (pc' := 14) (i := 0) A V (by decide) (Nat.le_of_ble_eq_true rfl) g d5_13 rfl fun T h1 A W2 V3 => ?_
  have V3 : AA Z h1 r .int [.int (-1 : Int32), .int (0 : Int32), .int (0 : Int32), .int (0 : Int32), .int (0 : Int32), .int (0 : Int32), .int (0 : Int32), .int (0 : Int32), .int (0 : Int32), .int (0 : Int32), .int (0 : Int32), .int (0 : Int32), .int (0 : Int32), .int (0 : Int32), .int (0 : Int32), .int (0 : Int32)] := V3
  refine s_iinc (pc' := 17) (z := (1 : Int32)) (Ls' := #[rv r, iv (-1), iv 1, iv 16]) A d5_14 rfl rfl (by decide) rfl ?_
  refine s_goto (pc' := 5) A d5_17 (by decide) (by decide) ?_
  refine s_iloadN (pc' := 6) A d5_5 rfl rfl ?_
  refine s_iloadN (pc' := 7) A d5_6 rfl rfl ?_
  refine s_icmpN (pc' := 10) A d5_7 rfl (by decide) ?_
  refine s_aloadN (pc' := 11) A d5_10 rfl rfl rfl ?_
  refine s_iloadN (pc' := 12) A d5_11 rfl rfl ?_
  refine s_iloadN (pc' := 13) A d5_12 rfl rfl ?_
  refine s_iastore (pc' := 14) (i := 1) A V3 (by decide) (Nat.le_of_ble_eq_true rfl) g d5_13 rfl fun T h4 A W5 V6 => ?_
  have V6 : AA Z h4 r .int [.int (-1 : Int32), .int (-1 : Int32), .int (0 : Int32), .int (0 : Int32), .int (0 : Int32), .int (0 : Int32), .int (0 : Int32), .int (0 : Int32), .int (0 : Int32), .int (0 : Int32), .int (0 : Int32), .int (0 : Int32), .int (0 : Int32), .int (0 : Int32), .int (0 : Int32), .int (0 : Int32)] := V6
  refine s_iinc (pc' := 17) (z := (2 : Int32)) (Ls' := #[rv r, iv (-1), iv 2, iv 16]) A d5_14 rfl rfl (by decide) rfl ?_
  refine s_goto (pc' := 5) A d5_17 (by decide) (by decide) ?_
  refine s_iloadN (pc' := 6) A d5_5 rfl rfl ?_
  refine s_iloadN (pc' := 7) A d5_6 rfl rfl ?_
  refine s_icmpN (pc' := 10) A d5_7 rfl (by decide) ?_
  refine s_aloadN (pc' := 11) A d5_10 rfl rfl rfl ?_
  refine s_iloadN (pc' := 12) A d5_11 rfl rfl ?_
  refine s_iloadN (pc' := 13) A d5_12 rfl rfl ?_
  refine s_iastore (pc' := 14) (i := 2) A V6 (by decide) (Nat.le_of_ble_eq_true rfl) g d5_13 rfl fun T h7 A W8 V9 => ?_
  have V9 : AA Z h7 r .int [.int (-1 : Int32), .int (-1 : Int32), .int (-1 : Int32), .int (0 : Int32), .int (0 : Int32), .int (0 : Int32), .int (0 : Int32), .int (0 : Int32), .int (0 : Int32), .int (0 : Int32), .int (0 : Int32), .int (0 : Int32), .int (0 : Int32), .int (0 : Int32), .int (0 : Int32), .int (0 : Int32)] := V9
  refine s_iinc (pc' := 17) (z := (3 : Int32)) (Ls' := #[rv r, iv (-1), iv 3, iv 16]) A d5_14 rfl rfl (by decide) rfl ?_
  refine s_goto (pc' := 5) A d5_17 (by decide) (by decide) ?_
  refine s_iloadN (pc' := 6) A d5_5 rfl rfl ?_
  refine s_iloadN (pc' := 7) A d5_6 rfl rfl ?_
  refine s_icmpN (pc' := 10) A d5_7 rfl (by decide) ?_
  refine s_aloadN (pc' := 11) A d5_10 rfl rfl rfl ?_
  refine s_iloadN (pc' := 12) A d5_11 rfl rfl ?_
  refine s_iloadN (pc' := 13) A d5_12 rfl rfl ?_
  refine s_iastore (pc' := 14) (i := 3) A V9 (by decide) (Nat.le_of_ble_eq_true rfl) g d5_13 rfl fun T h10 A W11 V12 => ?_
  have V12 : AA Z h10 r .int [.int (-1 : Int32), .int (-1 : Int32), .int (-1 : Int32), .int (-1 : Int32), .int (0 : Int32), .int (0 : Int32), .int (0 : Int32), .int (0 : Int32), .int (0 : Int32), .int (0 : Int32), .int (0 : Int32), .int (0 : Int32), .int (0 : Int32), .int (0 : Int32), .int (0 : Int32), .int (0 : Int32)] := V12
  refine s_iinc (pc' := 17) (z := (4 : Int32)) (Ls' := #[rv r, iv (-1), iv 4, iv 16]) A d5_14 rfl rfl (by decide) rfl ?_
  refine s_goto (pc' := 5) A d5_17 (by decide) (by decide) ?_
  refine s_iloadN (pc' := 6) A d5_5 rfl rfl ?_
  refine s_iloadN (pc' := 7) A d5_6 rfl rfl ?_
  refine s_icmpN (pc' := 10) A d5_7 rfl (by decide) ?_
  refine s_aloadN (pc' := 11) A d5_10 rfl rfl rfl ?_
  refine s_iloadN (pc' := 12) A d5_11 rfl rfl ?_
  refine s_iloadN (pc' := 13) A d5_12 rfl rfl ?_
  refine s_iastore (pc' := 14) (i := 4) A V12 (by decide) (Nat.le_of_ble_eq_true rfl) g d5_13 rfl fun T h13 A W14 V15 => ?_
  have V15 : AA Z h13 r .int [.int (-1 : Int32), .int (-1 : Int32), .int (-1 : Int32), .int (-1 : Int32), .int (-1 : Int32), .int (0 : Int32), .int (0 : Int32), .int (0 : Int32), .int (0 : Int32), .int (0 : Int32), .int (0 : Int32), .int (0 : Int32), .int (0 : Int32), .int (0 : Int32), .int (0 : Int32), .int (0 : Int32)] := V15
  refine s_iinc (pc' := 17) (z := (5 : Int32)) (Ls' := #[rv r, iv (-1), iv 5, iv 16]) A d5_14 rfl rfl (by decide) rfl ?_
  refine s_goto (pc' := 5) A d5_17 (by decide) (by decide) ?_
  refine s_iloadN (pc' := 6) A d5_5 rfl rfl ?_
  refine s_iloadN (pc' := 7) A d5_6 rfl rfl ?_
  refine s_icmpN (pc' := 10) A d5_7 rfl (by decide) ?_
  refine s_aloadN (pc' := 11) A d5_10 rfl rfl rfl ?_
  refine s_iloadN (pc' := 12) A d5_11 rfl rfl ?_
  refine s_iloadN (pc' := 13) A d5_12 rfl rfl ?_
  refine s_iastore (pc' := 14) (i := 5) A V15 (by decide) (Nat.le_of_ble_eq_true rfl) g d5_13 rfl fun T h16 A W17 V18 => ?_
  have V18 : AA Z h16 r .int [.int (-1 : Int32), .int (-1 : Int32), .int (-1 : Int32), .int (-1 : Int32), .int (-1 : Int32), .int (-1 : Int32), .int (0 : Int32), .int (0 : Int32), .int (0 : Int32), .int (0 : Int32), .int (0 : Int32), .int (0 : Int32), .int (0 : Int32), .int (0 : Int32), .int (0 : Int32), .int (0 : Int32)] := V18
  refine s_iinc (pc' := 17) (z := (6 : Int32)) (Ls' := #[rv r, iv (-1), iv 6, iv 16]) A d5_14 rfl rfl (by decide) rfl ?_
  refine s_goto (pc' := 5) A d5_17 (by decide) (by decide) ?_
  refine s_iloadN (pc' := 6) A d5_5 rfl rfl ?_
  refine s_iloadN (pc' := 7) A d5_6 rfl rfl ?_
  refine s_icmpN (pc' := 10) A d5_7 rfl (by decide) ?_
  refine s_aloadN (pc' := 11) A d5_10 rfl rfl rfl ?_
  refine s_iloadN (pc' := 12) A d5_11 rfl rfl ?_
  refine s_iloadN (pc' := 13) A d5_12 rfl rfl ?_
  refine s_iastore (pc' := 14) (i := 6) A V18 (by decide) (Nat.le_of_ble_eq_true rfl) g d5_13 rfl fun T h19 A W20 V21 => ?_
  have V21 : AA Z h19 r .int [.int (-1 : Int32), .int (-1 : Int32), .int (-1 : Int32), .int (-1 : Int32), .int (-1 : Int32), .int (-1 : Int32), .int (-1 : Int32), .int (0 : Int32), .int (0 : Int32), .int (0 : Int32), .int (0 : Int32), .int (0 : Int32), .int (0 : Int32), .int (0 : Int32), .int (0 : Int32), .int (0 : Int32)] := V21
  refine s_iinc (pc' := 17) (z := (7 : Int32)) (Ls' := #[rv r, iv (-1), iv 7, iv 16]) A d5_14 rfl rfl (by decide) rfl ?_
  refine s_goto (pc' := 5) A d5_17 (by decide) (by decide) ?_
  refine s_iloadN (pc' := 6) A d5_5 rfl rfl ?_
  refine s_iloadN (pc' := 7) A d5_6 rfl rfl ?_
  refine s_icmpN (pc' := 10) A d5_7 rfl (by decide) ?_
  refine s_aloadN (pc' := 11) A d5_10 rfl rfl rfl ?_
  refine s_iloadN (pc' := 12) A d5_11 rfl rfl ?_
  refine s_iloadN (pc' := 13) A d5_12 rfl rfl ?_
  refine s_iastore (pc' := 14) (i := 7) A V21 (by decide) (Nat.le_of_ble_eq_true rfl) g d5_13 rfl fun T h22 A W23 V24 => ?_
  have V24 : AA Z h22 r .int [.int (-1 : Int32), .int (-1 : Int32), .int (-1 : Int32), .int (-1 : Int32), .int (-1 : Int32), .int (-1 : Int32), .int (-1 : Int32), .int (-1 : Int32), .int (0 : Int32), .int (0 : Int32), .int (0 : Int32), .int (0 : Int32), .int (0 : Int32), .int (0 : Int32), .int (0 : Int32), .int (0 : Int32)] := V24
  refine s_iinc (pc' := 17) (z := (8 : Int32)) (Ls' := #[rv r, iv (-1), iv 8, iv 16]) A d5_14 rfl rfl (by decide) rfl ?_
  refine s_goto (pc' := 5) A d5_17 (by decide) (by decide) ?_
  refine s_iloadN (pc' := 6) A d5_5 rfl rfl ?_
  refine s_iloadN (pc' := 7) A d5_6 rfl rfl ?_
  refine s_icmpN (pc' := 10) A d5_7 rfl (by decide) ?_
  refine s_aloadN (pc' := 11) A d5_10 rfl rfl rfl ?_
  refine s_iloadN (pc' := 12) A d5_11 rfl rfl ?_
  refine s_iloadN (pc' := 13) A d5_12 rfl rfl ?_
  refine s_iastore (pc' := 14) (i := 8) A V24 (by decide) (Nat.le_of_ble_eq_true rfl) g d5_13 rfl fun T h25 A W26 V27 => ?_
  have V27 : AA Z h25 r .int [.int (-1 : Int32), .int (-1 : Int32), .int (-1 : Int32), .int (-1 : Int32), .int (-1 : Int32), .int (-1 : Int32), .int (-1 : Int32), .int (-1 : Int32), .int (-1 : Int32), .int (0 : Int32), .int (0 : Int32), .int (0 : Int32), .int (0 : Int32), .int (0 : Int32), .int (0 : Int32), .int (0 : Int32)] := V27
  refine s_iinc (pc' := 17) (z := (9 : Int32)) (Ls' := #[rv r, iv (-1), iv 9, iv 16]) A d5_14 rfl rfl (by decide) rfl ?_
  refine s_goto (pc' := 5) A d5_17 (by decide) (by decide) ?_
  refine s_iloadN (pc' := 6) A d5_5 rfl rfl ?_
  refine s_iloadN (pc' := 7) A d5_6 rfl rfl ?_
  refine s_icmpN (pc' := 10) A d5_7 rfl (by decide) ?_
  refine s_aloadN (pc' := 11) A d5_10 rfl rfl rfl ?_
  refine s_iloadN (pc' := 12) A d5_11 rfl rfl ?_
  refine s_iloadN (pc' := 13) A d5_12 rfl rfl ?_
  refine s_iastore (pc' := 14) (i := 9) A V27 (by decide) (Nat.le_of_ble_eq_true rfl) g d5_13 rfl fun T h28 A W29 V30 => ?_
  have V30 : AA Z h28 r .int [.int (-1 : Int32), .int (-1 : Int32), .int (-1 : Int32), .int (-1 : Int32), .int (-1 : Int32), .int (-1 : Int32), .int (-1 : Int32), .int (-1 : Int32), .int (-1 : Int32), .int (-1 : Int32), .int (0 : Int32), .int (0 : Int32), .int (0 : Int32), .int (0 : Int32), .int (0 : Int32), .int (0 : Int32)] := V30
  refine s_iinc (pc' := 17) (z := (10 : Int32)) (Ls' := #[rv r, iv (-1), iv 10, iv 16]) A d5_14 rfl rfl (by decide) rfl ?_
  refine s_goto (pc' := 5) A d5_17 (by decide) (by decide) ?_
  refine s_iloadN (pc' := 6) A d5_5 rfl rfl ?_
  refine s_iloadN (pc' := 7) A d5_6 rfl rfl ?_
  refine s_icmpN (pc' := 10) A d5_7 rfl (by decide) ?_
  refine s_aloadN (pc' := 11) A d5_10 rfl rfl rfl ?_
  refine s_iloadN (pc' := 12) A d5_11 rfl rfl ?_
  refine s_iloadN (pc' := 13) A d5_12 rfl rfl ?_
  refine s_iastore (pc' := 14) (i := 10) A V30 (by decide) (Nat.le_of_ble_eq_true rfl) g d5_13 rfl fun T h31 A W32 V33 => ?_
  have V33 : AA Z h31 r .int [.int (-1 : Int32), .int (-1 : Int32), .int (-1 : Int32), .int (-1 : Int32), .int (-1 : Int32), .int (-1 : Int32), .int (-1 : Int32), .int (-1 : Int32), .int (-1 : Int32), .int (-1 : Int32), .int (-1 : Int32), .int (0 : Int32), .int (0 : Int32), .int (0 : Int32), .int (0 : Int32), .int (0 : Int32)] := V33
  refine s_iinc (pc' := 17) (z := (11 : Int32)) (Ls' := #[rv r, iv (-1), iv 11, iv 16]) A d5_14 rfl rfl (by decide) rfl ?_
  refine s_goto (pc' := 5) A d5_17 (by decide) (by decide) ?_
  refine s_iloadN (pc' := 6) A d5_5 rfl rfl ?_
  refine s_iloadN (pc' := 7) A d5_6 rfl rfl ?_
  refine s_icmpN (pc' := 10) A d5_7 rfl (by decide) ?_
  refine s_aloadN (pc' := 11) A d5_10 rfl rfl rfl ?_
  refine s_iloadN (pc' := 12) A d5_11 rfl rfl ?_
  refine s_iloadN (pc' := 13) A d5_12 rfl rfl ?_
  refine s_iastore (pc' := 14) (i := 11) A V33 (by decide) (Nat.le_of_ble_eq_true rfl) g d5_13 rfl fun T h34 A W35 V36 => ?_
  have V36 : AA Z h34 r .int [.int (-1 : Int32), .int (-1 : Int32), .int (-1 : Int32), .int (-1 : Int32), .int (-1 : Int32), .int (-1 : Int32), .int (-1 : Int32), .int (-1 : Int32), .int (-1 : Int32), .int (-1 : Int32), .int (-1 : Int32), .int (-1 : Int32), .int (0 : Int32), .int (0 : Int32), .int (0 : Int32), .int (0 : Int32)] := V36
  refine s_iinc (pc' := 17) (z := (12 : Int32)) (Ls' := #[rv r, iv (-1), iv 12, iv 16]) A d5_14 rfl rfl (by decide) rfl ?_
  refine s_goto (pc' := 5) A d5_17 (by decide) (by decide) ?_
  refine s_iloadN (pc' := 6) A d5_5 rfl rfl ?_
  refine s_iloadN (pc' := 7) A d5_6 rfl rfl ?_
  refine s_icmpN (pc' := 10) A d5_7 rfl (by decide) ?_
  refine s_aloadN (pc' := 11) A d5_10 rfl rfl rfl ?_
  refine s_iloadN (pc' := 12) A d5_11 rfl rfl ?_
  refine s_iloadN (pc' := 13) A d5_12 rfl rfl ?_
  refine s_iastore (pc' := 14) (i := 12) A V36 (by decide) (Nat.le_of_ble_eq_true rfl) g d5_13 rfl fun T h37 A W38 V39 => ?_
  have V39 : AA Z h37 r .int [.int (-1 : Int32), .int (-1 : Int32), .int (-1 : Int32), .int (-1 : Int32), .int (-1 : Int32), .int (-1 : Int32), .int (-1 : Int32), .int (-1 : Int32), .int (-1 : Int32), .int (-1 : Int32), .int (-1 : Int32), .int (-1 : Int32), .int (-1 : Int32), .int (0 : Int32), .int (0 : Int32), .int (0 : Int32)] := V39
  refine s_iinc (pc' := 17) (z := (13 : Int32)) (Ls' := #[rv r, iv (-1), iv 13, iv 16]) A d5_14 rfl rfl (by decide) rfl ?_
  refine s_goto (pc' := 5) A d5_17 (by decide) (by decide) ?_
  refine s_iloadN (pc' := 6) A d5_5 rfl rfl ?_
  refine s_iloadN (pc' := 7) A d5_6 rfl rfl ?_
  refine s_icmpN (pc' := 10) A d5_7 rfl (by decide) ?_
  refine s_aloadN (pc' := 11) A d5_10 rfl rfl rfl ?_
  refine s_iloadN (pc' := 12) A d5_11 rfl rfl ?_
  refine s_iloadN (pc' := 13) A d5_12 rfl rfl ?_
  refine s_iastore (pc' := 14) (i := 13) A V39 (by decide) (Nat.le_of_ble_eq_true rfl) g d5_13 rfl fun T h40 A W41 V42 => ?_
  have V42 : AA Z h40 r .int [.int (-1 : Int32), .int (-1 : Int32), .int (-1 : Int32), .int (-1 : Int32), .int (-1 : Int32), .int (-1 : Int32), .int (-1 : Int32), .int (-1 : Int32), .int (-1 : Int32), .int (-1 : Int32), .int (-1 : Int32), .int (-1 : Int32), .int (-1 : Int32), .int (-1 : Int32), .int (0 : Int32), .int (0 : Int32)] := V42
  refine s_iinc (pc' := 17) (z := (14 : Int32)) (Ls' := #[rv r, iv (-1), iv 14, iv 16]) A d5_14 rfl rfl (by decide) rfl ?_
  refine s_goto (pc' := 5) A d5_17 (by decide) (by decide) ?_
  refine s_iloadN (pc' := 6) A d5_5 rfl rfl ?_
  refine s_iloadN (pc' := 7) A d5_6 rfl rfl ?_
  refine s_icmpN (pc' := 10) A d5_7 rfl (by decide) ?_
  refine s_aloadN (pc' := 11) A d5_10 rfl rfl rfl ?_
  refine s_iloadN (pc' := 12) A d5_11 rfl rfl ?_
  refine s_iloadN (pc' := 13) A d5_12 rfl rfl ?_
  refine s_iastore (pc' := 14) (i := 14) A V42 (by decide) (Nat.le_of_ble_eq_true rfl) g d5_13 rfl fun T h43 A W44 V45 => ?_
  have V45 : AA Z h43 r .int [.int (-1 : Int32), .int (-1 : Int32), .int (-1 : Int32), .int (-1 : Int32), .int (-1 : Int32), .int (-1 : Int32), .int (-1 : Int32), .int (-1 : Int32), .int (-1 : Int32), .int (-1 : Int32), .int (-1 : Int32), .int (-1 : Int32), .int (-1 : Int32), .int (-1 : Int32), .int (-1 : Int32), .int (0 : Int32)] := V45
  refine s_iinc (pc' := 17) (z := (15 : Int32)) (Ls' := #[rv r, iv (-1), iv 15, iv 16]) A d5_14 rfl rfl (by decide) rfl ?_
  refine s_goto (pc' := 5) A d5_17 (by decide) (by decide) ?_
  refine s_iloadN (pc' := 6) A d5_5 rfl rfl ?_
  refine s_iloadN (pc' := 7) A d5_6 rfl rfl ?_
  refine s_icmpN (pc' := 10) A d5_7 rfl (by decide) ?_
  refine s_aloadN (pc' := 11) A d5_10 rfl rfl rfl ?_
  refine s_iloadN (pc' := 12) A d5_11 rfl rfl ?_
  refine s_iloadN (pc' := 13) A d5_12 rfl rfl ?_
  refine s_iastore (pc' := 14) (i := 15) A V45 (by decide) (Nat.le_of_ble_eq_true rfl) g d5_13 rfl fun T h46 A W47 V48 => ?_
  have V48 : AA Z h46 r .int [.int (-1 : Int32), .int (-1 : Int32), .int (-1 : Int32), .int (-1 : Int32), .int (-1 : Int32), .int (-1 : Int32), .int (-1 : Int32), .int (-1 : Int32), .int (-1 : Int32), .int (-1 : Int32), .int (-1 : Int32), .int (-1 : Int32), .int (-1 : Int32), .int (-1 : Int32), .int (-1 : Int32), .int (-1 : Int32)] := V48
  refine s_iinc (pc' := 17) (z := (16 : Int32)) (Ls' := #[rv r, iv (-1), iv 16, iv 16]) A d5_14 rfl rfl (by decide) rfl ?_
  refine s_goto (pc' := 5) A d5_17 (by decide) (by decide) ?_
  refine s_iloadN (pc' := 6) A d5_5 rfl rfl ?_
  refine s_iloadN (pc' := 7) A d5_6 rfl rfl ?_
  refine s_icmpY (pc' := 20) A d5_7 (by decide) (by decide) (by decide) ?_
  have K49 := (((((((((((((((((Keep.refl h0 [r]).wr W2 (Or.inl (List.mem_of_getElem? (i := 0) rfl))).wr W5 (Or.inl (List.mem_of_getElem? (i := 0) rfl))).wr W8 (Or.inl (List.mem_of_getElem? (i := 0) rfl))).wr W11 (Or.inl (List.mem_of_getElem? (i := 0) rfl))).wr W14 (Or.inl (List.mem_of_getElem? (i := 0) rfl))).wr W17 (Or.inl (List.mem_of_getElem? (i := 0) rfl))).wr W20 (Or.inl (List.mem_of_getElem? (i := 0) rfl))).wr W23 (Or.inl (List.mem_of_getElem? (i := 0) rfl))).wr W26 (Or.inl (List.mem_of_getElem? (i := 0) rfl))).wr W29 (Or.inl (List.mem_of_getElem? (i := 0) rfl))).wr W32 (Or.inl (List.mem_of_getElem? (i := 0) rfl))).wr W35 (Or.inl (List.mem_of_getElem? (i := 0) rfl))).wr W38 (Or.inl (List.mem_of_getElem? (i := 0) rfl))).wr W41 (Or.inl (List.mem_of_getElem? (i := 0) rfl))).wr W44 (Or.inl (List.mem_of_getElem? (i := 0) rfl))).wr W47 (Or.inl (List.mem_of_getElem? (i := 0) rfl)))
  exact r_void A rfl d5_20 (by decide) (by decide) (⟨rfl, K49, V48⟩)
set_option maxRecDepth 65536 in
set_option maxHeartbeats 40000000 in
theorem filled (l : Launch) (Z : State) (a0 : Array Value) (hw : ∀ d ∈ tables_1, d.before a0 Z = true) (n0 : Nat) (h0 : Heap) (Z0 : n0 ≤ h0.size)   :
    Met l Z n0 y5_filled prog_75_method_7_code 2 (Option.some (Jvm.ClassFile.FieldType.array Jvm.ClassFile.FieldType.int)) ({ frames := 1, cells := 1, slots := 16, locals := 15 } : Room) #[(.int (16 : Int32))] h0 (fun v h => ∃ b, v = some (.ref b) ∧ Keep h0 h [] ∧ AA Z h b .int [.int (-1 : Int32), .int (-1 : Int32), .int (-1 : Int32), .int (-1 : Int32), .int (-1 : Int32), .int (-1 : Int32), .int (-1 : Int32), .int (-1 : Int32), .int (-1 : Int32), .int (-1 : Int32), .int (-1 : Int32), .int (-1 : Int32), .int (-1 : Int32), .int (-1 : Int32), .int (-1 : Int32), .int (-1 : Int32)] ∧ h0.size ≤ b ∧ n0 ≤ b) := by
  refine met_intro (own := c0_PositionIndex) (plainFor_of_name pn_com_example_wirefram_wirefram_sequence_PositionIndex) rfl Z0 ?_
  intro p e s m below meth c T A hnm
  refine Wp.cast (g' := mkF m 0 #[iv 16, U0] []) (by first | (simp [entryFrame, mkF, argsToLocals, Value.category, maxLocals, jv, S2, U0, iv, rv]; done) | rfl) ?_
  refine s_iloadN (pc' := 1) A d4_0 rfl rfl ?_
  refine s_newarray (pc' := 3) (aty := .int) (ty := .int) (dv := (.int (0 : Int32))) (i := 16) (cap := 16) A rfl rfl (w20 hw) (by decide) (by decide) (by decide) (by decide) (by decide) d4_1 rfl fun T h1 b2 A g3 ge4 X5 V6 => ?_
  have bo7 : h0.size ≤ b2 := le_eq (Keep.refl h0 []).1 g3
  have V6 : AA Z h1 b2 .int [.int (0 : Int32), .int (0 : Int32), .int (0 : Int32), .int (0 : Int32), .int (0 : Int32), .int (0 : Int32), .int (0 : Int32), .int (0 : Int32), .int (0 : Int32), .int (0 : Int32), .int (0 : Int32), .int (0 : Int32), .int (0 : Int32), .int (0 : Int32), .int (0 : Int32), .int (0 : Int32)] := V6
  refine s_astoreN (pc' := 4) (Ls' := #[iv 16, rv b2]) A d4_3 rfl rfl rfl ?_
  refine s_aloadN (pc' := 5) A d4_4 rfl rfl rfl ?_
  refine s_iconst (pc' := 6) (z := (-1 : Int32)) A d4_5 rfl (by decide) ?_
  refine s_static (pc' := 9) (y := y4_fill) (argsL := [(.ref b2), (.int (-1 : Int32))]) (rest := []) A (fil l Z a0 hw n0 h1 A.size b2 V6 ge4) (w21 hw) (w22 hw) (w23 hw) (w24 hw) (by decide) pd___II_V rfl (W := 0) (by decide) (by decide) (Nat.le_of_eq rfl) (by decide) (by decide) rfl rfl d4_6 rfl fun T h10 v11 A Q12 => ?_
  obtain ⟨rfl, K8, V9⟩ := Q12
  refine Wp.stk (st' := []) rfl ?_
  refine s_aloadN (pc' := 10) A d4_9 rfl rfl rfl ?_
  have K13 := (((Keep.refl h0 []).ext X5).trans K8 (allS (Or.inr bo7) all0))
  exact r_ref A rfl rfl rfl d4_10 (by decide) (by decide) (⟨b2, rfl, K13, V9, bo7, ge4⟩)
set_option maxRecDepth 65536 in
set_option maxHeartbeats 40000000 in
theorem m_init (l : Launch) (Z : State) (a0 : Array Value) (hw : ∀ d ∈ tables_1, d.before a0 Z = true) (n0 : Nat) (h0 : Heap) (Z0 : n0 ≤ h0.size) (o : Addr) (E : Exa Z h0 o "com/example/wirefram/wirefram/sequence/PositionIndex") (Fp : Fld Z h0 o "com/example/wirefram/wirefram/sequence/PositionIndex" "positions" "[J" .null) (Fn : Fld Z h0 o "com/example/wirefram/wirefram/sequence/PositionIndex" "numbers" "[I" .null) (Fs : Fld Z h0 o "com/example/wirefram/wirefram/sequence/PositionIndex" "size" "I" (.int 0)) (go : n0 ≤ o) :
    Met l Z n0 y6_init prog_75_method_1_code 1 (Option.none : Option Jvm.ClassFile.FieldType) ({ frames := 2, cells := 2, slots := 32, locals := 29 } : Room) #[(.ref o)] h0 (fun v h => v = none ∧ ∃ a b, Ix Z n0 h o a b 0 (fun _ => 0) (fun _ => -1)) := by
  refine met_intro (own := c0_PositionIndex) (plainFor_of_name pn_com_example_wirefram_wirefram_sequence_PositionIndex) rfl Z0 ?_
  intro p e s m below meth c T A hnm
  refine Wp.cast (g' := mkF m 0 #[rv o] []) (by first | (simp [entryFrame, mkF, argsToLocals, Value.category, maxLocals, jv, S2, U0, iv, rv]; done) | rfl) ?_
  refine s_aloadN (pc' := 1) A d2_0 rfl rfl rfl ?_
  refine s_initO (pc' := 4) (W := 0) A (w11 hw) (w12 hw) (w13 hw) (by decide) (Nat.le_of_eq rfl) (by decide) rfl d2_1 rfl fun T A => ?_
  refine s_aloadN (pc' := 5) A d2_4 rfl rfl rfl ?_
  refine s_bipush (pc' := 7) (z := (16 : Int32)) A d2_5 rfl (by decide) ?_
  refine s_newarray (pc' := 9) (aty := .long) (ty := .long) (dv := (.long (0 : Int64))) (i := 16) (cap := 16) A rfl rfl (w14 hw) (by decide) (by decide) (by decide) (by decide) (by decide) d2_7 rfl fun T h1 b2 A g3 ge4 X5 V6 => ?_
  have ne7 : o ≠ b2 := lt_ne E.lt g3
  have V6 : AA Z h1 b2 .long [.long (0 : Int64), .long (0 : Int64), .long (0 : Int64), .long (0 : Int64), .long (0 : Int64), .long (0 : Int64), .long (0 : Int64), .long (0 : Int64), .long (0 : Int64), .long (0 : Int64), .long (0 : Int64), .long (0 : Int64), .long (0 : Int64), .long (0 : Int64), .long (0 : Int64), .long (0 : Int64)] := V6
  have F8 := (Fp.ext X5)
  have E9 := (E.ext X5)
  refine s_putfield (pc' := 12) (host := "") A (Or.inl (w15 hw)) Via.refl F8 E9 (Or.inl (w16 hw)) (w6 hw) (ty := (.array .long)) (by decide) rfl rfl go d2_9 rfl fun T h10 A W11 => ?_
  have F12 := F8.same W11
  refine s_aloadN (pc' := 13) A d2_12 rfl rfl rfl ?_
  refine s_bipush (pc' := 15) (z := (16 : Int32)) A d2_13 rfl (by decide) ?_
  have E13 := (E9.wr W11)
  have V14 := (V6.other W11 (Ne.symm ne7))
  refine s_static (pc' := 18) (y := y5_filled) (argsL := [(.int (16 : Int32))]) (rest := [(.ref o)]) A (filled l Z a0 hw n0 h10 A.size) (w17 hw) (w18 hw) (w7 hw) (w19 hw) (by decide) pd__I__I rfl (W := 1) (by decide) (by decide) (Nat.le_of_eq rfl) (by decide) (by decide) rfl rfl d2_15 rfl fun T h20 v21 A Q22 => ?_
  obtain ⟨b19, rfl, K15, V16, g17, ge18⟩ := Q22
  have ne23 : o ≠ b19 := Nat.ne_of_lt (Nat.lt_of_lt_of_le E13.lt g17)
  have ne24 : b2 ≠ b19 := Nat.ne_of_lt (Nat.lt_of_lt_of_le V14.lt g17)
  refine Wp.stk (st' := [(.ref b19), (.ref o)]) rfl ?_
  have F25 := (((Fn.ext X5).other W11 (Or.inr (sn_PositionIndex_numbers_positions hw))).keep K15 nin0)
  have E26 := (E13.keep K15)
  refine s_putfield (pc' := 21) (host := "") A (Or.inl (w25 hw)) Via.refl F25 E26 (Or.inl (w26 hw)) (w6 hw) (ty := (.array .int)) (by decide) rfl rfl go d2_18 rfl fun T h27 A W28 => ?_
  have F29 := F25.same W28
  have E30 := (E26.wr W28)
  have F31 := ((F12.keep K15 nin0).other W28 (Or.inr (sn_PositionIndex_positions_numbers hw)))
  have F32 := ((((Fs.ext X5).other W11 (Or.inr (sn_PositionIndex_size_positions hw))).keep K15 nin0).other W28 (Or.inr (sn_PositionIndex_size_numbers hw)))
  have V33 := ((V14.keep K15 nin0).other W28 (Ne.symm ne7))
  have V34 := (V16.other W28 (Ne.symm ne23))
  exact r_void A rfl d2_21 (by decide) (by decide) (⟨rfl, b2, b19, E30, F31, F29, F32, AA.cast V33 rfl, AA.cast V34 rfl, ne7, ne23, ne24, go, ge4, ge18⟩)
set_option maxRecDepth 65536 in
set_option maxHeartbeats 40000000 in
theorem m_pos (l : Launch) (Z : State) (a0 : Array Value) (hw : ∀ d ∈ tables_1, d.before a0 Z = true) (n0 : Nat) (h0 : Heap) (Z0 : n0 ≤ h0.size) (q : Int64) (i v : Int32)  :
    Met l Z n0 y7_pos method_3_code 4 (Option.some Jvm.ClassFile.FieldType.long) ({ frames := 0, cells := 0, slots := 0, locals := 0 } : Room) #[(.long q), (.int i), (.int v)] h0 (fun v' h => v' = some (.long (posf q i v)) ∧ h = h0) := by
  refine met_intro (own := c2_PositionIndexRemovePinLaw) (plainFor_of_name pn_com_example_wirefram_wirefram_sequence_PositionIndexRemovePinLaw) rfl Z0 ?_
  intro p e s m below meth c T A hnm
  refine Wp.cast (g' := mkF m 0 #[jv q, S2, iv i, iv v] []) (by first | (simp [entryFrame, mkF, argsToLocals, Value.category, maxLocals, jv, S2, U0, iv, rv]; done) | rfl) ?_
  refine s_lloadN (pc' := 1) A d1_0 rfl rfl ?_
  refine s_iloadN (pc' := 2) A d1_1 rfl rfl ?_
  refine s_i2l (pc' := 3) (z := (i).toInt64) A d1_2 rfl rfl ?_
  refine s_ladd (pc' := 4) (z := (q + (i).toInt64)) A d1_3 rfl rfl ?_
  refine s_iconst (pc' := 5) (z := (4 : Int32)) A d1_4 rfl (by decide) ?_
  refine s_lshl (pc' := 6) (z := ((q + (i).toInt64) <<< ((4 : Int32) &&& 63).toInt64)) A d1_5 rfl rfl ?_
  refine s_iloadN (pc' := 7) A d1_6 rfl rfl ?_
  refine s_iconst (pc' := 8) (z := (4 : Int32)) A d1_7 rfl (by decide) ?_
  refine s_iloadN (pc' := 9) A d1_8 rfl rfl ?_
  refine s_imul (pc' := 10) (z := ((4 : Int32) * i)) A d1_9 rfl rfl ?_
  refine s_iushr (pc' := 11) (z := (ush v ((4 : Int32) * i))) A d1_10 rfl rfl ?_
  refine s_bipush (pc' := 13) (z := (15 : Int32)) A d1_11 rfl (by decide) ?_
  refine s_iand (pc' := 14) (z := ((ush v ((4 : Int32) * i)) &&& (15 : Int32))) A d1_13 rfl rfl ?_
  refine s_i2l (pc' := 15) (z := (((ush v ((4 : Int32) * i)) &&& (15 : Int32))).toInt64) A d1_14 rfl rfl ?_
  refine s_lor (pc' := 16) (z := (((q + (i).toInt64) <<< ((4 : Int32) &&& 63).toInt64) ||| (((ush v ((4 : Int32) * i)) &&& (15 : Int32))).toInt64)) A d1_15 rfl rfl ?_
  exact r_long A rfl d1_16 (by decide) (by decide) (⟨rfl, rfl⟩)
set_option maxRecDepth 65536 in
set_option maxHeartbeats 40000000 in
theorem m_in (l : Launch) (Z : State) (a0 : Array Value) (hw : ∀ d ∈ tables_1, d.before a0 Z = true) (n0 : Nat) (h0 : Heap) (Z0 : n0 ≤ h0.size) (t i k r v : Int32) (h1 : i < k) (h2 : ¬ i = r) (h3 : t = v + i) :
    Met l Z n0 y8_check method_4_code 6 (Option.some Jvm.ClassFile.FieldType.boolean) ({ frames := 0, cells := 0, slots := 0, locals := 0 } : Room) #[(.int t), (.int i), (.int k), (.int r), (.int v)] h0 (fun v' h => v' = some (.int 1) ∧ h = h0) := by
  refine met_intro (own := c2_PositionIndexRemovePinLaw) (plainFor_of_name pn_com_example_wirefram_wirefram_sequence_PositionIndexRemovePinLaw) rfl Z0 ?_
  intro p e s m below meth c T A hnm
  refine Wp.cast (g' := mkF m 0 #[iv t, iv i, iv k, iv r, iv v, U0] []) (by first | (simp [entryFrame, mkF, argsToLocals, Value.category, maxLocals, jv, S2, U0, iv, rv]; done) | rfl) ?_
  refine s_iloadN (pc' := 1) A d10_0 rfl rfl ?_
  refine s_iloadN (pc' := 2) A d10_1 rfl rfl ?_
  refine s_icmpN (pc' := 5) A d10_2 rfl (tlt h1).2.1 ?_
  refine s_iloadN (pc' := 6) A d10_5 rfl rfl ?_
  refine s_iloadN (pc' := 7) A d10_6 rfl rfl ?_
  refine s_icmpN (pc' := 10) A d10_7 rfl (feq h2).1 ?_
  refine s_iload (pc' := 12) A d10_10 rfl rfl ?_
  refine s_iloadN (pc' := 13) A d10_12 rfl rfl ?_
  refine s_iadd (pc' := 14) (z := (v + i)) A d10_13 rfl rfl ?_
  refine s_goto (pc' := 18) A d10_14 (by decide) (by decide) ?_
  refine s_istore (pc' := 20) (Ls' := #[iv t, iv i, iv k, iv r, iv v, iv (v + i)]) A d10_18 rfl rfl ?_
  refine s_iloadN (pc' := 21) A d10_20 rfl rfl ?_
  refine s_iload (pc' := 23) A d10_21 rfl rfl ?_
  refine s_icmpN (pc' := 26) A d10_23 rfl (teq h3).2 ?_
  refine s_iconst (pc' := 27) (z := (1 : Int32)) A d10_26 rfl (by decide) ?_
  refine s_goto (pc' := 31) A d10_27 (by decide) (by decide) ?_
  exact r_bool A rfl (by decide) d10_31 (by decide) (by decide) (⟨rfl, rfl⟩)
set_option maxRecDepth 65536 in
set_option maxHeartbeats 40000000 in
theorem m_out (l : Launch) (Z : State) (a0 : Array Value) (hw : ∀ d ∈ tables_1, d.before a0 Z = true) (n0 : Nat) (h0 : Heap) (Z0 : n0 ≤ h0.size) (t i k r v : Int32) (h1 : ¬ i < k ∨ i = r) (h3 : t = -1) :
    Met l Z n0 y8_check method_4_code 6 (Option.some Jvm.ClassFile.FieldType.boolean) ({ frames := 0, cells := 0, slots := 0, locals := 0 } : Room) #[(.int t), (.int i), (.int k), (.int r), (.int v)] h0 (fun v' h => v' = some (.int 1) ∧ h = h0) := by
  refine met_intro (own := c2_PositionIndexRemovePinLaw) (plainFor_of_name pn_com_example_wirefram_wirefram_sequence_PositionIndexRemovePinLaw) rfl Z0 ?_
  intro p e s m below meth c T A hnm
  refine Wp.cast (g' := mkF m 0 #[iv t, iv i, iv k, iv r, iv v, U0] []) (by first | (simp [entryFrame, mkF, argsToLocals, Value.category, maxLocals, jv, S2, U0, iv, rv]; done) | rfl) ?_
  refine s_iloadN (pc' := 1) A d10_0 rfl rfl ?_
  refine s_iloadN (pc' := 2) A d10_1 rfl rfl ?_
  by_cases hc2_1 : i < k
  ·
   refine s_icmpN (pc' := 5) A d10_2 rfl (tlt hc2_1).2.1 ?_
   refine s_iloadN (pc' := 6) A d10_5 rfl rfl ?_
   refine s_iloadN (pc' := 7) A d10_6 rfl rfl ?_
   refine s_icmpY (pc' := 17) A d10_7 (teq (h1.resolve_left (fun q => q hc2_1))).1 (by decide) (by decide) ?_
   refine s_iconst (pc' := 18) (z := (-1 : Int32)) A d10_17 rfl (by decide) ?_
   refine s_istore (pc' := 20) (Ls' := #[iv t, iv i, iv k, iv r, iv v, iv (-1)]) A d10_18 rfl rfl ?_
   refine s_iloadN (pc' := 21) A d10_20 rfl rfl ?_
   refine s_iload (pc' := 23) A d10_21 rfl rfl ?_
   refine s_icmpN (pc' := 26) A d10_23 rfl (teq h3).2 ?_
   refine s_iconst (pc' := 27) (z := (1 : Int32)) A d10_26 rfl (by decide) ?_
   refine s_goto (pc' := 31) A d10_27 (by decide) (by decide) ?_
   exact r_bool A rfl (by decide) d10_31 (by decide) (by decide) (⟨rfl, rfl⟩)
  ·
   refine s_icmpY (pc' := 17) A d10_2 (flt hc2_1).2.1 (by decide) (by decide) ?_
   refine s_iconst (pc' := 18) (z := (-1 : Int32)) A d10_17 rfl (by decide) ?_
   refine s_istore (pc' := 20) (Ls' := #[iv t, iv i, iv k, iv r, iv v, iv (-1)]) A d10_18 rfl rfl ?_
   refine s_iloadN (pc' := 21) A d10_20 rfl rfl ?_
   refine s_iload (pc' := 23) A d10_21 rfl rfl ?_
   refine s_icmpN (pc' := 26) A d10_23 rfl (teq h3).2 ?_
   refine s_iconst (pc' := 27) (z := (1 : Int32)) A d10_26 rfl (by decide) ?_
   refine s_goto (pc' := 31) A d10_27 (by decide) (by decide) ?_
   exact r_bool A rfl (by decide) d10_31 (by decide) (by decide) (⟨rfl, rfl⟩)
theorem own_m4 (x : Int32) : (x &&& (3 : Int32)) = 0 ∨ (x &&& (3 : Int32)) = 1 ∨ (x &&& (3 : Int32)) = 2 ∨ (x &&& (3 : Int32)) = 3 := by
  have e := c_mask x (3 : Int32) 2 (by decide) (by decide)
  have q : (x &&& (3 : Int32)).toInt = 0 ∨ (x &&& (3 : Int32)).toInt = 1 ∨ (x &&& (3 : Int32)).toInt = 2 ∨ (x &&& (3 : Int32)).toInt = 3 := by omega
  rcases q with q | q | q | q
  · exact Or.inl (Int32.toInt_inj.mp (q.trans (by decide)))
  · exact Or.inr (Or.inl (Int32.toInt_inj.mp (q.trans (by decide))))
  · exact Or.inr (Or.inr (Or.inl (Int32.toInt_inj.mp (q.trans (by decide)))))
  · exact Or.inr (Or.inr (Or.inr (Int32.toInt_inj.mp (q.trans (by decide)))))
theorem own_r5 (x : Int32) : ((ush x (2 : Int32)) % (5 : Int32)) = 0 ∨ ((ush x (2 : Int32)) % (5 : Int32)) = 1 ∨ ((ush x (2 : Int32)) % (5 : Int32)) = 2 ∨ ((ush x (2 : Int32)) % (5 : Int32)) = 3 ∨ ((ush x (2 : Int32)) % (5 : Int32)) = 4 := by
  have _ := rng32 x
  have _ : (2 : Int32).toInt = 2 := (by decide)
  have _ := rng32 (ush x (2 : Int32))
  have _ : (ush x (2 : Int32)).toInt = (x.toInt % 4294967296) / 4 := c_iushr x (2 : Int32) 2 (by decide) (by decide)
  have _ : (5 : Int32).toInt = 5 := (by decide)
  have _ := rng32 ((ush x (2 : Int32)) % (5 : Int32))
  have _ := c_irem (ush x (2 : Int32)) (5 : Int32) 5 (by decide)
  have q : ((ush x (2 : Int32)) % (5 : Int32)).toInt = 0 ∨ ((ush x (2 : Int32)) % (5 : Int32)).toInt = 1 ∨ ((ush x (2 : Int32)) % (5 : Int32)).toInt = 2 ∨ ((ush x (2 : Int32)) % (5 : Int32)).toInt = 3 ∨ ((ush x (2 : Int32)) % (5 : Int32)).toInt = 4 := by omega
  rcases q with q | q | q | q | q
  · exact Or.inl (Int32.toInt_inj.mp (q.trans (by decide)))
  · exact Or.inr (Or.inl (Int32.toInt_inj.mp (q.trans (by decide))))
  · exact Or.inr (Or.inr (Or.inl (Int32.toInt_inj.mp (q.trans (by decide)))))
  · exact Or.inr (Or.inr (Or.inr (Or.inl (Int32.toInt_inj.mp (q.trans (by decide))))))
  · exact Or.inr (Or.inr (Or.inr (Or.inr (Int32.toInt_inj.mp (q.trans (by decide))))))
theorem pn_0_1 (b : Int64) (s : Int32) : (posf b (0 : Int32) s = posf b (1 : Int32) s) = False := eq_false (own_pne b 0 1 s 0 1 (by decide) (by decide) (by decide) (by decide) (by decide))
theorem pn_0_2 (b : Int64) (s : Int32) : (posf b (0 : Int32) s = posf b (2 : Int32) s) = False := eq_false (own_pne b 0 2 s 0 2 (by decide) (by decide) (by decide) (by decide) (by decide))
theorem pn_0_3 (b : Int64) (s : Int32) : (posf b (0 : Int32) s = posf b (3 : Int32) s) = False := eq_false (own_pne b 0 3 s 0 3 (by decide) (by decide) (by decide) (by decide) (by decide))
theorem pn_0_4 (b : Int64) (s : Int32) : (posf b (0 : Int32) s = posf b (4 : Int32) s) = False := eq_false (own_pne b 0 4 s 0 4 (by decide) (by decide) (by decide) (by decide) (by decide))
theorem pn_1_0 (b : Int64) (s : Int32) : (posf b (1 : Int32) s = posf b (0 : Int32) s) = False := eq_false (own_pne b 1 0 s 1 0 (by decide) (by decide) (by decide) (by decide) (by decide))
theorem pn_1_2 (b : Int64) (s : Int32) : (posf b (1 : Int32) s = posf b (2 : Int32) s) = False := eq_false (own_pne b 1 2 s 1 2 (by decide) (by decide) (by decide) (by decide) (by decide))
theorem pn_1_3 (b : Int64) (s : Int32) : (posf b (1 : Int32) s = posf b (3 : Int32) s) = False := eq_false (own_pne b 1 3 s 1 3 (by decide) (by decide) (by decide) (by decide) (by decide))
theorem pn_1_4 (b : Int64) (s : Int32) : (posf b (1 : Int32) s = posf b (4 : Int32) s) = False := eq_false (own_pne b 1 4 s 1 4 (by decide) (by decide) (by decide) (by decide) (by decide))
theorem pn_2_0 (b : Int64) (s : Int32) : (posf b (2 : Int32) s = posf b (0 : Int32) s) = False := eq_false (own_pne b 2 0 s 2 0 (by decide) (by decide) (by decide) (by decide) (by decide))
theorem pn_2_1 (b : Int64) (s : Int32) : (posf b (2 : Int32) s = posf b (1 : Int32) s) = False := eq_false (own_pne b 2 1 s 2 1 (by decide) (by decide) (by decide) (by decide) (by decide))
theorem pn_2_3 (b : Int64) (s : Int32) : (posf b (2 : Int32) s = posf b (3 : Int32) s) = False := eq_false (own_pne b 2 3 s 2 3 (by decide) (by decide) (by decide) (by decide) (by decide))
theorem pn_2_4 (b : Int64) (s : Int32) : (posf b (2 : Int32) s = posf b (4 : Int32) s) = False := eq_false (own_pne b 2 4 s 2 4 (by decide) (by decide) (by decide) (by decide) (by decide))
theorem pn_3_0 (b : Int64) (s : Int32) : (posf b (3 : Int32) s = posf b (0 : Int32) s) = False := eq_false (own_pne b 3 0 s 3 0 (by decide) (by decide) (by decide) (by decide) (by decide))
theorem pn_3_1 (b : Int64) (s : Int32) : (posf b (3 : Int32) s = posf b (1 : Int32) s) = False := eq_false (own_pne b 3 1 s 3 1 (by decide) (by decide) (by decide) (by decide) (by decide))
theorem pn_3_2 (b : Int64) (s : Int32) : (posf b (3 : Int32) s = posf b (2 : Int32) s) = False := eq_false (own_pne b 3 2 s 3 2 (by decide) (by decide) (by decide) (by decide) (by decide))
theorem pn_3_4 (b : Int64) (s : Int32) : (posf b (3 : Int32) s = posf b (4 : Int32) s) = False := eq_false (own_pne b 3 4 s 3 4 (by decide) (by decide) (by decide) (by decide) (by decide))
theorem pn_4_0 (b : Int64) (s : Int32) : (posf b (4 : Int32) s = posf b (0 : Int32) s) = False := eq_false (own_pne b 4 0 s 4 0 (by decide) (by decide) (by decide) (by decide) (by decide))
theorem pn_4_1 (b : Int64) (s : Int32) : (posf b (4 : Int32) s = posf b (1 : Int32) s) = False := eq_false (own_pne b 4 1 s 4 1 (by decide) (by decide) (by decide) (by decide) (by decide))
theorem pn_4_2 (b : Int64) (s : Int32) : (posf b (4 : Int32) s = posf b (2 : Int32) s) = False := eq_false (own_pne b 4 2 s 4 2 (by decide) (by decide) (by decide) (by decide) (by decide))
theorem pn_4_3 (b : Int64) (s : Int32) : (posf b (4 : Int32) s = posf b (3 : Int32) s) = False := eq_false (own_pne b 4 3 s 4 3 (by decide) (by decide) (by decide) (by decide) (by decide))
theorem own_nb0 (x : Int32) : ((ush x (8 : Int32)) &&& (65535 : Int32)) ≠ -1 := by
  have _ := rng32 x
  have _ : (8 : Int32).toInt = 8 := (by decide)
  have _ := rng32 (ush x (8 : Int32))
  have _ : (ush x (8 : Int32)).toInt = (x.toInt % 4294967296) / 256 := c_iushr x (8 : Int32) 8 (by decide) (by decide)
  have _ : (65535 : Int32).toInt = 65535 := (by decide)
  have _ := rng32 ((ush x (8 : Int32)) &&& (65535 : Int32))
  have _ : ((ush x (8 : Int32)) &&& (65535 : Int32)).toInt = (ush x (8 : Int32)).toInt % 65536 := c_mask (ush x (8 : Int32)) (65535 : Int32) 16 (by decide) (by decide)
  intro q
  have q1 := congrArg Int32.toInt q
  have q2 : (-1 : Int32).toInt = -1 := by decide
  omega
theorem own_nb1 (x : Int32) : (((ush x (8 : Int32)) &&& (65535 : Int32)) + (1 : Int32)) ≠ -1 := by
  have _ := rng32 x
  have _ : (8 : Int32).toInt = 8 := (by decide)
  have _ := rng32 (ush x (8 : Int32))
  have _ : (ush x (8 : Int32)).toInt = (x.toInt % 4294967296) / 256 := c_iushr x (8 : Int32) 8 (by decide) (by decide)
  have _ : (65535 : Int32).toInt = 65535 := (by decide)
  have _ := rng32 ((ush x (8 : Int32)) &&& (65535 : Int32))
  have _ : ((ush x (8 : Int32)) &&& (65535 : Int32)).toInt = (ush x (8 : Int32)).toInt % 65536 := c_mask (ush x (8 : Int32)) (65535 : Int32) 16 (by decide) (by decide)
  have _ : (1 : Int32).toInt = 1 := (by decide)
  have _ := rng32 (((ush x (8 : Int32)) &&& (65535 : Int32)) + (1 : Int32))
  have _ := c_iadd ((ush x (8 : Int32)) &&& (65535 : Int32)) (1 : Int32)
  intro q
  have q1 := congrArg Int32.toInt q
  have q2 : (-1 : Int32).toInt = -1 := by decide
  omega
theorem own_nb2 (x : Int32) : (((ush x (8 : Int32)) &&& (65535 : Int32)) + (2 : Int32)) ≠ -1 := by
  have _ := rng32 x
  have _ : (8 : Int32).toInt = 8 := (by decide)
  have _ := rng32 (ush x (8 : Int32))
  have _ : (ush x (8 : Int32)).toInt = (x.toInt % 4294967296) / 256 := c_iushr x (8 : Int32) 8 (by decide) (by decide)
  have _ : (65535 : Int32).toInt = 65535 := (by decide)
  have _ := rng32 ((ush x (8 : Int32)) &&& (65535 : Int32))
  have _ : ((ush x (8 : Int32)) &&& (65535 : Int32)).toInt = (ush x (8 : Int32)).toInt % 65536 := c_mask (ush x (8 : Int32)) (65535 : Int32) 16 (by decide) (by decide)
  have _ : (2 : Int32).toInt = 2 := (by decide)
  have _ := rng32 (((ush x (8 : Int32)) &&& (65535 : Int32)) + (2 : Int32))
  have _ := c_iadd ((ush x (8 : Int32)) &&& (65535 : Int32)) (2 : Int32)
  intro q
  have q1 := congrArg Int32.toInt q
  have q2 : (-1 : Int32).toInt = -1 := by decide
  omega
theorem own_nb3 (x : Int32) : (((ush x (8 : Int32)) &&& (65535 : Int32)) + (3 : Int32)) ≠ -1 := by
  have _ := rng32 x
  have _ : (8 : Int32).toInt = 8 := (by decide)
  have _ := rng32 (ush x (8 : Int32))
  have _ : (ush x (8 : Int32)).toInt = (x.toInt % 4294967296) / 256 := c_iushr x (8 : Int32) 8 (by decide) (by decide)
  have _ : (65535 : Int32).toInt = 65535 := (by decide)
  have _ := rng32 ((ush x (8 : Int32)) &&& (65535 : Int32))
  have _ : ((ush x (8 : Int32)) &&& (65535 : Int32)).toInt = (ush x (8 : Int32)).toInt % 65536 := c_mask (ush x (8 : Int32)) (65535 : Int32) 16 (by decide) (by decide)
  have _ : (3 : Int32).toInt = 3 := (by decide)
  have _ := rng32 (((ush x (8 : Int32)) &&& (65535 : Int32)) + (3 : Int32))
  have _ := c_iadd ((ush x (8 : Int32)) &&& (65535 : Int32)) (3 : Int32)
  intro q
  have q1 := congrArg Int32.toInt q
  have q2 : (-1 : Int32).toInt = -1 := by decide
  omega
set_option maxRecDepth 65536 in
set_option maxHeartbeats 40000000 in
theorem rm0 (l : Launch) (Z : State) (a0 : Array Value) (hw : ∀ d ∈ tables_1, d.before a0 Z = true) (n0 : Nat) (h0 : Heap) (Z0 : n0 ≤ h0.size) (q0 : Int64) (q1 q2 : Int32)  :
    Met l Z n0 x code maxLocals ret room_1 #[(.long q0), (.int q1), (.int q2)] h0 (fun v h => v = some (.int 1)) := by
  refine met_intro (own := c2_PositionIndexRemovePinLaw) (plainFor_of_name pn_com_example_wirefram_wirefram_sequence_PositionIndexRemovePinLaw) rfl Z0 ?_
  intro p e s m below meth c T A hnm
  refine Wp.cast (g' := mkF m 0 #[jv q0, S2, iv q1, iv q2, U0, U0, U0, U0, U0, U0, U0, U0, U0, U0, U0, U0, U0, U0, U0, U0] []) (by first | (simp [entryFrame, mkF, argsToLocals, Value.category, maxLocals, jv, S2, U0, iv, rv]; done) | rfl) ?_
  refine s_lloadN (pc' := 1) A at_0 rfl rfl ?_
  refine s_iconst (pc' := 2) (z := (0 : Int32)) A at_1 rfl (by decide) ?_
  refine s_iloadN (pc' := 3) A at_2 rfl rfl ?_
  refine s_static (pc' := 6) (y := y7_pos) (argsL := [(.long q0), (.int (0 : Int32)), (.int q1)]) (rest := []) A (m_pos l Z a0 hw n0 h0 A.size q0 (0 : Int32) q1) (w0 hw) (w1 hw) (w2 hw) (w3 hw) (by decide) pd__JII_J rfl (W := 0) (by decide) (by decide) (Nat.le_of_eq rfl) (by decide) (by decide) rfl rfl at_3 rfl fun T h1 v2 A Q3 => ?_
  obtain ⟨rfl, eh⟩ := Q3
  rw [eh] at A
  refine Wp.stk (st' := [(.long (posf q0 (0 : Int32) q1))]) rfl ?_
  refine s_lstore (pc' := 8) (Ls' := #[jv q0, S2, iv q1, iv q2, jv (posf q0 (0 : Int32) q1), S2, U0, U0, U0, U0, U0, U0, U0, U0, U0, U0, U0, U0, U0, U0]) A at_6 rfl rfl ?_
  refine s_lloadN (pc' := 9) A at_8 rfl rfl ?_
  refine s_iconst (pc' := 10) (z := (1 : Int32)) A at_9 rfl (by decide) ?_
  refine s_iloadN (pc' := 11) A at_10 rfl rfl ?_
  refine s_static (pc' := 14) (y := y7_pos) (argsL := [(.long q0), (.int (1 : Int32)), (.int q1)]) (rest := []) A (m_pos l Z a0 hw n0 h0 A.size q0 (1 : Int32) q1) (w0 hw) (w1 hw) (w2 hw) (w3 hw) (by decide) pd__JII_J rfl (W := 0) (by decide) (by decide) (Nat.le_of_eq rfl) (by decide) (by decide) rfl rfl at_11 rfl fun T h4 v5 A Q6 => ?_
  obtain ⟨rfl, eh⟩ := Q6
  rw [eh] at A
  refine Wp.stk (st' := [(.long (posf q0 (1 : Int32) q1))]) rfl ?_
  refine s_lstore (pc' := 16) (Ls' := #[jv q0, S2, iv q1, iv q2, jv (posf q0 (0 : Int32) q1), S2, jv (posf q0 (1 : Int32) q1), S2, U0, U0, U0, U0, U0, U0, U0, U0, U0, U0, U0, U0]) A at_14 rfl rfl ?_
  refine s_lloadN (pc' := 17) A at_16 rfl rfl ?_
  refine s_iconst (pc' := 18) (z := (2 : Int32)) A at_17 rfl (by decide) ?_
  refine s_iloadN (pc' := 19) A at_18 rfl rfl ?_
  refine s_static (pc' := 22) (y := y7_pos) (argsL := [(.long q0), (.int (2 : Int32)), (.int q1)]) (rest := []) A (m_pos l Z a0 hw n0 h0 A.size q0 (2 : Int32) q1) (w0 hw) (w1 hw) (w2 hw) (w3 hw) (by decide) pd__JII_J rfl (W := 0) (by decide) (by decide) (Nat.le_of_eq rfl) (by decide) (by decide) rfl rfl at_19 rfl fun T h7 v8 A Q9 => ?_
  obtain ⟨rfl, eh⟩ := Q9
  rw [eh] at A
  refine Wp.stk (st' := [(.long (posf q0 (2 : Int32) q1))]) rfl ?_
  refine s_lstore (pc' := 24) (Ls' := #[jv q0, S2, iv q1, iv q2, jv (posf q0 (0 : Int32) q1), S2, jv (posf q0 (1 : Int32) q1), S2, jv (posf q0 (2 : Int32) q1), S2, U0, U0, U0, U0, U0, U0, U0, U0, U0, U0]) A at_22 rfl rfl ?_
  refine s_lloadN (pc' := 25) A at_24 rfl rfl ?_
  refine s_iconst (pc' := 26) (z := (3 : Int32)) A at_25 rfl (by decide) ?_
  refine s_iloadN (pc' := 27) A at_26 rfl rfl ?_
  refine s_static (pc' := 30) (y := y7_pos) (argsL := [(.long q0), (.int (3 : Int32)), (.int q1)]) (rest := []) A (m_pos l Z a0 hw n0 h0 A.size q0 (3 : Int32) q1) (w0 hw) (w1 hw) (w2 hw) (w3 hw) (by decide) pd__JII_J rfl (W := 0) (by decide) (by decide) (Nat.le_of_eq rfl) (by decide) (by decide) rfl rfl at_27 rfl fun T h10 v11 A Q12 => ?_
  obtain ⟨rfl, eh⟩ := Q12
  rw [eh] at A
  refine Wp.stk (st' := [(.long (posf q0 (3 : Int32) q1))]) rfl ?_
  refine s_lstore (pc' := 32) (Ls' := #[jv q0, S2, iv q1, iv q2, jv (posf q0 (0 : Int32) q1), S2, jv (posf q0 (1 : Int32) q1), S2, jv (posf q0 (2 : Int32) q1), S2, jv (posf q0 (3 : Int32) q1), S2, U0, U0, U0, U0, U0, U0, U0, U0]) A at_30 rfl rfl ?_
  refine s_lloadN (pc' := 33) A at_32 rfl rfl ?_
  refine s_iconst (pc' := 34) (z := (4 : Int32)) A at_33 rfl (by decide) ?_
  refine s_iloadN (pc' := 35) A at_34 rfl rfl ?_
  refine s_static (pc' := 38) (y := y7_pos) (argsL := [(.long q0), (.int (4 : Int32)), (.int q1)]) (rest := []) A (m_pos l Z a0 hw n0 h0 A.size q0 (4 : Int32) q1) (w0 hw) (w1 hw) (w2 hw) (w3 hw) (by decide) pd__JII_J rfl (W := 0) (by decide) (by decide) (Nat.le_of_eq rfl) (by decide) (by decide) rfl rfl at_35 rfl fun T h13 v14 A Q15 => ?_
  obtain ⟨rfl, eh⟩ := Q15
  rw [eh] at A
  refine Wp.stk (st' := [(.long (posf q0 (4 : Int32) q1))]) rfl ?_
  refine s_lstore (pc' := 40) (Ls' := #[jv q0, S2, iv q1, iv q2, jv (posf q0 (0 : Int32) q1), S2, jv (posf q0 (1 : Int32) q1), S2, jv (posf q0 (2 : Int32) q1), S2, jv (posf q0 (3 : Int32) q1), S2, jv (posf q0 (4 : Int32) q1), S2, U0, U0, U0, U0, U0, U0]) A at_38 rfl rfl ?_
  refine s_iloadN (pc' := 41) A at_40 rfl rfl ?_
  refine s_iconst (pc' := 42) (z := (3 : Int32)) A at_41 rfl (by decide) ?_
  obtain ⟨kk, hkk⟩ : ∃ z, z = (q2 &&& (3 : Int32)) := ⟨_, rfl⟩
  have ck := own_m4 q2
  rw [← hkk] at ck
  rcases ck with rfl | rfl | rfl | rfl
  ·
   refine s_iand (pc' := 43) (z := (0 : Int32)) A at_42 rfl hkk.symm ?_
   refine s_iconst (pc' := 44) (z := (1 : Int32)) A at_43 rfl (by decide) ?_
   refine s_iadd (pc' := 45) (z := (1 : Int32)) A at_44 rfl (by decide) ?_
   refine s_istore (pc' := 47) (Ls' := #[jv q0, S2, iv q1, iv q2, jv (posf q0 (0 : Int32) q1), S2, jv (posf q0 (1 : Int32) q1), S2, jv (posf q0 (2 : Int32) q1), S2, jv (posf q0 (3 : Int32) q1), S2, jv (posf q0 (4 : Int32) q1), S2, iv 1, U0, U0, U0, U0, U0]) A at_45 rfl rfl ?_
   refine s_iloadN (pc' := 48) A at_47 rfl rfl ?_
   refine s_iconst (pc' := 49) (z := (2 : Int32)) A at_48 rfl (by decide) ?_
   refine s_iushr (pc' := 50) (z := (ush q2 (2 : Int32))) A at_49 rfl rfl ?_
   refine s_iconst (pc' := 51) (z := (5 : Int32)) A at_50 rfl (by decide) ?_
   obtain ⟨rr, hrr⟩ : ∃ z, z = ((ush q2 (2 : Int32)) % (5 : Int32)) := ⟨_, rfl⟩
   have cr := own_r5 q2
   rw [← hrr] at cr
   rcases cr with rfl | rfl | rfl | rfl | rfl
   ·
    refine s_irem (pc' := 52) (z := (0 : Int32)) A at_51 rfl (by decide) hrr.symm ?_
    refine s_istore (pc' := 54) (Ls' := #[jv q0, S2, iv q1, iv q2, jv (posf q0 (0 : Int32) q1), S2, jv (posf q0 (1 : Int32) q1), S2, jv (posf q0 (2 : Int32) q1), S2, jv (posf q0 (3 : Int32) q1), S2, jv (posf q0 (4 : Int32) q1), S2, iv 1, iv 0, U0, U0, U0, U0]) A at_52 rfl rfl ?_
    refine s_iloadN (pc' := 55) A at_54 rfl rfl ?_
    refine s_bipush (pc' := 57) (z := (8 : Int32)) A at_55 rfl (by decide) ?_
    refine s_iushr (pc' := 58) (z := (ush q2 (8 : Int32))) A at_57 rfl rfl ?_
    refine s_ldcInt (pc' := 60) A at_58 rfl (w4 hw) ?_
    refine s_iand (pc' := 61) (z := ((ush q2 (8 : Int32)) &&& (65535 : Int32))) A at_60 rfl rfl ?_
    refine s_istore (pc' := 63) (Ls' := #[jv q0, S2, iv q1, iv q2, jv (posf q0 (0 : Int32) q1), S2, jv (posf q0 (1 : Int32) q1), S2, jv (posf q0 (2 : Int32) q1), S2, jv (posf q0 (3 : Int32) q1), S2, jv (posf q0 (4 : Int32) q1), S2, iv 1, iv 0, iv ((ush q2 (8 : Int32)) &&& (65535 : Int32)), U0, U0, U0]) A at_61 rfl rfl ?_
    refine s_new (pc' := 66) A (w5 hw) (w6 hw) (w7 hw) (by decide) (by decide) at_63 rfl fun T h16 b17 A g18 ge19 X20 E21 D22 => ?_
    have F23 : Fld Z h16 b17 "com/example/wirefram/wirefram/sequence/PositionIndex" "positions" "[J" .null := D22 (Or.inl (w16 hw)) (ty := (.array .long)) (by decide)
    have F24 : Fld Z h16 b17 "com/example/wirefram/wirefram/sequence/PositionIndex" "numbers" "[I" .null := D22 (Or.inl (w26 hw)) (ty := (.array .int)) (by decide)
    have F25 : Fld Z h16 b17 "com/example/wirefram/wirefram/sequence/PositionIndex" "size" "I" (.int (0 : Int32)) := D22 (Or.inl (w33 hw)) (ty := .int) (by decide)
    refine s_dup (pc' := 67) A at_66 rfl rfl ?_
    refine s_special (pc' := 70) (y := y6_init) (argsL := []) (rest := [(.ref b17)]) A (m_init l Z a0 hw n0 h16 A.size b17 E21 F23 F24 F25 ge19) rfl (w8 hw) (w9 hw) (w7 hw) (w10 hw) (by decide) pd___V rfl (W := 1) (by decide) (by decide) (Nat.le_of_eq rfl) (by decide) (by decide) rfl rfl at_67 rfl fun T h29 v30 A Q31 => ?_
    obtain ⟨rfl, a26, b27, H28⟩ := Q31
    refine Wp.stk (st' := [(.ref b17)]) rfl ?_
    refine s_astore (pc' := 72) (Ls' := #[jv q0, S2, iv q1, iv q2, jv (posf q0 (0 : Int32) q1), S2, jv (posf q0 (1 : Int32) q1), S2, jv (posf q0 (2 : Int32) q1), S2, jv (posf q0 (3 : Int32) q1), S2, jv (posf q0 (4 : Int32) q1), S2, iv 1, iv 0, iv ((ush q2 (8 : Int32)) &&& (65535 : Int32)), rv b17, U0, U0]) A at_70 rfl rfl rfl ?_
    refine s_aload (pc' := 74) A at_72 rfl rfl rfl ?_
    refine s_lload (pc' := 76) A at_74 rfl rfl ?_
    refine s_iload (pc' := 78) A at_76 rfl rfl ?_
    obtain ⟨fr37, fr37a, fr37b⟩ := Free.ex (c := 15) own_free0
    refine s_virtual (pc' := 81) (y := y2_put) (argsL := [(.long (posf q0 (0 : Int32) q1)), (.int ((ush q2 (8 : Int32)) &&& (65535 : Int32)))]) (rest := []) (z := y2_put) A H28.1 (m_put l Z a0 hw n0 h29 A.size b17 a26 b27 0 (fun _ => 0) (fun _ => -1) (fun _ => -1) H28 (posf q0 (0 : Int32) q1) ((ush q2 (8 : Int32)) &&& (65535 : Int32)) 1 (own_tab0 (fun _ => 0)) fr37 fr37a fr37b (own_nb0 q2) rfl (by decide) (by decide)) (w27 hw) (w28 hw) (nf_same (C := "") (w30 hw)) (w30 hw) (w29 hw) (w7 hw) (w31 hw) (by decide) pd__JI_V rfl (W := 0) (by decide) (by decide) (Nat.le_of_eq rfl) (by decide) (by decide) rfl rfl at_78 rfl fun T h38 v39 A Q40 => ?_
    obtain ⟨rfl, P32, N33, H34, HT35, FR36⟩ := Q40
    have FR36 := FR36 15 own_free0
    refine Wp.stk (st' := []) rfl ?_
    refine s_iload (pc' := 83) A at_81 rfl rfl ?_
    refine s_iconst (pc' := 84) (z := (1 : Int32)) A at_83 rfl (by decide) ?_
    refine s_icmpY (pc' := 98) A at_84 (by decide) (by decide) (by decide) ?_
    refine s_iload (pc' := 100) A at_98 rfl rfl ?_
    refine s_iconst (pc' := 101) (z := (2 : Int32)) A at_100 rfl (by decide) ?_
    refine s_icmpY (pc' := 115) A at_101 (by decide) (by decide) (by decide) ?_
    refine s_iload (pc' := 117) A at_115 rfl rfl ?_
    refine s_iconst (pc' := 118) (z := (3 : Int32)) A at_117 rfl (by decide) ?_
    refine s_icmpY (pc' := 132) A at_118 (by decide) (by decide) (by decide) ?_
    refine s_iload (pc' := 134) A at_132 rfl rfl ?_
    refine s_ifN (pc' := 137) A at_134 rfl (by decide) ?_
    refine s_lload (pc' := 139) A at_137 rfl rfl ?_
    refine s_goto (pc' := 177) A at_139 (by decide) (by decide) ?_
    refine s_lstore (pc' := 179) (Ls' := #[jv q0, S2, iv q1, iv q2, jv (posf q0 (0 : Int32) q1), S2, jv (posf q0 (1 : Int32) q1), S2, jv (posf q0 (2 : Int32) q1), S2, jv (posf q0 (3 : Int32) q1), S2, jv (posf q0 (4 : Int32) q1), S2, iv 1, iv 0, iv ((ush q2 (8 : Int32)) &&& (65535 : Int32)), rv b17, jv (posf q0 (0 : Int32) q1), S2]) A at_177 rfl rfl ?_
    refine s_aload (pc' := 181) A at_179 rfl rfl rfl ?_
    refine s_lload (pc' := 183) A at_181 rfl rfl ?_
    obtain ⟨fr47, fr47a, fr47b⟩ := Free.ex (c := 14) FR36
    refine s_virtual (pc' := 186) (y := y3_remove) (argsL := [(.long (posf q0 (0 : Int32) q1))]) (rest := []) (z := y3_remove) A H34.1 (m_rem l Z a0 hw n0 h38 A.size b17 a26 b27 1 P32 N33 (fun r => if r = (posf q0 (0 : Int32) q1) then ((ush q2 (8 : Int32)) &&& (65535 : Int32)) else (fun _ => -1) r) (posf q0 (0 : Int32) q1) H34 HT35 fr47 fr47a fr47b) (w38 hw) (w39 hw) (nf_same (C := "") (w41 hw)) (w41 hw) (w40 hw) (w7 hw) (w42 hw) (by decide) pd__J_V rfl (W := 0) (by decide) (by decide) (Nat.le_of_eq rfl) (by decide) (by decide) rfl rfl at_183 rfl fun T h48 v49 A Q50 => ?_
    obtain ⟨rfl, P41, N42, z43, H44, HT45, f46, f46a, f46b⟩ := Q50
    refine Wp.stk (st' := []) rfl ?_
    refine s_aload (pc' := 188) A at_186 rfl rfl rfl ?_
    refine s_lload (pc' := 190) A at_188 rfl rfl ?_
    refine s_virtual (pc' := 193) (y := y0_get) (argsL := [(.long (posf q0 (0 : Int32) q1))]) (rest := []) (z := y0_get) A H44.1 (m_get l Z a0 hw n0 h48 A.size b17 a26 b27 z43 P41 N42 (fun r => if r = (posf q0 (0 : Int32) q1) then -1 else (fun r => if r = (posf q0 (0 : Int32) q1) then ((ush q2 (8 : Int32)) &&& (65535 : Int32)) else (fun _ => -1) r) r) (posf q0 (0 : Int32) q1) H44 HT45 f46 f46a f46b) (w43 hw) (w44 hw) (nf_same (C := "") (w46 hw)) (w46 hw) (w45 hw) (w7 hw) (w47 hw) (by decide) pd__J_I rfl (W := 0) (by decide) (by decide) (Nat.le_of_eq rfl) (by decide) (by decide) rfl rfl at_190 rfl fun T h51 v52 A Q53 => ?_
    obtain ⟨ev, eh⟩ := Q53
    obtain rfl := ev.trans (congrArg (fun z => some (Value.int z)) (show (fun r => if r = (posf q0 (0 : Int32) q1) then -1 else (fun r => if r = (posf q0 (0 : Int32) q1) then ((ush q2 (8 : Int32)) &&& (65535 : Int32)) else (fun _ => -1) r) r) (posf q0 (0 : Int32) q1) = (-1 : Int32) from (by simp only [pn_0_1, pn_0_2, pn_0_3, pn_0_4, pn_1_0, pn_1_2, pn_1_3, pn_1_4, pn_2_0, pn_2_1, pn_2_3, pn_2_4, pn_3_0, pn_3_1, pn_3_2, pn_3_4, pn_4_0, pn_4_1, pn_4_2, pn_4_3, if_true, if_false])))
    rw [eh] at A
    refine Wp.stk (st' := [(.int (-1 : Int32))]) rfl ?_
    refine s_iconst (pc' := 194) (z := (0 : Int32)) A at_193 rfl (by decide) ?_
    refine s_iload (pc' := 196) A at_194 rfl rfl ?_
    refine s_iload (pc' := 198) A at_196 rfl rfl ?_
    refine s_iload (pc' := 200) A at_198 rfl rfl ?_
    refine s_static (pc' := 203) (y := y8_check) (argsL := [(.int (-1 : Int32)), (.int (0 : Int32)), (.int (1 : Int32)), (.int (0 : Int32)), (.int ((ush q2 (8 : Int32)) &&& (65535 : Int32)))]) (rest := []) A (m_out l Z a0 hw n0 h48 A.size (-1 : Int32) (0 : Int32) (1 : Int32) (0 : Int32) ((ush q2 (8 : Int32)) &&& (65535 : Int32)) (Or.inr rfl) rfl) (w48 hw) (w49 hw) (w2 hw) (w50 hw) (by decide) pd__IIIII_Z rfl (W := 0) (by decide) (by decide) (Nat.le_of_eq rfl) (by decide) (by decide) rfl rfl at_200 rfl fun T h54 v55 A Q56 => ?_
    obtain ⟨rfl, eh⟩ := Q56
    rw [eh] at A
    refine Wp.stk (st' := [(.int (1 : Int32))]) rfl ?_
    refine s_ifN (pc' := 206) A at_203 rfl (by decide) ?_
    refine s_aload (pc' := 208) A at_206 rfl rfl rfl ?_
    refine s_lload (pc' := 210) A at_208 rfl rfl ?_
    refine s_virtual (pc' := 213) (y := y0_get) (argsL := [(.long (posf q0 (1 : Int32) q1))]) (rest := []) (z := y0_get) A H44.1 (m_get l Z a0 hw n0 h48 A.size b17 a26 b27 z43 P41 N42 (fun r => if r = (posf q0 (0 : Int32) q1) then -1 else (fun r => if r = (posf q0 (0 : Int32) q1) then ((ush q2 (8 : Int32)) &&& (65535 : Int32)) else (fun _ => -1) r) r) (posf q0 (1 : Int32) q1) H44 HT45 f46 f46a f46b) (w43 hw) (w44 hw) (nf_same (C := "") (w46 hw)) (w46 hw) (w45 hw) (w7 hw) (w47 hw) (by decide) pd__J_I rfl (W := 0) (by decide) (by decide) (Nat.le_of_eq rfl) (by decide) (by decide) rfl rfl at_210 rfl fun T h57 v58 A Q59 => ?_
    obtain ⟨ev, eh⟩ := Q59
    obtain rfl := ev.trans (congrArg (fun z => some (Value.int z)) (show (fun r => if r = (posf q0 (0 : Int32) q1) then -1 else (fun r => if r = (posf q0 (0 : Int32) q1) then ((ush q2 (8 : Int32)) &&& (65535 : Int32)) else (fun _ => -1) r) r) (posf q0 (1 : Int32) q1) = (-1 : Int32) from (by simp only [pn_0_1, pn_0_2, pn_0_3, pn_0_4, pn_1_0, pn_1_2, pn_1_3, pn_1_4, pn_2_0, pn_2_1, pn_2_3, pn_2_4, pn_3_0, pn_3_1, pn_3_2, pn_3_4, pn_4_0, pn_4_1, pn_4_2, pn_4_3, if_true, if_false])))
    rw [eh] at A
    refine Wp.stk (st' := [(.int (-1 : Int32))]) rfl ?_
    refine s_iconst (pc' := 214) (z := (1 : Int32)) A at_213 rfl (by decide) ?_
    refine s_iload (pc' := 216) A at_214 rfl rfl ?_
    refine s_iload (pc' := 218) A at_216 rfl rfl ?_
    refine s_iload (pc' := 220) A at_218 rfl rfl ?_
    refine s_static (pc' := 223) (y := y8_check) (argsL := [(.int (-1 : Int32)), (.int (1 : Int32)), (.int (1 : Int32)), (.int (0 : Int32)), (.int ((ush q2 (8 : Int32)) &&& (65535 : Int32)))]) (rest := []) A (m_out l Z a0 hw n0 h48 A.size (-1 : Int32) (1 : Int32) (1 : Int32) (0 : Int32) ((ush q2 (8 : Int32)) &&& (65535 : Int32)) (Or.inl (by decide)) rfl) (w48 hw) (w49 hw) (w2 hw) (w50 hw) (by decide) pd__IIIII_Z rfl (W := 0) (by decide) (by decide) (Nat.le_of_eq rfl) (by decide) (by decide) rfl rfl at_220 rfl fun T h60 v61 A Q62 => ?_
    obtain ⟨rfl, eh⟩ := Q62
    rw [eh] at A
    refine Wp.stk (st' := [(.int (1 : Int32))]) rfl ?_
    refine s_ifN (pc' := 226) A at_223 rfl (by decide) ?_
    refine s_aload (pc' := 228) A at_226 rfl rfl rfl ?_
    refine s_lload (pc' := 230) A at_228 rfl rfl ?_
    refine s_virtual (pc' := 233) (y := y0_get) (argsL := [(.long (posf q0 (2 : Int32) q1))]) (rest := []) (z := y0_get) A H44.1 (m_get l Z a0 hw n0 h48 A.size b17 a26 b27 z43 P41 N42 (fun r => if r = (posf q0 (0 : Int32) q1) then -1 else (fun r => if r = (posf q0 (0 : Int32) q1) then ((ush q2 (8 : Int32)) &&& (65535 : Int32)) else (fun _ => -1) r) r) (posf q0 (2 : Int32) q1) H44 HT45 f46 f46a f46b) (w43 hw) (w44 hw) (nf_same (C := "") (w46 hw)) (w46 hw) (w45 hw) (w7 hw) (w47 hw) (by decide) pd__J_I rfl (W := 0) (by decide) (by decide) (Nat.le_of_eq rfl) (by decide) (by decide) rfl rfl at_230 rfl fun T h63 v64 A Q65 => ?_
    obtain ⟨ev, eh⟩ := Q65
    obtain rfl := ev.trans (congrArg (fun z => some (Value.int z)) (show (fun r => if r = (posf q0 (0 : Int32) q1) then -1 else (fun r => if r = (posf q0 (0 : Int32) q1) then ((ush q2 (8 : Int32)) &&& (65535 : Int32)) else (fun _ => -1) r) r) (posf q0 (2 : Int32) q1) = (-1 : Int32) from (by simp only [pn_0_1, pn_0_2, pn_0_3, pn_0_4, pn_1_0, pn_1_2, pn_1_3, pn_1_4, pn_2_0, pn_2_1, pn_2_3, pn_2_4, pn_3_0, pn_3_1, pn_3_2, pn_3_4, pn_4_0, pn_4_1, pn_4_2, pn_4_3, if_true, if_false])))
    rw [eh] at A
    refine Wp.stk (st' := [(.int (-1 : Int32))]) rfl ?_
    refine s_iconst (pc' := 234) (z := (2 : Int32)) A at_233 rfl (by decide) ?_
    refine s_iload (pc' := 236) A at_234 rfl rfl ?_
    refine s_iload (pc' := 238) A at_236 rfl rfl ?_
    refine s_iload (pc' := 240) A at_238 rfl rfl ?_
    refine s_static (pc' := 243) (y := y8_check) (argsL := [(.int (-1 : Int32)), (.int (2 : Int32)), (.int (1 : Int32)), (.int (0 : Int32)), (.int ((ush q2 (8 : Int32)) &&& (65535 : Int32)))]) (rest := []) A (m_out l Z a0 hw n0 h48 A.size (-1 : Int32) (2 : Int32) (1 : Int32) (0 : Int32) ((ush q2 (8 : Int32)) &&& (65535 : Int32)) (Or.inl (by decide)) rfl) (w48 hw) (w49 hw) (w2 hw) (w50 hw) (by decide) pd__IIIII_Z rfl (W := 0) (by decide) (by decide) (Nat.le_of_eq rfl) (by decide) (by decide) rfl rfl at_240 rfl fun T h66 v67 A Q68 => ?_
    obtain ⟨rfl, eh⟩ := Q68
    rw [eh] at A
    refine Wp.stk (st' := [(.int (1 : Int32))]) rfl ?_
    refine s_ifN (pc' := 246) A at_243 rfl (by decide) ?_
    refine s_aload (pc' := 248) A at_246 rfl rfl rfl ?_
    refine s_lload (pc' := 250) A at_248 rfl rfl ?_
    refine s_virtual (pc' := 253) (y := y0_get) (argsL := [(.long (posf q0 (3 : Int32) q1))]) (rest := []) (z := y0_get) A H44.1 (m_get l Z a0 hw n0 h48 A.size b17 a26 b27 z43 P41 N42 (fun r => if r = (posf q0 (0 : Int32) q1) then -1 else (fun r => if r = (posf q0 (0 : Int32) q1) then ((ush q2 (8 : Int32)) &&& (65535 : Int32)) else (fun _ => -1) r) r) (posf q0 (3 : Int32) q1) H44 HT45 f46 f46a f46b) (w43 hw) (w44 hw) (nf_same (C := "") (w46 hw)) (w46 hw) (w45 hw) (w7 hw) (w47 hw) (by decide) pd__J_I rfl (W := 0) (by decide) (by decide) (Nat.le_of_eq rfl) (by decide) (by decide) rfl rfl at_250 rfl fun T h69 v70 A Q71 => ?_
    obtain ⟨ev, eh⟩ := Q71
    obtain rfl := ev.trans (congrArg (fun z => some (Value.int z)) (show (fun r => if r = (posf q0 (0 : Int32) q1) then -1 else (fun r => if r = (posf q0 (0 : Int32) q1) then ((ush q2 (8 : Int32)) &&& (65535 : Int32)) else (fun _ => -1) r) r) (posf q0 (3 : Int32) q1) = (-1 : Int32) from (by simp only [pn_0_1, pn_0_2, pn_0_3, pn_0_4, pn_1_0, pn_1_2, pn_1_3, pn_1_4, pn_2_0, pn_2_1, pn_2_3, pn_2_4, pn_3_0, pn_3_1, pn_3_2, pn_3_4, pn_4_0, pn_4_1, pn_4_2, pn_4_3, if_true, if_false])))
    rw [eh] at A
    refine Wp.stk (st' := [(.int (-1 : Int32))]) rfl ?_
    refine s_iconst (pc' := 254) (z := (3 : Int32)) A at_253 rfl (by decide) ?_
    refine s_iload (pc' := 256) A at_254 rfl rfl ?_
    refine s_iload (pc' := 258) A at_256 rfl rfl ?_
    refine s_iload (pc' := 260) A at_258 rfl rfl ?_
    refine s_static (pc' := 263) (y := y8_check) (argsL := [(.int (-1 : Int32)), (.int (3 : Int32)), (.int (1 : Int32)), (.int (0 : Int32)), (.int ((ush q2 (8 : Int32)) &&& (65535 : Int32)))]) (rest := []) A (m_out l Z a0 hw n0 h48 A.size (-1 : Int32) (3 : Int32) (1 : Int32) (0 : Int32) ((ush q2 (8 : Int32)) &&& (65535 : Int32)) (Or.inl (by decide)) rfl) (w48 hw) (w49 hw) (w2 hw) (w50 hw) (by decide) pd__IIIII_Z rfl (W := 0) (by decide) (by decide) (Nat.le_of_eq rfl) (by decide) (by decide) rfl rfl at_260 rfl fun T h72 v73 A Q74 => ?_
    obtain ⟨rfl, eh⟩ := Q74
    rw [eh] at A
    refine Wp.stk (st' := [(.int (1 : Int32))]) rfl ?_
    refine s_ifN (pc' := 266) A at_263 rfl (by decide) ?_
    refine s_aload (pc' := 268) A at_266 rfl rfl rfl ?_
    refine s_lload (pc' := 270) A at_268 rfl rfl ?_
    refine s_virtual (pc' := 273) (y := y0_get) (argsL := [(.long (posf q0 (4 : Int32) q1))]) (rest := []) (z := y0_get) A H44.1 (m_get l Z a0 hw n0 h48 A.size b17 a26 b27 z43 P41 N42 (fun r => if r = (posf q0 (0 : Int32) q1) then -1 else (fun r => if r = (posf q0 (0 : Int32) q1) then ((ush q2 (8 : Int32)) &&& (65535 : Int32)) else (fun _ => -1) r) r) (posf q0 (4 : Int32) q1) H44 HT45 f46 f46a f46b) (w43 hw) (w44 hw) (nf_same (C := "") (w46 hw)) (w46 hw) (w45 hw) (w7 hw) (w47 hw) (by decide) pd__J_I rfl (W := 0) (by decide) (by decide) (Nat.le_of_eq rfl) (by decide) (by decide) rfl rfl at_270 rfl fun T h75 v76 A Q77 => ?_
    obtain ⟨ev, eh⟩ := Q77
    obtain rfl := ev.trans (congrArg (fun z => some (Value.int z)) (show (fun r => if r = (posf q0 (0 : Int32) q1) then -1 else (fun r => if r = (posf q0 (0 : Int32) q1) then ((ush q2 (8 : Int32)) &&& (65535 : Int32)) else (fun _ => -1) r) r) (posf q0 (4 : Int32) q1) = (-1 : Int32) from (by simp only [pn_0_1, pn_0_2, pn_0_3, pn_0_4, pn_1_0, pn_1_2, pn_1_3, pn_1_4, pn_2_0, pn_2_1, pn_2_3, pn_2_4, pn_3_0, pn_3_1, pn_3_2, pn_3_4, pn_4_0, pn_4_1, pn_4_2, pn_4_3, if_true, if_false])))
    rw [eh] at A
    refine Wp.stk (st' := [(.int (-1 : Int32))]) rfl ?_
    refine s_iconst (pc' := 274) (z := (4 : Int32)) A at_273 rfl (by decide) ?_
    refine s_iload (pc' := 276) A at_274 rfl rfl ?_
    refine s_iload (pc' := 278) A at_276 rfl rfl ?_
    refine s_iload (pc' := 280) A at_278 rfl rfl ?_
    refine s_static (pc' := 283) (y := y8_check) (argsL := [(.int (-1 : Int32)), (.int (4 : Int32)), (.int (1 : Int32)), (.int (0 : Int32)), (.int ((ush q2 (8 : Int32)) &&& (65535 : Int32)))]) (rest := []) A (m_out l Z a0 hw n0 h48 A.size (-1 : Int32) (4 : Int32) (1 : Int32) (0 : Int32) ((ush q2 (8 : Int32)) &&& (65535 : Int32)) (Or.inl (by decide)) rfl) (w48 hw) (w49 hw) (w2 hw) (w50 hw) (by decide) pd__IIIII_Z rfl (W := 0) (by decide) (by decide) (Nat.le_of_eq rfl) (by decide) (by decide) rfl rfl at_280 rfl fun T h78 v79 A Q80 => ?_
    obtain ⟨rfl, eh⟩ := Q80
    rw [eh] at A
    refine Wp.stk (st' := [(.int (1 : Int32))]) rfl ?_
    refine s_ifN (pc' := 286) A at_283 rfl (by decide) ?_
    refine s_iconst (pc' := 287) (z := (1 : Int32)) A at_286 rfl (by decide) ?_
    refine s_goto (pc' := 291) A at_287 (by decide) (by decide) ?_
    exact r_bool A rfl (by decide) at_291 (by decide) (by decide) (rfl)
   ·
    refine s_irem (pc' := 52) (z := (1 : Int32)) A at_51 rfl (by decide) hrr.symm ?_
    refine s_istore (pc' := 54) (Ls' := #[jv q0, S2, iv q1, iv q2, jv (posf q0 (0 : Int32) q1), S2, jv (posf q0 (1 : Int32) q1), S2, jv (posf q0 (2 : Int32) q1), S2, jv (posf q0 (3 : Int32) q1), S2, jv (posf q0 (4 : Int32) q1), S2, iv 1, iv 1, U0, U0, U0, U0]) A at_52 rfl rfl ?_
    refine s_iloadN (pc' := 55) A at_54 rfl rfl ?_
    refine s_bipush (pc' := 57) (z := (8 : Int32)) A at_55 rfl (by decide) ?_
    refine s_iushr (pc' := 58) (z := (ush q2 (8 : Int32))) A at_57 rfl rfl ?_
    refine s_ldcInt (pc' := 60) A at_58 rfl (w4 hw) ?_
    refine s_iand (pc' := 61) (z := ((ush q2 (8 : Int32)) &&& (65535 : Int32))) A at_60 rfl rfl ?_
    refine s_istore (pc' := 63) (Ls' := #[jv q0, S2, iv q1, iv q2, jv (posf q0 (0 : Int32) q1), S2, jv (posf q0 (1 : Int32) q1), S2, jv (posf q0 (2 : Int32) q1), S2, jv (posf q0 (3 : Int32) q1), S2, jv (posf q0 (4 : Int32) q1), S2, iv 1, iv 1, iv ((ush q2 (8 : Int32)) &&& (65535 : Int32)), U0, U0, U0]) A at_61 rfl rfl ?_
    refine s_new (pc' := 66) A (w5 hw) (w6 hw) (w7 hw) (by decide) (by decide) at_63 rfl fun T h81 b82 A g83 ge84 X85 E86 D87 => ?_
    have F88 : Fld Z h81 b82 "com/example/wirefram/wirefram/sequence/PositionIndex" "positions" "[J" .null := D87 (Or.inl (w16 hw)) (ty := (.array .long)) (by decide)
    have F89 : Fld Z h81 b82 "com/example/wirefram/wirefram/sequence/PositionIndex" "numbers" "[I" .null := D87 (Or.inl (w26 hw)) (ty := (.array .int)) (by decide)
    have F90 : Fld Z h81 b82 "com/example/wirefram/wirefram/sequence/PositionIndex" "size" "I" (.int (0 : Int32)) := D87 (Or.inl (w33 hw)) (ty := .int) (by decide)
    refine s_dup (pc' := 67) A at_66 rfl rfl ?_
    refine s_special (pc' := 70) (y := y6_init) (argsL := []) (rest := [(.ref b82)]) A (m_init l Z a0 hw n0 h81 A.size b82 E86 F88 F89 F90 ge84) rfl (w8 hw) (w9 hw) (w7 hw) (w10 hw) (by decide) pd___V rfl (W := 1) (by decide) (by decide) (Nat.le_of_eq rfl) (by decide) (by decide) rfl rfl at_67 rfl fun T h94 v95 A Q96 => ?_
    obtain ⟨rfl, a91, b92, H93⟩ := Q96
    refine Wp.stk (st' := [(.ref b82)]) rfl ?_
    refine s_astore (pc' := 72) (Ls' := #[jv q0, S2, iv q1, iv q2, jv (posf q0 (0 : Int32) q1), S2, jv (posf q0 (1 : Int32) q1), S2, jv (posf q0 (2 : Int32) q1), S2, jv (posf q0 (3 : Int32) q1), S2, jv (posf q0 (4 : Int32) q1), S2, iv 1, iv 1, iv ((ush q2 (8 : Int32)) &&& (65535 : Int32)), rv b82, U0, U0]) A at_70 rfl rfl rfl ?_
    refine s_aload (pc' := 74) A at_72 rfl rfl rfl ?_
    refine s_lload (pc' := 76) A at_74 rfl rfl ?_
    refine s_iload (pc' := 78) A at_76 rfl rfl ?_
    obtain ⟨fr102, fr102a, fr102b⟩ := Free.ex (c := 15) own_free0
    refine s_virtual (pc' := 81) (y := y2_put) (argsL := [(.long (posf q0 (0 : Int32) q1)), (.int ((ush q2 (8 : Int32)) &&& (65535 : Int32)))]) (rest := []) (z := y2_put) A H93.1 (m_put l Z a0 hw n0 h94 A.size b82 a91 b92 0 (fun _ => 0) (fun _ => -1) (fun _ => -1) H93 (posf q0 (0 : Int32) q1) ((ush q2 (8 : Int32)) &&& (65535 : Int32)) 1 (own_tab0 (fun _ => 0)) fr102 fr102a fr102b (own_nb0 q2) rfl (by decide) (by decide)) (w27 hw) (w28 hw) (nf_same (C := "") (w30 hw)) (w30 hw) (w29 hw) (w7 hw) (w31 hw) (by decide) pd__JI_V rfl (W := 0) (by decide) (by decide) (Nat.le_of_eq rfl) (by decide) (by decide) rfl rfl at_78 rfl fun T h103 v104 A Q105 => ?_
    obtain ⟨rfl, P97, N98, H99, HT100, FR101⟩ := Q105
    have FR101 := FR101 15 own_free0
    refine Wp.stk (st' := []) rfl ?_
    refine s_iload (pc' := 83) A at_81 rfl rfl ?_
    refine s_iconst (pc' := 84) (z := (1 : Int32)) A at_83 rfl (by decide) ?_
    refine s_icmpY (pc' := 98) A at_84 (by decide) (by decide) (by decide) ?_
    refine s_iload (pc' := 100) A at_98 rfl rfl ?_
    refine s_iconst (pc' := 101) (z := (2 : Int32)) A at_100 rfl (by decide) ?_
    refine s_icmpY (pc' := 115) A at_101 (by decide) (by decide) (by decide) ?_
    refine s_iload (pc' := 117) A at_115 rfl rfl ?_
    refine s_iconst (pc' := 118) (z := (3 : Int32)) A at_117 rfl (by decide) ?_
    refine s_icmpY (pc' := 132) A at_118 (by decide) (by decide) (by decide) ?_
    refine s_iload (pc' := 134) A at_132 rfl rfl ?_
    refine s_ifY (pc' := 142) A at_134 (by decide) (by decide) (by decide) ?_
    refine s_iload (pc' := 144) A at_142 rfl rfl ?_
    refine s_iconst (pc' := 145) (z := (1 : Int32)) A at_144 rfl (by decide) ?_
    refine s_icmpN (pc' := 148) A at_145 rfl (by decide) ?_
    refine s_lload (pc' := 150) A at_148 rfl rfl ?_
    refine s_goto (pc' := 177) A at_150 (by decide) (by decide) ?_
    refine s_lstore (pc' := 179) (Ls' := #[jv q0, S2, iv q1, iv q2, jv (posf q0 (0 : Int32) q1), S2, jv (posf q0 (1 : Int32) q1), S2, jv (posf q0 (2 : Int32) q1), S2, jv (posf q0 (3 : Int32) q1), S2, jv (posf q0 (4 : Int32) q1), S2, iv 1, iv 1, iv ((ush q2 (8 : Int32)) &&& (65535 : Int32)), rv b82, jv (posf q0 (1 : Int32) q1), S2]) A at_177 rfl rfl ?_
    refine s_aload (pc' := 181) A at_179 rfl rfl rfl ?_
    refine s_lload (pc' := 183) A at_181 rfl rfl ?_
    obtain ⟨fr112, fr112a, fr112b⟩ := Free.ex (c := 14) FR101
    refine s_virtual (pc' := 186) (y := y3_remove) (argsL := [(.long (posf q0 (1 : Int32) q1))]) (rest := []) (z := y3_remove) A H99.1 (m_rem l Z a0 hw n0 h103 A.size b82 a91 b92 1 P97 N98 (fun r => if r = (posf q0 (0 : Int32) q1) then ((ush q2 (8 : Int32)) &&& (65535 : Int32)) else (fun _ => -1) r) (posf q0 (1 : Int32) q1) H99 HT100 fr112 fr112a fr112b) (w38 hw) (w39 hw) (nf_same (C := "") (w41 hw)) (w41 hw) (w40 hw) (w7 hw) (w42 hw) (by decide) pd__J_V rfl (W := 0) (by decide) (by decide) (Nat.le_of_eq rfl) (by decide) (by decide) rfl rfl at_183 rfl fun T h113 v114 A Q115 => ?_
    obtain ⟨rfl, P106, N107, z108, H109, HT110, f111, f111a, f111b⟩ := Q115
    refine Wp.stk (st' := []) rfl ?_
    refine s_aload (pc' := 188) A at_186 rfl rfl rfl ?_
    refine s_lload (pc' := 190) A at_188 rfl rfl ?_
    refine s_virtual (pc' := 193) (y := y0_get) (argsL := [(.long (posf q0 (0 : Int32) q1))]) (rest := []) (z := y0_get) A H109.1 (m_get l Z a0 hw n0 h113 A.size b82 a91 b92 z108 P106 N107 (fun r => if r = (posf q0 (1 : Int32) q1) then -1 else (fun r => if r = (posf q0 (0 : Int32) q1) then ((ush q2 (8 : Int32)) &&& (65535 : Int32)) else (fun _ => -1) r) r) (posf q0 (0 : Int32) q1) H109 HT110 f111 f111a f111b) (w43 hw) (w44 hw) (nf_same (C := "") (w46 hw)) (w46 hw) (w45 hw) (w7 hw) (w47 hw) (by decide) pd__J_I rfl (W := 0) (by decide) (by decide) (Nat.le_of_eq rfl) (by decide) (by decide) rfl rfl at_190 rfl fun T h116 v117 A Q118 => ?_
    obtain ⟨ev, eh⟩ := Q118
    obtain rfl := ev.trans (congrArg (fun z => some (Value.int z)) (show (fun r => if r = (posf q0 (1 : Int32) q1) then -1 else (fun r => if r = (posf q0 (0 : Int32) q1) then ((ush q2 (8 : Int32)) &&& (65535 : Int32)) else (fun _ => -1) r) r) (posf q0 (0 : Int32) q1) = ((ush q2 (8 : Int32)) &&& (65535 : Int32)) from (by simp only [pn_0_1, pn_0_2, pn_0_3, pn_0_4, pn_1_0, pn_1_2, pn_1_3, pn_1_4, pn_2_0, pn_2_1, pn_2_3, pn_2_4, pn_3_0, pn_3_1, pn_3_2, pn_3_4, pn_4_0, pn_4_1, pn_4_2, pn_4_3, if_true, if_false])))
    rw [eh] at A
    refine Wp.stk (st' := [(.int ((ush q2 (8 : Int32)) &&& (65535 : Int32)))]) rfl ?_
    refine s_iconst (pc' := 194) (z := (0 : Int32)) A at_193 rfl (by decide) ?_
    refine s_iload (pc' := 196) A at_194 rfl rfl ?_
    refine s_iload (pc' := 198) A at_196 rfl rfl ?_
    refine s_iload (pc' := 200) A at_198 rfl rfl ?_
    refine s_static (pc' := 203) (y := y8_check) (argsL := [(.int ((ush q2 (8 : Int32)) &&& (65535 : Int32))), (.int (0 : Int32)), (.int (1 : Int32)), (.int (1 : Int32)), (.int ((ush q2 (8 : Int32)) &&& (65535 : Int32)))]) (rest := []) A (m_in l Z a0 hw n0 h113 A.size ((ush q2 (8 : Int32)) &&& (65535 : Int32)) (0 : Int32) (1 : Int32) (1 : Int32) ((ush q2 (8 : Int32)) &&& (65535 : Int32)) (by decide) (by decide) (Int32.add_zero _).symm) (w48 hw) (w49 hw) (w2 hw) (w50 hw) (by decide) pd__IIIII_Z rfl (W := 0) (by decide) (by decide) (Nat.le_of_eq rfl) (by decide) (by decide) rfl rfl at_200 rfl fun T h119 v120 A Q121 => ?_
    obtain ⟨rfl, eh⟩ := Q121
    rw [eh] at A
    refine Wp.stk (st' := [(.int (1 : Int32))]) rfl ?_
    refine s_ifN (pc' := 206) A at_203 rfl (by decide) ?_
    refine s_aload (pc' := 208) A at_206 rfl rfl rfl ?_
    refine s_lload (pc' := 210) A at_208 rfl rfl ?_
    refine s_virtual (pc' := 213) (y := y0_get) (argsL := [(.long (posf q0 (1 : Int32) q1))]) (rest := []) (z := y0_get) A H109.1 (m_get l Z a0 hw n0 h113 A.size b82 a91 b92 z108 P106 N107 (fun r => if r = (posf q0 (1 : Int32) q1) then -1 else (fun r => if r = (posf q0 (0 : Int32) q1) then ((ush q2 (8 : Int32)) &&& (65535 : Int32)) else (fun _ => -1) r) r) (posf q0 (1 : Int32) q1) H109 HT110 f111 f111a f111b) (w43 hw) (w44 hw) (nf_same (C := "") (w46 hw)) (w46 hw) (w45 hw) (w7 hw) (w47 hw) (by decide) pd__J_I rfl (W := 0) (by decide) (by decide) (Nat.le_of_eq rfl) (by decide) (by decide) rfl rfl at_210 rfl fun T h122 v123 A Q124 => ?_
    obtain ⟨ev, eh⟩ := Q124
    obtain rfl := ev.trans (congrArg (fun z => some (Value.int z)) (show (fun r => if r = (posf q0 (1 : Int32) q1) then -1 else (fun r => if r = (posf q0 (0 : Int32) q1) then ((ush q2 (8 : Int32)) &&& (65535 : Int32)) else (fun _ => -1) r) r) (posf q0 (1 : Int32) q1) = (-1 : Int32) from (by simp only [pn_0_1, pn_0_2, pn_0_3, pn_0_4, pn_1_0, pn_1_2, pn_1_3, pn_1_4, pn_2_0, pn_2_1, pn_2_3, pn_2_4, pn_3_0, pn_3_1, pn_3_2, pn_3_4, pn_4_0, pn_4_1, pn_4_2, pn_4_3, if_true, if_false])))
    rw [eh] at A
    refine Wp.stk (st' := [(.int (-1 : Int32))]) rfl ?_
    refine s_iconst (pc' := 214) (z := (1 : Int32)) A at_213 rfl (by decide) ?_
    refine s_iload (pc' := 216) A at_214 rfl rfl ?_
    refine s_iload (pc' := 218) A at_216 rfl rfl ?_
    refine s_iload (pc' := 220) A at_218 rfl rfl ?_
    refine s_static (pc' := 223) (y := y8_check) (argsL := [(.int (-1 : Int32)), (.int (1 : Int32)), (.int (1 : Int32)), (.int (1 : Int32)), (.int ((ush q2 (8 : Int32)) &&& (65535 : Int32)))]) (rest := []) A (m_out l Z a0 hw n0 h113 A.size (-1 : Int32) (1 : Int32) (1 : Int32) (1 : Int32) ((ush q2 (8 : Int32)) &&& (65535 : Int32)) (Or.inl (by decide)) rfl) (w48 hw) (w49 hw) (w2 hw) (w50 hw) (by decide) pd__IIIII_Z rfl (W := 0) (by decide) (by decide) (Nat.le_of_eq rfl) (by decide) (by decide) rfl rfl at_220 rfl fun T h125 v126 A Q127 => ?_
    obtain ⟨rfl, eh⟩ := Q127
    rw [eh] at A
    refine Wp.stk (st' := [(.int (1 : Int32))]) rfl ?_
    refine s_ifN (pc' := 226) A at_223 rfl (by decide) ?_
    refine s_aload (pc' := 228) A at_226 rfl rfl rfl ?_
    refine s_lload (pc' := 230) A at_228 rfl rfl ?_
    refine s_virtual (pc' := 233) (y := y0_get) (argsL := [(.long (posf q0 (2 : Int32) q1))]) (rest := []) (z := y0_get) A H109.1 (m_get l Z a0 hw n0 h113 A.size b82 a91 b92 z108 P106 N107 (fun r => if r = (posf q0 (1 : Int32) q1) then -1 else (fun r => if r = (posf q0 (0 : Int32) q1) then ((ush q2 (8 : Int32)) &&& (65535 : Int32)) else (fun _ => -1) r) r) (posf q0 (2 : Int32) q1) H109 HT110 f111 f111a f111b) (w43 hw) (w44 hw) (nf_same (C := "") (w46 hw)) (w46 hw) (w45 hw) (w7 hw) (w47 hw) (by decide) pd__J_I rfl (W := 0) (by decide) (by decide) (Nat.le_of_eq rfl) (by decide) (by decide) rfl rfl at_230 rfl fun T h128 v129 A Q130 => ?_
    obtain ⟨ev, eh⟩ := Q130
    obtain rfl := ev.trans (congrArg (fun z => some (Value.int z)) (show (fun r => if r = (posf q0 (1 : Int32) q1) then -1 else (fun r => if r = (posf q0 (0 : Int32) q1) then ((ush q2 (8 : Int32)) &&& (65535 : Int32)) else (fun _ => -1) r) r) (posf q0 (2 : Int32) q1) = (-1 : Int32) from (by simp only [pn_0_1, pn_0_2, pn_0_3, pn_0_4, pn_1_0, pn_1_2, pn_1_3, pn_1_4, pn_2_0, pn_2_1, pn_2_3, pn_2_4, pn_3_0, pn_3_1, pn_3_2, pn_3_4, pn_4_0, pn_4_1, pn_4_2, pn_4_3, if_true, if_false])))
    rw [eh] at A
    refine Wp.stk (st' := [(.int (-1 : Int32))]) rfl ?_
    refine s_iconst (pc' := 234) (z := (2 : Int32)) A at_233 rfl (by decide) ?_
    refine s_iload (pc' := 236) A at_234 rfl rfl ?_
    refine s_iload (pc' := 238) A at_236 rfl rfl ?_
    refine s_iload (pc' := 240) A at_238 rfl rfl ?_
    refine s_static (pc' := 243) (y := y8_check) (argsL := [(.int (-1 : Int32)), (.int (2 : Int32)), (.int (1 : Int32)), (.int (1 : Int32)), (.int ((ush q2 (8 : Int32)) &&& (65535 : Int32)))]) (rest := []) A (m_out l Z a0 hw n0 h113 A.size (-1 : Int32) (2 : Int32) (1 : Int32) (1 : Int32) ((ush q2 (8 : Int32)) &&& (65535 : Int32)) (Or.inl (by decide)) rfl) (w48 hw) (w49 hw) (w2 hw) (w50 hw) (by decide) pd__IIIII_Z rfl (W := 0) (by decide) (by decide) (Nat.le_of_eq rfl) (by decide) (by decide) rfl rfl at_240 rfl fun T h131 v132 A Q133 => ?_
    obtain ⟨rfl, eh⟩ := Q133
    rw [eh] at A
    refine Wp.stk (st' := [(.int (1 : Int32))]) rfl ?_
    refine s_ifN (pc' := 246) A at_243 rfl (by decide) ?_
    refine s_aload (pc' := 248) A at_246 rfl rfl rfl ?_
    refine s_lload (pc' := 250) A at_248 rfl rfl ?_
    refine s_virtual (pc' := 253) (y := y0_get) (argsL := [(.long (posf q0 (3 : Int32) q1))]) (rest := []) (z := y0_get) A H109.1 (m_get l Z a0 hw n0 h113 A.size b82 a91 b92 z108 P106 N107 (fun r => if r = (posf q0 (1 : Int32) q1) then -1 else (fun r => if r = (posf q0 (0 : Int32) q1) then ((ush q2 (8 : Int32)) &&& (65535 : Int32)) else (fun _ => -1) r) r) (posf q0 (3 : Int32) q1) H109 HT110 f111 f111a f111b) (w43 hw) (w44 hw) (nf_same (C := "") (w46 hw)) (w46 hw) (w45 hw) (w7 hw) (w47 hw) (by decide) pd__J_I rfl (W := 0) (by decide) (by decide) (Nat.le_of_eq rfl) (by decide) (by decide) rfl rfl at_250 rfl fun T h134 v135 A Q136 => ?_
    obtain ⟨ev, eh⟩ := Q136
    obtain rfl := ev.trans (congrArg (fun z => some (Value.int z)) (show (fun r => if r = (posf q0 (1 : Int32) q1) then -1 else (fun r => if r = (posf q0 (0 : Int32) q1) then ((ush q2 (8 : Int32)) &&& (65535 : Int32)) else (fun _ => -1) r) r) (posf q0 (3 : Int32) q1) = (-1 : Int32) from (by simp only [pn_0_1, pn_0_2, pn_0_3, pn_0_4, pn_1_0, pn_1_2, pn_1_3, pn_1_4, pn_2_0, pn_2_1, pn_2_3, pn_2_4, pn_3_0, pn_3_1, pn_3_2, pn_3_4, pn_4_0, pn_4_1, pn_4_2, pn_4_3, if_true, if_false])))
    rw [eh] at A
    refine Wp.stk (st' := [(.int (-1 : Int32))]) rfl ?_
    refine s_iconst (pc' := 254) (z := (3 : Int32)) A at_253 rfl (by decide) ?_
    refine s_iload (pc' := 256) A at_254 rfl rfl ?_
    refine s_iload (pc' := 258) A at_256 rfl rfl ?_
    refine s_iload (pc' := 260) A at_258 rfl rfl ?_
    refine s_static (pc' := 263) (y := y8_check) (argsL := [(.int (-1 : Int32)), (.int (3 : Int32)), (.int (1 : Int32)), (.int (1 : Int32)), (.int ((ush q2 (8 : Int32)) &&& (65535 : Int32)))]) (rest := []) A (m_out l Z a0 hw n0 h113 A.size (-1 : Int32) (3 : Int32) (1 : Int32) (1 : Int32) ((ush q2 (8 : Int32)) &&& (65535 : Int32)) (Or.inl (by decide)) rfl) (w48 hw) (w49 hw) (w2 hw) (w50 hw) (by decide) pd__IIIII_Z rfl (W := 0) (by decide) (by decide) (Nat.le_of_eq rfl) (by decide) (by decide) rfl rfl at_260 rfl fun T h137 v138 A Q139 => ?_
    obtain ⟨rfl, eh⟩ := Q139
    rw [eh] at A
    refine Wp.stk (st' := [(.int (1 : Int32))]) rfl ?_
    refine s_ifN (pc' := 266) A at_263 rfl (by decide) ?_
    refine s_aload (pc' := 268) A at_266 rfl rfl rfl ?_
    refine s_lload (pc' := 270) A at_268 rfl rfl ?_
    refine s_virtual (pc' := 273) (y := y0_get) (argsL := [(.long (posf q0 (4 : Int32) q1))]) (rest := []) (z := y0_get) A H109.1 (m_get l Z a0 hw n0 h113 A.size b82 a91 b92 z108 P106 N107 (fun r => if r = (posf q0 (1 : Int32) q1) then -1 else (fun r => if r = (posf q0 (0 : Int32) q1) then ((ush q2 (8 : Int32)) &&& (65535 : Int32)) else (fun _ => -1) r) r) (posf q0 (4 : Int32) q1) H109 HT110 f111 f111a f111b) (w43 hw) (w44 hw) (nf_same (C := "") (w46 hw)) (w46 hw) (w45 hw) (w7 hw) (w47 hw) (by decide) pd__J_I rfl (W := 0) (by decide) (by decide) (Nat.le_of_eq rfl) (by decide) (by decide) rfl rfl at_270 rfl fun T h140 v141 A Q142 => ?_
    obtain ⟨ev, eh⟩ := Q142
    obtain rfl := ev.trans (congrArg (fun z => some (Value.int z)) (show (fun r => if r = (posf q0 (1 : Int32) q1) then -1 else (fun r => if r = (posf q0 (0 : Int32) q1) then ((ush q2 (8 : Int32)) &&& (65535 : Int32)) else (fun _ => -1) r) r) (posf q0 (4 : Int32) q1) = (-1 : Int32) from (by simp only [pn_0_1, pn_0_2, pn_0_3, pn_0_4, pn_1_0, pn_1_2, pn_1_3, pn_1_4, pn_2_0, pn_2_1, pn_2_3, pn_2_4, pn_3_0, pn_3_1, pn_3_2, pn_3_4, pn_4_0, pn_4_1, pn_4_2, pn_4_3, if_true, if_false])))
    rw [eh] at A
    refine Wp.stk (st' := [(.int (-1 : Int32))]) rfl ?_
    refine s_iconst (pc' := 274) (z := (4 : Int32)) A at_273 rfl (by decide) ?_
    refine s_iload (pc' := 276) A at_274 rfl rfl ?_
    refine s_iload (pc' := 278) A at_276 rfl rfl ?_
    refine s_iload (pc' := 280) A at_278 rfl rfl ?_
    refine s_static (pc' := 283) (y := y8_check) (argsL := [(.int (-1 : Int32)), (.int (4 : Int32)), (.int (1 : Int32)), (.int (1 : Int32)), (.int ((ush q2 (8 : Int32)) &&& (65535 : Int32)))]) (rest := []) A (m_out l Z a0 hw n0 h113 A.size (-1 : Int32) (4 : Int32) (1 : Int32) (1 : Int32) ((ush q2 (8 : Int32)) &&& (65535 : Int32)) (Or.inl (by decide)) rfl) (w48 hw) (w49 hw) (w2 hw) (w50 hw) (by decide) pd__IIIII_Z rfl (W := 0) (by decide) (by decide) (Nat.le_of_eq rfl) (by decide) (by decide) rfl rfl at_280 rfl fun T h143 v144 A Q145 => ?_
    obtain ⟨rfl, eh⟩ := Q145
    rw [eh] at A
    refine Wp.stk (st' := [(.int (1 : Int32))]) rfl ?_
    refine s_ifN (pc' := 286) A at_283 rfl (by decide) ?_
    refine s_iconst (pc' := 287) (z := (1 : Int32)) A at_286 rfl (by decide) ?_
    refine s_goto (pc' := 291) A at_287 (by decide) (by decide) ?_
    exact r_bool A rfl (by decide) at_291 (by decide) (by decide) (rfl)
   ·
    refine s_irem (pc' := 52) (z := (2 : Int32)) A at_51 rfl (by decide) hrr.symm ?_
    refine s_istore (pc' := 54) (Ls' := #[jv q0, S2, iv q1, iv q2, jv (posf q0 (0 : Int32) q1), S2, jv (posf q0 (1 : Int32) q1), S2, jv (posf q0 (2 : Int32) q1), S2, jv (posf q0 (3 : Int32) q1), S2, jv (posf q0 (4 : Int32) q1), S2, iv 1, iv 2, U0, U0, U0, U0]) A at_52 rfl rfl ?_
    refine s_iloadN (pc' := 55) A at_54 rfl rfl ?_
    refine s_bipush (pc' := 57) (z := (8 : Int32)) A at_55 rfl (by decide) ?_
    refine s_iushr (pc' := 58) (z := (ush q2 (8 : Int32))) A at_57 rfl rfl ?_
    refine s_ldcInt (pc' := 60) A at_58 rfl (w4 hw) ?_
    refine s_iand (pc' := 61) (z := ((ush q2 (8 : Int32)) &&& (65535 : Int32))) A at_60 rfl rfl ?_
    refine s_istore (pc' := 63) (Ls' := #[jv q0, S2, iv q1, iv q2, jv (posf q0 (0 : Int32) q1), S2, jv (posf q0 (1 : Int32) q1), S2, jv (posf q0 (2 : Int32) q1), S2, jv (posf q0 (3 : Int32) q1), S2, jv (posf q0 (4 : Int32) q1), S2, iv 1, iv 2, iv ((ush q2 (8 : Int32)) &&& (65535 : Int32)), U0, U0, U0]) A at_61 rfl rfl ?_
    refine s_new (pc' := 66) A (w5 hw) (w6 hw) (w7 hw) (by decide) (by decide) at_63 rfl fun T h146 b147 A g148 ge149 X150 E151 D152 => ?_
    have F153 : Fld Z h146 b147 "com/example/wirefram/wirefram/sequence/PositionIndex" "positions" "[J" .null := D152 (Or.inl (w16 hw)) (ty := (.array .long)) (by decide)
    have F154 : Fld Z h146 b147 "com/example/wirefram/wirefram/sequence/PositionIndex" "numbers" "[I" .null := D152 (Or.inl (w26 hw)) (ty := (.array .int)) (by decide)
    have F155 : Fld Z h146 b147 "com/example/wirefram/wirefram/sequence/PositionIndex" "size" "I" (.int (0 : Int32)) := D152 (Or.inl (w33 hw)) (ty := .int) (by decide)
    refine s_dup (pc' := 67) A at_66 rfl rfl ?_
    refine s_special (pc' := 70) (y := y6_init) (argsL := []) (rest := [(.ref b147)]) A (m_init l Z a0 hw n0 h146 A.size b147 E151 F153 F154 F155 ge149) rfl (w8 hw) (w9 hw) (w7 hw) (w10 hw) (by decide) pd___V rfl (W := 1) (by decide) (by decide) (Nat.le_of_eq rfl) (by decide) (by decide) rfl rfl at_67 rfl fun T h159 v160 A Q161 => ?_
    obtain ⟨rfl, a156, b157, H158⟩ := Q161
    refine Wp.stk (st' := [(.ref b147)]) rfl ?_
    refine s_astore (pc' := 72) (Ls' := #[jv q0, S2, iv q1, iv q2, jv (posf q0 (0 : Int32) q1), S2, jv (posf q0 (1 : Int32) q1), S2, jv (posf q0 (2 : Int32) q1), S2, jv (posf q0 (3 : Int32) q1), S2, jv (posf q0 (4 : Int32) q1), S2, iv 1, iv 2, iv ((ush q2 (8 : Int32)) &&& (65535 : Int32)), rv b147, U0, U0]) A at_70 rfl rfl rfl ?_
    refine s_aload (pc' := 74) A at_72 rfl rfl rfl ?_
    refine s_lload (pc' := 76) A at_74 rfl rfl ?_
    refine s_iload (pc' := 78) A at_76 rfl rfl ?_
    obtain ⟨fr167, fr167a, fr167b⟩ := Free.ex (c := 15) own_free0
    refine s_virtual (pc' := 81) (y := y2_put) (argsL := [(.long (posf q0 (0 : Int32) q1)), (.int ((ush q2 (8 : Int32)) &&& (65535 : Int32)))]) (rest := []) (z := y2_put) A H158.1 (m_put l Z a0 hw n0 h159 A.size b147 a156 b157 0 (fun _ => 0) (fun _ => -1) (fun _ => -1) H158 (posf q0 (0 : Int32) q1) ((ush q2 (8 : Int32)) &&& (65535 : Int32)) 1 (own_tab0 (fun _ => 0)) fr167 fr167a fr167b (own_nb0 q2) rfl (by decide) (by decide)) (w27 hw) (w28 hw) (nf_same (C := "") (w30 hw)) (w30 hw) (w29 hw) (w7 hw) (w31 hw) (by decide) pd__JI_V rfl (W := 0) (by decide) (by decide) (Nat.le_of_eq rfl) (by decide) (by decide) rfl rfl at_78 rfl fun T h168 v169 A Q170 => ?_
    obtain ⟨rfl, P162, N163, H164, HT165, FR166⟩ := Q170
    have FR166 := FR166 15 own_free0
    refine Wp.stk (st' := []) rfl ?_
    refine s_iload (pc' := 83) A at_81 rfl rfl ?_
    refine s_iconst (pc' := 84) (z := (1 : Int32)) A at_83 rfl (by decide) ?_
    refine s_icmpY (pc' := 98) A at_84 (by decide) (by decide) (by decide) ?_
    refine s_iload (pc' := 100) A at_98 rfl rfl ?_
    refine s_iconst (pc' := 101) (z := (2 : Int32)) A at_100 rfl (by decide) ?_
    refine s_icmpY (pc' := 115) A at_101 (by decide) (by decide) (by decide) ?_
    refine s_iload (pc' := 117) A at_115 rfl rfl ?_
    refine s_iconst (pc' := 118) (z := (3 : Int32)) A at_117 rfl (by decide) ?_
    refine s_icmpY (pc' := 132) A at_118 (by decide) (by decide) (by decide) ?_
    refine s_iload (pc' := 134) A at_132 rfl rfl ?_
    refine s_ifY (pc' := 142) A at_134 (by decide) (by decide) (by decide) ?_
    refine s_iload (pc' := 144) A at_142 rfl rfl ?_
    refine s_iconst (pc' := 145) (z := (1 : Int32)) A at_144 rfl (by decide) ?_
    refine s_icmpY (pc' := 153) A at_145 (by decide) (by decide) (by decide) ?_
    refine s_iload (pc' := 155) A at_153 rfl rfl ?_
    refine s_iconst (pc' := 156) (z := (2 : Int32)) A at_155 rfl (by decide) ?_
    refine s_icmpN (pc' := 159) A at_156 rfl (by decide) ?_
    refine s_lload (pc' := 161) A at_159 rfl rfl ?_
    refine s_goto (pc' := 177) A at_161 (by decide) (by decide) ?_
    refine s_lstore (pc' := 179) (Ls' := #[jv q0, S2, iv q1, iv q2, jv (posf q0 (0 : Int32) q1), S2, jv (posf q0 (1 : Int32) q1), S2, jv (posf q0 (2 : Int32) q1), S2, jv (posf q0 (3 : Int32) q1), S2, jv (posf q0 (4 : Int32) q1), S2, iv 1, iv 2, iv ((ush q2 (8 : Int32)) &&& (65535 : Int32)), rv b147, jv (posf q0 (2 : Int32) q1), S2]) A at_177 rfl rfl ?_
    refine s_aload (pc' := 181) A at_179 rfl rfl rfl ?_
    refine s_lload (pc' := 183) A at_181 rfl rfl ?_
    obtain ⟨fr177, fr177a, fr177b⟩ := Free.ex (c := 14) FR166
    refine s_virtual (pc' := 186) (y := y3_remove) (argsL := [(.long (posf q0 (2 : Int32) q1))]) (rest := []) (z := y3_remove) A H164.1 (m_rem l Z a0 hw n0 h168 A.size b147 a156 b157 1 P162 N163 (fun r => if r = (posf q0 (0 : Int32) q1) then ((ush q2 (8 : Int32)) &&& (65535 : Int32)) else (fun _ => -1) r) (posf q0 (2 : Int32) q1) H164 HT165 fr177 fr177a fr177b) (w38 hw) (w39 hw) (nf_same (C := "") (w41 hw)) (w41 hw) (w40 hw) (w7 hw) (w42 hw) (by decide) pd__J_V rfl (W := 0) (by decide) (by decide) (Nat.le_of_eq rfl) (by decide) (by decide) rfl rfl at_183 rfl fun T h178 v179 A Q180 => ?_
    obtain ⟨rfl, P171, N172, z173, H174, HT175, f176, f176a, f176b⟩ := Q180
    refine Wp.stk (st' := []) rfl ?_
    refine s_aload (pc' := 188) A at_186 rfl rfl rfl ?_
    refine s_lload (pc' := 190) A at_188 rfl rfl ?_
    refine s_virtual (pc' := 193) (y := y0_get) (argsL := [(.long (posf q0 (0 : Int32) q1))]) (rest := []) (z := y0_get) A H174.1 (m_get l Z a0 hw n0 h178 A.size b147 a156 b157 z173 P171 N172 (fun r => if r = (posf q0 (2 : Int32) q1) then -1 else (fun r => if r = (posf q0 (0 : Int32) q1) then ((ush q2 (8 : Int32)) &&& (65535 : Int32)) else (fun _ => -1) r) r) (posf q0 (0 : Int32) q1) H174 HT175 f176 f176a f176b) (w43 hw) (w44 hw) (nf_same (C := "") (w46 hw)) (w46 hw) (w45 hw) (w7 hw) (w47 hw) (by decide) pd__J_I rfl (W := 0) (by decide) (by decide) (Nat.le_of_eq rfl) (by decide) (by decide) rfl rfl at_190 rfl fun T h181 v182 A Q183 => ?_
    obtain ⟨ev, eh⟩ := Q183
    obtain rfl := ev.trans (congrArg (fun z => some (Value.int z)) (show (fun r => if r = (posf q0 (2 : Int32) q1) then -1 else (fun r => if r = (posf q0 (0 : Int32) q1) then ((ush q2 (8 : Int32)) &&& (65535 : Int32)) else (fun _ => -1) r) r) (posf q0 (0 : Int32) q1) = ((ush q2 (8 : Int32)) &&& (65535 : Int32)) from (by simp only [pn_0_1, pn_0_2, pn_0_3, pn_0_4, pn_1_0, pn_1_2, pn_1_3, pn_1_4, pn_2_0, pn_2_1, pn_2_3, pn_2_4, pn_3_0, pn_3_1, pn_3_2, pn_3_4, pn_4_0, pn_4_1, pn_4_2, pn_4_3, if_true, if_false])))
    rw [eh] at A
    refine Wp.stk (st' := [(.int ((ush q2 (8 : Int32)) &&& (65535 : Int32)))]) rfl ?_
    refine s_iconst (pc' := 194) (z := (0 : Int32)) A at_193 rfl (by decide) ?_
    refine s_iload (pc' := 196) A at_194 rfl rfl ?_
    refine s_iload (pc' := 198) A at_196 rfl rfl ?_
    refine s_iload (pc' := 200) A at_198 rfl rfl ?_
    refine s_static (pc' := 203) (y := y8_check) (argsL := [(.int ((ush q2 (8 : Int32)) &&& (65535 : Int32))), (.int (0 : Int32)), (.int (1 : Int32)), (.int (2 : Int32)), (.int ((ush q2 (8 : Int32)) &&& (65535 : Int32)))]) (rest := []) A (m_in l Z a0 hw n0 h178 A.size ((ush q2 (8 : Int32)) &&& (65535 : Int32)) (0 : Int32) (1 : Int32) (2 : Int32) ((ush q2 (8 : Int32)) &&& (65535 : Int32)) (by decide) (by decide) (Int32.add_zero _).symm) (w48 hw) (w49 hw) (w2 hw) (w50 hw) (by decide) pd__IIIII_Z rfl (W := 0) (by decide) (by decide) (Nat.le_of_eq rfl) (by decide) (by decide) rfl rfl at_200 rfl fun T h184 v185 A Q186 => ?_
    obtain ⟨rfl, eh⟩ := Q186
    rw [eh] at A
    refine Wp.stk (st' := [(.int (1 : Int32))]) rfl ?_
    refine s_ifN (pc' := 206) A at_203 rfl (by decide) ?_
    refine s_aload (pc' := 208) A at_206 rfl rfl rfl ?_
    refine s_lload (pc' := 210) A at_208 rfl rfl ?_
    refine s_virtual (pc' := 213) (y := y0_get) (argsL := [(.long (posf q0 (1 : Int32) q1))]) (rest := []) (z := y0_get) A H174.1 (m_get l Z a0 hw n0 h178 A.size b147 a156 b157 z173 P171 N172 (fun r => if r = (posf q0 (2 : Int32) q1) then -1 else (fun r => if r = (posf q0 (0 : Int32) q1) then ((ush q2 (8 : Int32)) &&& (65535 : Int32)) else (fun _ => -1) r) r) (posf q0 (1 : Int32) q1) H174 HT175 f176 f176a f176b) (w43 hw) (w44 hw) (nf_same (C := "") (w46 hw)) (w46 hw) (w45 hw) (w7 hw) (w47 hw) (by decide) pd__J_I rfl (W := 0) (by decide) (by decide) (Nat.le_of_eq rfl) (by decide) (by decide) rfl rfl at_210 rfl fun T h187 v188 A Q189 => ?_
    obtain ⟨ev, eh⟩ := Q189
    obtain rfl := ev.trans (congrArg (fun z => some (Value.int z)) (show (fun r => if r = (posf q0 (2 : Int32) q1) then -1 else (fun r => if r = (posf q0 (0 : Int32) q1) then ((ush q2 (8 : Int32)) &&& (65535 : Int32)) else (fun _ => -1) r) r) (posf q0 (1 : Int32) q1) = (-1 : Int32) from (by simp only [pn_0_1, pn_0_2, pn_0_3, pn_0_4, pn_1_0, pn_1_2, pn_1_3, pn_1_4, pn_2_0, pn_2_1, pn_2_3, pn_2_4, pn_3_0, pn_3_1, pn_3_2, pn_3_4, pn_4_0, pn_4_1, pn_4_2, pn_4_3, if_true, if_false])))
    rw [eh] at A
    refine Wp.stk (st' := [(.int (-1 : Int32))]) rfl ?_
    refine s_iconst (pc' := 214) (z := (1 : Int32)) A at_213 rfl (by decide) ?_
    refine s_iload (pc' := 216) A at_214 rfl rfl ?_
    refine s_iload (pc' := 218) A at_216 rfl rfl ?_
    refine s_iload (pc' := 220) A at_218 rfl rfl ?_
    refine s_static (pc' := 223) (y := y8_check) (argsL := [(.int (-1 : Int32)), (.int (1 : Int32)), (.int (1 : Int32)), (.int (2 : Int32)), (.int ((ush q2 (8 : Int32)) &&& (65535 : Int32)))]) (rest := []) A (m_out l Z a0 hw n0 h178 A.size (-1 : Int32) (1 : Int32) (1 : Int32) (2 : Int32) ((ush q2 (8 : Int32)) &&& (65535 : Int32)) (Or.inl (by decide)) rfl) (w48 hw) (w49 hw) (w2 hw) (w50 hw) (by decide) pd__IIIII_Z rfl (W := 0) (by decide) (by decide) (Nat.le_of_eq rfl) (by decide) (by decide) rfl rfl at_220 rfl fun T h190 v191 A Q192 => ?_
    obtain ⟨rfl, eh⟩ := Q192
    rw [eh] at A
    refine Wp.stk (st' := [(.int (1 : Int32))]) rfl ?_
    refine s_ifN (pc' := 226) A at_223 rfl (by decide) ?_
    refine s_aload (pc' := 228) A at_226 rfl rfl rfl ?_
    refine s_lload (pc' := 230) A at_228 rfl rfl ?_
    refine s_virtual (pc' := 233) (y := y0_get) (argsL := [(.long (posf q0 (2 : Int32) q1))]) (rest := []) (z := y0_get) A H174.1 (m_get l Z a0 hw n0 h178 A.size b147 a156 b157 z173 P171 N172 (fun r => if r = (posf q0 (2 : Int32) q1) then -1 else (fun r => if r = (posf q0 (0 : Int32) q1) then ((ush q2 (8 : Int32)) &&& (65535 : Int32)) else (fun _ => -1) r) r) (posf q0 (2 : Int32) q1) H174 HT175 f176 f176a f176b) (w43 hw) (w44 hw) (nf_same (C := "") (w46 hw)) (w46 hw) (w45 hw) (w7 hw) (w47 hw) (by decide) pd__J_I rfl (W := 0) (by decide) (by decide) (Nat.le_of_eq rfl) (by decide) (by decide) rfl rfl at_230 rfl fun T h193 v194 A Q195 => ?_
    obtain ⟨ev, eh⟩ := Q195
    obtain rfl := ev.trans (congrArg (fun z => some (Value.int z)) (show (fun r => if r = (posf q0 (2 : Int32) q1) then -1 else (fun r => if r = (posf q0 (0 : Int32) q1) then ((ush q2 (8 : Int32)) &&& (65535 : Int32)) else (fun _ => -1) r) r) (posf q0 (2 : Int32) q1) = (-1 : Int32) from (by simp only [pn_0_1, pn_0_2, pn_0_3, pn_0_4, pn_1_0, pn_1_2, pn_1_3, pn_1_4, pn_2_0, pn_2_1, pn_2_3, pn_2_4, pn_3_0, pn_3_1, pn_3_2, pn_3_4, pn_4_0, pn_4_1, pn_4_2, pn_4_3, if_true, if_false])))
    rw [eh] at A
    refine Wp.stk (st' := [(.int (-1 : Int32))]) rfl ?_
    refine s_iconst (pc' := 234) (z := (2 : Int32)) A at_233 rfl (by decide) ?_
    refine s_iload (pc' := 236) A at_234 rfl rfl ?_
    refine s_iload (pc' := 238) A at_236 rfl rfl ?_
    refine s_iload (pc' := 240) A at_238 rfl rfl ?_
    refine s_static (pc' := 243) (y := y8_check) (argsL := [(.int (-1 : Int32)), (.int (2 : Int32)), (.int (1 : Int32)), (.int (2 : Int32)), (.int ((ush q2 (8 : Int32)) &&& (65535 : Int32)))]) (rest := []) A (m_out l Z a0 hw n0 h178 A.size (-1 : Int32) (2 : Int32) (1 : Int32) (2 : Int32) ((ush q2 (8 : Int32)) &&& (65535 : Int32)) (Or.inl (by decide)) rfl) (w48 hw) (w49 hw) (w2 hw) (w50 hw) (by decide) pd__IIIII_Z rfl (W := 0) (by decide) (by decide) (Nat.le_of_eq rfl) (by decide) (by decide) rfl rfl at_240 rfl fun T h196 v197 A Q198 => ?_
    obtain ⟨rfl, eh⟩ := Q198
    rw [eh] at A
    refine Wp.stk (st' := [(.int (1 : Int32))]) rfl ?_
    refine s_ifN (pc' := 246) A at_243 rfl (by decide) ?_
    refine s_aload (pc' := 248) A at_246 rfl rfl rfl ?_
    refine s_lload (pc' := 250) A at_248 rfl rfl ?_
    refine s_virtual (pc' := 253) (y := y0_get) (argsL := [(.long (posf q0 (3 : Int32) q1))]) (rest := []) (z := y0_get) A H174.1 (m_get l Z a0 hw n0 h178 A.size b147 a156 b157 z173 P171 N172 (fun r => if r = (posf q0 (2 : Int32) q1) then -1 else (fun r => if r = (posf q0 (0 : Int32) q1) then ((ush q2 (8 : Int32)) &&& (65535 : Int32)) else (fun _ => -1) r) r) (posf q0 (3 : Int32) q1) H174 HT175 f176 f176a f176b) (w43 hw) (w44 hw) (nf_same (C := "") (w46 hw)) (w46 hw) (w45 hw) (w7 hw) (w47 hw) (by decide) pd__J_I rfl (W := 0) (by decide) (by decide) (Nat.le_of_eq rfl) (by decide) (by decide) rfl rfl at_250 rfl fun T h199 v200 A Q201 => ?_
    obtain ⟨ev, eh⟩ := Q201
    obtain rfl := ev.trans (congrArg (fun z => some (Value.int z)) (show (fun r => if r = (posf q0 (2 : Int32) q1) then -1 else (fun r => if r = (posf q0 (0 : Int32) q1) then ((ush q2 (8 : Int32)) &&& (65535 : Int32)) else (fun _ => -1) r) r) (posf q0 (3 : Int32) q1) = (-1 : Int32) from (by simp only [pn_0_1, pn_0_2, pn_0_3, pn_0_4, pn_1_0, pn_1_2, pn_1_3, pn_1_4, pn_2_0, pn_2_1, pn_2_3, pn_2_4, pn_3_0, pn_3_1, pn_3_2, pn_3_4, pn_4_0, pn_4_1, pn_4_2, pn_4_3, if_true, if_false])))
    rw [eh] at A
    refine Wp.stk (st' := [(.int (-1 : Int32))]) rfl ?_
    refine s_iconst (pc' := 254) (z := (3 : Int32)) A at_253 rfl (by decide) ?_
    refine s_iload (pc' := 256) A at_254 rfl rfl ?_
    refine s_iload (pc' := 258) A at_256 rfl rfl ?_
    refine s_iload (pc' := 260) A at_258 rfl rfl ?_
    refine s_static (pc' := 263) (y := y8_check) (argsL := [(.int (-1 : Int32)), (.int (3 : Int32)), (.int (1 : Int32)), (.int (2 : Int32)), (.int ((ush q2 (8 : Int32)) &&& (65535 : Int32)))]) (rest := []) A (m_out l Z a0 hw n0 h178 A.size (-1 : Int32) (3 : Int32) (1 : Int32) (2 : Int32) ((ush q2 (8 : Int32)) &&& (65535 : Int32)) (Or.inl (by decide)) rfl) (w48 hw) (w49 hw) (w2 hw) (w50 hw) (by decide) pd__IIIII_Z rfl (W := 0) (by decide) (by decide) (Nat.le_of_eq rfl) (by decide) (by decide) rfl rfl at_260 rfl fun T h202 v203 A Q204 => ?_
    obtain ⟨rfl, eh⟩ := Q204
    rw [eh] at A
    refine Wp.stk (st' := [(.int (1 : Int32))]) rfl ?_
    refine s_ifN (pc' := 266) A at_263 rfl (by decide) ?_
    refine s_aload (pc' := 268) A at_266 rfl rfl rfl ?_
    refine s_lload (pc' := 270) A at_268 rfl rfl ?_
    refine s_virtual (pc' := 273) (y := y0_get) (argsL := [(.long (posf q0 (4 : Int32) q1))]) (rest := []) (z := y0_get) A H174.1 (m_get l Z a0 hw n0 h178 A.size b147 a156 b157 z173 P171 N172 (fun r => if r = (posf q0 (2 : Int32) q1) then -1 else (fun r => if r = (posf q0 (0 : Int32) q1) then ((ush q2 (8 : Int32)) &&& (65535 : Int32)) else (fun _ => -1) r) r) (posf q0 (4 : Int32) q1) H174 HT175 f176 f176a f176b) (w43 hw) (w44 hw) (nf_same (C := "") (w46 hw)) (w46 hw) (w45 hw) (w7 hw) (w47 hw) (by decide) pd__J_I rfl (W := 0) (by decide) (by decide) (Nat.le_of_eq rfl) (by decide) (by decide) rfl rfl at_270 rfl fun T h205 v206 A Q207 => ?_
    obtain ⟨ev, eh⟩ := Q207
    obtain rfl := ev.trans (congrArg (fun z => some (Value.int z)) (show (fun r => if r = (posf q0 (2 : Int32) q1) then -1 else (fun r => if r = (posf q0 (0 : Int32) q1) then ((ush q2 (8 : Int32)) &&& (65535 : Int32)) else (fun _ => -1) r) r) (posf q0 (4 : Int32) q1) = (-1 : Int32) from (by simp only [pn_0_1, pn_0_2, pn_0_3, pn_0_4, pn_1_0, pn_1_2, pn_1_3, pn_1_4, pn_2_0, pn_2_1, pn_2_3, pn_2_4, pn_3_0, pn_3_1, pn_3_2, pn_3_4, pn_4_0, pn_4_1, pn_4_2, pn_4_3, if_true, if_false])))
    rw [eh] at A
    refine Wp.stk (st' := [(.int (-1 : Int32))]) rfl ?_
    refine s_iconst (pc' := 274) (z := (4 : Int32)) A at_273 rfl (by decide) ?_
    refine s_iload (pc' := 276) A at_274 rfl rfl ?_
    refine s_iload (pc' := 278) A at_276 rfl rfl ?_
    refine s_iload (pc' := 280) A at_278 rfl rfl ?_
    refine s_static (pc' := 283) (y := y8_check) (argsL := [(.int (-1 : Int32)), (.int (4 : Int32)), (.int (1 : Int32)), (.int (2 : Int32)), (.int ((ush q2 (8 : Int32)) &&& (65535 : Int32)))]) (rest := []) A (m_out l Z a0 hw n0 h178 A.size (-1 : Int32) (4 : Int32) (1 : Int32) (2 : Int32) ((ush q2 (8 : Int32)) &&& (65535 : Int32)) (Or.inl (by decide)) rfl) (w48 hw) (w49 hw) (w2 hw) (w50 hw) (by decide) pd__IIIII_Z rfl (W := 0) (by decide) (by decide) (Nat.le_of_eq rfl) (by decide) (by decide) rfl rfl at_280 rfl fun T h208 v209 A Q210 => ?_
    obtain ⟨rfl, eh⟩ := Q210
    rw [eh] at A
    refine Wp.stk (st' := [(.int (1 : Int32))]) rfl ?_
    refine s_ifN (pc' := 286) A at_283 rfl (by decide) ?_
    refine s_iconst (pc' := 287) (z := (1 : Int32)) A at_286 rfl (by decide) ?_
    refine s_goto (pc' := 291) A at_287 (by decide) (by decide) ?_
    exact r_bool A rfl (by decide) at_291 (by decide) (by decide) (rfl)
   ·
    refine s_irem (pc' := 52) (z := (3 : Int32)) A at_51 rfl (by decide) hrr.symm ?_
    refine s_istore (pc' := 54) (Ls' := #[jv q0, S2, iv q1, iv q2, jv (posf q0 (0 : Int32) q1), S2, jv (posf q0 (1 : Int32) q1), S2, jv (posf q0 (2 : Int32) q1), S2, jv (posf q0 (3 : Int32) q1), S2, jv (posf q0 (4 : Int32) q1), S2, iv 1, iv 3, U0, U0, U0, U0]) A at_52 rfl rfl ?_
    refine s_iloadN (pc' := 55) A at_54 rfl rfl ?_
    refine s_bipush (pc' := 57) (z := (8 : Int32)) A at_55 rfl (by decide) ?_
    refine s_iushr (pc' := 58) (z := (ush q2 (8 : Int32))) A at_57 rfl rfl ?_
    refine s_ldcInt (pc' := 60) A at_58 rfl (w4 hw) ?_
    refine s_iand (pc' := 61) (z := ((ush q2 (8 : Int32)) &&& (65535 : Int32))) A at_60 rfl rfl ?_
    refine s_istore (pc' := 63) (Ls' := #[jv q0, S2, iv q1, iv q2, jv (posf q0 (0 : Int32) q1), S2, jv (posf q0 (1 : Int32) q1), S2, jv (posf q0 (2 : Int32) q1), S2, jv (posf q0 (3 : Int32) q1), S2, jv (posf q0 (4 : Int32) q1), S2, iv 1, iv 3, iv ((ush q2 (8 : Int32)) &&& (65535 : Int32)), U0, U0, U0]) A at_61 rfl rfl ?_
    refine s_new (pc' := 66) A (w5 hw) (w6 hw) (w7 hw) (by decide) (by decide) at_63 rfl fun T h211 b212 A g213 ge214 X215 E216 D217 => ?_
    have F218 : Fld Z h211 b212 "com/example/wirefram/wirefram/sequence/PositionIndex" "positions" "[J" .null := D217 (Or.inl (w16 hw)) (ty := (.array .long)) (by decide)
    have F219 : Fld Z h211 b212 "com/example/wirefram/wirefram/sequence/PositionIndex" "numbers" "[I" .null := D217 (Or.inl (w26 hw)) (ty := (.array .int)) (by decide)
    have F220 : Fld Z h211 b212 "com/example/wirefram/wirefram/sequence/PositionIndex" "size" "I" (.int (0 : Int32)) := D217 (Or.inl (w33 hw)) (ty := .int) (by decide)
    refine s_dup (pc' := 67) A at_66 rfl rfl ?_
    refine s_special (pc' := 70) (y := y6_init) (argsL := []) (rest := [(.ref b212)]) A (m_init l Z a0 hw n0 h211 A.size b212 E216 F218 F219 F220 ge214) rfl (w8 hw) (w9 hw) (w7 hw) (w10 hw) (by decide) pd___V rfl (W := 1) (by decide) (by decide) (Nat.le_of_eq rfl) (by decide) (by decide) rfl rfl at_67 rfl fun T h224 v225 A Q226 => ?_
    obtain ⟨rfl, a221, b222, H223⟩ := Q226
    refine Wp.stk (st' := [(.ref b212)]) rfl ?_
    refine s_astore (pc' := 72) (Ls' := #[jv q0, S2, iv q1, iv q2, jv (posf q0 (0 : Int32) q1), S2, jv (posf q0 (1 : Int32) q1), S2, jv (posf q0 (2 : Int32) q1), S2, jv (posf q0 (3 : Int32) q1), S2, jv (posf q0 (4 : Int32) q1), S2, iv 1, iv 3, iv ((ush q2 (8 : Int32)) &&& (65535 : Int32)), rv b212, U0, U0]) A at_70 rfl rfl rfl ?_
    refine s_aload (pc' := 74) A at_72 rfl rfl rfl ?_
    refine s_lload (pc' := 76) A at_74 rfl rfl ?_
    refine s_iload (pc' := 78) A at_76 rfl rfl ?_
    obtain ⟨fr232, fr232a, fr232b⟩ := Free.ex (c := 15) own_free0
    refine s_virtual (pc' := 81) (y := y2_put) (argsL := [(.long (posf q0 (0 : Int32) q1)), (.int ((ush q2 (8 : Int32)) &&& (65535 : Int32)))]) (rest := []) (z := y2_put) A H223.1 (m_put l Z a0 hw n0 h224 A.size b212 a221 b222 0 (fun _ => 0) (fun _ => -1) (fun _ => -1) H223 (posf q0 (0 : Int32) q1) ((ush q2 (8 : Int32)) &&& (65535 : Int32)) 1 (own_tab0 (fun _ => 0)) fr232 fr232a fr232b (own_nb0 q2) rfl (by decide) (by decide)) (w27 hw) (w28 hw) (nf_same (C := "") (w30 hw)) (w30 hw) (w29 hw) (w7 hw) (w31 hw) (by decide) pd__JI_V rfl (W := 0) (by decide) (by decide) (Nat.le_of_eq rfl) (by decide) (by decide) rfl rfl at_78 rfl fun T h233 v234 A Q235 => ?_
    obtain ⟨rfl, P227, N228, H229, HT230, FR231⟩ := Q235
    have FR231 := FR231 15 own_free0
    refine Wp.stk (st' := []) rfl ?_
    refine s_iload (pc' := 83) A at_81 rfl rfl ?_
    refine s_iconst (pc' := 84) (z := (1 : Int32)) A at_83 rfl (by decide) ?_
    refine s_icmpY (pc' := 98) A at_84 (by decide) (by decide) (by decide) ?_
    refine s_iload (pc' := 100) A at_98 rfl rfl ?_
    refine s_iconst (pc' := 101) (z := (2 : Int32)) A at_100 rfl (by decide) ?_
    refine s_icmpY (pc' := 115) A at_101 (by decide) (by decide) (by decide) ?_
    refine s_iload (pc' := 117) A at_115 rfl rfl ?_
    refine s_iconst (pc' := 118) (z := (3 : Int32)) A at_117 rfl (by decide) ?_
    refine s_icmpY (pc' := 132) A at_118 (by decide) (by decide) (by decide) ?_
    refine s_iload (pc' := 134) A at_132 rfl rfl ?_
    refine s_ifY (pc' := 142) A at_134 (by decide) (by decide) (by decide) ?_
    refine s_iload (pc' := 144) A at_142 rfl rfl ?_
    refine s_iconst (pc' := 145) (z := (1 : Int32)) A at_144 rfl (by decide) ?_
    refine s_icmpY (pc' := 153) A at_145 (by decide) (by decide) (by decide) ?_
    refine s_iload (pc' := 155) A at_153 rfl rfl ?_
    refine s_iconst (pc' := 156) (z := (2 : Int32)) A at_155 rfl (by decide) ?_
    refine s_icmpY (pc' := 164) A at_156 (by decide) (by decide) (by decide) ?_
    refine s_iload (pc' := 166) A at_164 rfl rfl ?_
    refine s_iconst (pc' := 167) (z := (3 : Int32)) A at_166 rfl (by decide) ?_
    refine s_icmpN (pc' := 170) A at_167 rfl (by decide) ?_
    refine s_lload (pc' := 172) A at_170 rfl rfl ?_
    refine s_goto (pc' := 177) A at_172 (by decide) (by decide) ?_
    refine s_lstore (pc' := 179) (Ls' := #[jv q0, S2, iv q1, iv q2, jv (posf q0 (0 : Int32) q1), S2, jv (posf q0 (1 : Int32) q1), S2, jv (posf q0 (2 : Int32) q1), S2, jv (posf q0 (3 : Int32) q1), S2, jv (posf q0 (4 : Int32) q1), S2, iv 1, iv 3, iv ((ush q2 (8 : Int32)) &&& (65535 : Int32)), rv b212, jv (posf q0 (3 : Int32) q1), S2]) A at_177 rfl rfl ?_
    refine s_aload (pc' := 181) A at_179 rfl rfl rfl ?_
    refine s_lload (pc' := 183) A at_181 rfl rfl ?_
    obtain ⟨fr242, fr242a, fr242b⟩ := Free.ex (c := 14) FR231
    refine s_virtual (pc' := 186) (y := y3_remove) (argsL := [(.long (posf q0 (3 : Int32) q1))]) (rest := []) (z := y3_remove) A H229.1 (m_rem l Z a0 hw n0 h233 A.size b212 a221 b222 1 P227 N228 (fun r => if r = (posf q0 (0 : Int32) q1) then ((ush q2 (8 : Int32)) &&& (65535 : Int32)) else (fun _ => -1) r) (posf q0 (3 : Int32) q1) H229 HT230 fr242 fr242a fr242b) (w38 hw) (w39 hw) (nf_same (C := "") (w41 hw)) (w41 hw) (w40 hw) (w7 hw) (w42 hw) (by decide) pd__J_V rfl (W := 0) (by decide) (by decide) (Nat.le_of_eq rfl) (by decide) (by decide) rfl rfl at_183 rfl fun T h243 v244 A Q245 => ?_
    obtain ⟨rfl, P236, N237, z238, H239, HT240, f241, f241a, f241b⟩ := Q245
    refine Wp.stk (st' := []) rfl ?_
    refine s_aload (pc' := 188) A at_186 rfl rfl rfl ?_
    refine s_lload (pc' := 190) A at_188 rfl rfl ?_
    refine s_virtual (pc' := 193) (y := y0_get) (argsL := [(.long (posf q0 (0 : Int32) q1))]) (rest := []) (z := y0_get) A H239.1 (m_get l Z a0 hw n0 h243 A.size b212 a221 b222 z238 P236 N237 (fun r => if r = (posf q0 (3 : Int32) q1) then -1 else (fun r => if r = (posf q0 (0 : Int32) q1) then ((ush q2 (8 : Int32)) &&& (65535 : Int32)) else (fun _ => -1) r) r) (posf q0 (0 : Int32) q1) H239 HT240 f241 f241a f241b) (w43 hw) (w44 hw) (nf_same (C := "") (w46 hw)) (w46 hw) (w45 hw) (w7 hw) (w47 hw) (by decide) pd__J_I rfl (W := 0) (by decide) (by decide) (Nat.le_of_eq rfl) (by decide) (by decide) rfl rfl at_190 rfl fun T h246 v247 A Q248 => ?_
    obtain ⟨ev, eh⟩ := Q248
    obtain rfl := ev.trans (congrArg (fun z => some (Value.int z)) (show (fun r => if r = (posf q0 (3 : Int32) q1) then -1 else (fun r => if r = (posf q0 (0 : Int32) q1) then ((ush q2 (8 : Int32)) &&& (65535 : Int32)) else (fun _ => -1) r) r) (posf q0 (0 : Int32) q1) = ((ush q2 (8 : Int32)) &&& (65535 : Int32)) from (by simp only [pn_0_1, pn_0_2, pn_0_3, pn_0_4, pn_1_0, pn_1_2, pn_1_3, pn_1_4, pn_2_0, pn_2_1, pn_2_3, pn_2_4, pn_3_0, pn_3_1, pn_3_2, pn_3_4, pn_4_0, pn_4_1, pn_4_2, pn_4_3, if_true, if_false])))
    rw [eh] at A
    refine Wp.stk (st' := [(.int ((ush q2 (8 : Int32)) &&& (65535 : Int32)))]) rfl ?_
    refine s_iconst (pc' := 194) (z := (0 : Int32)) A at_193 rfl (by decide) ?_
    refine s_iload (pc' := 196) A at_194 rfl rfl ?_
    refine s_iload (pc' := 198) A at_196 rfl rfl ?_
    refine s_iload (pc' := 200) A at_198 rfl rfl ?_
    refine s_static (pc' := 203) (y := y8_check) (argsL := [(.int ((ush q2 (8 : Int32)) &&& (65535 : Int32))), (.int (0 : Int32)), (.int (1 : Int32)), (.int (3 : Int32)), (.int ((ush q2 (8 : Int32)) &&& (65535 : Int32)))]) (rest := []) A (m_in l Z a0 hw n0 h243 A.size ((ush q2 (8 : Int32)) &&& (65535 : Int32)) (0 : Int32) (1 : Int32) (3 : Int32) ((ush q2 (8 : Int32)) &&& (65535 : Int32)) (by decide) (by decide) (Int32.add_zero _).symm) (w48 hw) (w49 hw) (w2 hw) (w50 hw) (by decide) pd__IIIII_Z rfl (W := 0) (by decide) (by decide) (Nat.le_of_eq rfl) (by decide) (by decide) rfl rfl at_200 rfl fun T h249 v250 A Q251 => ?_
    obtain ⟨rfl, eh⟩ := Q251
    rw [eh] at A
    refine Wp.stk (st' := [(.int (1 : Int32))]) rfl ?_
    refine s_ifN (pc' := 206) A at_203 rfl (by decide) ?_
    refine s_aload (pc' := 208) A at_206 rfl rfl rfl ?_
    refine s_lload (pc' := 210) A at_208 rfl rfl ?_
    refine s_virtual (pc' := 213) (y := y0_get) (argsL := [(.long (posf q0 (1 : Int32) q1))]) (rest := []) (z := y0_get) A H239.1 (m_get l Z a0 hw n0 h243 A.size b212 a221 b222 z238 P236 N237 (fun r => if r = (posf q0 (3 : Int32) q1) then -1 else (fun r => if r = (posf q0 (0 : Int32) q1) then ((ush q2 (8 : Int32)) &&& (65535 : Int32)) else (fun _ => -1) r) r) (posf q0 (1 : Int32) q1) H239 HT240 f241 f241a f241b) (w43 hw) (w44 hw) (nf_same (C := "") (w46 hw)) (w46 hw) (w45 hw) (w7 hw) (w47 hw) (by decide) pd__J_I rfl (W := 0) (by decide) (by decide) (Nat.le_of_eq rfl) (by decide) (by decide) rfl rfl at_210 rfl fun T h252 v253 A Q254 => ?_
    obtain ⟨ev, eh⟩ := Q254
    obtain rfl := ev.trans (congrArg (fun z => some (Value.int z)) (show (fun r => if r = (posf q0 (3 : Int32) q1) then -1 else (fun r => if r = (posf q0 (0 : Int32) q1) then ((ush q2 (8 : Int32)) &&& (65535 : Int32)) else (fun _ => -1) r) r) (posf q0 (1 : Int32) q1) = (-1 : Int32) from (by simp only [pn_0_1, pn_0_2, pn_0_3, pn_0_4, pn_1_0, pn_1_2, pn_1_3, pn_1_4, pn_2_0, pn_2_1, pn_2_3, pn_2_4, pn_3_0, pn_3_1, pn_3_2, pn_3_4, pn_4_0, pn_4_1, pn_4_2, pn_4_3, if_true, if_false])))
    rw [eh] at A
    refine Wp.stk (st' := [(.int (-1 : Int32))]) rfl ?_
    refine s_iconst (pc' := 214) (z := (1 : Int32)) A at_213 rfl (by decide) ?_
    refine s_iload (pc' := 216) A at_214 rfl rfl ?_
    refine s_iload (pc' := 218) A at_216 rfl rfl ?_
    refine s_iload (pc' := 220) A at_218 rfl rfl ?_
    refine s_static (pc' := 223) (y := y8_check) (argsL := [(.int (-1 : Int32)), (.int (1 : Int32)), (.int (1 : Int32)), (.int (3 : Int32)), (.int ((ush q2 (8 : Int32)) &&& (65535 : Int32)))]) (rest := []) A (m_out l Z a0 hw n0 h243 A.size (-1 : Int32) (1 : Int32) (1 : Int32) (3 : Int32) ((ush q2 (8 : Int32)) &&& (65535 : Int32)) (Or.inl (by decide)) rfl) (w48 hw) (w49 hw) (w2 hw) (w50 hw) (by decide) pd__IIIII_Z rfl (W := 0) (by decide) (by decide) (Nat.le_of_eq rfl) (by decide) (by decide) rfl rfl at_220 rfl fun T h255 v256 A Q257 => ?_
    obtain ⟨rfl, eh⟩ := Q257
    rw [eh] at A
    refine Wp.stk (st' := [(.int (1 : Int32))]) rfl ?_
    refine s_ifN (pc' := 226) A at_223 rfl (by decide) ?_
    refine s_aload (pc' := 228) A at_226 rfl rfl rfl ?_
    refine s_lload (pc' := 230) A at_228 rfl rfl ?_
    refine s_virtual (pc' := 233) (y := y0_get) (argsL := [(.long (posf q0 (2 : Int32) q1))]) (rest := []) (z := y0_get) A H239.1 (m_get l Z a0 hw n0 h243 A.size b212 a221 b222 z238 P236 N237 (fun r => if r = (posf q0 (3 : Int32) q1) then -1 else (fun r => if r = (posf q0 (0 : Int32) q1) then ((ush q2 (8 : Int32)) &&& (65535 : Int32)) else (fun _ => -1) r) r) (posf q0 (2 : Int32) q1) H239 HT240 f241 f241a f241b) (w43 hw) (w44 hw) (nf_same (C := "") (w46 hw)) (w46 hw) (w45 hw) (w7 hw) (w47 hw) (by decide) pd__J_I rfl (W := 0) (by decide) (by decide) (Nat.le_of_eq rfl) (by decide) (by decide) rfl rfl at_230 rfl fun T h258 v259 A Q260 => ?_
    obtain ⟨ev, eh⟩ := Q260
    obtain rfl := ev.trans (congrArg (fun z => some (Value.int z)) (show (fun r => if r = (posf q0 (3 : Int32) q1) then -1 else (fun r => if r = (posf q0 (0 : Int32) q1) then ((ush q2 (8 : Int32)) &&& (65535 : Int32)) else (fun _ => -1) r) r) (posf q0 (2 : Int32) q1) = (-1 : Int32) from (by simp only [pn_0_1, pn_0_2, pn_0_3, pn_0_4, pn_1_0, pn_1_2, pn_1_3, pn_1_4, pn_2_0, pn_2_1, pn_2_3, pn_2_4, pn_3_0, pn_3_1, pn_3_2, pn_3_4, pn_4_0, pn_4_1, pn_4_2, pn_4_3, if_true, if_false])))
    rw [eh] at A
    refine Wp.stk (st' := [(.int (-1 : Int32))]) rfl ?_
    refine s_iconst (pc' := 234) (z := (2 : Int32)) A at_233 rfl (by decide) ?_
    refine s_iload (pc' := 236) A at_234 rfl rfl ?_
    refine s_iload (pc' := 238) A at_236 rfl rfl ?_
    refine s_iload (pc' := 240) A at_238 rfl rfl ?_
    refine s_static (pc' := 243) (y := y8_check) (argsL := [(.int (-1 : Int32)), (.int (2 : Int32)), (.int (1 : Int32)), (.int (3 : Int32)), (.int ((ush q2 (8 : Int32)) &&& (65535 : Int32)))]) (rest := []) A (m_out l Z a0 hw n0 h243 A.size (-1 : Int32) (2 : Int32) (1 : Int32) (3 : Int32) ((ush q2 (8 : Int32)) &&& (65535 : Int32)) (Or.inl (by decide)) rfl) (w48 hw) (w49 hw) (w2 hw) (w50 hw) (by decide) pd__IIIII_Z rfl (W := 0) (by decide) (by decide) (Nat.le_of_eq rfl) (by decide) (by decide) rfl rfl at_240 rfl fun T h261 v262 A Q263 => ?_
    obtain ⟨rfl, eh⟩ := Q263
    rw [eh] at A
    refine Wp.stk (st' := [(.int (1 : Int32))]) rfl ?_
    refine s_ifN (pc' := 246) A at_243 rfl (by decide) ?_
    refine s_aload (pc' := 248) A at_246 rfl rfl rfl ?_
    refine s_lload (pc' := 250) A at_248 rfl rfl ?_
    refine s_virtual (pc' := 253) (y := y0_get) (argsL := [(.long (posf q0 (3 : Int32) q1))]) (rest := []) (z := y0_get) A H239.1 (m_get l Z a0 hw n0 h243 A.size b212 a221 b222 z238 P236 N237 (fun r => if r = (posf q0 (3 : Int32) q1) then -1 else (fun r => if r = (posf q0 (0 : Int32) q1) then ((ush q2 (8 : Int32)) &&& (65535 : Int32)) else (fun _ => -1) r) r) (posf q0 (3 : Int32) q1) H239 HT240 f241 f241a f241b) (w43 hw) (w44 hw) (nf_same (C := "") (w46 hw)) (w46 hw) (w45 hw) (w7 hw) (w47 hw) (by decide) pd__J_I rfl (W := 0) (by decide) (by decide) (Nat.le_of_eq rfl) (by decide) (by decide) rfl rfl at_250 rfl fun T h264 v265 A Q266 => ?_
    obtain ⟨ev, eh⟩ := Q266
    obtain rfl := ev.trans (congrArg (fun z => some (Value.int z)) (show (fun r => if r = (posf q0 (3 : Int32) q1) then -1 else (fun r => if r = (posf q0 (0 : Int32) q1) then ((ush q2 (8 : Int32)) &&& (65535 : Int32)) else (fun _ => -1) r) r) (posf q0 (3 : Int32) q1) = (-1 : Int32) from (by simp only [pn_0_1, pn_0_2, pn_0_3, pn_0_4, pn_1_0, pn_1_2, pn_1_3, pn_1_4, pn_2_0, pn_2_1, pn_2_3, pn_2_4, pn_3_0, pn_3_1, pn_3_2, pn_3_4, pn_4_0, pn_4_1, pn_4_2, pn_4_3, if_true, if_false])))
    rw [eh] at A
    refine Wp.stk (st' := [(.int (-1 : Int32))]) rfl ?_
    refine s_iconst (pc' := 254) (z := (3 : Int32)) A at_253 rfl (by decide) ?_
    refine s_iload (pc' := 256) A at_254 rfl rfl ?_
    refine s_iload (pc' := 258) A at_256 rfl rfl ?_
    refine s_iload (pc' := 260) A at_258 rfl rfl ?_
    refine s_static (pc' := 263) (y := y8_check) (argsL := [(.int (-1 : Int32)), (.int (3 : Int32)), (.int (1 : Int32)), (.int (3 : Int32)), (.int ((ush q2 (8 : Int32)) &&& (65535 : Int32)))]) (rest := []) A (m_out l Z a0 hw n0 h243 A.size (-1 : Int32) (3 : Int32) (1 : Int32) (3 : Int32) ((ush q2 (8 : Int32)) &&& (65535 : Int32)) (Or.inl (by decide)) rfl) (w48 hw) (w49 hw) (w2 hw) (w50 hw) (by decide) pd__IIIII_Z rfl (W := 0) (by decide) (by decide) (Nat.le_of_eq rfl) (by decide) (by decide) rfl rfl at_260 rfl fun T h267 v268 A Q269 => ?_
    obtain ⟨rfl, eh⟩ := Q269
    rw [eh] at A
    refine Wp.stk (st' := [(.int (1 : Int32))]) rfl ?_
    refine s_ifN (pc' := 266) A at_263 rfl (by decide) ?_
    refine s_aload (pc' := 268) A at_266 rfl rfl rfl ?_
    refine s_lload (pc' := 270) A at_268 rfl rfl ?_
    refine s_virtual (pc' := 273) (y := y0_get) (argsL := [(.long (posf q0 (4 : Int32) q1))]) (rest := []) (z := y0_get) A H239.1 (m_get l Z a0 hw n0 h243 A.size b212 a221 b222 z238 P236 N237 (fun r => if r = (posf q0 (3 : Int32) q1) then -1 else (fun r => if r = (posf q0 (0 : Int32) q1) then ((ush q2 (8 : Int32)) &&& (65535 : Int32)) else (fun _ => -1) r) r) (posf q0 (4 : Int32) q1) H239 HT240 f241 f241a f241b) (w43 hw) (w44 hw) (nf_same (C := "") (w46 hw)) (w46 hw) (w45 hw) (w7 hw) (w47 hw) (by decide) pd__J_I rfl (W := 0) (by decide) (by decide) (Nat.le_of_eq rfl) (by decide) (by decide) rfl rfl at_270 rfl fun T h270 v271 A Q272 => ?_
    obtain ⟨ev, eh⟩ := Q272
    obtain rfl := ev.trans (congrArg (fun z => some (Value.int z)) (show (fun r => if r = (posf q0 (3 : Int32) q1) then -1 else (fun r => if r = (posf q0 (0 : Int32) q1) then ((ush q2 (8 : Int32)) &&& (65535 : Int32)) else (fun _ => -1) r) r) (posf q0 (4 : Int32) q1) = (-1 : Int32) from (by simp only [pn_0_1, pn_0_2, pn_0_3, pn_0_4, pn_1_0, pn_1_2, pn_1_3, pn_1_4, pn_2_0, pn_2_1, pn_2_3, pn_2_4, pn_3_0, pn_3_1, pn_3_2, pn_3_4, pn_4_0, pn_4_1, pn_4_2, pn_4_3, if_true, if_false])))
    rw [eh] at A
    refine Wp.stk (st' := [(.int (-1 : Int32))]) rfl ?_
    refine s_iconst (pc' := 274) (z := (4 : Int32)) A at_273 rfl (by decide) ?_
    refine s_iload (pc' := 276) A at_274 rfl rfl ?_
    refine s_iload (pc' := 278) A at_276 rfl rfl ?_
    refine s_iload (pc' := 280) A at_278 rfl rfl ?_
    refine s_static (pc' := 283) (y := y8_check) (argsL := [(.int (-1 : Int32)), (.int (4 : Int32)), (.int (1 : Int32)), (.int (3 : Int32)), (.int ((ush q2 (8 : Int32)) &&& (65535 : Int32)))]) (rest := []) A (m_out l Z a0 hw n0 h243 A.size (-1 : Int32) (4 : Int32) (1 : Int32) (3 : Int32) ((ush q2 (8 : Int32)) &&& (65535 : Int32)) (Or.inl (by decide)) rfl) (w48 hw) (w49 hw) (w2 hw) (w50 hw) (by decide) pd__IIIII_Z rfl (W := 0) (by decide) (by decide) (Nat.le_of_eq rfl) (by decide) (by decide) rfl rfl at_280 rfl fun T h273 v274 A Q275 => ?_
    obtain ⟨rfl, eh⟩ := Q275
    rw [eh] at A
    refine Wp.stk (st' := [(.int (1 : Int32))]) rfl ?_
    refine s_ifN (pc' := 286) A at_283 rfl (by decide) ?_
    refine s_iconst (pc' := 287) (z := (1 : Int32)) A at_286 rfl (by decide) ?_
    refine s_goto (pc' := 291) A at_287 (by decide) (by decide) ?_
    exact r_bool A rfl (by decide) at_291 (by decide) (by decide) (rfl)
   ·
    refine s_irem (pc' := 52) (z := (4 : Int32)) A at_51 rfl (by decide) hrr.symm ?_
    refine s_istore (pc' := 54) (Ls' := #[jv q0, S2, iv q1, iv q2, jv (posf q0 (0 : Int32) q1), S2, jv (posf q0 (1 : Int32) q1), S2, jv (posf q0 (2 : Int32) q1), S2, jv (posf q0 (3 : Int32) q1), S2, jv (posf q0 (4 : Int32) q1), S2, iv 1, iv 4, U0, U0, U0, U0]) A at_52 rfl rfl ?_
    refine s_iloadN (pc' := 55) A at_54 rfl rfl ?_
    refine s_bipush (pc' := 57) (z := (8 : Int32)) A at_55 rfl (by decide) ?_
    refine s_iushr (pc' := 58) (z := (ush q2 (8 : Int32))) A at_57 rfl rfl ?_
    refine s_ldcInt (pc' := 60) A at_58 rfl (w4 hw) ?_
    refine s_iand (pc' := 61) (z := ((ush q2 (8 : Int32)) &&& (65535 : Int32))) A at_60 rfl rfl ?_
    refine s_istore (pc' := 63) (Ls' := #[jv q0, S2, iv q1, iv q2, jv (posf q0 (0 : Int32) q1), S2, jv (posf q0 (1 : Int32) q1), S2, jv (posf q0 (2 : Int32) q1), S2, jv (posf q0 (3 : Int32) q1), S2, jv (posf q0 (4 : Int32) q1), S2, iv 1, iv 4, iv ((ush q2 (8 : Int32)) &&& (65535 : Int32)), U0, U0, U0]) A at_61 rfl rfl ?_
    refine s_new (pc' := 66) A (w5 hw) (w6 hw) (w7 hw) (by decide) (by decide) at_63 rfl fun T h276 b277 A g278 ge279 X280 E281 D282 => ?_
    have F283 : Fld Z h276 b277 "com/example/wirefram/wirefram/sequence/PositionIndex" "positions" "[J" .null := D282 (Or.inl (w16 hw)) (ty := (.array .long)) (by decide)
    have F284 : Fld Z h276 b277 "com/example/wirefram/wirefram/sequence/PositionIndex" "numbers" "[I" .null := D282 (Or.inl (w26 hw)) (ty := (.array .int)) (by decide)
    have F285 : Fld Z h276 b277 "com/example/wirefram/wirefram/sequence/PositionIndex" "size" "I" (.int (0 : Int32)) := D282 (Or.inl (w33 hw)) (ty := .int) (by decide)
    refine s_dup (pc' := 67) A at_66 rfl rfl ?_
    refine s_special (pc' := 70) (y := y6_init) (argsL := []) (rest := [(.ref b277)]) A (m_init l Z a0 hw n0 h276 A.size b277 E281 F283 F284 F285 ge279) rfl (w8 hw) (w9 hw) (w7 hw) (w10 hw) (by decide) pd___V rfl (W := 1) (by decide) (by decide) (Nat.le_of_eq rfl) (by decide) (by decide) rfl rfl at_67 rfl fun T h289 v290 A Q291 => ?_
    obtain ⟨rfl, a286, b287, H288⟩ := Q291
    refine Wp.stk (st' := [(.ref b277)]) rfl ?_
    refine s_astore (pc' := 72) (Ls' := #[jv q0, S2, iv q1, iv q2, jv (posf q0 (0 : Int32) q1), S2, jv (posf q0 (1 : Int32) q1), S2, jv (posf q0 (2 : Int32) q1), S2, jv (posf q0 (3 : Int32) q1), S2, jv (posf q0 (4 : Int32) q1), S2, iv 1, iv 4, iv ((ush q2 (8 : Int32)) &&& (65535 : Int32)), rv b277, U0, U0]) A at_70 rfl rfl rfl ?_
    refine s_aload (pc' := 74) A at_72 rfl rfl rfl ?_
    refine s_lload (pc' := 76) A at_74 rfl rfl ?_
    refine s_iload (pc' := 78) A at_76 rfl rfl ?_
    obtain ⟨fr297, fr297a, fr297b⟩ := Free.ex (c := 15) own_free0
    refine s_virtual (pc' := 81) (y := y2_put) (argsL := [(.long (posf q0 (0 : Int32) q1)), (.int ((ush q2 (8 : Int32)) &&& (65535 : Int32)))]) (rest := []) (z := y2_put) A H288.1 (m_put l Z a0 hw n0 h289 A.size b277 a286 b287 0 (fun _ => 0) (fun _ => -1) (fun _ => -1) H288 (posf q0 (0 : Int32) q1) ((ush q2 (8 : Int32)) &&& (65535 : Int32)) 1 (own_tab0 (fun _ => 0)) fr297 fr297a fr297b (own_nb0 q2) rfl (by decide) (by decide)) (w27 hw) (w28 hw) (nf_same (C := "") (w30 hw)) (w30 hw) (w29 hw) (w7 hw) (w31 hw) (by decide) pd__JI_V rfl (W := 0) (by decide) (by decide) (Nat.le_of_eq rfl) (by decide) (by decide) rfl rfl at_78 rfl fun T h298 v299 A Q300 => ?_
    obtain ⟨rfl, P292, N293, H294, HT295, FR296⟩ := Q300
    have FR296 := FR296 15 own_free0
    refine Wp.stk (st' := []) rfl ?_
    refine s_iload (pc' := 83) A at_81 rfl rfl ?_
    refine s_iconst (pc' := 84) (z := (1 : Int32)) A at_83 rfl (by decide) ?_
    refine s_icmpY (pc' := 98) A at_84 (by decide) (by decide) (by decide) ?_
    refine s_iload (pc' := 100) A at_98 rfl rfl ?_
    refine s_iconst (pc' := 101) (z := (2 : Int32)) A at_100 rfl (by decide) ?_
    refine s_icmpY (pc' := 115) A at_101 (by decide) (by decide) (by decide) ?_
    refine s_iload (pc' := 117) A at_115 rfl rfl ?_
    refine s_iconst (pc' := 118) (z := (3 : Int32)) A at_117 rfl (by decide) ?_
    refine s_icmpY (pc' := 132) A at_118 (by decide) (by decide) (by decide) ?_
    refine s_iload (pc' := 134) A at_132 rfl rfl ?_
    refine s_ifY (pc' := 142) A at_134 (by decide) (by decide) (by decide) ?_
    refine s_iload (pc' := 144) A at_142 rfl rfl ?_
    refine s_iconst (pc' := 145) (z := (1 : Int32)) A at_144 rfl (by decide) ?_
    refine s_icmpY (pc' := 153) A at_145 (by decide) (by decide) (by decide) ?_
    refine s_iload (pc' := 155) A at_153 rfl rfl ?_
    refine s_iconst (pc' := 156) (z := (2 : Int32)) A at_155 rfl (by decide) ?_
    refine s_icmpY (pc' := 164) A at_156 (by decide) (by decide) (by decide) ?_
    refine s_iload (pc' := 166) A at_164 rfl rfl ?_
    refine s_iconst (pc' := 167) (z := (3 : Int32)) A at_166 rfl (by decide) ?_
    refine s_icmpY (pc' := 175) A at_167 (by decide) (by decide) (by decide) ?_
    refine s_lload (pc' := 177) A at_175 rfl rfl ?_
    refine s_lstore (pc' := 179) (Ls' := #[jv q0, S2, iv q1, iv q2, jv (posf q0 (0 : Int32) q1), S2, jv (posf q0 (1 : Int32) q1), S2, jv (posf q0 (2 : Int32) q1), S2, jv (posf q0 (3 : Int32) q1), S2, jv (posf q0 (4 : Int32) q1), S2, iv 1, iv 4, iv ((ush q2 (8 : Int32)) &&& (65535 : Int32)), rv b277, jv (posf q0 (4 : Int32) q1), S2]) A at_177 rfl rfl ?_
    refine s_aload (pc' := 181) A at_179 rfl rfl rfl ?_
    refine s_lload (pc' := 183) A at_181 rfl rfl ?_
    obtain ⟨fr307, fr307a, fr307b⟩ := Free.ex (c := 14) FR296
    refine s_virtual (pc' := 186) (y := y3_remove) (argsL := [(.long (posf q0 (4 : Int32) q1))]) (rest := []) (z := y3_remove) A H294.1 (m_rem l Z a0 hw n0 h298 A.size b277 a286 b287 1 P292 N293 (fun r => if r = (posf q0 (0 : Int32) q1) then ((ush q2 (8 : Int32)) &&& (65535 : Int32)) else (fun _ => -1) r) (posf q0 (4 : Int32) q1) H294 HT295 fr307 fr307a fr307b) (w38 hw) (w39 hw) (nf_same (C := "") (w41 hw)) (w41 hw) (w40 hw) (w7 hw) (w42 hw) (by decide) pd__J_V rfl (W := 0) (by decide) (by decide) (Nat.le_of_eq rfl) (by decide) (by decide) rfl rfl at_183 rfl fun T h308 v309 A Q310 => ?_
    obtain ⟨rfl, P301, N302, z303, H304, HT305, f306, f306a, f306b⟩ := Q310
    refine Wp.stk (st' := []) rfl ?_
    refine s_aload (pc' := 188) A at_186 rfl rfl rfl ?_
    refine s_lload (pc' := 190) A at_188 rfl rfl ?_
    refine s_virtual (pc' := 193) (y := y0_get) (argsL := [(.long (posf q0 (0 : Int32) q1))]) (rest := []) (z := y0_get) A H304.1 (m_get l Z a0 hw n0 h308 A.size b277 a286 b287 z303 P301 N302 (fun r => if r = (posf q0 (4 : Int32) q1) then -1 else (fun r => if r = (posf q0 (0 : Int32) q1) then ((ush q2 (8 : Int32)) &&& (65535 : Int32)) else (fun _ => -1) r) r) (posf q0 (0 : Int32) q1) H304 HT305 f306 f306a f306b) (w43 hw) (w44 hw) (nf_same (C := "") (w46 hw)) (w46 hw) (w45 hw) (w7 hw) (w47 hw) (by decide) pd__J_I rfl (W := 0) (by decide) (by decide) (Nat.le_of_eq rfl) (by decide) (by decide) rfl rfl at_190 rfl fun T h311 v312 A Q313 => ?_
    obtain ⟨ev, eh⟩ := Q313
    obtain rfl := ev.trans (congrArg (fun z => some (Value.int z)) (show (fun r => if r = (posf q0 (4 : Int32) q1) then -1 else (fun r => if r = (posf q0 (0 : Int32) q1) then ((ush q2 (8 : Int32)) &&& (65535 : Int32)) else (fun _ => -1) r) r) (posf q0 (0 : Int32) q1) = ((ush q2 (8 : Int32)) &&& (65535 : Int32)) from (by simp only [pn_0_1, pn_0_2, pn_0_3, pn_0_4, pn_1_0, pn_1_2, pn_1_3, pn_1_4, pn_2_0, pn_2_1, pn_2_3, pn_2_4, pn_3_0, pn_3_1, pn_3_2, pn_3_4, pn_4_0, pn_4_1, pn_4_2, pn_4_3, if_true, if_false])))
    rw [eh] at A
    refine Wp.stk (st' := [(.int ((ush q2 (8 : Int32)) &&& (65535 : Int32)))]) rfl ?_
    refine s_iconst (pc' := 194) (z := (0 : Int32)) A at_193 rfl (by decide) ?_
    refine s_iload (pc' := 196) A at_194 rfl rfl ?_
    refine s_iload (pc' := 198) A at_196 rfl rfl ?_
    refine s_iload (pc' := 200) A at_198 rfl rfl ?_
    refine s_static (pc' := 203) (y := y8_check) (argsL := [(.int ((ush q2 (8 : Int32)) &&& (65535 : Int32))), (.int (0 : Int32)), (.int (1 : Int32)), (.int (4 : Int32)), (.int ((ush q2 (8 : Int32)) &&& (65535 : Int32)))]) (rest := []) A (m_in l Z a0 hw n0 h308 A.size ((ush q2 (8 : Int32)) &&& (65535 : Int32)) (0 : Int32) (1 : Int32) (4 : Int32) ((ush q2 (8 : Int32)) &&& (65535 : Int32)) (by decide) (by decide) (Int32.add_zero _).symm) (w48 hw) (w49 hw) (w2 hw) (w50 hw) (by decide) pd__IIIII_Z rfl (W := 0) (by decide) (by decide) (Nat.le_of_eq rfl) (by decide) (by decide) rfl rfl at_200 rfl fun T h314 v315 A Q316 => ?_
    obtain ⟨rfl, eh⟩ := Q316
    rw [eh] at A
    refine Wp.stk (st' := [(.int (1 : Int32))]) rfl ?_
    refine s_ifN (pc' := 206) A at_203 rfl (by decide) ?_
    refine s_aload (pc' := 208) A at_206 rfl rfl rfl ?_
    refine s_lload (pc' := 210) A at_208 rfl rfl ?_
    refine s_virtual (pc' := 213) (y := y0_get) (argsL := [(.long (posf q0 (1 : Int32) q1))]) (rest := []) (z := y0_get) A H304.1 (m_get l Z a0 hw n0 h308 A.size b277 a286 b287 z303 P301 N302 (fun r => if r = (posf q0 (4 : Int32) q1) then -1 else (fun r => if r = (posf q0 (0 : Int32) q1) then ((ush q2 (8 : Int32)) &&& (65535 : Int32)) else (fun _ => -1) r) r) (posf q0 (1 : Int32) q1) H304 HT305 f306 f306a f306b) (w43 hw) (w44 hw) (nf_same (C := "") (w46 hw)) (w46 hw) (w45 hw) (w7 hw) (w47 hw) (by decide) pd__J_I rfl (W := 0) (by decide) (by decide) (Nat.le_of_eq rfl) (by decide) (by decide) rfl rfl at_210 rfl fun T h317 v318 A Q319 => ?_
    obtain ⟨ev, eh⟩ := Q319
    obtain rfl := ev.trans (congrArg (fun z => some (Value.int z)) (show (fun r => if r = (posf q0 (4 : Int32) q1) then -1 else (fun r => if r = (posf q0 (0 : Int32) q1) then ((ush q2 (8 : Int32)) &&& (65535 : Int32)) else (fun _ => -1) r) r) (posf q0 (1 : Int32) q1) = (-1 : Int32) from (by simp only [pn_0_1, pn_0_2, pn_0_3, pn_0_4, pn_1_0, pn_1_2, pn_1_3, pn_1_4, pn_2_0, pn_2_1, pn_2_3, pn_2_4, pn_3_0, pn_3_1, pn_3_2, pn_3_4, pn_4_0, pn_4_1, pn_4_2, pn_4_3, if_true, if_false])))
    rw [eh] at A
    refine Wp.stk (st' := [(.int (-1 : Int32))]) rfl ?_
    refine s_iconst (pc' := 214) (z := (1 : Int32)) A at_213 rfl (by decide) ?_
    refine s_iload (pc' := 216) A at_214 rfl rfl ?_
    refine s_iload (pc' := 218) A at_216 rfl rfl ?_
    refine s_iload (pc' := 220) A at_218 rfl rfl ?_
    refine s_static (pc' := 223) (y := y8_check) (argsL := [(.int (-1 : Int32)), (.int (1 : Int32)), (.int (1 : Int32)), (.int (4 : Int32)), (.int ((ush q2 (8 : Int32)) &&& (65535 : Int32)))]) (rest := []) A (m_out l Z a0 hw n0 h308 A.size (-1 : Int32) (1 : Int32) (1 : Int32) (4 : Int32) ((ush q2 (8 : Int32)) &&& (65535 : Int32)) (Or.inl (by decide)) rfl) (w48 hw) (w49 hw) (w2 hw) (w50 hw) (by decide) pd__IIIII_Z rfl (W := 0) (by decide) (by decide) (Nat.le_of_eq rfl) (by decide) (by decide) rfl rfl at_220 rfl fun T h320 v321 A Q322 => ?_
    obtain ⟨rfl, eh⟩ := Q322
    rw [eh] at A
    refine Wp.stk (st' := [(.int (1 : Int32))]) rfl ?_
    refine s_ifN (pc' := 226) A at_223 rfl (by decide) ?_
    refine s_aload (pc' := 228) A at_226 rfl rfl rfl ?_
    refine s_lload (pc' := 230) A at_228 rfl rfl ?_
    refine s_virtual (pc' := 233) (y := y0_get) (argsL := [(.long (posf q0 (2 : Int32) q1))]) (rest := []) (z := y0_get) A H304.1 (m_get l Z a0 hw n0 h308 A.size b277 a286 b287 z303 P301 N302 (fun r => if r = (posf q0 (4 : Int32) q1) then -1 else (fun r => if r = (posf q0 (0 : Int32) q1) then ((ush q2 (8 : Int32)) &&& (65535 : Int32)) else (fun _ => -1) r) r) (posf q0 (2 : Int32) q1) H304 HT305 f306 f306a f306b) (w43 hw) (w44 hw) (nf_same (C := "") (w46 hw)) (w46 hw) (w45 hw) (w7 hw) (w47 hw) (by decide) pd__J_I rfl (W := 0) (by decide) (by decide) (Nat.le_of_eq rfl) (by decide) (by decide) rfl rfl at_230 rfl fun T h323 v324 A Q325 => ?_
    obtain ⟨ev, eh⟩ := Q325
    obtain rfl := ev.trans (congrArg (fun z => some (Value.int z)) (show (fun r => if r = (posf q0 (4 : Int32) q1) then -1 else (fun r => if r = (posf q0 (0 : Int32) q1) then ((ush q2 (8 : Int32)) &&& (65535 : Int32)) else (fun _ => -1) r) r) (posf q0 (2 : Int32) q1) = (-1 : Int32) from (by simp only [pn_0_1, pn_0_2, pn_0_3, pn_0_4, pn_1_0, pn_1_2, pn_1_3, pn_1_4, pn_2_0, pn_2_1, pn_2_3, pn_2_4, pn_3_0, pn_3_1, pn_3_2, pn_3_4, pn_4_0, pn_4_1, pn_4_2, pn_4_3, if_true, if_false])))
    rw [eh] at A
    refine Wp.stk (st' := [(.int (-1 : Int32))]) rfl ?_
    refine s_iconst (pc' := 234) (z := (2 : Int32)) A at_233 rfl (by decide) ?_
    refine s_iload (pc' := 236) A at_234 rfl rfl ?_
    refine s_iload (pc' := 238) A at_236 rfl rfl ?_
    refine s_iload (pc' := 240) A at_238 rfl rfl ?_
    refine s_static (pc' := 243) (y := y8_check) (argsL := [(.int (-1 : Int32)), (.int (2 : Int32)), (.int (1 : Int32)), (.int (4 : Int32)), (.int ((ush q2 (8 : Int32)) &&& (65535 : Int32)))]) (rest := []) A (m_out l Z a0 hw n0 h308 A.size (-1 : Int32) (2 : Int32) (1 : Int32) (4 : Int32) ((ush q2 (8 : Int32)) &&& (65535 : Int32)) (Or.inl (by decide)) rfl) (w48 hw) (w49 hw) (w2 hw) (w50 hw) (by decide) pd__IIIII_Z rfl (W := 0) (by decide) (by decide) (Nat.le_of_eq rfl) (by decide) (by decide) rfl rfl at_240 rfl fun T h326 v327 A Q328 => ?_
    obtain ⟨rfl, eh⟩ := Q328
    rw [eh] at A
    refine Wp.stk (st' := [(.int (1 : Int32))]) rfl ?_
    refine s_ifN (pc' := 246) A at_243 rfl (by decide) ?_
    refine s_aload (pc' := 248) A at_246 rfl rfl rfl ?_
    refine s_lload (pc' := 250) A at_248 rfl rfl ?_
    refine s_virtual (pc' := 253) (y := y0_get) (argsL := [(.long (posf q0 (3 : Int32) q1))]) (rest := []) (z := y0_get) A H304.1 (m_get l Z a0 hw n0 h308 A.size b277 a286 b287 z303 P301 N302 (fun r => if r = (posf q0 (4 : Int32) q1) then -1 else (fun r => if r = (posf q0 (0 : Int32) q1) then ((ush q2 (8 : Int32)) &&& (65535 : Int32)) else (fun _ => -1) r) r) (posf q0 (3 : Int32) q1) H304 HT305 f306 f306a f306b) (w43 hw) (w44 hw) (nf_same (C := "") (w46 hw)) (w46 hw) (w45 hw) (w7 hw) (w47 hw) (by decide) pd__J_I rfl (W := 0) (by decide) (by decide) (Nat.le_of_eq rfl) (by decide) (by decide) rfl rfl at_250 rfl fun T h329 v330 A Q331 => ?_
    obtain ⟨ev, eh⟩ := Q331
    obtain rfl := ev.trans (congrArg (fun z => some (Value.int z)) (show (fun r => if r = (posf q0 (4 : Int32) q1) then -1 else (fun r => if r = (posf q0 (0 : Int32) q1) then ((ush q2 (8 : Int32)) &&& (65535 : Int32)) else (fun _ => -1) r) r) (posf q0 (3 : Int32) q1) = (-1 : Int32) from (by simp only [pn_0_1, pn_0_2, pn_0_3, pn_0_4, pn_1_0, pn_1_2, pn_1_3, pn_1_4, pn_2_0, pn_2_1, pn_2_3, pn_2_4, pn_3_0, pn_3_1, pn_3_2, pn_3_4, pn_4_0, pn_4_1, pn_4_2, pn_4_3, if_true, if_false])))
    rw [eh] at A
    refine Wp.stk (st' := [(.int (-1 : Int32))]) rfl ?_
    refine s_iconst (pc' := 254) (z := (3 : Int32)) A at_253 rfl (by decide) ?_
    refine s_iload (pc' := 256) A at_254 rfl rfl ?_
    refine s_iload (pc' := 258) A at_256 rfl rfl ?_
    refine s_iload (pc' := 260) A at_258 rfl rfl ?_
    refine s_static (pc' := 263) (y := y8_check) (argsL := [(.int (-1 : Int32)), (.int (3 : Int32)), (.int (1 : Int32)), (.int (4 : Int32)), (.int ((ush q2 (8 : Int32)) &&& (65535 : Int32)))]) (rest := []) A (m_out l Z a0 hw n0 h308 A.size (-1 : Int32) (3 : Int32) (1 : Int32) (4 : Int32) ((ush q2 (8 : Int32)) &&& (65535 : Int32)) (Or.inl (by decide)) rfl) (w48 hw) (w49 hw) (w2 hw) (w50 hw) (by decide) pd__IIIII_Z rfl (W := 0) (by decide) (by decide) (Nat.le_of_eq rfl) (by decide) (by decide) rfl rfl at_260 rfl fun T h332 v333 A Q334 => ?_
    obtain ⟨rfl, eh⟩ := Q334
    rw [eh] at A
    refine Wp.stk (st' := [(.int (1 : Int32))]) rfl ?_
    refine s_ifN (pc' := 266) A at_263 rfl (by decide) ?_
    refine s_aload (pc' := 268) A at_266 rfl rfl rfl ?_
    refine s_lload (pc' := 270) A at_268 rfl rfl ?_
    refine s_virtual (pc' := 273) (y := y0_get) (argsL := [(.long (posf q0 (4 : Int32) q1))]) (rest := []) (z := y0_get) A H304.1 (m_get l Z a0 hw n0 h308 A.size b277 a286 b287 z303 P301 N302 (fun r => if r = (posf q0 (4 : Int32) q1) then -1 else (fun r => if r = (posf q0 (0 : Int32) q1) then ((ush q2 (8 : Int32)) &&& (65535 : Int32)) else (fun _ => -1) r) r) (posf q0 (4 : Int32) q1) H304 HT305 f306 f306a f306b) (w43 hw) (w44 hw) (nf_same (C := "") (w46 hw)) (w46 hw) (w45 hw) (w7 hw) (w47 hw) (by decide) pd__J_I rfl (W := 0) (by decide) (by decide) (Nat.le_of_eq rfl) (by decide) (by decide) rfl rfl at_270 rfl fun T h335 v336 A Q337 => ?_
    obtain ⟨ev, eh⟩ := Q337
    obtain rfl := ev.trans (congrArg (fun z => some (Value.int z)) (show (fun r => if r = (posf q0 (4 : Int32) q1) then -1 else (fun r => if r = (posf q0 (0 : Int32) q1) then ((ush q2 (8 : Int32)) &&& (65535 : Int32)) else (fun _ => -1) r) r) (posf q0 (4 : Int32) q1) = (-1 : Int32) from (by simp only [pn_0_1, pn_0_2, pn_0_3, pn_0_4, pn_1_0, pn_1_2, pn_1_3, pn_1_4, pn_2_0, pn_2_1, pn_2_3, pn_2_4, pn_3_0, pn_3_1, pn_3_2, pn_3_4, pn_4_0, pn_4_1, pn_4_2, pn_4_3, if_true, if_false])))
    rw [eh] at A
    refine Wp.stk (st' := [(.int (-1 : Int32))]) rfl ?_
    refine s_iconst (pc' := 274) (z := (4 : Int32)) A at_273 rfl (by decide) ?_
    refine s_iload (pc' := 276) A at_274 rfl rfl ?_
    refine s_iload (pc' := 278) A at_276 rfl rfl ?_
    refine s_iload (pc' := 280) A at_278 rfl rfl ?_
    refine s_static (pc' := 283) (y := y8_check) (argsL := [(.int (-1 : Int32)), (.int (4 : Int32)), (.int (1 : Int32)), (.int (4 : Int32)), (.int ((ush q2 (8 : Int32)) &&& (65535 : Int32)))]) (rest := []) A (m_out l Z a0 hw n0 h308 A.size (-1 : Int32) (4 : Int32) (1 : Int32) (4 : Int32) ((ush q2 (8 : Int32)) &&& (65535 : Int32)) (Or.inl (by decide)) rfl) (w48 hw) (w49 hw) (w2 hw) (w50 hw) (by decide) pd__IIIII_Z rfl (W := 0) (by decide) (by decide) (Nat.le_of_eq rfl) (by decide) (by decide) rfl rfl at_280 rfl fun T h338 v339 A Q340 => ?_
    obtain ⟨rfl, eh⟩ := Q340
    rw [eh] at A
    refine Wp.stk (st' := [(.int (1 : Int32))]) rfl ?_
    refine s_ifN (pc' := 286) A at_283 rfl (by decide) ?_
    refine s_iconst (pc' := 287) (z := (1 : Int32)) A at_286 rfl (by decide) ?_
    refine s_goto (pc' := 291) A at_287 (by decide) (by decide) ?_
    exact r_bool A rfl (by decide) at_291 (by decide) (by decide) (rfl)
  ·
   refine s_iand (pc' := 43) (z := (1 : Int32)) A at_42 rfl hkk.symm ?_
   refine s_iconst (pc' := 44) (z := (1 : Int32)) A at_43 rfl (by decide) ?_
   refine s_iadd (pc' := 45) (z := (2 : Int32)) A at_44 rfl (by decide) ?_
   refine s_istore (pc' := 47) (Ls' := #[jv q0, S2, iv q1, iv q2, jv (posf q0 (0 : Int32) q1), S2, jv (posf q0 (1 : Int32) q1), S2, jv (posf q0 (2 : Int32) q1), S2, jv (posf q0 (3 : Int32) q1), S2, jv (posf q0 (4 : Int32) q1), S2, iv 2, U0, U0, U0, U0, U0]) A at_45 rfl rfl ?_
   refine s_iloadN (pc' := 48) A at_47 rfl rfl ?_
   refine s_iconst (pc' := 49) (z := (2 : Int32)) A at_48 rfl (by decide) ?_
   refine s_iushr (pc' := 50) (z := (ush q2 (2 : Int32))) A at_49 rfl rfl ?_
   refine s_iconst (pc' := 51) (z := (5 : Int32)) A at_50 rfl (by decide) ?_
   obtain ⟨rr, hrr⟩ : ∃ z, z = ((ush q2 (2 : Int32)) % (5 : Int32)) := ⟨_, rfl⟩
   have cr := own_r5 q2
   rw [← hrr] at cr
   rcases cr with rfl | rfl | rfl | rfl | rfl
   ·
    refine s_irem (pc' := 52) (z := (0 : Int32)) A at_51 rfl (by decide) hrr.symm ?_
    refine s_istore (pc' := 54) (Ls' := #[jv q0, S2, iv q1, iv q2, jv (posf q0 (0 : Int32) q1), S2, jv (posf q0 (1 : Int32) q1), S2, jv (posf q0 (2 : Int32) q1), S2, jv (posf q0 (3 : Int32) q1), S2, jv (posf q0 (4 : Int32) q1), S2, iv 2, iv 0, U0, U0, U0, U0]) A at_52 rfl rfl ?_
    refine s_iloadN (pc' := 55) A at_54 rfl rfl ?_
    refine s_bipush (pc' := 57) (z := (8 : Int32)) A at_55 rfl (by decide) ?_
    refine s_iushr (pc' := 58) (z := (ush q2 (8 : Int32))) A at_57 rfl rfl ?_
    refine s_ldcInt (pc' := 60) A at_58 rfl (w4 hw) ?_
    refine s_iand (pc' := 61) (z := ((ush q2 (8 : Int32)) &&& (65535 : Int32))) A at_60 rfl rfl ?_
    refine s_istore (pc' := 63) (Ls' := #[jv q0, S2, iv q1, iv q2, jv (posf q0 (0 : Int32) q1), S2, jv (posf q0 (1 : Int32) q1), S2, jv (posf q0 (2 : Int32) q1), S2, jv (posf q0 (3 : Int32) q1), S2, jv (posf q0 (4 : Int32) q1), S2, iv 2, iv 0, iv ((ush q2 (8 : Int32)) &&& (65535 : Int32)), U0, U0, U0]) A at_61 rfl rfl ?_
    refine s_new (pc' := 66) A (w5 hw) (w6 hw) (w7 hw) (by decide) (by decide) at_63 rfl fun T h341 b342 A g343 ge344 X345 E346 D347 => ?_
    have F348 : Fld Z h341 b342 "com/example/wirefram/wirefram/sequence/PositionIndex" "positions" "[J" .null := D347 (Or.inl (w16 hw)) (ty := (.array .long)) (by decide)
    have F349 : Fld Z h341 b342 "com/example/wirefram/wirefram/sequence/PositionIndex" "numbers" "[I" .null := D347 (Or.inl (w26 hw)) (ty := (.array .int)) (by decide)
    have F350 : Fld Z h341 b342 "com/example/wirefram/wirefram/sequence/PositionIndex" "size" "I" (.int (0 : Int32)) := D347 (Or.inl (w33 hw)) (ty := .int) (by decide)
    refine s_dup (pc' := 67) A at_66 rfl rfl ?_
    refine s_special (pc' := 70) (y := y6_init) (argsL := []) (rest := [(.ref b342)]) A (m_init l Z a0 hw n0 h341 A.size b342 E346 F348 F349 F350 ge344) rfl (w8 hw) (w9 hw) (w7 hw) (w10 hw) (by decide) pd___V rfl (W := 1) (by decide) (by decide) (Nat.le_of_eq rfl) (by decide) (by decide) rfl rfl at_67 rfl fun T h354 v355 A Q356 => ?_
    obtain ⟨rfl, a351, b352, H353⟩ := Q356
    refine Wp.stk (st' := [(.ref b342)]) rfl ?_
    refine s_astore (pc' := 72) (Ls' := #[jv q0, S2, iv q1, iv q2, jv (posf q0 (0 : Int32) q1), S2, jv (posf q0 (1 : Int32) q1), S2, jv (posf q0 (2 : Int32) q1), S2, jv (posf q0 (3 : Int32) q1), S2, jv (posf q0 (4 : Int32) q1), S2, iv 2, iv 0, iv ((ush q2 (8 : Int32)) &&& (65535 : Int32)), rv b342, U0, U0]) A at_70 rfl rfl rfl ?_
    refine s_aload (pc' := 74) A at_72 rfl rfl rfl ?_
    refine s_lload (pc' := 76) A at_74 rfl rfl ?_
    refine s_iload (pc' := 78) A at_76 rfl rfl ?_
    obtain ⟨fr362, fr362a, fr362b⟩ := Free.ex (c := 15) own_free0
    refine s_virtual (pc' := 81) (y := y2_put) (argsL := [(.long (posf q0 (0 : Int32) q1)), (.int ((ush q2 (8 : Int32)) &&& (65535 : Int32)))]) (rest := []) (z := y2_put) A H353.1 (m_put l Z a0 hw n0 h354 A.size b342 a351 b352 0 (fun _ => 0) (fun _ => -1) (fun _ => -1) H353 (posf q0 (0 : Int32) q1) ((ush q2 (8 : Int32)) &&& (65535 : Int32)) 1 (own_tab0 (fun _ => 0)) fr362 fr362a fr362b (own_nb0 q2) rfl (by decide) (by decide)) (w27 hw) (w28 hw) (nf_same (C := "") (w30 hw)) (w30 hw) (w29 hw) (w7 hw) (w31 hw) (by decide) pd__JI_V rfl (W := 0) (by decide) (by decide) (Nat.le_of_eq rfl) (by decide) (by decide) rfl rfl at_78 rfl fun T h363 v364 A Q365 => ?_
    obtain ⟨rfl, P357, N358, H359, HT360, FR361⟩ := Q365
    have FR361 := FR361 15 own_free0
    refine Wp.stk (st' := []) rfl ?_
    refine s_iload (pc' := 83) A at_81 rfl rfl ?_
    refine s_iconst (pc' := 84) (z := (1 : Int32)) A at_83 rfl (by decide) ?_
    refine s_icmpN (pc' := 87) A at_84 rfl (by decide) ?_
    refine s_aload (pc' := 89) A at_87 rfl rfl rfl ?_
    refine s_lload (pc' := 91) A at_89 rfl rfl ?_
    refine s_iload (pc' := 93) A at_91 rfl rfl ?_
    refine s_iconst (pc' := 94) (z := (1 : Int32)) A at_93 rfl (by decide) ?_
    refine s_iadd (pc' := 95) (z := (((ush q2 (8 : Int32)) &&& (65535 : Int32)) + (1 : Int32))) A at_94 rfl rfl ?_
    obtain ⟨fr371, fr371a, fr371b⟩ := Free.ex (c := 14) FR361
    refine s_virtual (pc' := 98) (y := y2_put) (argsL := [(.long (posf q0 (1 : Int32) q1)), (.int (((ush q2 (8 : Int32)) &&& (65535 : Int32)) + (1 : Int32)))]) (rest := []) (z := y2_put) A H359.1 (m_put l Z a0 hw n0 h363 A.size b342 a351 b352 1 P357 N358 (fun r => if r = (posf q0 (0 : Int32) q1) then ((ush q2 (8 : Int32)) &&& (65535 : Int32)) else (fun _ => -1) r) H359 (posf q0 (1 : Int32) q1) (((ush q2 (8 : Int32)) &&& (65535 : Int32)) + (1 : Int32)) 2 HT360 fr371 fr371a fr371b (own_nb1 q2) (by simp only [pn_0_1, pn_0_2, pn_0_3, pn_0_4, pn_1_0, pn_1_2, pn_1_3, pn_1_4, pn_2_0, pn_2_1, pn_2_3, pn_2_4, pn_3_0, pn_3_1, pn_3_2, pn_3_4, pn_4_0, pn_4_1, pn_4_2, pn_4_3, if_true, if_false]) (by decide) (by decide)) (w27 hw) (w28 hw) (nf_same (C := "") (w30 hw)) (w30 hw) (w29 hw) (w7 hw) (w31 hw) (by decide) pd__JI_V rfl (W := 0) (by decide) (by decide) (Nat.le_of_eq rfl) (by decide) (by decide) rfl rfl at_95 rfl fun T h372 v373 A Q374 => ?_
    obtain ⟨rfl, P366, N367, H368, HT369, FR370⟩ := Q374
    have FR370 := FR370 14 FR361
    refine Wp.stk (st' := []) rfl ?_
    refine s_iload (pc' := 100) A at_98 rfl rfl ?_
    refine s_iconst (pc' := 101) (z := (2 : Int32)) A at_100 rfl (by decide) ?_
    refine s_icmpY (pc' := 115) A at_101 (by decide) (by decide) (by decide) ?_
    refine s_iload (pc' := 117) A at_115 rfl rfl ?_
    refine s_iconst (pc' := 118) (z := (3 : Int32)) A at_117 rfl (by decide) ?_
    refine s_icmpY (pc' := 132) A at_118 (by decide) (by decide) (by decide) ?_
    refine s_iload (pc' := 134) A at_132 rfl rfl ?_
    refine s_ifN (pc' := 137) A at_134 rfl (by decide) ?_
    refine s_lload (pc' := 139) A at_137 rfl rfl ?_
    refine s_goto (pc' := 177) A at_139 (by decide) (by decide) ?_
    refine s_lstore (pc' := 179) (Ls' := #[jv q0, S2, iv q1, iv q2, jv (posf q0 (0 : Int32) q1), S2, jv (posf q0 (1 : Int32) q1), S2, jv (posf q0 (2 : Int32) q1), S2, jv (posf q0 (3 : Int32) q1), S2, jv (posf q0 (4 : Int32) q1), S2, iv 2, iv 0, iv ((ush q2 (8 : Int32)) &&& (65535 : Int32)), rv b342, jv (posf q0 (0 : Int32) q1), S2]) A at_177 rfl rfl ?_
    refine s_aload (pc' := 181) A at_179 rfl rfl rfl ?_
    refine s_lload (pc' := 183) A at_181 rfl rfl ?_
    obtain ⟨fr381, fr381a, fr381b⟩ := Free.ex (c := 13) FR370
    refine s_virtual (pc' := 186) (y := y3_remove) (argsL := [(.long (posf q0 (0 : Int32) q1))]) (rest := []) (z := y3_remove) A H368.1 (m_rem l Z a0 hw n0 h372 A.size b342 a351 b352 2 P366 N367 (fun r => if r = (posf q0 (1 : Int32) q1) then (((ush q2 (8 : Int32)) &&& (65535 : Int32)) + (1 : Int32)) else (fun r => if r = (posf q0 (0 : Int32) q1) then ((ush q2 (8 : Int32)) &&& (65535 : Int32)) else (fun _ => -1) r) r) (posf q0 (0 : Int32) q1) H368 HT369 fr381 fr381a fr381b) (w38 hw) (w39 hw) (nf_same (C := "") (w41 hw)) (w41 hw) (w40 hw) (w7 hw) (w42 hw) (by decide) pd__J_V rfl (W := 0) (by decide) (by decide) (Nat.le_of_eq rfl) (by decide) (by decide) rfl rfl at_183 rfl fun T h382 v383 A Q384 => ?_
    obtain ⟨rfl, P375, N376, z377, H378, HT379, f380, f380a, f380b⟩ := Q384
    refine Wp.stk (st' := []) rfl ?_
    refine s_aload (pc' := 188) A at_186 rfl rfl rfl ?_
    refine s_lload (pc' := 190) A at_188 rfl rfl ?_
    refine s_virtual (pc' := 193) (y := y0_get) (argsL := [(.long (posf q0 (0 : Int32) q1))]) (rest := []) (z := y0_get) A H378.1 (m_get l Z a0 hw n0 h382 A.size b342 a351 b352 z377 P375 N376 (fun r => if r = (posf q0 (0 : Int32) q1) then -1 else (fun r => if r = (posf q0 (1 : Int32) q1) then (((ush q2 (8 : Int32)) &&& (65535 : Int32)) + (1 : Int32)) else (fun r => if r = (posf q0 (0 : Int32) q1) then ((ush q2 (8 : Int32)) &&& (65535 : Int32)) else (fun _ => -1) r) r) r) (posf q0 (0 : Int32) q1) H378 HT379 f380 f380a f380b) (w43 hw) (w44 hw) (nf_same (C := "") (w46 hw)) (w46 hw) (w45 hw) (w7 hw) (w47 hw) (by decide) pd__J_I rfl (W := 0) (by decide) (by decide) (Nat.le_of_eq rfl) (by decide) (by decide) rfl rfl at_190 rfl fun T h385 v386 A Q387 => ?_
    obtain ⟨ev, eh⟩ := Q387
    obtain rfl := ev.trans (congrArg (fun z => some (Value.int z)) (show (fun r => if r = (posf q0 (0 : Int32) q1) then -1 else (fun r => if r = (posf q0 (1 : Int32) q1) then (((ush q2 (8 : Int32)) &&& (65535 : Int32)) + (1 : Int32)) else (fun r => if r = (posf q0 (0 : Int32) q1) then ((ush q2 (8 : Int32)) &&& (65535 : Int32)) else (fun _ => -1) r) r) r) (posf q0 (0 : Int32) q1) = (-1 : Int32) from (by simp only [pn_0_1, pn_0_2, pn_0_3, pn_0_4, pn_1_0, pn_1_2, pn_1_3, pn_1_4, pn_2_0, pn_2_1, pn_2_3, pn_2_4, pn_3_0, pn_3_1, pn_3_2, pn_3_4, pn_4_0, pn_4_1, pn_4_2, pn_4_3, if_true, if_false])))
    rw [eh] at A
    refine Wp.stk (st' := [(.int (-1 : Int32))]) rfl ?_
    refine s_iconst (pc' := 194) (z := (0 : Int32)) A at_193 rfl (by decide) ?_
    refine s_iload (pc' := 196) A at_194 rfl rfl ?_
    refine s_iload (pc' := 198) A at_196 rfl rfl ?_
    refine s_iload (pc' := 200) A at_198 rfl rfl ?_
    refine s_static (pc' := 203) (y := y8_check) (argsL := [(.int (-1 : Int32)), (.int (0 : Int32)), (.int (2 : Int32)), (.int (0 : Int32)), (.int ((ush q2 (8 : Int32)) &&& (65535 : Int32)))]) (rest := []) A (m_out l Z a0 hw n0 h382 A.size (-1 : Int32) (0 : Int32) (2 : Int32) (0 : Int32) ((ush q2 (8 : Int32)) &&& (65535 : Int32)) (Or.inr rfl) rfl) (w48 hw) (w49 hw) (w2 hw) (w50 hw) (by decide) pd__IIIII_Z rfl (W := 0) (by decide) (by decide) (Nat.le_of_eq rfl) (by decide) (by decide) rfl rfl at_200 rfl fun T h388 v389 A Q390 => ?_
    obtain ⟨rfl, eh⟩ := Q390
    rw [eh] at A
    refine Wp.stk (st' := [(.int (1 : Int32))]) rfl ?_
    refine s_ifN (pc' := 206) A at_203 rfl (by decide) ?_
    refine s_aload (pc' := 208) A at_206 rfl rfl rfl ?_
    refine s_lload (pc' := 210) A at_208 rfl rfl ?_
    refine s_virtual (pc' := 213) (y := y0_get) (argsL := [(.long (posf q0 (1 : Int32) q1))]) (rest := []) (z := y0_get) A H378.1 (m_get l Z a0 hw n0 h382 A.size b342 a351 b352 z377 P375 N376 (fun r => if r = (posf q0 (0 : Int32) q1) then -1 else (fun r => if r = (posf q0 (1 : Int32) q1) then (((ush q2 (8 : Int32)) &&& (65535 : Int32)) + (1 : Int32)) else (fun r => if r = (posf q0 (0 : Int32) q1) then ((ush q2 (8 : Int32)) &&& (65535 : Int32)) else (fun _ => -1) r) r) r) (posf q0 (1 : Int32) q1) H378 HT379 f380 f380a f380b) (w43 hw) (w44 hw) (nf_same (C := "") (w46 hw)) (w46 hw) (w45 hw) (w7 hw) (w47 hw) (by decide) pd__J_I rfl (W := 0) (by decide) (by decide) (Nat.le_of_eq rfl) (by decide) (by decide) rfl rfl at_210 rfl fun T h391 v392 A Q393 => ?_
    obtain ⟨ev, eh⟩ := Q393
    obtain rfl := ev.trans (congrArg (fun z => some (Value.int z)) (show (fun r => if r = (posf q0 (0 : Int32) q1) then -1 else (fun r => if r = (posf q0 (1 : Int32) q1) then (((ush q2 (8 : Int32)) &&& (65535 : Int32)) + (1 : Int32)) else (fun r => if r = (posf q0 (0 : Int32) q1) then ((ush q2 (8 : Int32)) &&& (65535 : Int32)) else (fun _ => -1) r) r) r) (posf q0 (1 : Int32) q1) = (((ush q2 (8 : Int32)) &&& (65535 : Int32)) + (1 : Int32)) from (by simp only [pn_0_1, pn_0_2, pn_0_3, pn_0_4, pn_1_0, pn_1_2, pn_1_3, pn_1_4, pn_2_0, pn_2_1, pn_2_3, pn_2_4, pn_3_0, pn_3_1, pn_3_2, pn_3_4, pn_4_0, pn_4_1, pn_4_2, pn_4_3, if_true, if_false])))
    rw [eh] at A
    refine Wp.stk (st' := [(.int (((ush q2 (8 : Int32)) &&& (65535 : Int32)) + (1 : Int32)))]) rfl ?_
    refine s_iconst (pc' := 214) (z := (1 : Int32)) A at_213 rfl (by decide) ?_
    refine s_iload (pc' := 216) A at_214 rfl rfl ?_
    refine s_iload (pc' := 218) A at_216 rfl rfl ?_
    refine s_iload (pc' := 220) A at_218 rfl rfl ?_
    refine s_static (pc' := 223) (y := y8_check) (argsL := [(.int (((ush q2 (8 : Int32)) &&& (65535 : Int32)) + (1 : Int32))), (.int (1 : Int32)), (.int (2 : Int32)), (.int (0 : Int32)), (.int ((ush q2 (8 : Int32)) &&& (65535 : Int32)))]) (rest := []) A (m_in l Z a0 hw n0 h382 A.size (((ush q2 (8 : Int32)) &&& (65535 : Int32)) + (1 : Int32)) (1 : Int32) (2 : Int32) (0 : Int32) ((ush q2 (8 : Int32)) &&& (65535 : Int32)) (by decide) (by decide) rfl) (w48 hw) (w49 hw) (w2 hw) (w50 hw) (by decide) pd__IIIII_Z rfl (W := 0) (by decide) (by decide) (Nat.le_of_eq rfl) (by decide) (by decide) rfl rfl at_220 rfl fun T h394 v395 A Q396 => ?_
    obtain ⟨rfl, eh⟩ := Q396
    rw [eh] at A
    refine Wp.stk (st' := [(.int (1 : Int32))]) rfl ?_
    refine s_ifN (pc' := 226) A at_223 rfl (by decide) ?_
    refine s_aload (pc' := 228) A at_226 rfl rfl rfl ?_
    refine s_lload (pc' := 230) A at_228 rfl rfl ?_
    refine s_virtual (pc' := 233) (y := y0_get) (argsL := [(.long (posf q0 (2 : Int32) q1))]) (rest := []) (z := y0_get) A H378.1 (m_get l Z a0 hw n0 h382 A.size b342 a351 b352 z377 P375 N376 (fun r => if r = (posf q0 (0 : Int32) q1) then -1 else (fun r => if r = (posf q0 (1 : Int32) q1) then (((ush q2 (8 : Int32)) &&& (65535 : Int32)) + (1 : Int32)) else (fun r => if r = (posf q0 (0 : Int32) q1) then ((ush q2 (8 : Int32)) &&& (65535 : Int32)) else (fun _ => -1) r) r) r) (posf q0 (2 : Int32) q1) H378 HT379 f380 f380a f380b) (w43 hw) (w44 hw) (nf_same (C := "") (w46 hw)) (w46 hw) (w45 hw) (w7 hw) (w47 hw) (by decide) pd__J_I rfl (W := 0) (by decide) (by decide) (Nat.le_of_eq rfl) (by decide) (by decide) rfl rfl at_230 rfl fun T h397 v398 A Q399 => ?_
    obtain ⟨ev, eh⟩ := Q399
    obtain rfl := ev.trans (congrArg (fun z => some (Value.int z)) (show (fun r => if r = (posf q0 (0 : Int32) q1) then -1 else (fun r => if r = (posf q0 (1 : Int32) q1) then (((ush q2 (8 : Int32)) &&& (65535 : Int32)) + (1 : Int32)) else (fun r => if r = (posf q0 (0 : Int32) q1) then ((ush q2 (8 : Int32)) &&& (65535 : Int32)) else (fun _ => -1) r) r) r) (posf q0 (2 : Int32) q1) = (-1 : Int32) from (by simp only [pn_0_1, pn_0_2, pn_0_3, pn_0_4, pn_1_0, pn_1_2, pn_1_3, pn_1_4, pn_2_0, pn_2_1, pn_2_3, pn_2_4, pn_3_0, pn_3_1, pn_3_2, pn_3_4, pn_4_0, pn_4_1, pn_4_2, pn_4_3, if_true, if_false])))
    rw [eh] at A
    refine Wp.stk (st' := [(.int (-1 : Int32))]) rfl ?_
    refine s_iconst (pc' := 234) (z := (2 : Int32)) A at_233 rfl (by decide) ?_
    refine s_iload (pc' := 236) A at_234 rfl rfl ?_
    refine s_iload (pc' := 238) A at_236 rfl rfl ?_
    refine s_iload (pc' := 240) A at_238 rfl rfl ?_
    refine s_static (pc' := 243) (y := y8_check) (argsL := [(.int (-1 : Int32)), (.int (2 : Int32)), (.int (2 : Int32)), (.int (0 : Int32)), (.int ((ush q2 (8 : Int32)) &&& (65535 : Int32)))]) (rest := []) A (m_out l Z a0 hw n0 h382 A.size (-1 : Int32) (2 : Int32) (2 : Int32) (0 : Int32) ((ush q2 (8 : Int32)) &&& (65535 : Int32)) (Or.inl (by decide)) rfl) (w48 hw) (w49 hw) (w2 hw) (w50 hw) (by decide) pd__IIIII_Z rfl (W := 0) (by decide) (by decide) (Nat.le_of_eq rfl) (by decide) (by decide) rfl rfl at_240 rfl fun T h400 v401 A Q402 => ?_
    obtain ⟨rfl, eh⟩ := Q402
    rw [eh] at A
    refine Wp.stk (st' := [(.int (1 : Int32))]) rfl ?_
    refine s_ifN (pc' := 246) A at_243 rfl (by decide) ?_
    refine s_aload (pc' := 248) A at_246 rfl rfl rfl ?_
    refine s_lload (pc' := 250) A at_248 rfl rfl ?_
    refine s_virtual (pc' := 253) (y := y0_get) (argsL := [(.long (posf q0 (3 : Int32) q1))]) (rest := []) (z := y0_get) A H378.1 (m_get l Z a0 hw n0 h382 A.size b342 a351 b352 z377 P375 N376 (fun r => if r = (posf q0 (0 : Int32) q1) then -1 else (fun r => if r = (posf q0 (1 : Int32) q1) then (((ush q2 (8 : Int32)) &&& (65535 : Int32)) + (1 : Int32)) else (fun r => if r = (posf q0 (0 : Int32) q1) then ((ush q2 (8 : Int32)) &&& (65535 : Int32)) else (fun _ => -1) r) r) r) (posf q0 (3 : Int32) q1) H378 HT379 f380 f380a f380b) (w43 hw) (w44 hw) (nf_same (C := "") (w46 hw)) (w46 hw) (w45 hw) (w7 hw) (w47 hw) (by decide) pd__J_I rfl (W := 0) (by decide) (by decide) (Nat.le_of_eq rfl) (by decide) (by decide) rfl rfl at_250 rfl fun T h403 v404 A Q405 => ?_
    obtain ⟨ev, eh⟩ := Q405
    obtain rfl := ev.trans (congrArg (fun z => some (Value.int z)) (show (fun r => if r = (posf q0 (0 : Int32) q1) then -1 else (fun r => if r = (posf q0 (1 : Int32) q1) then (((ush q2 (8 : Int32)) &&& (65535 : Int32)) + (1 : Int32)) else (fun r => if r = (posf q0 (0 : Int32) q1) then ((ush q2 (8 : Int32)) &&& (65535 : Int32)) else (fun _ => -1) r) r) r) (posf q0 (3 : Int32) q1) = (-1 : Int32) from (by simp only [pn_0_1, pn_0_2, pn_0_3, pn_0_4, pn_1_0, pn_1_2, pn_1_3, pn_1_4, pn_2_0, pn_2_1, pn_2_3, pn_2_4, pn_3_0, pn_3_1, pn_3_2, pn_3_4, pn_4_0, pn_4_1, pn_4_2, pn_4_3, if_true, if_false])))
    rw [eh] at A
    refine Wp.stk (st' := [(.int (-1 : Int32))]) rfl ?_
    refine s_iconst (pc' := 254) (z := (3 : Int32)) A at_253 rfl (by decide) ?_
    refine s_iload (pc' := 256) A at_254 rfl rfl ?_
    refine s_iload (pc' := 258) A at_256 rfl rfl ?_
    refine s_iload (pc' := 260) A at_258 rfl rfl ?_
    refine s_static (pc' := 263) (y := y8_check) (argsL := [(.int (-1 : Int32)), (.int (3 : Int32)), (.int (2 : Int32)), (.int (0 : Int32)), (.int ((ush q2 (8 : Int32)) &&& (65535 : Int32)))]) (rest := []) A (m_out l Z a0 hw n0 h382 A.size (-1 : Int32) (3 : Int32) (2 : Int32) (0 : Int32) ((ush q2 (8 : Int32)) &&& (65535 : Int32)) (Or.inl (by decide)) rfl) (w48 hw) (w49 hw) (w2 hw) (w50 hw) (by decide) pd__IIIII_Z rfl (W := 0) (by decide) (by decide) (Nat.le_of_eq rfl) (by decide) (by decide) rfl rfl at_260 rfl fun T h406 v407 A Q408 => ?_
    obtain ⟨rfl, eh⟩ := Q408
    rw [eh] at A
    refine Wp.stk (st' := [(.int (1 : Int32))]) rfl ?_
    refine s_ifN (pc' := 266) A at_263 rfl (by decide) ?_
    refine s_aload (pc' := 268) A at_266 rfl rfl rfl ?_
    refine s_lload (pc' := 270) A at_268 rfl rfl ?_
    refine s_virtual (pc' := 273) (y := y0_get) (argsL := [(.long (posf q0 (4 : Int32) q1))]) (rest := []) (z := y0_get) A H378.1 (m_get l Z a0 hw n0 h382 A.size b342 a351 b352 z377 P375 N376 (fun r => if r = (posf q0 (0 : Int32) q1) then -1 else (fun r => if r = (posf q0 (1 : Int32) q1) then (((ush q2 (8 : Int32)) &&& (65535 : Int32)) + (1 : Int32)) else (fun r => if r = (posf q0 (0 : Int32) q1) then ((ush q2 (8 : Int32)) &&& (65535 : Int32)) else (fun _ => -1) r) r) r) (posf q0 (4 : Int32) q1) H378 HT379 f380 f380a f380b) (w43 hw) (w44 hw) (nf_same (C := "") (w46 hw)) (w46 hw) (w45 hw) (w7 hw) (w47 hw) (by decide) pd__J_I rfl (W := 0) (by decide) (by decide) (Nat.le_of_eq rfl) (by decide) (by decide) rfl rfl at_270 rfl fun T h409 v410 A Q411 => ?_
    obtain ⟨ev, eh⟩ := Q411
    obtain rfl := ev.trans (congrArg (fun z => some (Value.int z)) (show (fun r => if r = (posf q0 (0 : Int32) q1) then -1 else (fun r => if r = (posf q0 (1 : Int32) q1) then (((ush q2 (8 : Int32)) &&& (65535 : Int32)) + (1 : Int32)) else (fun r => if r = (posf q0 (0 : Int32) q1) then ((ush q2 (8 : Int32)) &&& (65535 : Int32)) else (fun _ => -1) r) r) r) (posf q0 (4 : Int32) q1) = (-1 : Int32) from (by simp only [pn_0_1, pn_0_2, pn_0_3, pn_0_4, pn_1_0, pn_1_2, pn_1_3, pn_1_4, pn_2_0, pn_2_1, pn_2_3, pn_2_4, pn_3_0, pn_3_1, pn_3_2, pn_3_4, pn_4_0, pn_4_1, pn_4_2, pn_4_3, if_true, if_false])))
    rw [eh] at A
    refine Wp.stk (st' := [(.int (-1 : Int32))]) rfl ?_
    refine s_iconst (pc' := 274) (z := (4 : Int32)) A at_273 rfl (by decide) ?_
    refine s_iload (pc' := 276) A at_274 rfl rfl ?_
    refine s_iload (pc' := 278) A at_276 rfl rfl ?_
    refine s_iload (pc' := 280) A at_278 rfl rfl ?_
    refine s_static (pc' := 283) (y := y8_check) (argsL := [(.int (-1 : Int32)), (.int (4 : Int32)), (.int (2 : Int32)), (.int (0 : Int32)), (.int ((ush q2 (8 : Int32)) &&& (65535 : Int32)))]) (rest := []) A (m_out l Z a0 hw n0 h382 A.size (-1 : Int32) (4 : Int32) (2 : Int32) (0 : Int32) ((ush q2 (8 : Int32)) &&& (65535 : Int32)) (Or.inl (by decide)) rfl) (w48 hw) (w49 hw) (w2 hw) (w50 hw) (by decide) pd__IIIII_Z rfl (W := 0) (by decide) (by decide) (Nat.le_of_eq rfl) (by decide) (by decide) rfl rfl at_280 rfl fun T h412 v413 A Q414 => ?_
    obtain ⟨rfl, eh⟩ := Q414
    rw [eh] at A
    refine Wp.stk (st' := [(.int (1 : Int32))]) rfl ?_
    refine s_ifN (pc' := 286) A at_283 rfl (by decide) ?_
    refine s_iconst (pc' := 287) (z := (1 : Int32)) A at_286 rfl (by decide) ?_
    refine s_goto (pc' := 291) A at_287 (by decide) (by decide) ?_
    exact r_bool A rfl (by decide) at_291 (by decide) (by decide) (rfl)
   ·
    refine s_irem (pc' := 52) (z := (1 : Int32)) A at_51 rfl (by decide) hrr.symm ?_
    refine s_istore (pc' := 54) (Ls' := #[jv q0, S2, iv q1, iv q2, jv (posf q0 (0 : Int32) q1), S2, jv (posf q0 (1 : Int32) q1), S2, jv (posf q0 (2 : Int32) q1), S2, jv (posf q0 (3 : Int32) q1), S2, jv (posf q0 (4 : Int32) q1), S2, iv 2, iv 1, U0, U0, U0, U0]) A at_52 rfl rfl ?_
    refine s_iloadN (pc' := 55) A at_54 rfl rfl ?_
    refine s_bipush (pc' := 57) (z := (8 : Int32)) A at_55 rfl (by decide) ?_
    refine s_iushr (pc' := 58) (z := (ush q2 (8 : Int32))) A at_57 rfl rfl ?_
    refine s_ldcInt (pc' := 60) A at_58 rfl (w4 hw) ?_
    refine s_iand (pc' := 61) (z := ((ush q2 (8 : Int32)) &&& (65535 : Int32))) A at_60 rfl rfl ?_
    refine s_istore (pc' := 63) (Ls' := #[jv q0, S2, iv q1, iv q2, jv (posf q0 (0 : Int32) q1), S2, jv (posf q0 (1 : Int32) q1), S2, jv (posf q0 (2 : Int32) q1), S2, jv (posf q0 (3 : Int32) q1), S2, jv (posf q0 (4 : Int32) q1), S2, iv 2, iv 1, iv ((ush q2 (8 : Int32)) &&& (65535 : Int32)), U0, U0, U0]) A at_61 rfl rfl ?_
    refine s_new (pc' := 66) A (w5 hw) (w6 hw) (w7 hw) (by decide) (by decide) at_63 rfl fun T h415 b416 A g417 ge418 X419 E420 D421 => ?_
    have F422 : Fld Z h415 b416 "com/example/wirefram/wirefram/sequence/PositionIndex" "positions" "[J" .null := D421 (Or.inl (w16 hw)) (ty := (.array .long)) (by decide)
    have F423 : Fld Z h415 b416 "com/example/wirefram/wirefram/sequence/PositionIndex" "numbers" "[I" .null := D421 (Or.inl (w26 hw)) (ty := (.array .int)) (by decide)
    have F424 : Fld Z h415 b416 "com/example/wirefram/wirefram/sequence/PositionIndex" "size" "I" (.int (0 : Int32)) := D421 (Or.inl (w33 hw)) (ty := .int) (by decide)
    refine s_dup (pc' := 67) A at_66 rfl rfl ?_
    refine s_special (pc' := 70) (y := y6_init) (argsL := []) (rest := [(.ref b416)]) A (m_init l Z a0 hw n0 h415 A.size b416 E420 F422 F423 F424 ge418) rfl (w8 hw) (w9 hw) (w7 hw) (w10 hw) (by decide) pd___V rfl (W := 1) (by decide) (by decide) (Nat.le_of_eq rfl) (by decide) (by decide) rfl rfl at_67 rfl fun T h428 v429 A Q430 => ?_
    obtain ⟨rfl, a425, b426, H427⟩ := Q430
    refine Wp.stk (st' := [(.ref b416)]) rfl ?_
    refine s_astore (pc' := 72) (Ls' := #[jv q0, S2, iv q1, iv q2, jv (posf q0 (0 : Int32) q1), S2, jv (posf q0 (1 : Int32) q1), S2, jv (posf q0 (2 : Int32) q1), S2, jv (posf q0 (3 : Int32) q1), S2, jv (posf q0 (4 : Int32) q1), S2, iv 2, iv 1, iv ((ush q2 (8 : Int32)) &&& (65535 : Int32)), rv b416, U0, U0]) A at_70 rfl rfl rfl ?_
    refine s_aload (pc' := 74) A at_72 rfl rfl rfl ?_
    refine s_lload (pc' := 76) A at_74 rfl rfl ?_
    refine s_iload (pc' := 78) A at_76 rfl rfl ?_
    obtain ⟨fr436, fr436a, fr436b⟩ := Free.ex (c := 15) own_free0
    refine s_virtual (pc' := 81) (y := y2_put) (argsL := [(.long (posf q0 (0 : Int32) q1)), (.int ((ush q2 (8 : Int32)) &&& (65535 : Int32)))]) (rest := []) (z := y2_put) A H427.1 (m_put l Z a0 hw n0 h428 A.size b416 a425 b426 0 (fun _ => 0) (fun _ => -1) (fun _ => -1) H427 (posf q0 (0 : Int32) q1) ((ush q2 (8 : Int32)) &&& (65535 : Int32)) 1 (own_tab0 (fun _ => 0)) fr436 fr436a fr436b (own_nb0 q2) rfl (by decide) (by decide)) (w27 hw) (w28 hw) (nf_same (C := "") (w30 hw)) (w30 hw) (w29 hw) (w7 hw) (w31 hw) (by decide) pd__JI_V rfl (W := 0) (by decide) (by decide) (Nat.le_of_eq rfl) (by decide) (by decide) rfl rfl at_78 rfl fun T h437 v438 A Q439 => ?_
    obtain ⟨rfl, P431, N432, H433, HT434, FR435⟩ := Q439
    have FR435 := FR435 15 own_free0
    refine Wp.stk (st' := []) rfl ?_
    refine s_iload (pc' := 83) A at_81 rfl rfl ?_
    refine s_iconst (pc' := 84) (z := (1 : Int32)) A at_83 rfl (by decide) ?_
    refine s_icmpN (pc' := 87) A at_84 rfl (by decide) ?_
    refine s_aload (pc' := 89) A at_87 rfl rfl rfl ?_
    refine s_lload (pc' := 91) A at_89 rfl rfl ?_
    refine s_iload (pc' := 93) A at_91 rfl rfl ?_
    refine s_iconst (pc' := 94) (z := (1 : Int32)) A at_93 rfl (by decide) ?_
    refine s_iadd (pc' := 95) (z := (((ush q2 (8 : Int32)) &&& (65535 : Int32)) + (1 : Int32))) A at_94 rfl rfl ?_
    obtain ⟨fr445, fr445a, fr445b⟩ := Free.ex (c := 14) FR435
    refine s_virtual (pc' := 98) (y := y2_put) (argsL := [(.long (posf q0 (1 : Int32) q1)), (.int (((ush q2 (8 : Int32)) &&& (65535 : Int32)) + (1 : Int32)))]) (rest := []) (z := y2_put) A H433.1 (m_put l Z a0 hw n0 h437 A.size b416 a425 b426 1 P431 N432 (fun r => if r = (posf q0 (0 : Int32) q1) then ((ush q2 (8 : Int32)) &&& (65535 : Int32)) else (fun _ => -1) r) H433 (posf q0 (1 : Int32) q1) (((ush q2 (8 : Int32)) &&& (65535 : Int32)) + (1 : Int32)) 2 HT434 fr445 fr445a fr445b (own_nb1 q2) (by simp only [pn_0_1, pn_0_2, pn_0_3, pn_0_4, pn_1_0, pn_1_2, pn_1_3, pn_1_4, pn_2_0, pn_2_1, pn_2_3, pn_2_4, pn_3_0, pn_3_1, pn_3_2, pn_3_4, pn_4_0, pn_4_1, pn_4_2, pn_4_3, if_true, if_false]) (by decide) (by decide)) (w27 hw) (w28 hw) (nf_same (C := "") (w30 hw)) (w30 hw) (w29 hw) (w7 hw) (w31 hw) (by decide) pd__JI_V rfl (W := 0) (by decide) (by decide) (Nat.le_of_eq rfl) (by decide) (by decide) rfl rfl at_95 rfl fun T h446 v447 A Q448 => ?_
    obtain ⟨rfl, P440, N441, H442, HT443, FR444⟩ := Q448
    have FR444 := FR444 14 FR435
    refine Wp.stk (st' := []) rfl ?_
    refine s_iload (pc' := 100) A at_98 rfl rfl ?_
    refine s_iconst (pc' := 101) (z := (2 : Int32)) A at_100 rfl (by decide) ?_
    refine s_icmpY (pc' := 115) A at_101 (by decide) (by decide) (by decide) ?_
    refine s_iload (pc' := 117) A at_115 rfl rfl ?_
    refine s_iconst (pc' := 118) (z := (3 : Int32)) A at_117 rfl (by decide) ?_
    refine s_icmpY (pc' := 132) A at_118 (by decide) (by decide) (by decide) ?_
    refine s_iload (pc' := 134) A at_132 rfl rfl ?_
    refine s_ifY (pc' := 142) A at_134 (by decide) (by decide) (by decide) ?_
    refine s_iload (pc' := 144) A at_142 rfl rfl ?_
    refine s_iconst (pc' := 145) (z := (1 : Int32)) A at_144 rfl (by decide) ?_
    refine s_icmpN (pc' := 148) A at_145 rfl (by decide) ?_
    refine s_lload (pc' := 150) A at_148 rfl rfl ?_
    refine s_goto (pc' := 177) A at_150 (by decide) (by decide) ?_
    refine s_lstore (pc' := 179) (Ls' := #[jv q0, S2, iv q1, iv q2, jv (posf q0 (0 : Int32) q1), S2, jv (posf q0 (1 : Int32) q1), S2, jv (posf q0 (2 : Int32) q1), S2, jv (posf q0 (3 : Int32) q1), S2, jv (posf q0 (4 : Int32) q1), S2, iv 2, iv 1, iv ((ush q2 (8 : Int32)) &&& (65535 : Int32)), rv b416, jv (posf q0 (1 : Int32) q1), S2]) A at_177 rfl rfl ?_
    refine s_aload (pc' := 181) A at_179 rfl rfl rfl ?_
    refine s_lload (pc' := 183) A at_181 rfl rfl ?_
    obtain ⟨fr455, fr455a, fr455b⟩ := Free.ex (c := 13) FR444
    refine s_virtual (pc' := 186) (y := y3_remove) (argsL := [(.long (posf q0 (1 : Int32) q1))]) (rest := []) (z := y3_remove) A H442.1 (m_rem l Z a0 hw n0 h446 A.size b416 a425 b426 2 P440 N441 (fun r => if r = (posf q0 (1 : Int32) q1) then (((ush q2 (8 : Int32)) &&& (65535 : Int32)) + (1 : Int32)) else (fun r => if r = (posf q0 (0 : Int32) q1) then ((ush q2 (8 : Int32)) &&& (65535 : Int32)) else (fun _ => -1) r) r) (posf q0 (1 : Int32) q1) H442 HT443 fr455 fr455a fr455b) (w38 hw) (w39 hw) (nf_same (C := "") (w41 hw)) (w41 hw) (w40 hw) (w7 hw) (w42 hw) (by decide) pd__J_V rfl (W := 0) (by decide) (by decide) (Nat.le_of_eq rfl) (by decide) (by decide) rfl rfl at_183 rfl fun T h456 v457 A Q458 => ?_
    obtain ⟨rfl, P449, N450, z451, H452, HT453, f454, f454a, f454b⟩ := Q458
    refine Wp.stk (st' := []) rfl ?_
    refine s_aload (pc' := 188) A at_186 rfl rfl rfl ?_
    refine s_lload (pc' := 190) A at_188 rfl rfl ?_
    refine s_virtual (pc' := 193) (y := y0_get) (argsL := [(.long (posf q0 (0 : Int32) q1))]) (rest := []) (z := y0_get) A H452.1 (m_get l Z a0 hw n0 h456 A.size b416 a425 b426 z451 P449 N450 (fun r => if r = (posf q0 (1 : Int32) q1) then -1 else (fun r => if r = (posf q0 (1 : Int32) q1) then (((ush q2 (8 : Int32)) &&& (65535 : Int32)) + (1 : Int32)) else (fun r => if r = (posf q0 (0 : Int32) q1) then ((ush q2 (8 : Int32)) &&& (65535 : Int32)) else (fun _ => -1) r) r) r) (posf q0 (0 : Int32) q1) H452 HT453 f454 f454a f454b) (w43 hw) (w44 hw) (nf_same (C := "") (w46 hw)) (w46 hw) (w45 hw) (w7 hw) (w47 hw) (by decide) pd__J_I rfl (W := 0) (by decide) (by decide) (Nat.le_of_eq rfl) (by decide) (by decide) rfl rfl at_190 rfl fun T h459 v460 A Q461 => ?_
    obtain ⟨ev, eh⟩ := Q461
    obtain rfl := ev.trans (congrArg (fun z => some (Value.int z)) (show (fun r => if r = (posf q0 (1 : Int32) q1) then -1 else (fun r => if r = (posf q0 (1 : Int32) q1) then (((ush q2 (8 : Int32)) &&& (65535 : Int32)) + (1 : Int32)) else (fun r => if r = (posf q0 (0 : Int32) q1) then ((ush q2 (8 : Int32)) &&& (65535 : Int32)) else (fun _ => -1) r) r) r) (posf q0 (0 : Int32) q1) = ((ush q2 (8 : Int32)) &&& (65535 : Int32)) from (by simp only [pn_0_1, pn_0_2, pn_0_3, pn_0_4, pn_1_0, pn_1_2, pn_1_3, pn_1_4, pn_2_0, pn_2_1, pn_2_3, pn_2_4, pn_3_0, pn_3_1, pn_3_2, pn_3_4, pn_4_0, pn_4_1, pn_4_2, pn_4_3, if_true, if_false])))
    rw [eh] at A
    refine Wp.stk (st' := [(.int ((ush q2 (8 : Int32)) &&& (65535 : Int32)))]) rfl ?_
    refine s_iconst (pc' := 194) (z := (0 : Int32)) A at_193 rfl (by decide) ?_
    refine s_iload (pc' := 196) A at_194 rfl rfl ?_
    refine s_iload (pc' := 198) A at_196 rfl rfl ?_
    refine s_iload (pc' := 200) A at_198 rfl rfl ?_
    refine s_static (pc' := 203) (y := y8_check) (argsL := [(.int ((ush q2 (8 : Int32)) &&& (65535 : Int32))), (.int (0 : Int32)), (.int (2 : Int32)), (.int (1 : Int32)), (.int ((ush q2 (8 : Int32)) &&& (65535 : Int32)))]) (rest := []) A (m_in l Z a0 hw n0 h456 A.size ((ush q2 (8 : Int32)) &&& (65535 : Int32)) (0 : Int32) (2 : Int32) (1 : Int32) ((ush q2 (8 : Int32)) &&& (65535 : Int32)) (by decide) (by decide) (Int32.add_zero _).symm) (w48 hw) (w49 hw) (w2 hw) (w50 hw) (by decide) pd__IIIII_Z rfl (W := 0) (by decide) (by decide) (Nat.le_of_eq rfl) (by decide) (by decide) rfl rfl at_200 rfl fun T h462 v463 A Q464 => ?_
    obtain ⟨rfl, eh⟩ := Q464
    rw [eh] at A
    refine Wp.stk (st' := [(.int (1 : Int32))]) rfl ?_
    refine s_ifN (pc' := 206) A at_203 rfl (by decide) ?_
    refine s_aload (pc' := 208) A at_206 rfl rfl rfl ?_
    refine s_lload (pc' := 210) A at_208 rfl rfl ?_
    refine s_virtual (pc' := 213) (y := y0_get) (argsL := [(.long (posf q0 (1 : Int32) q1))]) (rest := []) (z := y0_get) A H452.1 (m_get l Z a0 hw n0 h456 A.size b416 a425 b426 z451 P449 N450 (fun r => if r = (posf q0 (1 : Int32) q1) then -1 else (fun r => if r = (posf q0 (1 : Int32) q1) then (((ush q2 (8 : Int32)) &&& (65535 : Int32)) + (1 : Int32)) else (fun r => if r = (posf q0 (0 : Int32) q1) then ((ush q2 (8 : Int32)) &&& (65535 : Int32)) else (fun _ => -1) r) r) r) (posf q0 (1 : Int32) q1) H452 HT453 f454 f454a f454b) (w43 hw) (w44 hw) (nf_same (C := "") (w46 hw)) (w46 hw) (w45 hw) (w7 hw) (w47 hw) (by decide) pd__J_I rfl (W := 0) (by decide) (by decide) (Nat.le_of_eq rfl) (by decide) (by decide) rfl rfl at_210 rfl fun T h465 v466 A Q467 => ?_
    obtain ⟨ev, eh⟩ := Q467
    obtain rfl := ev.trans (congrArg (fun z => some (Value.int z)) (show (fun r => if r = (posf q0 (1 : Int32) q1) then -1 else (fun r => if r = (posf q0 (1 : Int32) q1) then (((ush q2 (8 : Int32)) &&& (65535 : Int32)) + (1 : Int32)) else (fun r => if r = (posf q0 (0 : Int32) q1) then ((ush q2 (8 : Int32)) &&& (65535 : Int32)) else (fun _ => -1) r) r) r) (posf q0 (1 : Int32) q1) = (-1 : Int32) from (by simp only [pn_0_1, pn_0_2, pn_0_3, pn_0_4, pn_1_0, pn_1_2, pn_1_3, pn_1_4, pn_2_0, pn_2_1, pn_2_3, pn_2_4, pn_3_0, pn_3_1, pn_3_2, pn_3_4, pn_4_0, pn_4_1, pn_4_2, pn_4_3, if_true, if_false])))
    rw [eh] at A
    refine Wp.stk (st' := [(.int (-1 : Int32))]) rfl ?_
    refine s_iconst (pc' := 214) (z := (1 : Int32)) A at_213 rfl (by decide) ?_
    refine s_iload (pc' := 216) A at_214 rfl rfl ?_
    refine s_iload (pc' := 218) A at_216 rfl rfl ?_
    refine s_iload (pc' := 220) A at_218 rfl rfl ?_
    refine s_static (pc' := 223) (y := y8_check) (argsL := [(.int (-1 : Int32)), (.int (1 : Int32)), (.int (2 : Int32)), (.int (1 : Int32)), (.int ((ush q2 (8 : Int32)) &&& (65535 : Int32)))]) (rest := []) A (m_out l Z a0 hw n0 h456 A.size (-1 : Int32) (1 : Int32) (2 : Int32) (1 : Int32) ((ush q2 (8 : Int32)) &&& (65535 : Int32)) (Or.inr rfl) rfl) (w48 hw) (w49 hw) (w2 hw) (w50 hw) (by decide) pd__IIIII_Z rfl (W := 0) (by decide) (by decide) (Nat.le_of_eq rfl) (by decide) (by decide) rfl rfl at_220 rfl fun T h468 v469 A Q470 => ?_
    obtain ⟨rfl, eh⟩ := Q470
    rw [eh] at A
    refine Wp.stk (st' := [(.int (1 : Int32))]) rfl ?_
    refine s_ifN (pc' := 226) A at_223 rfl (by decide) ?_
    refine s_aload (pc' := 228) A at_226 rfl rfl rfl ?_
    refine s_lload (pc' := 230) A at_228 rfl rfl ?_
    refine s_virtual (pc' := 233) (y := y0_get) (argsL := [(.long (posf q0 (2 : Int32) q1))]) (rest := []) (z := y0_get) A H452.1 (m_get l Z a0 hw n0 h456 A.size b416 a425 b426 z451 P449 N450 (fun r => if r = (posf q0 (1 : Int32) q1) then -1 else (fun r => if r = (posf q0 (1 : Int32) q1) then (((ush q2 (8 : Int32)) &&& (65535 : Int32)) + (1 : Int32)) else (fun r => if r = (posf q0 (0 : Int32) q1) then ((ush q2 (8 : Int32)) &&& (65535 : Int32)) else (fun _ => -1) r) r) r) (posf q0 (2 : Int32) q1) H452 HT453 f454 f454a f454b) (w43 hw) (w44 hw) (nf_same (C := "") (w46 hw)) (w46 hw) (w45 hw) (w7 hw) (w47 hw) (by decide) pd__J_I rfl (W := 0) (by decide) (by decide) (Nat.le_of_eq rfl) (by decide) (by decide) rfl rfl at_230 rfl fun T h471 v472 A Q473 => ?_
    obtain ⟨ev, eh⟩ := Q473
    obtain rfl := ev.trans (congrArg (fun z => some (Value.int z)) (show (fun r => if r = (posf q0 (1 : Int32) q1) then -1 else (fun r => if r = (posf q0 (1 : Int32) q1) then (((ush q2 (8 : Int32)) &&& (65535 : Int32)) + (1 : Int32)) else (fun r => if r = (posf q0 (0 : Int32) q1) then ((ush q2 (8 : Int32)) &&& (65535 : Int32)) else (fun _ => -1) r) r) r) (posf q0 (2 : Int32) q1) = (-1 : Int32) from (by simp only [pn_0_1, pn_0_2, pn_0_3, pn_0_4, pn_1_0, pn_1_2, pn_1_3, pn_1_4, pn_2_0, pn_2_1, pn_2_3, pn_2_4, pn_3_0, pn_3_1, pn_3_2, pn_3_4, pn_4_0, pn_4_1, pn_4_2, pn_4_3, if_true, if_false])))
    rw [eh] at A
    refine Wp.stk (st' := [(.int (-1 : Int32))]) rfl ?_
    refine s_iconst (pc' := 234) (z := (2 : Int32)) A at_233 rfl (by decide) ?_
    refine s_iload (pc' := 236) A at_234 rfl rfl ?_
    refine s_iload (pc' := 238) A at_236 rfl rfl ?_
    refine s_iload (pc' := 240) A at_238 rfl rfl ?_
    refine s_static (pc' := 243) (y := y8_check) (argsL := [(.int (-1 : Int32)), (.int (2 : Int32)), (.int (2 : Int32)), (.int (1 : Int32)), (.int ((ush q2 (8 : Int32)) &&& (65535 : Int32)))]) (rest := []) A (m_out l Z a0 hw n0 h456 A.size (-1 : Int32) (2 : Int32) (2 : Int32) (1 : Int32) ((ush q2 (8 : Int32)) &&& (65535 : Int32)) (Or.inl (by decide)) rfl) (w48 hw) (w49 hw) (w2 hw) (w50 hw) (by decide) pd__IIIII_Z rfl (W := 0) (by decide) (by decide) (Nat.le_of_eq rfl) (by decide) (by decide) rfl rfl at_240 rfl fun T h474 v475 A Q476 => ?_
    obtain ⟨rfl, eh⟩ := Q476
    rw [eh] at A
    refine Wp.stk (st' := [(.int (1 : Int32))]) rfl ?_
    refine s_ifN (pc' := 246) A at_243 rfl (by decide) ?_
    refine s_aload (pc' := 248) A at_246 rfl rfl rfl ?_
    refine s_lload (pc' := 250) A at_248 rfl rfl ?_
    refine s_virtual (pc' := 253) (y := y0_get) (argsL := [(.long (posf q0 (3 : Int32) q1))]) (rest := []) (z := y0_get) A H452.1 (m_get l Z a0 hw n0 h456 A.size b416 a425 b426 z451 P449 N450 (fun r => if r = (posf q0 (1 : Int32) q1) then -1 else (fun r => if r = (posf q0 (1 : Int32) q1) then (((ush q2 (8 : Int32)) &&& (65535 : Int32)) + (1 : Int32)) else (fun r => if r = (posf q0 (0 : Int32) q1) then ((ush q2 (8 : Int32)) &&& (65535 : Int32)) else (fun _ => -1) r) r) r) (posf q0 (3 : Int32) q1) H452 HT453 f454 f454a f454b) (w43 hw) (w44 hw) (nf_same (C := "") (w46 hw)) (w46 hw) (w45 hw) (w7 hw) (w47 hw) (by decide) pd__J_I rfl (W := 0) (by decide) (by decide) (Nat.le_of_eq rfl) (by decide) (by decide) rfl rfl at_250 rfl fun T h477 v478 A Q479 => ?_
    obtain ⟨ev, eh⟩ := Q479
    obtain rfl := ev.trans (congrArg (fun z => some (Value.int z)) (show (fun r => if r = (posf q0 (1 : Int32) q1) then -1 else (fun r => if r = (posf q0 (1 : Int32) q1) then (((ush q2 (8 : Int32)) &&& (65535 : Int32)) + (1 : Int32)) else (fun r => if r = (posf q0 (0 : Int32) q1) then ((ush q2 (8 : Int32)) &&& (65535 : Int32)) else (fun _ => -1) r) r) r) (posf q0 (3 : Int32) q1) = (-1 : Int32) from (by simp only [pn_0_1, pn_0_2, pn_0_3, pn_0_4, pn_1_0, pn_1_2, pn_1_3, pn_1_4, pn_2_0, pn_2_1, pn_2_3, pn_2_4, pn_3_0, pn_3_1, pn_3_2, pn_3_4, pn_4_0, pn_4_1, pn_4_2, pn_4_3, if_true, if_false])))
    rw [eh] at A
    refine Wp.stk (st' := [(.int (-1 : Int32))]) rfl ?_
    refine s_iconst (pc' := 254) (z := (3 : Int32)) A at_253 rfl (by decide) ?_
    refine s_iload (pc' := 256) A at_254 rfl rfl ?_
    refine s_iload (pc' := 258) A at_256 rfl rfl ?_
    refine s_iload (pc' := 260) A at_258 rfl rfl ?_
    refine s_static (pc' := 263) (y := y8_check) (argsL := [(.int (-1 : Int32)), (.int (3 : Int32)), (.int (2 : Int32)), (.int (1 : Int32)), (.int ((ush q2 (8 : Int32)) &&& (65535 : Int32)))]) (rest := []) A (m_out l Z a0 hw n0 h456 A.size (-1 : Int32) (3 : Int32) (2 : Int32) (1 : Int32) ((ush q2 (8 : Int32)) &&& (65535 : Int32)) (Or.inl (by decide)) rfl) (w48 hw) (w49 hw) (w2 hw) (w50 hw) (by decide) pd__IIIII_Z rfl (W := 0) (by decide) (by decide) (Nat.le_of_eq rfl) (by decide) (by decide) rfl rfl at_260 rfl fun T h480 v481 A Q482 => ?_
    obtain ⟨rfl, eh⟩ := Q482
    rw [eh] at A
    refine Wp.stk (st' := [(.int (1 : Int32))]) rfl ?_
    refine s_ifN (pc' := 266) A at_263 rfl (by decide) ?_
    refine s_aload (pc' := 268) A at_266 rfl rfl rfl ?_
    refine s_lload (pc' := 270) A at_268 rfl rfl ?_
    refine s_virtual (pc' := 273) (y := y0_get) (argsL := [(.long (posf q0 (4 : Int32) q1))]) (rest := []) (z := y0_get) A H452.1 (m_get l Z a0 hw n0 h456 A.size b416 a425 b426 z451 P449 N450 (fun r => if r = (posf q0 (1 : Int32) q1) then -1 else (fun r => if r = (posf q0 (1 : Int32) q1) then (((ush q2 (8 : Int32)) &&& (65535 : Int32)) + (1 : Int32)) else (fun r => if r = (posf q0 (0 : Int32) q1) then ((ush q2 (8 : Int32)) &&& (65535 : Int32)) else (fun _ => -1) r) r) r) (posf q0 (4 : Int32) q1) H452 HT453 f454 f454a f454b) (w43 hw) (w44 hw) (nf_same (C := "") (w46 hw)) (w46 hw) (w45 hw) (w7 hw) (w47 hw) (by decide) pd__J_I rfl (W := 0) (by decide) (by decide) (Nat.le_of_eq rfl) (by decide) (by decide) rfl rfl at_270 rfl fun T h483 v484 A Q485 => ?_
    obtain ⟨ev, eh⟩ := Q485
    obtain rfl := ev.trans (congrArg (fun z => some (Value.int z)) (show (fun r => if r = (posf q0 (1 : Int32) q1) then -1 else (fun r => if r = (posf q0 (1 : Int32) q1) then (((ush q2 (8 : Int32)) &&& (65535 : Int32)) + (1 : Int32)) else (fun r => if r = (posf q0 (0 : Int32) q1) then ((ush q2 (8 : Int32)) &&& (65535 : Int32)) else (fun _ => -1) r) r) r) (posf q0 (4 : Int32) q1) = (-1 : Int32) from (by simp only [pn_0_1, pn_0_2, pn_0_3, pn_0_4, pn_1_0, pn_1_2, pn_1_3, pn_1_4, pn_2_0, pn_2_1, pn_2_3, pn_2_4, pn_3_0, pn_3_1, pn_3_2, pn_3_4, pn_4_0, pn_4_1, pn_4_2, pn_4_3, if_true, if_false])))
    rw [eh] at A
    refine Wp.stk (st' := [(.int (-1 : Int32))]) rfl ?_
    refine s_iconst (pc' := 274) (z := (4 : Int32)) A at_273 rfl (by decide) ?_
    refine s_iload (pc' := 276) A at_274 rfl rfl ?_
    refine s_iload (pc' := 278) A at_276 rfl rfl ?_
    refine s_iload (pc' := 280) A at_278 rfl rfl ?_
    refine s_static (pc' := 283) (y := y8_check) (argsL := [(.int (-1 : Int32)), (.int (4 : Int32)), (.int (2 : Int32)), (.int (1 : Int32)), (.int ((ush q2 (8 : Int32)) &&& (65535 : Int32)))]) (rest := []) A (m_out l Z a0 hw n0 h456 A.size (-1 : Int32) (4 : Int32) (2 : Int32) (1 : Int32) ((ush q2 (8 : Int32)) &&& (65535 : Int32)) (Or.inl (by decide)) rfl) (w48 hw) (w49 hw) (w2 hw) (w50 hw) (by decide) pd__IIIII_Z rfl (W := 0) (by decide) (by decide) (Nat.le_of_eq rfl) (by decide) (by decide) rfl rfl at_280 rfl fun T h486 v487 A Q488 => ?_
    obtain ⟨rfl, eh⟩ := Q488
    rw [eh] at A
    refine Wp.stk (st' := [(.int (1 : Int32))]) rfl ?_
    refine s_ifN (pc' := 286) A at_283 rfl (by decide) ?_
    refine s_iconst (pc' := 287) (z := (1 : Int32)) A at_286 rfl (by decide) ?_
    refine s_goto (pc' := 291) A at_287 (by decide) (by decide) ?_
    exact r_bool A rfl (by decide) at_291 (by decide) (by decide) (rfl)
   ·
    refine s_irem (pc' := 52) (z := (2 : Int32)) A at_51 rfl (by decide) hrr.symm ?_
    refine s_istore (pc' := 54) (Ls' := #[jv q0, S2, iv q1, iv q2, jv (posf q0 (0 : Int32) q1), S2, jv (posf q0 (1 : Int32) q1), S2, jv (posf q0 (2 : Int32) q1), S2, jv (posf q0 (3 : Int32) q1), S2, jv (posf q0 (4 : Int32) q1), S2, iv 2, iv 2, U0, U0, U0, U0]) A at_52 rfl rfl ?_
    refine s_iloadN (pc' := 55) A at_54 rfl rfl ?_
    refine s_bipush (pc' := 57) (z := (8 : Int32)) A at_55 rfl (by decide) ?_
    refine s_iushr (pc' := 58) (z := (ush q2 (8 : Int32))) A at_57 rfl rfl ?_
    refine s_ldcInt (pc' := 60) A at_58 rfl (w4 hw) ?_
    refine s_iand (pc' := 61) (z := ((ush q2 (8 : Int32)) &&& (65535 : Int32))) A at_60 rfl rfl ?_
    refine s_istore (pc' := 63) (Ls' := #[jv q0, S2, iv q1, iv q2, jv (posf q0 (0 : Int32) q1), S2, jv (posf q0 (1 : Int32) q1), S2, jv (posf q0 (2 : Int32) q1), S2, jv (posf q0 (3 : Int32) q1), S2, jv (posf q0 (4 : Int32) q1), S2, iv 2, iv 2, iv ((ush q2 (8 : Int32)) &&& (65535 : Int32)), U0, U0, U0]) A at_61 rfl rfl ?_
    refine s_new (pc' := 66) A (w5 hw) (w6 hw) (w7 hw) (by decide) (by decide) at_63 rfl fun T h489 b490 A g491 ge492 X493 E494 D495 => ?_
    have F496 : Fld Z h489 b490 "com/example/wirefram/wirefram/sequence/PositionIndex" "positions" "[J" .null := D495 (Or.inl (w16 hw)) (ty := (.array .long)) (by decide)
    have F497 : Fld Z h489 b490 "com/example/wirefram/wirefram/sequence/PositionIndex" "numbers" "[I" .null := D495 (Or.inl (w26 hw)) (ty := (.array .int)) (by decide)
    have F498 : Fld Z h489 b490 "com/example/wirefram/wirefram/sequence/PositionIndex" "size" "I" (.int (0 : Int32)) := D495 (Or.inl (w33 hw)) (ty := .int) (by decide)
    refine s_dup (pc' := 67) A at_66 rfl rfl ?_
    refine s_special (pc' := 70) (y := y6_init) (argsL := []) (rest := [(.ref b490)]) A (m_init l Z a0 hw n0 h489 A.size b490 E494 F496 F497 F498 ge492) rfl (w8 hw) (w9 hw) (w7 hw) (w10 hw) (by decide) pd___V rfl (W := 1) (by decide) (by decide) (Nat.le_of_eq rfl) (by decide) (by decide) rfl rfl at_67 rfl fun T h502 v503 A Q504 => ?_
    obtain ⟨rfl, a499, b500, H501⟩ := Q504
    refine Wp.stk (st' := [(.ref b490)]) rfl ?_
    refine s_astore (pc' := 72) (Ls' := #[jv q0, S2, iv q1, iv q2, jv (posf q0 (0 : Int32) q1), S2, jv (posf q0 (1 : Int32) q1), S2, jv (posf q0 (2 : Int32) q1), S2, jv (posf q0 (3 : Int32) q1), S2, jv (posf q0 (4 : Int32) q1), S2, iv 2, iv 2, iv ((ush q2 (8 : Int32)) &&& (65535 : Int32)), rv b490, U0, U0]) A at_70 rfl rfl rfl ?_
    refine s_aload (pc' := 74) A at_72 rfl rfl rfl ?_
    refine s_lload (pc' := 76) A at_74 rfl rfl ?_
    refine s_iload (pc' := 78) A at_76 rfl rfl ?_
    obtain ⟨fr510, fr510a, fr510b⟩ := Free.ex (c := 15) own_free0
    refine s_virtual (pc' := 81) (y := y2_put) (argsL := [(.long (posf q0 (0 : Int32) q1)), (.int ((ush q2 (8 : Int32)) &&& (65535 : Int32)))]) (rest := []) (z := y2_put) A H501.1 (m_put l Z a0 hw n0 h502 A.size b490 a499 b500 0 (fun _ => 0) (fun _ => -1) (fun _ => -1) H501 (posf q0 (0 : Int32) q1) ((ush q2 (8 : Int32)) &&& (65535 : Int32)) 1 (own_tab0 (fun _ => 0)) fr510 fr510a fr510b (own_nb0 q2) rfl (by decide) (by decide)) (w27 hw) (w28 hw) (nf_same (C := "") (w30 hw)) (w30 hw) (w29 hw) (w7 hw) (w31 hw) (by decide) pd__JI_V rfl (W := 0) (by decide) (by decide) (Nat.le_of_eq rfl) (by decide) (by decide) rfl rfl at_78 rfl fun T h511 v512 A Q513 => ?_
    obtain ⟨rfl, P505, N506, H507, HT508, FR509⟩ := Q513
    have FR509 := FR509 15 own_free0
    refine Wp.stk (st' := []) rfl ?_
    refine s_iload (pc' := 83) A at_81 rfl rfl ?_
    refine s_iconst (pc' := 84) (z := (1 : Int32)) A at_83 rfl (by decide) ?_
    refine s_icmpN (pc' := 87) A at_84 rfl (by decide) ?_
    refine s_aload (pc' := 89) A at_87 rfl rfl rfl ?_
    refine s_lload (pc' := 91) A at_89 rfl rfl ?_
    refine s_iload (pc' := 93) A at_91 rfl rfl ?_
    refine s_iconst (pc' := 94) (z := (1 : Int32)) A at_93 rfl (by decide) ?_
    refine s_iadd (pc' := 95) (z := (((ush q2 (8 : Int32)) &&& (65535 : Int32)) + (1 : Int32))) A at_94 rfl rfl ?_
    obtain ⟨fr519, fr519a, fr519b⟩ := Free.ex (c := 14) FR509
    refine s_virtual (pc' := 98) (y := y2_put) (argsL := [(.long (posf q0 (1 : Int32) q1)), (.int (((ush q2 (8 : Int32)) &&& (65535 : Int32)) + (1 : Int32)))]) (rest := []) (z := y2_put) A H507.1 (m_put l Z a0 hw n0 h511 A.size b490 a499 b500 1 P505 N506 (fun r => if r = (posf q0 (0 : Int32) q1) then ((ush q2 (8 : Int32)) &&& (65535 : Int32)) else (fun _ => -1) r) H507 (posf q0 (1 : Int32) q1) (((ush q2 (8 : Int32)) &&& (65535 : Int32)) + (1 : Int32)) 2 HT508 fr519 fr519a fr519b (own_nb1 q2) (by simp only [pn_0_1, pn_0_2, pn_0_3, pn_0_4, pn_1_0, pn_1_2, pn_1_3, pn_1_4, pn_2_0, pn_2_1, pn_2_3, pn_2_4, pn_3_0, pn_3_1, pn_3_2, pn_3_4, pn_4_0, pn_4_1, pn_4_2, pn_4_3, if_true, if_false]) (by decide) (by decide)) (w27 hw) (w28 hw) (nf_same (C := "") (w30 hw)) (w30 hw) (w29 hw) (w7 hw) (w31 hw) (by decide) pd__JI_V rfl (W := 0) (by decide) (by decide) (Nat.le_of_eq rfl) (by decide) (by decide) rfl rfl at_95 rfl fun T h520 v521 A Q522 => ?_
    obtain ⟨rfl, P514, N515, H516, HT517, FR518⟩ := Q522
    have FR518 := FR518 14 FR509
    refine Wp.stk (st' := []) rfl ?_
    refine s_iload (pc' := 100) A at_98 rfl rfl ?_
    refine s_iconst (pc' := 101) (z := (2 : Int32)) A at_100 rfl (by decide) ?_
    refine s_icmpY (pc' := 115) A at_101 (by decide) (by decide) (by decide) ?_
    refine s_iload (pc' := 117) A at_115 rfl rfl ?_
    refine s_iconst (pc' := 118) (z := (3 : Int32)) A at_117 rfl (by decide) ?_
    refine s_icmpY (pc' := 132) A at_118 (by decide) (by decide) (by decide) ?_
    refine s_iload (pc' := 134) A at_132 rfl rfl ?_
    refine s_ifY (pc' := 142) A at_134 (by decide) (by decide) (by decide) ?_
    refine s_iload (pc' := 144) A at_142 rfl rfl ?_
    refine s_iconst (pc' := 145) (z := (1 : Int32)) A at_144 rfl (by decide) ?_
    refine s_icmpY (pc' := 153) A at_145 (by decide) (by decide) (by decide) ?_
    refine s_iload (pc' := 155) A at_153 rfl rfl ?_
    refine s_iconst (pc' := 156) (z := (2 : Int32)) A at_155 rfl (by decide) ?_
    refine s_icmpN (pc' := 159) A at_156 rfl (by decide) ?_
    refine s_lload (pc' := 161) A at_159 rfl rfl ?_
    refine s_goto (pc' := 177) A at_161 (by decide) (by decide) ?_
    refine s_lstore (pc' := 179) (Ls' := #[jv q0, S2, iv q1, iv q2, jv (posf q0 (0 : Int32) q1), S2, jv (posf q0 (1 : Int32) q1), S2, jv (posf q0 (2 : Int32) q1), S2, jv (posf q0 (3 : Int32) q1), S2, jv (posf q0 (4 : Int32) q1), S2, iv 2, iv 2, iv ((ush q2 (8 : Int32)) &&& (65535 : Int32)), rv b490, jv (posf q0 (2 : Int32) q1), S2]) A at_177 rfl rfl ?_
    refine s_aload (pc' := 181) A at_179 rfl rfl rfl ?_
    refine s_lload (pc' := 183) A at_181 rfl rfl ?_
    obtain ⟨fr529, fr529a, fr529b⟩ := Free.ex (c := 13) FR518
    refine s_virtual (pc' := 186) (y := y3_remove) (argsL := [(.long (posf q0 (2 : Int32) q1))]) (rest := []) (z := y3_remove) A H516.1 (m_rem l Z a0 hw n0 h520 A.size b490 a499 b500 2 P514 N515 (fun r => if r = (posf q0 (1 : Int32) q1) then (((ush q2 (8 : Int32)) &&& (65535 : Int32)) + (1 : Int32)) else (fun r => if r = (posf q0 (0 : Int32) q1) then ((ush q2 (8 : Int32)) &&& (65535 : Int32)) else (fun _ => -1) r) r) (posf q0 (2 : Int32) q1) H516 HT517 fr529 fr529a fr529b) (w38 hw) (w39 hw) (nf_same (C := "") (w41 hw)) (w41 hw) (w40 hw) (w7 hw) (w42 hw) (by decide) pd__J_V rfl (W := 0) (by decide) (by decide) (Nat.le_of_eq rfl) (by decide) (by decide) rfl rfl at_183 rfl fun T h530 v531 A Q532 => ?_
    obtain ⟨rfl, P523, N524, z525, H526, HT527, f528, f528a, f528b⟩ := Q532
    refine Wp.stk (st' := []) rfl ?_
    refine s_aload (pc' := 188) A at_186 rfl rfl rfl ?_
    refine s_lload (pc' := 190) A at_188 rfl rfl ?_
    refine s_virtual (pc' := 193) (y := y0_get) (argsL := [(.long (posf q0 (0 : Int32) q1))]) (rest := []) (z := y0_get) A H526.1 (m_get l Z a0 hw n0 h530 A.size b490 a499 b500 z525 P523 N524 (fun r => if r = (posf q0 (2 : Int32) q1) then -1 else (fun r => if r = (posf q0 (1 : Int32) q1) then (((ush q2 (8 : Int32)) &&& (65535 : Int32)) + (1 : Int32)) else (fun r => if r = (posf q0 (0 : Int32) q1) then ((ush q2 (8 : Int32)) &&& (65535 : Int32)) else (fun _ => -1) r) r) r) (posf q0 (0 : Int32) q1) H526 HT527 f528 f528a f528b) (w43 hw) (w44 hw) (nf_same (C := "") (w46 hw)) (w46 hw) (w45 hw) (w7 hw) (w47 hw) (by decide) pd__J_I rfl (W := 0) (by decide) (by decide) (Nat.le_of_eq rfl) (by decide) (by decide) rfl rfl at_190 rfl fun T h533 v534 A Q535 => ?_
    obtain ⟨ev, eh⟩ := Q535
    obtain rfl := ev.trans (congrArg (fun z => some (Value.int z)) (show (fun r => if r = (posf q0 (2 : Int32) q1) then -1 else (fun r => if r = (posf q0 (1 : Int32) q1) then (((ush q2 (8 : Int32)) &&& (65535 : Int32)) + (1 : Int32)) else (fun r => if r = (posf q0 (0 : Int32) q1) then ((ush q2 (8 : Int32)) &&& (65535 : Int32)) else (fun _ => -1) r) r) r) (posf q0 (0 : Int32) q1) = ((ush q2 (8 : Int32)) &&& (65535 : Int32)) from (by simp only [pn_0_1, pn_0_2, pn_0_3, pn_0_4, pn_1_0, pn_1_2, pn_1_3, pn_1_4, pn_2_0, pn_2_1, pn_2_3, pn_2_4, pn_3_0, pn_3_1, pn_3_2, pn_3_4, pn_4_0, pn_4_1, pn_4_2, pn_4_3, if_true, if_false])))
    rw [eh] at A
    refine Wp.stk (st' := [(.int ((ush q2 (8 : Int32)) &&& (65535 : Int32)))]) rfl ?_
    refine s_iconst (pc' := 194) (z := (0 : Int32)) A at_193 rfl (by decide) ?_
    refine s_iload (pc' := 196) A at_194 rfl rfl ?_
    refine s_iload (pc' := 198) A at_196 rfl rfl ?_
    refine s_iload (pc' := 200) A at_198 rfl rfl ?_
    refine s_static (pc' := 203) (y := y8_check) (argsL := [(.int ((ush q2 (8 : Int32)) &&& (65535 : Int32))), (.int (0 : Int32)), (.int (2 : Int32)), (.int (2 : Int32)), (.int ((ush q2 (8 : Int32)) &&& (65535 : Int32)))]) (rest := []) A (m_in l Z a0 hw n0 h530 A.size ((ush q2 (8 : Int32)) &&& (65535 : Int32)) (0 : Int32) (2 : Int32) (2 : Int32) ((ush q2 (8 : Int32)) &&& (65535 : Int32)) (by decide) (by decide) (Int32.add_zero _).symm) (w48 hw) (w49 hw) (w2 hw) (w50 hw) (by decide) pd__IIIII_Z rfl (W := 0) (by decide) (by decide) (Nat.le_of_eq rfl) (by decide) (by decide) rfl rfl at_200 rfl fun T h536 v537 A Q538 => ?_
    obtain ⟨rfl, eh⟩ := Q538
    rw [eh] at A
    refine Wp.stk (st' := [(.int (1 : Int32))]) rfl ?_
    refine s_ifN (pc' := 206) A at_203 rfl (by decide) ?_
    refine s_aload (pc' := 208) A at_206 rfl rfl rfl ?_
    refine s_lload (pc' := 210) A at_208 rfl rfl ?_
    refine s_virtual (pc' := 213) (y := y0_get) (argsL := [(.long (posf q0 (1 : Int32) q1))]) (rest := []) (z := y0_get) A H526.1 (m_get l Z a0 hw n0 h530 A.size b490 a499 b500 z525 P523 N524 (fun r => if r = (posf q0 (2 : Int32) q1) then -1 else (fun r => if r = (posf q0 (1 : Int32) q1) then (((ush q2 (8 : Int32)) &&& (65535 : Int32)) + (1 : Int32)) else (fun r => if r = (posf q0 (0 : Int32) q1) then ((ush q2 (8 : Int32)) &&& (65535 : Int32)) else (fun _ => -1) r) r) r) (posf q0 (1 : Int32) q1) H526 HT527 f528 f528a f528b) (w43 hw) (w44 hw) (nf_same (C := "") (w46 hw)) (w46 hw) (w45 hw) (w7 hw) (w47 hw) (by decide) pd__J_I rfl (W := 0) (by decide) (by decide) (Nat.le_of_eq rfl) (by decide) (by decide) rfl rfl at_210 rfl fun T h539 v540 A Q541 => ?_
    obtain ⟨ev, eh⟩ := Q541
    obtain rfl := ev.trans (congrArg (fun z => some (Value.int z)) (show (fun r => if r = (posf q0 (2 : Int32) q1) then -1 else (fun r => if r = (posf q0 (1 : Int32) q1) then (((ush q2 (8 : Int32)) &&& (65535 : Int32)) + (1 : Int32)) else (fun r => if r = (posf q0 (0 : Int32) q1) then ((ush q2 (8 : Int32)) &&& (65535 : Int32)) else (fun _ => -1) r) r) r) (posf q0 (1 : Int32) q1) = (((ush q2 (8 : Int32)) &&& (65535 : Int32)) + (1 : Int32)) from (by simp only [pn_0_1, pn_0_2, pn_0_3, pn_0_4, pn_1_0, pn_1_2, pn_1_3, pn_1_4, pn_2_0, pn_2_1, pn_2_3, pn_2_4, pn_3_0, pn_3_1, pn_3_2, pn_3_4, pn_4_0, pn_4_1, pn_4_2, pn_4_3, if_true, if_false])))
    rw [eh] at A
    refine Wp.stk (st' := [(.int (((ush q2 (8 : Int32)) &&& (65535 : Int32)) + (1 : Int32)))]) rfl ?_
    refine s_iconst (pc' := 214) (z := (1 : Int32)) A at_213 rfl (by decide) ?_
    refine s_iload (pc' := 216) A at_214 rfl rfl ?_
    refine s_iload (pc' := 218) A at_216 rfl rfl ?_
    refine s_iload (pc' := 220) A at_218 rfl rfl ?_
    refine s_static (pc' := 223) (y := y8_check) (argsL := [(.int (((ush q2 (8 : Int32)) &&& (65535 : Int32)) + (1 : Int32))), (.int (1 : Int32)), (.int (2 : Int32)), (.int (2 : Int32)), (.int ((ush q2 (8 : Int32)) &&& (65535 : Int32)))]) (rest := []) A (m_in l Z a0 hw n0 h530 A.size (((ush q2 (8 : Int32)) &&& (65535 : Int32)) + (1 : Int32)) (1 : Int32) (2 : Int32) (2 : Int32) ((ush q2 (8 : Int32)) &&& (65535 : Int32)) (by decide) (by decide) rfl) (w48 hw) (w49 hw) (w2 hw) (w50 hw) (by decide) pd__IIIII_Z rfl (W := 0) (by decide) (by decide) (Nat.le_of_eq rfl) (by decide) (by decide) rfl rfl at_220 rfl fun T h542 v543 A Q544 => ?_
    obtain ⟨rfl, eh⟩ := Q544
    rw [eh] at A
    refine Wp.stk (st' := [(.int (1 : Int32))]) rfl ?_
    refine s_ifN (pc' := 226) A at_223 rfl (by decide) ?_
    refine s_aload (pc' := 228) A at_226 rfl rfl rfl ?_
    refine s_lload (pc' := 230) A at_228 rfl rfl ?_
    refine s_virtual (pc' := 233) (y := y0_get) (argsL := [(.long (posf q0 (2 : Int32) q1))]) (rest := []) (z := y0_get) A H526.1 (m_get l Z a0 hw n0 h530 A.size b490 a499 b500 z525 P523 N524 (fun r => if r = (posf q0 (2 : Int32) q1) then -1 else (fun r => if r = (posf q0 (1 : Int32) q1) then (((ush q2 (8 : Int32)) &&& (65535 : Int32)) + (1 : Int32)) else (fun r => if r = (posf q0 (0 : Int32) q1) then ((ush q2 (8 : Int32)) &&& (65535 : Int32)) else (fun _ => -1) r) r) r) (posf q0 (2 : Int32) q1) H526 HT527 f528 f528a f528b) (w43 hw) (w44 hw) (nf_same (C := "") (w46 hw)) (w46 hw) (w45 hw) (w7 hw) (w47 hw) (by decide) pd__J_I rfl (W := 0) (by decide) (by decide) (Nat.le_of_eq rfl) (by decide) (by decide) rfl rfl at_230 rfl fun T h545 v546 A Q547 => ?_
    obtain ⟨ev, eh⟩ := Q547
    obtain rfl := ev.trans (congrArg (fun z => some (Value.int z)) (show (fun r => if r = (posf q0 (2 : Int32) q1) then -1 else (fun r => if r = (posf q0 (1 : Int32) q1) then (((ush q2 (8 : Int32)) &&& (65535 : Int32)) + (1 : Int32)) else (fun r => if r = (posf q0 (0 : Int32) q1) then ((ush q2 (8 : Int32)) &&& (65535 : Int32)) else (fun _ => -1) r) r) r) (posf q0 (2 : Int32) q1) = (-1 : Int32) from (by simp only [pn_0_1, pn_0_2, pn_0_3, pn_0_4, pn_1_0, pn_1_2, pn_1_3, pn_1_4, pn_2_0, pn_2_1, pn_2_3, pn_2_4, pn_3_0, pn_3_1, pn_3_2, pn_3_4, pn_4_0, pn_4_1, pn_4_2, pn_4_3, if_true, if_false])))
    rw [eh] at A
    refine Wp.stk (st' := [(.int (-1 : Int32))]) rfl ?_
    refine s_iconst (pc' := 234) (z := (2 : Int32)) A at_233 rfl (by decide) ?_
    refine s_iload (pc' := 236) A at_234 rfl rfl ?_
    refine s_iload (pc' := 238) A at_236 rfl rfl ?_
    refine s_iload (pc' := 240) A at_238 rfl rfl ?_
    refine s_static (pc' := 243) (y := y8_check) (argsL := [(.int (-1 : Int32)), (.int (2 : Int32)), (.int (2 : Int32)), (.int (2 : Int32)), (.int ((ush q2 (8 : Int32)) &&& (65535 : Int32)))]) (rest := []) A (m_out l Z a0 hw n0 h530 A.size (-1 : Int32) (2 : Int32) (2 : Int32) (2 : Int32) ((ush q2 (8 : Int32)) &&& (65535 : Int32)) (Or.inl (by decide)) rfl) (w48 hw) (w49 hw) (w2 hw) (w50 hw) (by decide) pd__IIIII_Z rfl (W := 0) (by decide) (by decide) (Nat.le_of_eq rfl) (by decide) (by decide) rfl rfl at_240 rfl fun T h548 v549 A Q550 => ?_
    obtain ⟨rfl, eh⟩ := Q550
    rw [eh] at A
    refine Wp.stk (st' := [(.int (1 : Int32))]) rfl ?_
    refine s_ifN (pc' := 246) A at_243 rfl (by decide) ?_
    refine s_aload (pc' := 248) A at_246 rfl rfl rfl ?_
    refine s_lload (pc' := 250) A at_248 rfl rfl ?_
    refine s_virtual (pc' := 253) (y := y0_get) (argsL := [(.long (posf q0 (3 : Int32) q1))]) (rest := []) (z := y0_get) A H526.1 (m_get l Z a0 hw n0 h530 A.size b490 a499 b500 z525 P523 N524 (fun r => if r = (posf q0 (2 : Int32) q1) then -1 else (fun r => if r = (posf q0 (1 : Int32) q1) then (((ush q2 (8 : Int32)) &&& (65535 : Int32)) + (1 : Int32)) else (fun r => if r = (posf q0 (0 : Int32) q1) then ((ush q2 (8 : Int32)) &&& (65535 : Int32)) else (fun _ => -1) r) r) r) (posf q0 (3 : Int32) q1) H526 HT527 f528 f528a f528b) (w43 hw) (w44 hw) (nf_same (C := "") (w46 hw)) (w46 hw) (w45 hw) (w7 hw) (w47 hw) (by decide) pd__J_I rfl (W := 0) (by decide) (by decide) (Nat.le_of_eq rfl) (by decide) (by decide) rfl rfl at_250 rfl fun T h551 v552 A Q553 => ?_
    obtain ⟨ev, eh⟩ := Q553
    obtain rfl := ev.trans (congrArg (fun z => some (Value.int z)) (show (fun r => if r = (posf q0 (2 : Int32) q1) then -1 else (fun r => if r = (posf q0 (1 : Int32) q1) then (((ush q2 (8 : Int32)) &&& (65535 : Int32)) + (1 : Int32)) else (fun r => if r = (posf q0 (0 : Int32) q1) then ((ush q2 (8 : Int32)) &&& (65535 : Int32)) else (fun _ => -1) r) r) r) (posf q0 (3 : Int32) q1) = (-1 : Int32) from (by simp only [pn_0_1, pn_0_2, pn_0_3, pn_0_4, pn_1_0, pn_1_2, pn_1_3, pn_1_4, pn_2_0, pn_2_1, pn_2_3, pn_2_4, pn_3_0, pn_3_1, pn_3_2, pn_3_4, pn_4_0, pn_4_1, pn_4_2, pn_4_3, if_true, if_false])))
    rw [eh] at A
    refine Wp.stk (st' := [(.int (-1 : Int32))]) rfl ?_
    refine s_iconst (pc' := 254) (z := (3 : Int32)) A at_253 rfl (by decide) ?_
    refine s_iload (pc' := 256) A at_254 rfl rfl ?_
    refine s_iload (pc' := 258) A at_256 rfl rfl ?_
    refine s_iload (pc' := 260) A at_258 rfl rfl ?_
    refine s_static (pc' := 263) (y := y8_check) (argsL := [(.int (-1 : Int32)), (.int (3 : Int32)), (.int (2 : Int32)), (.int (2 : Int32)), (.int ((ush q2 (8 : Int32)) &&& (65535 : Int32)))]) (rest := []) A (m_out l Z a0 hw n0 h530 A.size (-1 : Int32) (3 : Int32) (2 : Int32) (2 : Int32) ((ush q2 (8 : Int32)) &&& (65535 : Int32)) (Or.inl (by decide)) rfl) (w48 hw) (w49 hw) (w2 hw) (w50 hw) (by decide) pd__IIIII_Z rfl (W := 0) (by decide) (by decide) (Nat.le_of_eq rfl) (by decide) (by decide) rfl rfl at_260 rfl fun T h554 v555 A Q556 => ?_
    obtain ⟨rfl, eh⟩ := Q556
    rw [eh] at A
    refine Wp.stk (st' := [(.int (1 : Int32))]) rfl ?_
    refine s_ifN (pc' := 266) A at_263 rfl (by decide) ?_
    refine s_aload (pc' := 268) A at_266 rfl rfl rfl ?_
    refine s_lload (pc' := 270) A at_268 rfl rfl ?_
    refine s_virtual (pc' := 273) (y := y0_get) (argsL := [(.long (posf q0 (4 : Int32) q1))]) (rest := []) (z := y0_get) A H526.1 (m_get l Z a0 hw n0 h530 A.size b490 a499 b500 z525 P523 N524 (fun r => if r = (posf q0 (2 : Int32) q1) then -1 else (fun r => if r = (posf q0 (1 : Int32) q1) then (((ush q2 (8 : Int32)) &&& (65535 : Int32)) + (1 : Int32)) else (fun r => if r = (posf q0 (0 : Int32) q1) then ((ush q2 (8 : Int32)) &&& (65535 : Int32)) else (fun _ => -1) r) r) r) (posf q0 (4 : Int32) q1) H526 HT527 f528 f528a f528b) (w43 hw) (w44 hw) (nf_same (C := "") (w46 hw)) (w46 hw) (w45 hw) (w7 hw) (w47 hw) (by decide) pd__J_I rfl (W := 0) (by decide) (by decide) (Nat.le_of_eq rfl) (by decide) (by decide) rfl rfl at_270 rfl fun T h557 v558 A Q559 => ?_
    obtain ⟨ev, eh⟩ := Q559
    obtain rfl := ev.trans (congrArg (fun z => some (Value.int z)) (show (fun r => if r = (posf q0 (2 : Int32) q1) then -1 else (fun r => if r = (posf q0 (1 : Int32) q1) then (((ush q2 (8 : Int32)) &&& (65535 : Int32)) + (1 : Int32)) else (fun r => if r = (posf q0 (0 : Int32) q1) then ((ush q2 (8 : Int32)) &&& (65535 : Int32)) else (fun _ => -1) r) r) r) (posf q0 (4 : Int32) q1) = (-1 : Int32) from (by simp only [pn_0_1, pn_0_2, pn_0_3, pn_0_4, pn_1_0, pn_1_2, pn_1_3, pn_1_4, pn_2_0, pn_2_1, pn_2_3, pn_2_4, pn_3_0, pn_3_1, pn_3_2, pn_3_4, pn_4_0, pn_4_1, pn_4_2, pn_4_3, if_true, if_false])))
    rw [eh] at A
    refine Wp.stk (st' := [(.int (-1 : Int32))]) rfl ?_
    refine s_iconst (pc' := 274) (z := (4 : Int32)) A at_273 rfl (by decide) ?_
    refine s_iload (pc' := 276) A at_274 rfl rfl ?_
    refine s_iload (pc' := 278) A at_276 rfl rfl ?_
    refine s_iload (pc' := 280) A at_278 rfl rfl ?_
    refine s_static (pc' := 283) (y := y8_check) (argsL := [(.int (-1 : Int32)), (.int (4 : Int32)), (.int (2 : Int32)), (.int (2 : Int32)), (.int ((ush q2 (8 : Int32)) &&& (65535 : Int32)))]) (rest := []) A (m_out l Z a0 hw n0 h530 A.size (-1 : Int32) (4 : Int32) (2 : Int32) (2 : Int32) ((ush q2 (8 : Int32)) &&& (65535 : Int32)) (Or.inl (by decide)) rfl) (w48 hw) (w49 hw) (w2 hw) (w50 hw) (by decide) pd__IIIII_Z rfl (W := 0) (by decide) (by decide) (Nat.le_of_eq rfl) (by decide) (by decide) rfl rfl at_280 rfl fun T h560 v561 A Q562 => ?_
    obtain ⟨rfl, eh⟩ := Q562
    rw [eh] at A
    refine Wp.stk (st' := [(.int (1 : Int32))]) rfl ?_
    refine s_ifN (pc' := 286) A at_283 rfl (by decide) ?_
    refine s_iconst (pc' := 287) (z := (1 : Int32)) A at_286 rfl (by decide) ?_
    refine s_goto (pc' := 291) A at_287 (by decide) (by decide) ?_
    exact r_bool A rfl (by decide) at_291 (by decide) (by decide) (rfl)
   ·
    refine s_irem (pc' := 52) (z := (3 : Int32)) A at_51 rfl (by decide) hrr.symm ?_
    refine s_istore (pc' := 54) (Ls' := #[jv q0, S2, iv q1, iv q2, jv (posf q0 (0 : Int32) q1), S2, jv (posf q0 (1 : Int32) q1), S2, jv (posf q0 (2 : Int32) q1), S2, jv (posf q0 (3 : Int32) q1), S2, jv (posf q0 (4 : Int32) q1), S2, iv 2, iv 3, U0, U0, U0, U0]) A at_52 rfl rfl ?_
    refine s_iloadN (pc' := 55) A at_54 rfl rfl ?_
    refine s_bipush (pc' := 57) (z := (8 : Int32)) A at_55 rfl (by decide) ?_
    refine s_iushr (pc' := 58) (z := (ush q2 (8 : Int32))) A at_57 rfl rfl ?_
    refine s_ldcInt (pc' := 60) A at_58 rfl (w4 hw) ?_
    refine s_iand (pc' := 61) (z := ((ush q2 (8 : Int32)) &&& (65535 : Int32))) A at_60 rfl rfl ?_
    refine s_istore (pc' := 63) (Ls' := #[jv q0, S2, iv q1, iv q2, jv (posf q0 (0 : Int32) q1), S2, jv (posf q0 (1 : Int32) q1), S2, jv (posf q0 (2 : Int32) q1), S2, jv (posf q0 (3 : Int32) q1), S2, jv (posf q0 (4 : Int32) q1), S2, iv 2, iv 3, iv ((ush q2 (8 : Int32)) &&& (65535 : Int32)), U0, U0, U0]) A at_61 rfl rfl ?_
    refine s_new (pc' := 66) A (w5 hw) (w6 hw) (w7 hw) (by decide) (by decide) at_63 rfl fun T h563 b564 A g565 ge566 X567 E568 D569 => ?_
    have F570 : Fld Z h563 b564 "com/example/wirefram/wirefram/sequence/PositionIndex" "positions" "[J" .null := D569 (Or.inl (w16 hw)) (ty := (.array .long)) (by decide)
    have F571 : Fld Z h563 b564 "com/example/wirefram/wirefram/sequence/PositionIndex" "numbers" "[I" .null := D569 (Or.inl (w26 hw)) (ty := (.array .int)) (by decide)
    have F572 : Fld Z h563 b564 "com/example/wirefram/wirefram/sequence/PositionIndex" "size" "I" (.int (0 : Int32)) := D569 (Or.inl (w33 hw)) (ty := .int) (by decide)
    refine s_dup (pc' := 67) A at_66 rfl rfl ?_
    refine s_special (pc' := 70) (y := y6_init) (argsL := []) (rest := [(.ref b564)]) A (m_init l Z a0 hw n0 h563 A.size b564 E568 F570 F571 F572 ge566) rfl (w8 hw) (w9 hw) (w7 hw) (w10 hw) (by decide) pd___V rfl (W := 1) (by decide) (by decide) (Nat.le_of_eq rfl) (by decide) (by decide) rfl rfl at_67 rfl fun T h576 v577 A Q578 => ?_
    obtain ⟨rfl, a573, b574, H575⟩ := Q578
    refine Wp.stk (st' := [(.ref b564)]) rfl ?_
    refine s_astore (pc' := 72) (Ls' := #[jv q0, S2, iv q1, iv q2, jv (posf q0 (0 : Int32) q1), S2, jv (posf q0 (1 : Int32) q1), S2, jv (posf q0 (2 : Int32) q1), S2, jv (posf q0 (3 : Int32) q1), S2, jv (posf q0 (4 : Int32) q1), S2, iv 2, iv 3, iv ((ush q2 (8 : Int32)) &&& (65535 : Int32)), rv b564, U0, U0]) A at_70 rfl rfl rfl ?_
    refine s_aload (pc' := 74) A at_72 rfl rfl rfl ?_
    refine s_lload (pc' := 76) A at_74 rfl rfl ?_
    refine s_iload (pc' := 78) A at_76 rfl rfl ?_
    obtain ⟨fr584, fr584a, fr584b⟩ := Free.ex (c := 15) own_free0
    refine s_virtual (pc' := 81) (y := y2_put) (argsL := [(.long (posf q0 (0 : Int32) q1)), (.int ((ush q2 (8 : Int32)) &&& (65535 : Int32)))]) (rest := []) (z := y2_put) A H575.1 (m_put l Z a0 hw n0 h576 A.size b564 a573 b574 0 (fun _ => 0) (fun _ => -1) (fun _ => -1) H575 (posf q0 (0 : Int32) q1) ((ush q2 (8 : Int32)) &&& (65535 : Int32)) 1 (own_tab0 (fun _ => 0)) fr584 fr584a fr584b (own_nb0 q2) rfl (by decide) (by decide)) (w27 hw) (w28 hw) (nf_same (C := "") (w30 hw)) (w30 hw) (w29 hw) (w7 hw) (w31 hw) (by decide) pd__JI_V rfl (W := 0) (by decide) (by decide) (Nat.le_of_eq rfl) (by decide) (by decide) rfl rfl at_78 rfl fun T h585 v586 A Q587 => ?_
    obtain ⟨rfl, P579, N580, H581, HT582, FR583⟩ := Q587
    have FR583 := FR583 15 own_free0
    refine Wp.stk (st' := []) rfl ?_
    refine s_iload (pc' := 83) A at_81 rfl rfl ?_
    refine s_iconst (pc' := 84) (z := (1 : Int32)) A at_83 rfl (by decide) ?_
    refine s_icmpN (pc' := 87) A at_84 rfl (by decide) ?_
    refine s_aload (pc' := 89) A at_87 rfl rfl rfl ?_
    refine s_lload (pc' := 91) A at_89 rfl rfl ?_
    refine s_iload (pc' := 93) A at_91 rfl rfl ?_
    refine s_iconst (pc' := 94) (z := (1 : Int32)) A at_93 rfl (by decide) ?_
    refine s_iadd (pc' := 95) (z := (((ush q2 (8 : Int32)) &&& (65535 : Int32)) + (1 : Int32))) A at_94 rfl rfl ?_
    obtain ⟨fr593, fr593a, fr593b⟩ := Free.ex (c := 14) FR583
    refine s_virtual (pc' := 98) (y := y2_put) (argsL := [(.long (posf q0 (1 : Int32) q1)), (.int (((ush q2 (8 : Int32)) &&& (65535 : Int32)) + (1 : Int32)))]) (rest := []) (z := y2_put) A H581.1 (m_put l Z a0 hw n0 h585 A.size b564 a573 b574 1 P579 N580 (fun r => if r = (posf q0 (0 : Int32) q1) then ((ush q2 (8 : Int32)) &&& (65535 : Int32)) else (fun _ => -1) r) H581 (posf q0 (1 : Int32) q1) (((ush q2 (8 : Int32)) &&& (65535 : Int32)) + (1 : Int32)) 2 HT582 fr593 fr593a fr593b (own_nb1 q2) (by simp only [pn_0_1, pn_0_2, pn_0_3, pn_0_4, pn_1_0, pn_1_2, pn_1_3, pn_1_4, pn_2_0, pn_2_1, pn_2_3, pn_2_4, pn_3_0, pn_3_1, pn_3_2, pn_3_4, pn_4_0, pn_4_1, pn_4_2, pn_4_3, if_true, if_false]) (by decide) (by decide)) (w27 hw) (w28 hw) (nf_same (C := "") (w30 hw)) (w30 hw) (w29 hw) (w7 hw) (w31 hw) (by decide) pd__JI_V rfl (W := 0) (by decide) (by decide) (Nat.le_of_eq rfl) (by decide) (by decide) rfl rfl at_95 rfl fun T h594 v595 A Q596 => ?_
    obtain ⟨rfl, P588, N589, H590, HT591, FR592⟩ := Q596
    have FR592 := FR592 14 FR583
    refine Wp.stk (st' := []) rfl ?_
    refine s_iload (pc' := 100) A at_98 rfl rfl ?_
    refine s_iconst (pc' := 101) (z := (2 : Int32)) A at_100 rfl (by decide) ?_
    refine s_icmpY (pc' := 115) A at_101 (by decide) (by decide) (by decide) ?_
    refine s_iload (pc' := 117) A at_115 rfl rfl ?_
    refine s_iconst (pc' := 118) (z := (3 : Int32)) A at_117 rfl (by decide) ?_
    refine s_icmpY (pc' := 132) A at_118 (by decide) (by decide) (by decide) ?_
    refine s_iload (pc' := 134) A at_132 rfl rfl ?_
    refine s_ifY (pc' := 142) A at_134 (by decide) (by decide) (by decide) ?_
    refine s_iload (pc' := 144) A at_142 rfl rfl ?_
    refine s_iconst (pc' := 145) (z := (1 : Int32)) A at_144 rfl (by decide) ?_
    refine s_icmpY (pc' := 153) A at_145 (by decide) (by decide) (by decide) ?_
    refine s_iload (pc' := 155) A at_153 rfl rfl ?_
    refine s_iconst (pc' := 156) (z := (2 : Int32)) A at_155 rfl (by decide) ?_
    refine s_icmpY (pc' := 164) A at_156 (by decide) (by decide) (by decide) ?_
    refine s_iload (pc' := 166) A at_164 rfl rfl ?_
    refine s_iconst (pc' := 167) (z := (3 : Int32)) A at_166 rfl (by decide) ?_
    refine s_icmpN (pc' := 170) A at_167 rfl (by decide) ?_
    refine s_lload (pc' := 172) A at_170 rfl rfl ?_
    refine s_goto (pc' := 177) A at_172 (by decide) (by decide) ?_
    refine s_lstore (pc' := 179) (Ls' := #[jv q0, S2, iv q1, iv q2, jv (posf q0 (0 : Int32) q1), S2, jv (posf q0 (1 : Int32) q1), S2, jv (posf q0 (2 : Int32) q1), S2, jv (posf q0 (3 : Int32) q1), S2, jv (posf q0 (4 : Int32) q1), S2, iv 2, iv 3, iv ((ush q2 (8 : Int32)) &&& (65535 : Int32)), rv b564, jv (posf q0 (3 : Int32) q1), S2]) A at_177 rfl rfl ?_
    refine s_aload (pc' := 181) A at_179 rfl rfl rfl ?_
    refine s_lload (pc' := 183) A at_181 rfl rfl ?_
    obtain ⟨fr603, fr603a, fr603b⟩ := Free.ex (c := 13) FR592
    refine s_virtual (pc' := 186) (y := y3_remove) (argsL := [(.long (posf q0 (3 : Int32) q1))]) (rest := []) (z := y3_remove) A H590.1 (m_rem l Z a0 hw n0 h594 A.size b564 a573 b574 2 P588 N589 (fun r => if r = (posf q0 (1 : Int32) q1) then (((ush q2 (8 : Int32)) &&& (65535 : Int32)) + (1 : Int32)) else (fun r => if r = (posf q0 (0 : Int32) q1) then ((ush q2 (8 : Int32)) &&& (65535 : Int32)) else (fun _ => -1) r) r) (posf q0 (3 : Int32) q1) H590 HT591 fr603 fr603a fr603b) (w38 hw) (w39 hw) (nf_same (C := "") (w41 hw)) (w41 hw) (w40 hw) (w7 hw) (w42 hw) (by decide) pd__J_V rfl (W := 0) (by decide) (by decide) (Nat.le_of_eq rfl) (by decide) (by decide) rfl rfl at_183 rfl fun T h604 v605 A Q606 => ?_
    obtain ⟨rfl, P597, N598, z599, H600, HT601, f602, f602a, f602b⟩ := Q606
    refine Wp.stk (st' := []) rfl ?_
    refine s_aload (pc' := 188) A at_186 rfl rfl rfl ?_
    refine s_lload (pc' := 190) A at_188 rfl rfl ?_
    refine s_virtual (pc' := 193) (y := y0_get) (argsL := [(.long (posf q0 (0 : Int32) q1))]) (rest := []) (z := y0_get) A H600.1 (m_get l Z a0 hw n0 h604 A.size b564 a573 b574 z599 P597 N598 (fun r => if r = (posf q0 (3 : Int32) q1) then -1 else (fun r => if r = (posf q0 (1 : Int32) q1) then (((ush q2 (8 : Int32)) &&& (65535 : Int32)) + (1 : Int32)) else (fun r => if r = (posf q0 (0 : Int32) q1) then ((ush q2 (8 : Int32)) &&& (65535 : Int32)) else (fun _ => -1) r) r) r) (posf q0 (0 : Int32) q1) H600 HT601 f602 f602a f602b) (w43 hw) (w44 hw) (nf_same (C := "") (w46 hw)) (w46 hw) (w45 hw) (w7 hw) (w47 hw) (by decide) pd__J_I rfl (W := 0) (by decide) (by decide) (Nat.le_of_eq rfl) (by decide) (by decide) rfl rfl at_190 rfl fun T h607 v608 A Q609 => ?_
    obtain ⟨ev, eh⟩ := Q609
    obtain rfl := ev.trans (congrArg (fun z => some (Value.int z)) (show (fun r => if r = (posf q0 (3 : Int32) q1) then -1 else (fun r => if r = (posf q0 (1 : Int32) q1) then (((ush q2 (8 : Int32)) &&& (65535 : Int32)) + (1 : Int32)) else (fun r => if r = (posf q0 (0 : Int32) q1) then ((ush q2 (8 : Int32)) &&& (65535 : Int32)) else (fun _ => -1) r) r) r) (posf q0 (0 : Int32) q1) = ((ush q2 (8 : Int32)) &&& (65535 : Int32)) from (by simp only [pn_0_1, pn_0_2, pn_0_3, pn_0_4, pn_1_0, pn_1_2, pn_1_3, pn_1_4, pn_2_0, pn_2_1, pn_2_3, pn_2_4, pn_3_0, pn_3_1, pn_3_2, pn_3_4, pn_4_0, pn_4_1, pn_4_2, pn_4_3, if_true, if_false])))
    rw [eh] at A
    refine Wp.stk (st' := [(.int ((ush q2 (8 : Int32)) &&& (65535 : Int32)))]) rfl ?_
    refine s_iconst (pc' := 194) (z := (0 : Int32)) A at_193 rfl (by decide) ?_
    refine s_iload (pc' := 196) A at_194 rfl rfl ?_
    refine s_iload (pc' := 198) A at_196 rfl rfl ?_
    refine s_iload (pc' := 200) A at_198 rfl rfl ?_
    refine s_static (pc' := 203) (y := y8_check) (argsL := [(.int ((ush q2 (8 : Int32)) &&& (65535 : Int32))), (.int (0 : Int32)), (.int (2 : Int32)), (.int (3 : Int32)), (.int ((ush q2 (8 : Int32)) &&& (65535 : Int32)))]) (rest := []) A (m_in l Z a0 hw n0 h604 A.size ((ush q2 (8 : Int32)) &&& (65535 : Int32)) (0 : Int32) (2 : Int32) (3 : Int32) ((ush q2 (8 : Int32)) &&& (65535 : Int32)) (by decide) (by decide) (Int32.add_zero _).symm) (w48 hw) (w49 hw) (w2 hw) (w50 hw) (by decide) pd__IIIII_Z rfl (W := 0) (by decide) (by decide) (Nat.le_of_eq rfl) (by decide) (by decide) rfl rfl at_200 rfl fun T h610 v611 A Q612 => ?_
    obtain ⟨rfl, eh⟩ := Q612
    rw [eh] at A
    refine Wp.stk (st' := [(.int (1 : Int32))]) rfl ?_
    refine s_ifN (pc' := 206) A at_203 rfl (by decide) ?_
    refine s_aload (pc' := 208) A at_206 rfl rfl rfl ?_
    refine s_lload (pc' := 210) A at_208 rfl rfl ?_
    refine s_virtual (pc' := 213) (y := y0_get) (argsL := [(.long (posf q0 (1 : Int32) q1))]) (rest := []) (z := y0_get) A H600.1 (m_get l Z a0 hw n0 h604 A.size b564 a573 b574 z599 P597 N598 (fun r => if r = (posf q0 (3 : Int32) q1) then -1 else (fun r => if r = (posf q0 (1 : Int32) q1) then (((ush q2 (8 : Int32)) &&& (65535 : Int32)) + (1 : Int32)) else (fun r => if r = (posf q0 (0 : Int32) q1) then ((ush q2 (8 : Int32)) &&& (65535 : Int32)) else (fun _ => -1) r) r) r) (posf q0 (1 : Int32) q1) H600 HT601 f602 f602a f602b) (w43 hw) (w44 hw) (nf_same (C := "") (w46 hw)) (w46 hw) (w45 hw) (w7 hw) (w47 hw) (by decide) pd__J_I rfl (W := 0) (by decide) (by decide) (Nat.le_of_eq rfl) (by decide) (by decide) rfl rfl at_210 rfl fun T h613 v614 A Q615 => ?_
    obtain ⟨ev, eh⟩ := Q615
    obtain rfl := ev.trans (congrArg (fun z => some (Value.int z)) (show (fun r => if r = (posf q0 (3 : Int32) q1) then -1 else (fun r => if r = (posf q0 (1 : Int32) q1) then (((ush q2 (8 : Int32)) &&& (65535 : Int32)) + (1 : Int32)) else (fun r => if r = (posf q0 (0 : Int32) q1) then ((ush q2 (8 : Int32)) &&& (65535 : Int32)) else (fun _ => -1) r) r) r) (posf q0 (1 : Int32) q1) = (((ush q2 (8 : Int32)) &&& (65535 : Int32)) + (1 : Int32)) from (by simp only [pn_0_1, pn_0_2, pn_0_3, pn_0_4, pn_1_0, pn_1_2, pn_1_3, pn_1_4, pn_2_0, pn_2_1, pn_2_3, pn_2_4, pn_3_0, pn_3_1, pn_3_2, pn_3_4, pn_4_0, pn_4_1, pn_4_2, pn_4_3, if_true, if_false])))
    rw [eh] at A
    refine Wp.stk (st' := [(.int (((ush q2 (8 : Int32)) &&& (65535 : Int32)) + (1 : Int32)))]) rfl ?_
    refine s_iconst (pc' := 214) (z := (1 : Int32)) A at_213 rfl (by decide) ?_
    refine s_iload (pc' := 216) A at_214 rfl rfl ?_
    refine s_iload (pc' := 218) A at_216 rfl rfl ?_
    refine s_iload (pc' := 220) A at_218 rfl rfl ?_
    refine s_static (pc' := 223) (y := y8_check) (argsL := [(.int (((ush q2 (8 : Int32)) &&& (65535 : Int32)) + (1 : Int32))), (.int (1 : Int32)), (.int (2 : Int32)), (.int (3 : Int32)), (.int ((ush q2 (8 : Int32)) &&& (65535 : Int32)))]) (rest := []) A (m_in l Z a0 hw n0 h604 A.size (((ush q2 (8 : Int32)) &&& (65535 : Int32)) + (1 : Int32)) (1 : Int32) (2 : Int32) (3 : Int32) ((ush q2 (8 : Int32)) &&& (65535 : Int32)) (by decide) (by decide) rfl) (w48 hw) (w49 hw) (w2 hw) (w50 hw) (by decide) pd__IIIII_Z rfl (W := 0) (by decide) (by decide) (Nat.le_of_eq rfl) (by decide) (by decide) rfl rfl at_220 rfl fun T h616 v617 A Q618 => ?_
    obtain ⟨rfl, eh⟩ := Q618
    rw [eh] at A
    refine Wp.stk (st' := [(.int (1 : Int32))]) rfl ?_
    refine s_ifN (pc' := 226) A at_223 rfl (by decide) ?_
    refine s_aload (pc' := 228) A at_226 rfl rfl rfl ?_
    refine s_lload (pc' := 230) A at_228 rfl rfl ?_
    refine s_virtual (pc' := 233) (y := y0_get) (argsL := [(.long (posf q0 (2 : Int32) q1))]) (rest := []) (z := y0_get) A H600.1 (m_get l Z a0 hw n0 h604 A.size b564 a573 b574 z599 P597 N598 (fun r => if r = (posf q0 (3 : Int32) q1) then -1 else (fun r => if r = (posf q0 (1 : Int32) q1) then (((ush q2 (8 : Int32)) &&& (65535 : Int32)) + (1 : Int32)) else (fun r => if r = (posf q0 (0 : Int32) q1) then ((ush q2 (8 : Int32)) &&& (65535 : Int32)) else (fun _ => -1) r) r) r) (posf q0 (2 : Int32) q1) H600 HT601 f602 f602a f602b) (w43 hw) (w44 hw) (nf_same (C := "") (w46 hw)) (w46 hw) (w45 hw) (w7 hw) (w47 hw) (by decide) pd__J_I rfl (W := 0) (by decide) (by decide) (Nat.le_of_eq rfl) (by decide) (by decide) rfl rfl at_230 rfl fun T h619 v620 A Q621 => ?_
    obtain ⟨ev, eh⟩ := Q621
    obtain rfl := ev.trans (congrArg (fun z => some (Value.int z)) (show (fun r => if r = (posf q0 (3 : Int32) q1) then -1 else (fun r => if r = (posf q0 (1 : Int32) q1) then (((ush q2 (8 : Int32)) &&& (65535 : Int32)) + (1 : Int32)) else (fun r => if r = (posf q0 (0 : Int32) q1) then ((ush q2 (8 : Int32)) &&& (65535 : Int32)) else (fun _ => -1) r) r) r) (posf q0 (2 : Int32) q1) = (-1 : Int32) from (by simp only [pn_0_1, pn_0_2, pn_0_3, pn_0_4, pn_1_0, pn_1_2, pn_1_3, pn_1_4, pn_2_0, pn_2_1, pn_2_3, pn_2_4, pn_3_0, pn_3_1, pn_3_2, pn_3_4, pn_4_0, pn_4_1, pn_4_2, pn_4_3, if_true, if_false])))
    rw [eh] at A
    refine Wp.stk (st' := [(.int (-1 : Int32))]) rfl ?_
    refine s_iconst (pc' := 234) (z := (2 : Int32)) A at_233 rfl (by decide) ?_
    refine s_iload (pc' := 236) A at_234 rfl rfl ?_
    refine s_iload (pc' := 238) A at_236 rfl rfl ?_
    refine s_iload (pc' := 240) A at_238 rfl rfl ?_
    refine s_static (pc' := 243) (y := y8_check) (argsL := [(.int (-1 : Int32)), (.int (2 : Int32)), (.int (2 : Int32)), (.int (3 : Int32)), (.int ((ush q2 (8 : Int32)) &&& (65535 : Int32)))]) (rest := []) A (m_out l Z a0 hw n0 h604 A.size (-1 : Int32) (2 : Int32) (2 : Int32) (3 : Int32) ((ush q2 (8 : Int32)) &&& (65535 : Int32)) (Or.inl (by decide)) rfl) (w48 hw) (w49 hw) (w2 hw) (w50 hw) (by decide) pd__IIIII_Z rfl (W := 0) (by decide) (by decide) (Nat.le_of_eq rfl) (by decide) (by decide) rfl rfl at_240 rfl fun T h622 v623 A Q624 => ?_
    obtain ⟨rfl, eh⟩ := Q624
    rw [eh] at A
    refine Wp.stk (st' := [(.int (1 : Int32))]) rfl ?_
    refine s_ifN (pc' := 246) A at_243 rfl (by decide) ?_
    refine s_aload (pc' := 248) A at_246 rfl rfl rfl ?_
    refine s_lload (pc' := 250) A at_248 rfl rfl ?_
    refine s_virtual (pc' := 253) (y := y0_get) (argsL := [(.long (posf q0 (3 : Int32) q1))]) (rest := []) (z := y0_get) A H600.1 (m_get l Z a0 hw n0 h604 A.size b564 a573 b574 z599 P597 N598 (fun r => if r = (posf q0 (3 : Int32) q1) then -1 else (fun r => if r = (posf q0 (1 : Int32) q1) then (((ush q2 (8 : Int32)) &&& (65535 : Int32)) + (1 : Int32)) else (fun r => if r = (posf q0 (0 : Int32) q1) then ((ush q2 (8 : Int32)) &&& (65535 : Int32)) else (fun _ => -1) r) r) r) (posf q0 (3 : Int32) q1) H600 HT601 f602 f602a f602b) (w43 hw) (w44 hw) (nf_same (C := "") (w46 hw)) (w46 hw) (w45 hw) (w7 hw) (w47 hw) (by decide) pd__J_I rfl (W := 0) (by decide) (by decide) (Nat.le_of_eq rfl) (by decide) (by decide) rfl rfl at_250 rfl fun T h625 v626 A Q627 => ?_
    obtain ⟨ev, eh⟩ := Q627
    obtain rfl := ev.trans (congrArg (fun z => some (Value.int z)) (show (fun r => if r = (posf q0 (3 : Int32) q1) then -1 else (fun r => if r = (posf q0 (1 : Int32) q1) then (((ush q2 (8 : Int32)) &&& (65535 : Int32)) + (1 : Int32)) else (fun r => if r = (posf q0 (0 : Int32) q1) then ((ush q2 (8 : Int32)) &&& (65535 : Int32)) else (fun _ => -1) r) r) r) (posf q0 (3 : Int32) q1) = (-1 : Int32) from (by simp only [pn_0_1, pn_0_2, pn_0_3, pn_0_4, pn_1_0, pn_1_2, pn_1_3, pn_1_4, pn_2_0, pn_2_1, pn_2_3, pn_2_4, pn_3_0, pn_3_1, pn_3_2, pn_3_4, pn_4_0, pn_4_1, pn_4_2, pn_4_3, if_true, if_false])))
    rw [eh] at A
    refine Wp.stk (st' := [(.int (-1 : Int32))]) rfl ?_
    refine s_iconst (pc' := 254) (z := (3 : Int32)) A at_253 rfl (by decide) ?_
    refine s_iload (pc' := 256) A at_254 rfl rfl ?_
    refine s_iload (pc' := 258) A at_256 rfl rfl ?_
    refine s_iload (pc' := 260) A at_258 rfl rfl ?_
    refine s_static (pc' := 263) (y := y8_check) (argsL := [(.int (-1 : Int32)), (.int (3 : Int32)), (.int (2 : Int32)), (.int (3 : Int32)), (.int ((ush q2 (8 : Int32)) &&& (65535 : Int32)))]) (rest := []) A (m_out l Z a0 hw n0 h604 A.size (-1 : Int32) (3 : Int32) (2 : Int32) (3 : Int32) ((ush q2 (8 : Int32)) &&& (65535 : Int32)) (Or.inl (by decide)) rfl) (w48 hw) (w49 hw) (w2 hw) (w50 hw) (by decide) pd__IIIII_Z rfl (W := 0) (by decide) (by decide) (Nat.le_of_eq rfl) (by decide) (by decide) rfl rfl at_260 rfl fun T h628 v629 A Q630 => ?_
    obtain ⟨rfl, eh⟩ := Q630
    rw [eh] at A
    refine Wp.stk (st' := [(.int (1 : Int32))]) rfl ?_
    refine s_ifN (pc' := 266) A at_263 rfl (by decide) ?_
    refine s_aload (pc' := 268) A at_266 rfl rfl rfl ?_
    refine s_lload (pc' := 270) A at_268 rfl rfl ?_
    refine s_virtual (pc' := 273) (y := y0_get) (argsL := [(.long (posf q0 (4 : Int32) q1))]) (rest := []) (z := y0_get) A H600.1 (m_get l Z a0 hw n0 h604 A.size b564 a573 b574 z599 P597 N598 (fun r => if r = (posf q0 (3 : Int32) q1) then -1 else (fun r => if r = (posf q0 (1 : Int32) q1) then (((ush q2 (8 : Int32)) &&& (65535 : Int32)) + (1 : Int32)) else (fun r => if r = (posf q0 (0 : Int32) q1) then ((ush q2 (8 : Int32)) &&& (65535 : Int32)) else (fun _ => -1) r) r) r) (posf q0 (4 : Int32) q1) H600 HT601 f602 f602a f602b) (w43 hw) (w44 hw) (nf_same (C := "") (w46 hw)) (w46 hw) (w45 hw) (w7 hw) (w47 hw) (by decide) pd__J_I rfl (W := 0) (by decide) (by decide) (Nat.le_of_eq rfl) (by decide) (by decide) rfl rfl at_270 rfl fun T h631 v632 A Q633 => ?_
    obtain ⟨ev, eh⟩ := Q633
    obtain rfl := ev.trans (congrArg (fun z => some (Value.int z)) (show (fun r => if r = (posf q0 (3 : Int32) q1) then -1 else (fun r => if r = (posf q0 (1 : Int32) q1) then (((ush q2 (8 : Int32)) &&& (65535 : Int32)) + (1 : Int32)) else (fun r => if r = (posf q0 (0 : Int32) q1) then ((ush q2 (8 : Int32)) &&& (65535 : Int32)) else (fun _ => -1) r) r) r) (posf q0 (4 : Int32) q1) = (-1 : Int32) from (by simp only [pn_0_1, pn_0_2, pn_0_3, pn_0_4, pn_1_0, pn_1_2, pn_1_3, pn_1_4, pn_2_0, pn_2_1, pn_2_3, pn_2_4, pn_3_0, pn_3_1, pn_3_2, pn_3_4, pn_4_0, pn_4_1, pn_4_2, pn_4_3, if_true, if_false])))
    rw [eh] at A
    refine Wp.stk (st' := [(.int (-1 : Int32))]) rfl ?_
    refine s_iconst (pc' := 274) (z := (4 : Int32)) A at_273 rfl (by decide) ?_
    refine s_iload (pc' := 276) A at_274 rfl rfl ?_
    refine s_iload (pc' := 278) A at_276 rfl rfl ?_
    refine s_iload (pc' := 280) A at_278 rfl rfl ?_
    refine s_static (pc' := 283) (y := y8_check) (argsL := [(.int (-1 : Int32)), (.int (4 : Int32)), (.int (2 : Int32)), (.int (3 : Int32)), (.int ((ush q2 (8 : Int32)) &&& (65535 : Int32)))]) (rest := []) A (m_out l Z a0 hw n0 h604 A.size (-1 : Int32) (4 : Int32) (2 : Int32) (3 : Int32) ((ush q2 (8 : Int32)) &&& (65535 : Int32)) (Or.inl (by decide)) rfl) (w48 hw) (w49 hw) (w2 hw) (w50 hw) (by decide) pd__IIIII_Z rfl (W := 0) (by decide) (by decide) (Nat.le_of_eq rfl) (by decide) (by decide) rfl rfl at_280 rfl fun T h634 v635 A Q636 => ?_
    obtain ⟨rfl, eh⟩ := Q636
    rw [eh] at A
    refine Wp.stk (st' := [(.int (1 : Int32))]) rfl ?_
    refine s_ifN (pc' := 286) A at_283 rfl (by decide) ?_
    refine s_iconst (pc' := 287) (z := (1 : Int32)) A at_286 rfl (by decide) ?_
    refine s_goto (pc' := 291) A at_287 (by decide) (by decide) ?_
    exact r_bool A rfl (by decide) at_291 (by decide) (by decide) (rfl)
   ·
    refine s_irem (pc' := 52) (z := (4 : Int32)) A at_51 rfl (by decide) hrr.symm ?_
    refine s_istore (pc' := 54) (Ls' := #[jv q0, S2, iv q1, iv q2, jv (posf q0 (0 : Int32) q1), S2, jv (posf q0 (1 : Int32) q1), S2, jv (posf q0 (2 : Int32) q1), S2, jv (posf q0 (3 : Int32) q1), S2, jv (posf q0 (4 : Int32) q1), S2, iv 2, iv 4, U0, U0, U0, U0]) A at_52 rfl rfl ?_
    refine s_iloadN (pc' := 55) A at_54 rfl rfl ?_
    refine s_bipush (pc' := 57) (z := (8 : Int32)) A at_55 rfl (by decide) ?_
    refine s_iushr (pc' := 58) (z := (ush q2 (8 : Int32))) A at_57 rfl rfl ?_
    refine s_ldcInt (pc' := 60) A at_58 rfl (w4 hw) ?_
    refine s_iand (pc' := 61) (z := ((ush q2 (8 : Int32)) &&& (65535 : Int32))) A at_60 rfl rfl ?_
    refine s_istore (pc' := 63) (Ls' := #[jv q0, S2, iv q1, iv q2, jv (posf q0 (0 : Int32) q1), S2, jv (posf q0 (1 : Int32) q1), S2, jv (posf q0 (2 : Int32) q1), S2, jv (posf q0 (3 : Int32) q1), S2, jv (posf q0 (4 : Int32) q1), S2, iv 2, iv 4, iv ((ush q2 (8 : Int32)) &&& (65535 : Int32)), U0, U0, U0]) A at_61 rfl rfl ?_
    refine s_new (pc' := 66) A (w5 hw) (w6 hw) (w7 hw) (by decide) (by decide) at_63 rfl fun T h637 b638 A g639 ge640 X641 E642 D643 => ?_
    have F644 : Fld Z h637 b638 "com/example/wirefram/wirefram/sequence/PositionIndex" "positions" "[J" .null := D643 (Or.inl (w16 hw)) (ty := (.array .long)) (by decide)
    have F645 : Fld Z h637 b638 "com/example/wirefram/wirefram/sequence/PositionIndex" "numbers" "[I" .null := D643 (Or.inl (w26 hw)) (ty := (.array .int)) (by decide)
    have F646 : Fld Z h637 b638 "com/example/wirefram/wirefram/sequence/PositionIndex" "size" "I" (.int (0 : Int32)) := D643 (Or.inl (w33 hw)) (ty := .int) (by decide)
    refine s_dup (pc' := 67) A at_66 rfl rfl ?_
    refine s_special (pc' := 70) (y := y6_init) (argsL := []) (rest := [(.ref b638)]) A (m_init l Z a0 hw n0 h637 A.size b638 E642 F644 F645 F646 ge640) rfl (w8 hw) (w9 hw) (w7 hw) (w10 hw) (by decide) pd___V rfl (W := 1) (by decide) (by decide) (Nat.le_of_eq rfl) (by decide) (by decide) rfl rfl at_67 rfl fun T h650 v651 A Q652 => ?_
    obtain ⟨rfl, a647, b648, H649⟩ := Q652
    refine Wp.stk (st' := [(.ref b638)]) rfl ?_
    refine s_astore (pc' := 72) (Ls' := #[jv q0, S2, iv q1, iv q2, jv (posf q0 (0 : Int32) q1), S2, jv (posf q0 (1 : Int32) q1), S2, jv (posf q0 (2 : Int32) q1), S2, jv (posf q0 (3 : Int32) q1), S2, jv (posf q0 (4 : Int32) q1), S2, iv 2, iv 4, iv ((ush q2 (8 : Int32)) &&& (65535 : Int32)), rv b638, U0, U0]) A at_70 rfl rfl rfl ?_
    refine s_aload (pc' := 74) A at_72 rfl rfl rfl ?_
    refine s_lload (pc' := 76) A at_74 rfl rfl ?_
    refine s_iload (pc' := 78) A at_76 rfl rfl ?_
    obtain ⟨fr658, fr658a, fr658b⟩ := Free.ex (c := 15) own_free0
    refine s_virtual (pc' := 81) (y := y2_put) (argsL := [(.long (posf q0 (0 : Int32) q1)), (.int ((ush q2 (8 : Int32)) &&& (65535 : Int32)))]) (rest := []) (z := y2_put) A H649.1 (m_put l Z a0 hw n0 h650 A.size b638 a647 b648 0 (fun _ => 0) (fun _ => -1) (fun _ => -1) H649 (posf q0 (0 : Int32) q1) ((ush q2 (8 : Int32)) &&& (65535 : Int32)) 1 (own_tab0 (fun _ => 0)) fr658 fr658a fr658b (own_nb0 q2) rfl (by decide) (by decide)) (w27 hw) (w28 hw) (nf_same (C := "") (w30 hw)) (w30 hw) (w29 hw) (w7 hw) (w31 hw) (by decide) pd__JI_V rfl (W := 0) (by decide) (by decide) (Nat.le_of_eq rfl) (by decide) (by decide) rfl rfl at_78 rfl fun T h659 v660 A Q661 => ?_
    obtain ⟨rfl, P653, N654, H655, HT656, FR657⟩ := Q661
    have FR657 := FR657 15 own_free0
    refine Wp.stk (st' := []) rfl ?_
    refine s_iload (pc' := 83) A at_81 rfl rfl ?_
    refine s_iconst (pc' := 84) (z := (1 : Int32)) A at_83 rfl (by decide) ?_
    refine s_icmpN (pc' := 87) A at_84 rfl (by decide) ?_
    refine s_aload (pc' := 89) A at_87 rfl rfl rfl ?_
    refine s_lload (pc' := 91) A at_89 rfl rfl ?_
    refine s_iload (pc' := 93) A at_91 rfl rfl ?_
    refine s_iconst (pc' := 94) (z := (1 : Int32)) A at_93 rfl (by decide) ?_
    refine s_iadd (pc' := 95) (z := (((ush q2 (8 : Int32)) &&& (65535 : Int32)) + (1 : Int32))) A at_94 rfl rfl ?_
    obtain ⟨fr667, fr667a, fr667b⟩ := Free.ex (c := 14) FR657
    refine s_virtual (pc' := 98) (y := y2_put) (argsL := [(.long (posf q0 (1 : Int32) q1)), (.int (((ush q2 (8 : Int32)) &&& (65535 : Int32)) + (1 : Int32)))]) (rest := []) (z := y2_put) A H655.1 (m_put l Z a0 hw n0 h659 A.size b638 a647 b648 1 P653 N654 (fun r => if r = (posf q0 (0 : Int32) q1) then ((ush q2 (8 : Int32)) &&& (65535 : Int32)) else (fun _ => -1) r) H655 (posf q0 (1 : Int32) q1) (((ush q2 (8 : Int32)) &&& (65535 : Int32)) + (1 : Int32)) 2 HT656 fr667 fr667a fr667b (own_nb1 q2) (by simp only [pn_0_1, pn_0_2, pn_0_3, pn_0_4, pn_1_0, pn_1_2, pn_1_3, pn_1_4, pn_2_0, pn_2_1, pn_2_3, pn_2_4, pn_3_0, pn_3_1, pn_3_2, pn_3_4, pn_4_0, pn_4_1, pn_4_2, pn_4_3, if_true, if_false]) (by decide) (by decide)) (w27 hw) (w28 hw) (nf_same (C := "") (w30 hw)) (w30 hw) (w29 hw) (w7 hw) (w31 hw) (by decide) pd__JI_V rfl (W := 0) (by decide) (by decide) (Nat.le_of_eq rfl) (by decide) (by decide) rfl rfl at_95 rfl fun T h668 v669 A Q670 => ?_
    obtain ⟨rfl, P662, N663, H664, HT665, FR666⟩ := Q670
    have FR666 := FR666 14 FR657
    refine Wp.stk (st' := []) rfl ?_
    refine s_iload (pc' := 100) A at_98 rfl rfl ?_
    refine s_iconst (pc' := 101) (z := (2 : Int32)) A at_100 rfl (by decide) ?_
    refine s_icmpY (pc' := 115) A at_101 (by decide) (by decide) (by decide) ?_
    refine s_iload (pc' := 117) A at_115 rfl rfl ?_
    refine s_iconst (pc' := 118) (z := (3 : Int32)) A at_117 rfl (by decide) ?_
    refine s_icmpY (pc' := 132) A at_118 (by decide) (by decide) (by decide) ?_
    refine s_iload (pc' := 134) A at_132 rfl rfl ?_
    refine s_ifY (pc' := 142) A at_134 (by decide) (by decide) (by decide) ?_
    refine s_iload (pc' := 144) A at_142 rfl rfl ?_
    refine s_iconst (pc' := 145) (z := (1 : Int32)) A at_144 rfl (by decide) ?_
    refine s_icmpY (pc' := 153) A at_145 (by decide) (by decide) (by decide) ?_
    refine s_iload (pc' := 155) A at_153 rfl rfl ?_
    refine s_iconst (pc' := 156) (z := (2 : Int32)) A at_155 rfl (by decide) ?_
    refine s_icmpY (pc' := 164) A at_156 (by decide) (by decide) (by decide) ?_
    refine s_iload (pc' := 166) A at_164 rfl rfl ?_
    refine s_iconst (pc' := 167) (z := (3 : Int32)) A at_166 rfl (by decide) ?_
    refine s_icmpY (pc' := 175) A at_167 (by decide) (by decide) (by decide) ?_
    refine s_lload (pc' := 177) A at_175 rfl rfl ?_
    refine s_lstore (pc' := 179) (Ls' := #[jv q0, S2, iv q1, iv q2, jv (posf q0 (0 : Int32) q1), S2, jv (posf q0 (1 : Int32) q1), S2, jv (posf q0 (2 : Int32) q1), S2, jv (posf q0 (3 : Int32) q1), S2, jv (posf q0 (4 : Int32) q1), S2, iv 2, iv 4, iv ((ush q2 (8 : Int32)) &&& (65535 : Int32)), rv b638, jv (posf q0 (4 : Int32) q1), S2]) A at_177 rfl rfl ?_
    refine s_aload (pc' := 181) A at_179 rfl rfl rfl ?_
    refine s_lload (pc' := 183) A at_181 rfl rfl ?_
    obtain ⟨fr677, fr677a, fr677b⟩ := Free.ex (c := 13) FR666
    refine s_virtual (pc' := 186) (y := y3_remove) (argsL := [(.long (posf q0 (4 : Int32) q1))]) (rest := []) (z := y3_remove) A H664.1 (m_rem l Z a0 hw n0 h668 A.size b638 a647 b648 2 P662 N663 (fun r => if r = (posf q0 (1 : Int32) q1) then (((ush q2 (8 : Int32)) &&& (65535 : Int32)) + (1 : Int32)) else (fun r => if r = (posf q0 (0 : Int32) q1) then ((ush q2 (8 : Int32)) &&& (65535 : Int32)) else (fun _ => -1) r) r) (posf q0 (4 : Int32) q1) H664 HT665 fr677 fr677a fr677b) (w38 hw) (w39 hw) (nf_same (C := "") (w41 hw)) (w41 hw) (w40 hw) (w7 hw) (w42 hw) (by decide) pd__J_V rfl (W := 0) (by decide) (by decide) (Nat.le_of_eq rfl) (by decide) (by decide) rfl rfl at_183 rfl fun T h678 v679 A Q680 => ?_
    obtain ⟨rfl, P671, N672, z673, H674, HT675, f676, f676a, f676b⟩ := Q680
    refine Wp.stk (st' := []) rfl ?_
    refine s_aload (pc' := 188) A at_186 rfl rfl rfl ?_
    refine s_lload (pc' := 190) A at_188 rfl rfl ?_
    refine s_virtual (pc' := 193) (y := y0_get) (argsL := [(.long (posf q0 (0 : Int32) q1))]) (rest := []) (z := y0_get) A H674.1 (m_get l Z a0 hw n0 h678 A.size b638 a647 b648 z673 P671 N672 (fun r => if r = (posf q0 (4 : Int32) q1) then -1 else (fun r => if r = (posf q0 (1 : Int32) q1) then (((ush q2 (8 : Int32)) &&& (65535 : Int32)) + (1 : Int32)) else (fun r => if r = (posf q0 (0 : Int32) q1) then ((ush q2 (8 : Int32)) &&& (65535 : Int32)) else (fun _ => -1) r) r) r) (posf q0 (0 : Int32) q1) H674 HT675 f676 f676a f676b) (w43 hw) (w44 hw) (nf_same (C := "") (w46 hw)) (w46 hw) (w45 hw) (w7 hw) (w47 hw) (by decide) pd__J_I rfl (W := 0) (by decide) (by decide) (Nat.le_of_eq rfl) (by decide) (by decide) rfl rfl at_190 rfl fun T h681 v682 A Q683 => ?_
    obtain ⟨ev, eh⟩ := Q683
    obtain rfl := ev.trans (congrArg (fun z => some (Value.int z)) (show (fun r => if r = (posf q0 (4 : Int32) q1) then -1 else (fun r => if r = (posf q0 (1 : Int32) q1) then (((ush q2 (8 : Int32)) &&& (65535 : Int32)) + (1 : Int32)) else (fun r => if r = (posf q0 (0 : Int32) q1) then ((ush q2 (8 : Int32)) &&& (65535 : Int32)) else (fun _ => -1) r) r) r) (posf q0 (0 : Int32) q1) = ((ush q2 (8 : Int32)) &&& (65535 : Int32)) from (by simp only [pn_0_1, pn_0_2, pn_0_3, pn_0_4, pn_1_0, pn_1_2, pn_1_3, pn_1_4, pn_2_0, pn_2_1, pn_2_3, pn_2_4, pn_3_0, pn_3_1, pn_3_2, pn_3_4, pn_4_0, pn_4_1, pn_4_2, pn_4_3, if_true, if_false])))
    rw [eh] at A
    refine Wp.stk (st' := [(.int ((ush q2 (8 : Int32)) &&& (65535 : Int32)))]) rfl ?_
    refine s_iconst (pc' := 194) (z := (0 : Int32)) A at_193 rfl (by decide) ?_
    refine s_iload (pc' := 196) A at_194 rfl rfl ?_
    refine s_iload (pc' := 198) A at_196 rfl rfl ?_
    refine s_iload (pc' := 200) A at_198 rfl rfl ?_
    refine s_static (pc' := 203) (y := y8_check) (argsL := [(.int ((ush q2 (8 : Int32)) &&& (65535 : Int32))), (.int (0 : Int32)), (.int (2 : Int32)), (.int (4 : Int32)), (.int ((ush q2 (8 : Int32)) &&& (65535 : Int32)))]) (rest := []) A (m_in l Z a0 hw n0 h678 A.size ((ush q2 (8 : Int32)) &&& (65535 : Int32)) (0 : Int32) (2 : Int32) (4 : Int32) ((ush q2 (8 : Int32)) &&& (65535 : Int32)) (by decide) (by decide) (Int32.add_zero _).symm) (w48 hw) (w49 hw) (w2 hw) (w50 hw) (by decide) pd__IIIII_Z rfl (W := 0) (by decide) (by decide) (Nat.le_of_eq rfl) (by decide) (by decide) rfl rfl at_200 rfl fun T h684 v685 A Q686 => ?_
    obtain ⟨rfl, eh⟩ := Q686
    rw [eh] at A
    refine Wp.stk (st' := [(.int (1 : Int32))]) rfl ?_
    refine s_ifN (pc' := 206) A at_203 rfl (by decide) ?_
    refine s_aload (pc' := 208) A at_206 rfl rfl rfl ?_
    refine s_lload (pc' := 210) A at_208 rfl rfl ?_
    refine s_virtual (pc' := 213) (y := y0_get) (argsL := [(.long (posf q0 (1 : Int32) q1))]) (rest := []) (z := y0_get) A H674.1 (m_get l Z a0 hw n0 h678 A.size b638 a647 b648 z673 P671 N672 (fun r => if r = (posf q0 (4 : Int32) q1) then -1 else (fun r => if r = (posf q0 (1 : Int32) q1) then (((ush q2 (8 : Int32)) &&& (65535 : Int32)) + (1 : Int32)) else (fun r => if r = (posf q0 (0 : Int32) q1) then ((ush q2 (8 : Int32)) &&& (65535 : Int32)) else (fun _ => -1) r) r) r) (posf q0 (1 : Int32) q1) H674 HT675 f676 f676a f676b) (w43 hw) (w44 hw) (nf_same (C := "") (w46 hw)) (w46 hw) (w45 hw) (w7 hw) (w47 hw) (by decide) pd__J_I rfl (W := 0) (by decide) (by decide) (Nat.le_of_eq rfl) (by decide) (by decide) rfl rfl at_210 rfl fun T h687 v688 A Q689 => ?_
    obtain ⟨ev, eh⟩ := Q689
    obtain rfl := ev.trans (congrArg (fun z => some (Value.int z)) (show (fun r => if r = (posf q0 (4 : Int32) q1) then -1 else (fun r => if r = (posf q0 (1 : Int32) q1) then (((ush q2 (8 : Int32)) &&& (65535 : Int32)) + (1 : Int32)) else (fun r => if r = (posf q0 (0 : Int32) q1) then ((ush q2 (8 : Int32)) &&& (65535 : Int32)) else (fun _ => -1) r) r) r) (posf q0 (1 : Int32) q1) = (((ush q2 (8 : Int32)) &&& (65535 : Int32)) + (1 : Int32)) from (by simp only [pn_0_1, pn_0_2, pn_0_3, pn_0_4, pn_1_0, pn_1_2, pn_1_3, pn_1_4, pn_2_0, pn_2_1, pn_2_3, pn_2_4, pn_3_0, pn_3_1, pn_3_2, pn_3_4, pn_4_0, pn_4_1, pn_4_2, pn_4_3, if_true, if_false])))
    rw [eh] at A
    refine Wp.stk (st' := [(.int (((ush q2 (8 : Int32)) &&& (65535 : Int32)) + (1 : Int32)))]) rfl ?_
    refine s_iconst (pc' := 214) (z := (1 : Int32)) A at_213 rfl (by decide) ?_
    refine s_iload (pc' := 216) A at_214 rfl rfl ?_
    refine s_iload (pc' := 218) A at_216 rfl rfl ?_
    refine s_iload (pc' := 220) A at_218 rfl rfl ?_
    refine s_static (pc' := 223) (y := y8_check) (argsL := [(.int (((ush q2 (8 : Int32)) &&& (65535 : Int32)) + (1 : Int32))), (.int (1 : Int32)), (.int (2 : Int32)), (.int (4 : Int32)), (.int ((ush q2 (8 : Int32)) &&& (65535 : Int32)))]) (rest := []) A (m_in l Z a0 hw n0 h678 A.size (((ush q2 (8 : Int32)) &&& (65535 : Int32)) + (1 : Int32)) (1 : Int32) (2 : Int32) (4 : Int32) ((ush q2 (8 : Int32)) &&& (65535 : Int32)) (by decide) (by decide) rfl) (w48 hw) (w49 hw) (w2 hw) (w50 hw) (by decide) pd__IIIII_Z rfl (W := 0) (by decide) (by decide) (Nat.le_of_eq rfl) (by decide) (by decide) rfl rfl at_220 rfl fun T h690 v691 A Q692 => ?_
    obtain ⟨rfl, eh⟩ := Q692
    rw [eh] at A
    refine Wp.stk (st' := [(.int (1 : Int32))]) rfl ?_
    refine s_ifN (pc' := 226) A at_223 rfl (by decide) ?_
    refine s_aload (pc' := 228) A at_226 rfl rfl rfl ?_
    refine s_lload (pc' := 230) A at_228 rfl rfl ?_
    refine s_virtual (pc' := 233) (y := y0_get) (argsL := [(.long (posf q0 (2 : Int32) q1))]) (rest := []) (z := y0_get) A H674.1 (m_get l Z a0 hw n0 h678 A.size b638 a647 b648 z673 P671 N672 (fun r => if r = (posf q0 (4 : Int32) q1) then -1 else (fun r => if r = (posf q0 (1 : Int32) q1) then (((ush q2 (8 : Int32)) &&& (65535 : Int32)) + (1 : Int32)) else (fun r => if r = (posf q0 (0 : Int32) q1) then ((ush q2 (8 : Int32)) &&& (65535 : Int32)) else (fun _ => -1) r) r) r) (posf q0 (2 : Int32) q1) H674 HT675 f676 f676a f676b) (w43 hw) (w44 hw) (nf_same (C := "") (w46 hw)) (w46 hw) (w45 hw) (w7 hw) (w47 hw) (by decide) pd__J_I rfl (W := 0) (by decide) (by decide) (Nat.le_of_eq rfl) (by decide) (by decide) rfl rfl at_230 rfl fun T h693 v694 A Q695 => ?_
    obtain ⟨ev, eh⟩ := Q695
    obtain rfl := ev.trans (congrArg (fun z => some (Value.int z)) (show (fun r => if r = (posf q0 (4 : Int32) q1) then -1 else (fun r => if r = (posf q0 (1 : Int32) q1) then (((ush q2 (8 : Int32)) &&& (65535 : Int32)) + (1 : Int32)) else (fun r => if r = (posf q0 (0 : Int32) q1) then ((ush q2 (8 : Int32)) &&& (65535 : Int32)) else (fun _ => -1) r) r) r) (posf q0 (2 : Int32) q1) = (-1 : Int32) from (by simp only [pn_0_1, pn_0_2, pn_0_3, pn_0_4, pn_1_0, pn_1_2, pn_1_3, pn_1_4, pn_2_0, pn_2_1, pn_2_3, pn_2_4, pn_3_0, pn_3_1, pn_3_2, pn_3_4, pn_4_0, pn_4_1, pn_4_2, pn_4_3, if_true, if_false])))
    rw [eh] at A
    refine Wp.stk (st' := [(.int (-1 : Int32))]) rfl ?_
    refine s_iconst (pc' := 234) (z := (2 : Int32)) A at_233 rfl (by decide) ?_
    refine s_iload (pc' := 236) A at_234 rfl rfl ?_
    refine s_iload (pc' := 238) A at_236 rfl rfl ?_
    refine s_iload (pc' := 240) A at_238 rfl rfl ?_
    refine s_static (pc' := 243) (y := y8_check) (argsL := [(.int (-1 : Int32)), (.int (2 : Int32)), (.int (2 : Int32)), (.int (4 : Int32)), (.int ((ush q2 (8 : Int32)) &&& (65535 : Int32)))]) (rest := []) A (m_out l Z a0 hw n0 h678 A.size (-1 : Int32) (2 : Int32) (2 : Int32) (4 : Int32) ((ush q2 (8 : Int32)) &&& (65535 : Int32)) (Or.inl (by decide)) rfl) (w48 hw) (w49 hw) (w2 hw) (w50 hw) (by decide) pd__IIIII_Z rfl (W := 0) (by decide) (by decide) (Nat.le_of_eq rfl) (by decide) (by decide) rfl rfl at_240 rfl fun T h696 v697 A Q698 => ?_
    obtain ⟨rfl, eh⟩ := Q698
    rw [eh] at A
    refine Wp.stk (st' := [(.int (1 : Int32))]) rfl ?_
    refine s_ifN (pc' := 246) A at_243 rfl (by decide) ?_
    refine s_aload (pc' := 248) A at_246 rfl rfl rfl ?_
    refine s_lload (pc' := 250) A at_248 rfl rfl ?_
    refine s_virtual (pc' := 253) (y := y0_get) (argsL := [(.long (posf q0 (3 : Int32) q1))]) (rest := []) (z := y0_get) A H674.1 (m_get l Z a0 hw n0 h678 A.size b638 a647 b648 z673 P671 N672 (fun r => if r = (posf q0 (4 : Int32) q1) then -1 else (fun r => if r = (posf q0 (1 : Int32) q1) then (((ush q2 (8 : Int32)) &&& (65535 : Int32)) + (1 : Int32)) else (fun r => if r = (posf q0 (0 : Int32) q1) then ((ush q2 (8 : Int32)) &&& (65535 : Int32)) else (fun _ => -1) r) r) r) (posf q0 (3 : Int32) q1) H674 HT675 f676 f676a f676b) (w43 hw) (w44 hw) (nf_same (C := "") (w46 hw)) (w46 hw) (w45 hw) (w7 hw) (w47 hw) (by decide) pd__J_I rfl (W := 0) (by decide) (by decide) (Nat.le_of_eq rfl) (by decide) (by decide) rfl rfl at_250 rfl fun T h699 v700 A Q701 => ?_
    obtain ⟨ev, eh⟩ := Q701
    obtain rfl := ev.trans (congrArg (fun z => some (Value.int z)) (show (fun r => if r = (posf q0 (4 : Int32) q1) then -1 else (fun r => if r = (posf q0 (1 : Int32) q1) then (((ush q2 (8 : Int32)) &&& (65535 : Int32)) + (1 : Int32)) else (fun r => if r = (posf q0 (0 : Int32) q1) then ((ush q2 (8 : Int32)) &&& (65535 : Int32)) else (fun _ => -1) r) r) r) (posf q0 (3 : Int32) q1) = (-1 : Int32) from (by simp only [pn_0_1, pn_0_2, pn_0_3, pn_0_4, pn_1_0, pn_1_2, pn_1_3, pn_1_4, pn_2_0, pn_2_1, pn_2_3, pn_2_4, pn_3_0, pn_3_1, pn_3_2, pn_3_4, pn_4_0, pn_4_1, pn_4_2, pn_4_3, if_true, if_false])))
    rw [eh] at A
    refine Wp.stk (st' := [(.int (-1 : Int32))]) rfl ?_
    refine s_iconst (pc' := 254) (z := (3 : Int32)) A at_253 rfl (by decide) ?_
    refine s_iload (pc' := 256) A at_254 rfl rfl ?_
    refine s_iload (pc' := 258) A at_256 rfl rfl ?_
    refine s_iload (pc' := 260) A at_258 rfl rfl ?_
    refine s_static (pc' := 263) (y := y8_check) (argsL := [(.int (-1 : Int32)), (.int (3 : Int32)), (.int (2 : Int32)), (.int (4 : Int32)), (.int ((ush q2 (8 : Int32)) &&& (65535 : Int32)))]) (rest := []) A (m_out l Z a0 hw n0 h678 A.size (-1 : Int32) (3 : Int32) (2 : Int32) (4 : Int32) ((ush q2 (8 : Int32)) &&& (65535 : Int32)) (Or.inl (by decide)) rfl) (w48 hw) (w49 hw) (w2 hw) (w50 hw) (by decide) pd__IIIII_Z rfl (W := 0) (by decide) (by decide) (Nat.le_of_eq rfl) (by decide) (by decide) rfl rfl at_260 rfl fun T h702 v703 A Q704 => ?_
    obtain ⟨rfl, eh⟩ := Q704
    rw [eh] at A
    refine Wp.stk (st' := [(.int (1 : Int32))]) rfl ?_
    refine s_ifN (pc' := 266) A at_263 rfl (by decide) ?_
    refine s_aload (pc' := 268) A at_266 rfl rfl rfl ?_
    refine s_lload (pc' := 270) A at_268 rfl rfl ?_
    refine s_virtual (pc' := 273) (y := y0_get) (argsL := [(.long (posf q0 (4 : Int32) q1))]) (rest := []) (z := y0_get) A H674.1 (m_get l Z a0 hw n0 h678 A.size b638 a647 b648 z673 P671 N672 (fun r => if r = (posf q0 (4 : Int32) q1) then -1 else (fun r => if r = (posf q0 (1 : Int32) q1) then (((ush q2 (8 : Int32)) &&& (65535 : Int32)) + (1 : Int32)) else (fun r => if r = (posf q0 (0 : Int32) q1) then ((ush q2 (8 : Int32)) &&& (65535 : Int32)) else (fun _ => -1) r) r) r) (posf q0 (4 : Int32) q1) H674 HT675 f676 f676a f676b) (w43 hw) (w44 hw) (nf_same (C := "") (w46 hw)) (w46 hw) (w45 hw) (w7 hw) (w47 hw) (by decide) pd__J_I rfl (W := 0) (by decide) (by decide) (Nat.le_of_eq rfl) (by decide) (by decide) rfl rfl at_270 rfl fun T h705 v706 A Q707 => ?_
    obtain ⟨ev, eh⟩ := Q707
    obtain rfl := ev.trans (congrArg (fun z => some (Value.int z)) (show (fun r => if r = (posf q0 (4 : Int32) q1) then -1 else (fun r => if r = (posf q0 (1 : Int32) q1) then (((ush q2 (8 : Int32)) &&& (65535 : Int32)) + (1 : Int32)) else (fun r => if r = (posf q0 (0 : Int32) q1) then ((ush q2 (8 : Int32)) &&& (65535 : Int32)) else (fun _ => -1) r) r) r) (posf q0 (4 : Int32) q1) = (-1 : Int32) from (by simp only [pn_0_1, pn_0_2, pn_0_3, pn_0_4, pn_1_0, pn_1_2, pn_1_3, pn_1_4, pn_2_0, pn_2_1, pn_2_3, pn_2_4, pn_3_0, pn_3_1, pn_3_2, pn_3_4, pn_4_0, pn_4_1, pn_4_2, pn_4_3, if_true, if_false])))
    rw [eh] at A
    refine Wp.stk (st' := [(.int (-1 : Int32))]) rfl ?_
    refine s_iconst (pc' := 274) (z := (4 : Int32)) A at_273 rfl (by decide) ?_
    refine s_iload (pc' := 276) A at_274 rfl rfl ?_
    refine s_iload (pc' := 278) A at_276 rfl rfl ?_
    refine s_iload (pc' := 280) A at_278 rfl rfl ?_
    refine s_static (pc' := 283) (y := y8_check) (argsL := [(.int (-1 : Int32)), (.int (4 : Int32)), (.int (2 : Int32)), (.int (4 : Int32)), (.int ((ush q2 (8 : Int32)) &&& (65535 : Int32)))]) (rest := []) A (m_out l Z a0 hw n0 h678 A.size (-1 : Int32) (4 : Int32) (2 : Int32) (4 : Int32) ((ush q2 (8 : Int32)) &&& (65535 : Int32)) (Or.inl (by decide)) rfl) (w48 hw) (w49 hw) (w2 hw) (w50 hw) (by decide) pd__IIIII_Z rfl (W := 0) (by decide) (by decide) (Nat.le_of_eq rfl) (by decide) (by decide) rfl rfl at_280 rfl fun T h708 v709 A Q710 => ?_
    obtain ⟨rfl, eh⟩ := Q710
    rw [eh] at A
    refine Wp.stk (st' := [(.int (1 : Int32))]) rfl ?_
    refine s_ifN (pc' := 286) A at_283 rfl (by decide) ?_
    refine s_iconst (pc' := 287) (z := (1 : Int32)) A at_286 rfl (by decide) ?_
    refine s_goto (pc' := 291) A at_287 (by decide) (by decide) ?_
    exact r_bool A rfl (by decide) at_291 (by decide) (by decide) (rfl)
  ·
   refine s_iand (pc' := 43) (z := (2 : Int32)) A at_42 rfl hkk.symm ?_
   refine s_iconst (pc' := 44) (z := (1 : Int32)) A at_43 rfl (by decide) ?_
   refine s_iadd (pc' := 45) (z := (3 : Int32)) A at_44 rfl (by decide) ?_
   refine s_istore (pc' := 47) (Ls' := #[jv q0, S2, iv q1, iv q2, jv (posf q0 (0 : Int32) q1), S2, jv (posf q0 (1 : Int32) q1), S2, jv (posf q0 (2 : Int32) q1), S2, jv (posf q0 (3 : Int32) q1), S2, jv (posf q0 (4 : Int32) q1), S2, iv 3, U0, U0, U0, U0, U0]) A at_45 rfl rfl ?_
   refine s_iloadN (pc' := 48) A at_47 rfl rfl ?_
   refine s_iconst (pc' := 49) (z := (2 : Int32)) A at_48 rfl (by decide) ?_
   refine s_iushr (pc' := 50) (z := (ush q2 (2 : Int32))) A at_49 rfl rfl ?_
   refine s_iconst (pc' := 51) (z := (5 : Int32)) A at_50 rfl (by decide) ?_
   obtain ⟨rr, hrr⟩ : ∃ z, z = ((ush q2 (2 : Int32)) % (5 : Int32)) := ⟨_, rfl⟩
   have cr := own_r5 q2
   rw [← hrr] at cr
   rcases cr with rfl | rfl | rfl | rfl | rfl
   ·
    refine s_irem (pc' := 52) (z := (0 : Int32)) A at_51 rfl (by decide) hrr.symm ?_
    refine s_istore (pc' := 54) (Ls' := #[jv q0, S2, iv q1, iv q2, jv (posf q0 (0 : Int32) q1), S2, jv (posf q0 (1 : Int32) q1), S2, jv (posf q0 (2 : Int32) q1), S2, jv (posf q0 (3 : Int32) q1), S2, jv (posf q0 (4 : Int32) q1), S2, iv 3, iv 0, U0, U0, U0, U0]) A at_52 rfl rfl ?_
    refine s_iloadN (pc' := 55) A at_54 rfl rfl ?_
    refine s_bipush (pc' := 57) (z := (8 : Int32)) A at_55 rfl (by decide) ?_
    refine s_iushr (pc' := 58) (z := (ush q2 (8 : Int32))) A at_57 rfl rfl ?_
    refine s_ldcInt (pc' := 60) A at_58 rfl (w4 hw) ?_
    refine s_iand (pc' := 61) (z := ((ush q2 (8 : Int32)) &&& (65535 : Int32))) A at_60 rfl rfl ?_
    refine s_istore (pc' := 63) (Ls' := #[jv q0, S2, iv q1, iv q2, jv (posf q0 (0 : Int32) q1), S2, jv (posf q0 (1 : Int32) q1), S2, jv (posf q0 (2 : Int32) q1), S2, jv (posf q0 (3 : Int32) q1), S2, jv (posf q0 (4 : Int32) q1), S2, iv 3, iv 0, iv ((ush q2 (8 : Int32)) &&& (65535 : Int32)), U0, U0, U0]) A at_61 rfl rfl ?_
    refine s_new (pc' := 66) A (w5 hw) (w6 hw) (w7 hw) (by decide) (by decide) at_63 rfl fun T h711 b712 A g713 ge714 X715 E716 D717 => ?_
    have F718 : Fld Z h711 b712 "com/example/wirefram/wirefram/sequence/PositionIndex" "positions" "[J" .null := D717 (Or.inl (w16 hw)) (ty := (.array .long)) (by decide)
    have F719 : Fld Z h711 b712 "com/example/wirefram/wirefram/sequence/PositionIndex" "numbers" "[I" .null := D717 (Or.inl (w26 hw)) (ty := (.array .int)) (by decide)
    have F720 : Fld Z h711 b712 "com/example/wirefram/wirefram/sequence/PositionIndex" "size" "I" (.int (0 : Int32)) := D717 (Or.inl (w33 hw)) (ty := .int) (by decide)
    refine s_dup (pc' := 67) A at_66 rfl rfl ?_
    refine s_special (pc' := 70) (y := y6_init) (argsL := []) (rest := [(.ref b712)]) A (m_init l Z a0 hw n0 h711 A.size b712 E716 F718 F719 F720 ge714) rfl (w8 hw) (w9 hw) (w7 hw) (w10 hw) (by decide) pd___V rfl (W := 1) (by decide) (by decide) (Nat.le_of_eq rfl) (by decide) (by decide) rfl rfl at_67 rfl fun T h724 v725 A Q726 => ?_
    obtain ⟨rfl, a721, b722, H723⟩ := Q726
    refine Wp.stk (st' := [(.ref b712)]) rfl ?_
    refine s_astore (pc' := 72) (Ls' := #[jv q0, S2, iv q1, iv q2, jv (posf q0 (0 : Int32) q1), S2, jv (posf q0 (1 : Int32) q1), S2, jv (posf q0 (2 : Int32) q1), S2, jv (posf q0 (3 : Int32) q1), S2, jv (posf q0 (4 : Int32) q1), S2, iv 3, iv 0, iv ((ush q2 (8 : Int32)) &&& (65535 : Int32)), rv b712, U0, U0]) A at_70 rfl rfl rfl ?_
    refine s_aload (pc' := 74) A at_72 rfl rfl rfl ?_
    refine s_lload (pc' := 76) A at_74 rfl rfl ?_
    refine s_iload (pc' := 78) A at_76 rfl rfl ?_
    obtain ⟨fr732, fr732a, fr732b⟩ := Free.ex (c := 15) own_free0
    refine s_virtual (pc' := 81) (y := y2_put) (argsL := [(.long (posf q0 (0 : Int32) q1)), (.int ((ush q2 (8 : Int32)) &&& (65535 : Int32)))]) (rest := []) (z := y2_put) A H723.1 (m_put l Z a0 hw n0 h724 A.size b712 a721 b722 0 (fun _ => 0) (fun _ => -1) (fun _ => -1) H723 (posf q0 (0 : Int32) q1) ((ush q2 (8 : Int32)) &&& (65535 : Int32)) 1 (own_tab0 (fun _ => 0)) fr732 fr732a fr732b (own_nb0 q2) rfl (by decide) (by decide)) (w27 hw) (w28 hw) (nf_same (C := "") (w30 hw)) (w30 hw) (w29 hw) (w7 hw) (w31 hw) (by decide) pd__JI_V rfl (W := 0) (by decide) (by decide) (Nat.le_of_eq rfl) (by decide) (by decide) rfl rfl at_78 rfl fun T h733 v734 A Q735 => ?_
    obtain ⟨rfl, P727, N728, H729, HT730, FR731⟩ := Q735
    have FR731 := FR731 15 own_free0
    refine Wp.stk (st' := []) rfl ?_
    refine s_iload (pc' := 83) A at_81 rfl rfl ?_
    refine s_iconst (pc' := 84) (z := (1 : Int32)) A at_83 rfl (by decide) ?_
    refine s_icmpN (pc' := 87) A at_84 rfl (by decide) ?_
    refine s_aload (pc' := 89) A at_87 rfl rfl rfl ?_
    refine s_lload (pc' := 91) A at_89 rfl rfl ?_
    refine s_iload (pc' := 93) A at_91 rfl rfl ?_
    refine s_iconst (pc' := 94) (z := (1 : Int32)) A at_93 rfl (by decide) ?_
    refine s_iadd (pc' := 95) (z := (((ush q2 (8 : Int32)) &&& (65535 : Int32)) + (1 : Int32))) A at_94 rfl rfl ?_
    obtain ⟨fr741, fr741a, fr741b⟩ := Free.ex (c := 14) FR731
    refine s_virtual (pc' := 98) (y := y2_put) (argsL := [(.long (posf q0 (1 : Int32) q1)), (.int (((ush q2 (8 : Int32)) &&& (65535 : Int32)) + (1 : Int32)))]) (rest := []) (z := y2_put) A H729.1 (m_put l Z a0 hw n0 h733 A.size b712 a721 b722 1 P727 N728 (fun r => if r = (posf q0 (0 : Int32) q1) then ((ush q2 (8 : Int32)) &&& (65535 : Int32)) else (fun _ => -1) r) H729 (posf q0 (1 : Int32) q1) (((ush q2 (8 : Int32)) &&& (65535 : Int32)) + (1 : Int32)) 2 HT730 fr741 fr741a fr741b (own_nb1 q2) (by simp only [pn_0_1, pn_0_2, pn_0_3, pn_0_4, pn_1_0, pn_1_2, pn_1_3, pn_1_4, pn_2_0, pn_2_1, pn_2_3, pn_2_4, pn_3_0, pn_3_1, pn_3_2, pn_3_4, pn_4_0, pn_4_1, pn_4_2, pn_4_3, if_true, if_false]) (by decide) (by decide)) (w27 hw) (w28 hw) (nf_same (C := "") (w30 hw)) (w30 hw) (w29 hw) (w7 hw) (w31 hw) (by decide) pd__JI_V rfl (W := 0) (by decide) (by decide) (Nat.le_of_eq rfl) (by decide) (by decide) rfl rfl at_95 rfl fun T h742 v743 A Q744 => ?_
    obtain ⟨rfl, P736, N737, H738, HT739, FR740⟩ := Q744
    have FR740 := FR740 14 FR731
    refine Wp.stk (st' := []) rfl ?_
    refine s_iload (pc' := 100) A at_98 rfl rfl ?_
    refine s_iconst (pc' := 101) (z := (2 : Int32)) A at_100 rfl (by decide) ?_
    refine s_icmpN (pc' := 104) A at_101 rfl (by decide) ?_
    refine s_aload (pc' := 106) A at_104 rfl rfl rfl ?_
    refine s_lload (pc' := 108) A at_106 rfl rfl ?_
    refine s_iload (pc' := 110) A at_108 rfl rfl ?_
    refine s_iconst (pc' := 111) (z := (2 : Int32)) A at_110 rfl (by decide) ?_
    refine s_iadd (pc' := 112) (z := (((ush q2 (8 : Int32)) &&& (65535 : Int32)) + (2 : Int32))) A at_111 rfl rfl ?_
    obtain ⟨fr750, fr750a, fr750b⟩ := Free.ex (c := 13) FR740
    refine s_virtual (pc' := 115) (y := y2_put) (argsL := [(.long (posf q0 (2 : Int32) q1)), (.int (((ush q2 (8 : Int32)) &&& (65535 : Int32)) + (2 : Int32)))]) (rest := []) (z := y2_put) A H738.1 (m_put l Z a0 hw n0 h742 A.size b712 a721 b722 2 P736 N737 (fun r => if r = (posf q0 (1 : Int32) q1) then (((ush q2 (8 : Int32)) &&& (65535 : Int32)) + (1 : Int32)) else (fun r => if r = (posf q0 (0 : Int32) q1) then ((ush q2 (8 : Int32)) &&& (65535 : Int32)) else (fun _ => -1) r) r) H738 (posf q0 (2 : Int32) q1) (((ush q2 (8 : Int32)) &&& (65535 : Int32)) + (2 : Int32)) 3 HT739 fr750 fr750a fr750b (own_nb2 q2) (by simp only [pn_0_1, pn_0_2, pn_0_3, pn_0_4, pn_1_0, pn_1_2, pn_1_3, pn_1_4, pn_2_0, pn_2_1, pn_2_3, pn_2_4, pn_3_0, pn_3_1, pn_3_2, pn_3_4, pn_4_0, pn_4_1, pn_4_2, pn_4_3, if_true, if_false]) (by decide) (by decide)) (w27 hw) (w28 hw) (nf_same (C := "") (w30 hw)) (w30 hw) (w29 hw) (w7 hw) (w31 hw) (by decide) pd__JI_V rfl (W := 0) (by decide) (by decide) (Nat.le_of_eq rfl) (by decide) (by decide) rfl rfl at_112 rfl fun T h751 v752 A Q753 => ?_
    obtain ⟨rfl, P745, N746, H747, HT748, FR749⟩ := Q753
    have FR749 := FR749 13 FR740
    refine Wp.stk (st' := []) rfl ?_
    refine s_iload (pc' := 117) A at_115 rfl rfl ?_
    refine s_iconst (pc' := 118) (z := (3 : Int32)) A at_117 rfl (by decide) ?_
    refine s_icmpY (pc' := 132) A at_118 (by decide) (by decide) (by decide) ?_
    refine s_iload (pc' := 134) A at_132 rfl rfl ?_
    refine s_ifN (pc' := 137) A at_134 rfl (by decide) ?_
    refine s_lload (pc' := 139) A at_137 rfl rfl ?_
    refine s_goto (pc' := 177) A at_139 (by decide) (by decide) ?_
    refine s_lstore (pc' := 179) (Ls' := #[jv q0, S2, iv q1, iv q2, jv (posf q0 (0 : Int32) q1), S2, jv (posf q0 (1 : Int32) q1), S2, jv (posf q0 (2 : Int32) q1), S2, jv (posf q0 (3 : Int32) q1), S2, jv (posf q0 (4 : Int32) q1), S2, iv 3, iv 0, iv ((ush q2 (8 : Int32)) &&& (65535 : Int32)), rv b712, jv (posf q0 (0 : Int32) q1), S2]) A at_177 rfl rfl ?_
    refine s_aload (pc' := 181) A at_179 rfl rfl rfl ?_
    refine s_lload (pc' := 183) A at_181 rfl rfl ?_
    obtain ⟨fr760, fr760a, fr760b⟩ := Free.ex (c := 12) FR749
    refine s_virtual (pc' := 186) (y := y3_remove) (argsL := [(.long (posf q0 (0 : Int32) q1))]) (rest := []) (z := y3_remove) A H747.1 (m_rem l Z a0 hw n0 h751 A.size b712 a721 b722 3 P745 N746 (fun r => if r = (posf q0 (2 : Int32) q1) then (((ush q2 (8 : Int32)) &&& (65535 : Int32)) + (2 : Int32)) else (fun r => if r = (posf q0 (1 : Int32) q1) then (((ush q2 (8 : Int32)) &&& (65535 : Int32)) + (1 : Int32)) else (fun r => if r = (posf q0 (0 : Int32) q1) then ((ush q2 (8 : Int32)) &&& (65535 : Int32)) else (fun _ => -1) r) r) r) (posf q0 (0 : Int32) q1) H747 HT748 fr760 fr760a fr760b) (w38 hw) (w39 hw) (nf_same (C := "") (w41 hw)) (w41 hw) (w40 hw) (w7 hw) (w42 hw) (by decide) pd__J_V rfl (W := 0) (by decide) (by decide) (Nat.le_of_eq rfl) (by decide) (by decide) rfl rfl at_183 rfl fun T h761 v762 A Q763 => ?_
    obtain ⟨rfl, P754, N755, z756, H757, HT758, f759, f759a, f759b⟩ := Q763
    refine Wp.stk (st' := []) rfl ?_
    refine s_aload (pc' := 188) A at_186 rfl rfl rfl ?_
    refine s_lload (pc' := 190) A at_188 rfl rfl ?_
    refine s_virtual (pc' := 193) (y := y0_get) (argsL := [(.long (posf q0 (0 : Int32) q1))]) (rest := []) (z := y0_get) A H757.1 (m_get l Z a0 hw n0 h761 A.size b712 a721 b722 z756 P754 N755 (fun r => if r = (posf q0 (0 : Int32) q1) then -1 else (fun r => if r = (posf q0 (2 : Int32) q1) then (((ush q2 (8 : Int32)) &&& (65535 : Int32)) + (2 : Int32)) else (fun r => if r = (posf q0 (1 : Int32) q1) then (((ush q2 (8 : Int32)) &&& (65535 : Int32)) + (1 : Int32)) else (fun r => if r = (posf q0 (0 : Int32) q1) then ((ush q2 (8 : Int32)) &&& (65535 : Int32)) else (fun _ => -1) r) r) r) r) (posf q0 (0 : Int32) q1) H757 HT758 f759 f759a f759b) (w43 hw) (w44 hw) (nf_same (C := "") (w46 hw)) (w46 hw) (w45 hw) (w7 hw) (w47 hw) (by decide) pd__J_I rfl (W := 0) (by decide) (by decide) (Nat.le_of_eq rfl) (by decide) (by decide) rfl rfl at_190 rfl fun T h764 v765 A Q766 => ?_
    obtain ⟨ev, eh⟩ := Q766
    obtain rfl := ev.trans (congrArg (fun z => some (Value.int z)) (show (fun r => if r = (posf q0 (0 : Int32) q1) then -1 else (fun r => if r = (posf q0 (2 : Int32) q1) then (((ush q2 (8 : Int32)) &&& (65535 : Int32)) + (2 : Int32)) else (fun r => if r = (posf q0 (1 : Int32) q1) then (((ush q2 (8 : Int32)) &&& (65535 : Int32)) + (1 : Int32)) else (fun r => if r = (posf q0 (0 : Int32) q1) then ((ush q2 (8 : Int32)) &&& (65535 : Int32)) else (fun _ => -1) r) r) r) r) (posf q0 (0 : Int32) q1) = (-1 : Int32) from (by simp only [pn_0_1, pn_0_2, pn_0_3, pn_0_4, pn_1_0, pn_1_2, pn_1_3, pn_1_4, pn_2_0, pn_2_1, pn_2_3, pn_2_4, pn_3_0, pn_3_1, pn_3_2, pn_3_4, pn_4_0, pn_4_1, pn_4_2, pn_4_3, if_true, if_false])))
    rw [eh] at A
    refine Wp.stk (st' := [(.int (-1 : Int32))]) rfl ?_
    refine s_iconst (pc' := 194) (z := (0 : Int32)) A at_193 rfl (by decide) ?_
    refine s_iload (pc' := 196) A at_194 rfl rfl ?_
    refine s_iload (pc' := 198) A at_196 rfl rfl ?_
    refine s_iload (pc' := 200) A at_198 rfl rfl ?_
    refine s_static (pc' := 203) (y := y8_check) (argsL := [(.int (-1 : Int32)), (.int (0 : Int32)), (.int (3 : Int32)), (.int (0 : Int32)), (.int ((ush q2 (8 : Int32)) &&& (65535 : Int32)))]) (rest := []) A (m_out l Z a0 hw n0 h761 A.size (-1 : Int32) (0 : Int32) (3 : Int32) (0 : Int32) ((ush q2 (8 : Int32)) &&& (65535 : Int32)) (Or.inr rfl) rfl) (w48 hw) (w49 hw) (w2 hw) (w50 hw) (by decide) pd__IIIII_Z rfl (W := 0) (by decide) (by decide) (Nat.le_of_eq rfl) (by decide) (by decide) rfl rfl at_200 rfl fun T h767 v768 A Q769 => ?_
    obtain ⟨rfl, eh⟩ := Q769
    rw [eh] at A
    refine Wp.stk (st' := [(.int (1 : Int32))]) rfl ?_
    refine s_ifN (pc' := 206) A at_203 rfl (by decide) ?_
    refine s_aload (pc' := 208) A at_206 rfl rfl rfl ?_
    refine s_lload (pc' := 210) A at_208 rfl rfl ?_
    refine s_virtual (pc' := 213) (y := y0_get) (argsL := [(.long (posf q0 (1 : Int32) q1))]) (rest := []) (z := y0_get) A H757.1 (m_get l Z a0 hw n0 h761 A.size b712 a721 b722 z756 P754 N755 (fun r => if r = (posf q0 (0 : Int32) q1) then -1 else (fun r => if r = (posf q0 (2 : Int32) q1) then (((ush q2 (8 : Int32)) &&& (65535 : Int32)) + (2 : Int32)) else (fun r => if r = (posf q0 (1 : Int32) q1) then (((ush q2 (8 : Int32)) &&& (65535 : Int32)) + (1 : Int32)) else (fun r => if r = (posf q0 (0 : Int32) q1) then ((ush q2 (8 : Int32)) &&& (65535 : Int32)) else (fun _ => -1) r) r) r) r) (posf q0 (1 : Int32) q1) H757 HT758 f759 f759a f759b) (w43 hw) (w44 hw) (nf_same (C := "") (w46 hw)) (w46 hw) (w45 hw) (w7 hw) (w47 hw) (by decide) pd__J_I rfl (W := 0) (by decide) (by decide) (Nat.le_of_eq rfl) (by decide) (by decide) rfl rfl at_210 rfl fun T h770 v771 A Q772 => ?_
    obtain ⟨ev, eh⟩ := Q772
    obtain rfl := ev.trans (congrArg (fun z => some (Value.int z)) (show (fun r => if r = (posf q0 (0 : Int32) q1) then -1 else (fun r => if r = (posf q0 (2 : Int32) q1) then (((ush q2 (8 : Int32)) &&& (65535 : Int32)) + (2 : Int32)) else (fun r => if r = (posf q0 (1 : Int32) q1) then (((ush q2 (8 : Int32)) &&& (65535 : Int32)) + (1 : Int32)) else (fun r => if r = (posf q0 (0 : Int32) q1) then ((ush q2 (8 : Int32)) &&& (65535 : Int32)) else (fun _ => -1) r) r) r) r) (posf q0 (1 : Int32) q1) = (((ush q2 (8 : Int32)) &&& (65535 : Int32)) + (1 : Int32)) from (by simp only [pn_0_1, pn_0_2, pn_0_3, pn_0_4, pn_1_0, pn_1_2, pn_1_3, pn_1_4, pn_2_0, pn_2_1, pn_2_3, pn_2_4, pn_3_0, pn_3_1, pn_3_2, pn_3_4, pn_4_0, pn_4_1, pn_4_2, pn_4_3, if_true, if_false])))
    rw [eh] at A
    refine Wp.stk (st' := [(.int (((ush q2 (8 : Int32)) &&& (65535 : Int32)) + (1 : Int32)))]) rfl ?_
    refine s_iconst (pc' := 214) (z := (1 : Int32)) A at_213 rfl (by decide) ?_
    refine s_iload (pc' := 216) A at_214 rfl rfl ?_
    refine s_iload (pc' := 218) A at_216 rfl rfl ?_
    refine s_iload (pc' := 220) A at_218 rfl rfl ?_
    refine s_static (pc' := 223) (y := y8_check) (argsL := [(.int (((ush q2 (8 : Int32)) &&& (65535 : Int32)) + (1 : Int32))), (.int (1 : Int32)), (.int (3 : Int32)), (.int (0 : Int32)), (.int ((ush q2 (8 : Int32)) &&& (65535 : Int32)))]) (rest := []) A (m_in l Z a0 hw n0 h761 A.size (((ush q2 (8 : Int32)) &&& (65535 : Int32)) + (1 : Int32)) (1 : Int32) (3 : Int32) (0 : Int32) ((ush q2 (8 : Int32)) &&& (65535 : Int32)) (by decide) (by decide) rfl) (w48 hw) (w49 hw) (w2 hw) (w50 hw) (by decide) pd__IIIII_Z rfl (W := 0) (by decide) (by decide) (Nat.le_of_eq rfl) (by decide) (by decide) rfl rfl at_220 rfl fun T h773 v774 A Q775 => ?_
    obtain ⟨rfl, eh⟩ := Q775
    rw [eh] at A
    refine Wp.stk (st' := [(.int (1 : Int32))]) rfl ?_
    refine s_ifN (pc' := 226) A at_223 rfl (by decide) ?_
    refine s_aload (pc' := 228) A at_226 rfl rfl rfl ?_
    refine s_lload (pc' := 230) A at_228 rfl rfl ?_
    refine s_virtual (pc' := 233) (y := y0_get) (argsL := [(.long (posf q0 (2 : Int32) q1))]) (rest := []) (z := y0_get) A H757.1 (m_get l Z a0 hw n0 h761 A.size b712 a721 b722 z756 P754 N755 (fun r => if r = (posf q0 (0 : Int32) q1) then -1 else (fun r => if r = (posf q0 (2 : Int32) q1) then (((ush q2 (8 : Int32)) &&& (65535 : Int32)) + (2 : Int32)) else (fun r => if r = (posf q0 (1 : Int32) q1) then (((ush q2 (8 : Int32)) &&& (65535 : Int32)) + (1 : Int32)) else (fun r => if r = (posf q0 (0 : Int32) q1) then ((ush q2 (8 : Int32)) &&& (65535 : Int32)) else (fun _ => -1) r) r) r) r) (posf q0 (2 : Int32) q1) H757 HT758 f759 f759a f759b) (w43 hw) (w44 hw) (nf_same (C := "") (w46 hw)) (w46 hw) (w45 hw) (w7 hw) (w47 hw) (by decide) pd__J_I rfl (W := 0) (by decide) (by decide) (Nat.le_of_eq rfl) (by decide) (by decide) rfl rfl at_230 rfl fun T h776 v777 A Q778 => ?_
    obtain ⟨ev, eh⟩ := Q778
    obtain rfl := ev.trans (congrArg (fun z => some (Value.int z)) (show (fun r => if r = (posf q0 (0 : Int32) q1) then -1 else (fun r => if r = (posf q0 (2 : Int32) q1) then (((ush q2 (8 : Int32)) &&& (65535 : Int32)) + (2 : Int32)) else (fun r => if r = (posf q0 (1 : Int32) q1) then (((ush q2 (8 : Int32)) &&& (65535 : Int32)) + (1 : Int32)) else (fun r => if r = (posf q0 (0 : Int32) q1) then ((ush q2 (8 : Int32)) &&& (65535 : Int32)) else (fun _ => -1) r) r) r) r) (posf q0 (2 : Int32) q1) = (((ush q2 (8 : Int32)) &&& (65535 : Int32)) + (2 : Int32)) from (by simp only [pn_0_1, pn_0_2, pn_0_3, pn_0_4, pn_1_0, pn_1_2, pn_1_3, pn_1_4, pn_2_0, pn_2_1, pn_2_3, pn_2_4, pn_3_0, pn_3_1, pn_3_2, pn_3_4, pn_4_0, pn_4_1, pn_4_2, pn_4_3, if_true, if_false])))
    rw [eh] at A
    refine Wp.stk (st' := [(.int (((ush q2 (8 : Int32)) &&& (65535 : Int32)) + (2 : Int32)))]) rfl ?_
    refine s_iconst (pc' := 234) (z := (2 : Int32)) A at_233 rfl (by decide) ?_
    refine s_iload (pc' := 236) A at_234 rfl rfl ?_
    refine s_iload (pc' := 238) A at_236 rfl rfl ?_
    refine s_iload (pc' := 240) A at_238 rfl rfl ?_
    refine s_static (pc' := 243) (y := y8_check) (argsL := [(.int (((ush q2 (8 : Int32)) &&& (65535 : Int32)) + (2 : Int32))), (.int (2 : Int32)), (.int (3 : Int32)), (.int (0 : Int32)), (.int ((ush q2 (8 : Int32)) &&& (65535 : Int32)))]) (rest := []) A (m_in l Z a0 hw n0 h761 A.size (((ush q2 (8 : Int32)) &&& (65535 : Int32)) + (2 : Int32)) (2 : Int32) (3 : Int32) (0 : Int32) ((ush q2 (8 : Int32)) &&& (65535 : Int32)) (by decide) (by decide) rfl) (w48 hw) (w49 hw) (w2 hw) (w50 hw) (by decide) pd__IIIII_Z rfl (W := 0) (by decide) (by decide) (Nat.le_of_eq rfl) (by decide) (by decide) rfl rfl at_240 rfl fun T h779 v780 A Q781 => ?_
    obtain ⟨rfl, eh⟩ := Q781
    rw [eh] at A
    refine Wp.stk (st' := [(.int (1 : Int32))]) rfl ?_
    refine s_ifN (pc' := 246) A at_243 rfl (by decide) ?_
    refine s_aload (pc' := 248) A at_246 rfl rfl rfl ?_
    refine s_lload (pc' := 250) A at_248 rfl rfl ?_
    refine s_virtual (pc' := 253) (y := y0_get) (argsL := [(.long (posf q0 (3 : Int32) q1))]) (rest := []) (z := y0_get) A H757.1 (m_get l Z a0 hw n0 h761 A.size b712 a721 b722 z756 P754 N755 (fun r => if r = (posf q0 (0 : Int32) q1) then -1 else (fun r => if r = (posf q0 (2 : Int32) q1) then (((ush q2 (8 : Int32)) &&& (65535 : Int32)) + (2 : Int32)) else (fun r => if r = (posf q0 (1 : Int32) q1) then (((ush q2 (8 : Int32)) &&& (65535 : Int32)) + (1 : Int32)) else (fun r => if r = (posf q0 (0 : Int32) q1) then ((ush q2 (8 : Int32)) &&& (65535 : Int32)) else (fun _ => -1) r) r) r) r) (posf q0 (3 : Int32) q1) H757 HT758 f759 f759a f759b) (w43 hw) (w44 hw) (nf_same (C := "") (w46 hw)) (w46 hw) (w45 hw) (w7 hw) (w47 hw) (by decide) pd__J_I rfl (W := 0) (by decide) (by decide) (Nat.le_of_eq rfl) (by decide) (by decide) rfl rfl at_250 rfl fun T h782 v783 A Q784 => ?_
    obtain ⟨ev, eh⟩ := Q784
    obtain rfl := ev.trans (congrArg (fun z => some (Value.int z)) (show (fun r => if r = (posf q0 (0 : Int32) q1) then -1 else (fun r => if r = (posf q0 (2 : Int32) q1) then (((ush q2 (8 : Int32)) &&& (65535 : Int32)) + (2 : Int32)) else (fun r => if r = (posf q0 (1 : Int32) q1) then (((ush q2 (8 : Int32)) &&& (65535 : Int32)) + (1 : Int32)) else (fun r => if r = (posf q0 (0 : Int32) q1) then ((ush q2 (8 : Int32)) &&& (65535 : Int32)) else (fun _ => -1) r) r) r) r) (posf q0 (3 : Int32) q1) = (-1 : Int32) from (by simp only [pn_0_1, pn_0_2, pn_0_3, pn_0_4, pn_1_0, pn_1_2, pn_1_3, pn_1_4, pn_2_0, pn_2_1, pn_2_3, pn_2_4, pn_3_0, pn_3_1, pn_3_2, pn_3_4, pn_4_0, pn_4_1, pn_4_2, pn_4_3, if_true, if_false])))
    rw [eh] at A
    refine Wp.stk (st' := [(.int (-1 : Int32))]) rfl ?_
    refine s_iconst (pc' := 254) (z := (3 : Int32)) A at_253 rfl (by decide) ?_
    refine s_iload (pc' := 256) A at_254 rfl rfl ?_
    refine s_iload (pc' := 258) A at_256 rfl rfl ?_
    refine s_iload (pc' := 260) A at_258 rfl rfl ?_
    refine s_static (pc' := 263) (y := y8_check) (argsL := [(.int (-1 : Int32)), (.int (3 : Int32)), (.int (3 : Int32)), (.int (0 : Int32)), (.int ((ush q2 (8 : Int32)) &&& (65535 : Int32)))]) (rest := []) A (m_out l Z a0 hw n0 h761 A.size (-1 : Int32) (3 : Int32) (3 : Int32) (0 : Int32) ((ush q2 (8 : Int32)) &&& (65535 : Int32)) (Or.inl (by decide)) rfl) (w48 hw) (w49 hw) (w2 hw) (w50 hw) (by decide) pd__IIIII_Z rfl (W := 0) (by decide) (by decide) (Nat.le_of_eq rfl) (by decide) (by decide) rfl rfl at_260 rfl fun T h785 v786 A Q787 => ?_
    obtain ⟨rfl, eh⟩ := Q787
    rw [eh] at A
    refine Wp.stk (st' := [(.int (1 : Int32))]) rfl ?_
    refine s_ifN (pc' := 266) A at_263 rfl (by decide) ?_
    refine s_aload (pc' := 268) A at_266 rfl rfl rfl ?_
    refine s_lload (pc' := 270) A at_268 rfl rfl ?_
    refine s_virtual (pc' := 273) (y := y0_get) (argsL := [(.long (posf q0 (4 : Int32) q1))]) (rest := []) (z := y0_get) A H757.1 (m_get l Z a0 hw n0 h761 A.size b712 a721 b722 z756 P754 N755 (fun r => if r = (posf q0 (0 : Int32) q1) then -1 else (fun r => if r = (posf q0 (2 : Int32) q1) then (((ush q2 (8 : Int32)) &&& (65535 : Int32)) + (2 : Int32)) else (fun r => if r = (posf q0 (1 : Int32) q1) then (((ush q2 (8 : Int32)) &&& (65535 : Int32)) + (1 : Int32)) else (fun r => if r = (posf q0 (0 : Int32) q1) then ((ush q2 (8 : Int32)) &&& (65535 : Int32)) else (fun _ => -1) r) r) r) r) (posf q0 (4 : Int32) q1) H757 HT758 f759 f759a f759b) (w43 hw) (w44 hw) (nf_same (C := "") (w46 hw)) (w46 hw) (w45 hw) (w7 hw) (w47 hw) (by decide) pd__J_I rfl (W := 0) (by decide) (by decide) (Nat.le_of_eq rfl) (by decide) (by decide) rfl rfl at_270 rfl fun T h788 v789 A Q790 => ?_
    obtain ⟨ev, eh⟩ := Q790
    obtain rfl := ev.trans (congrArg (fun z => some (Value.int z)) (show (fun r => if r = (posf q0 (0 : Int32) q1) then -1 else (fun r => if r = (posf q0 (2 : Int32) q1) then (((ush q2 (8 : Int32)) &&& (65535 : Int32)) + (2 : Int32)) else (fun r => if r = (posf q0 (1 : Int32) q1) then (((ush q2 (8 : Int32)) &&& (65535 : Int32)) + (1 : Int32)) else (fun r => if r = (posf q0 (0 : Int32) q1) then ((ush q2 (8 : Int32)) &&& (65535 : Int32)) else (fun _ => -1) r) r) r) r) (posf q0 (4 : Int32) q1) = (-1 : Int32) from (by simp only [pn_0_1, pn_0_2, pn_0_3, pn_0_4, pn_1_0, pn_1_2, pn_1_3, pn_1_4, pn_2_0, pn_2_1, pn_2_3, pn_2_4, pn_3_0, pn_3_1, pn_3_2, pn_3_4, pn_4_0, pn_4_1, pn_4_2, pn_4_3, if_true, if_false])))
    rw [eh] at A
    refine Wp.stk (st' := [(.int (-1 : Int32))]) rfl ?_
    refine s_iconst (pc' := 274) (z := (4 : Int32)) A at_273 rfl (by decide) ?_
    refine s_iload (pc' := 276) A at_274 rfl rfl ?_
    refine s_iload (pc' := 278) A at_276 rfl rfl ?_
    refine s_iload (pc' := 280) A at_278 rfl rfl ?_
    refine s_static (pc' := 283) (y := y8_check) (argsL := [(.int (-1 : Int32)), (.int (4 : Int32)), (.int (3 : Int32)), (.int (0 : Int32)), (.int ((ush q2 (8 : Int32)) &&& (65535 : Int32)))]) (rest := []) A (m_out l Z a0 hw n0 h761 A.size (-1 : Int32) (4 : Int32) (3 : Int32) (0 : Int32) ((ush q2 (8 : Int32)) &&& (65535 : Int32)) (Or.inl (by decide)) rfl) (w48 hw) (w49 hw) (w2 hw) (w50 hw) (by decide) pd__IIIII_Z rfl (W := 0) (by decide) (by decide) (Nat.le_of_eq rfl) (by decide) (by decide) rfl rfl at_280 rfl fun T h791 v792 A Q793 => ?_
    obtain ⟨rfl, eh⟩ := Q793
    rw [eh] at A
    refine Wp.stk (st' := [(.int (1 : Int32))]) rfl ?_
    refine s_ifN (pc' := 286) A at_283 rfl (by decide) ?_
    refine s_iconst (pc' := 287) (z := (1 : Int32)) A at_286 rfl (by decide) ?_
    refine s_goto (pc' := 291) A at_287 (by decide) (by decide) ?_
    exact r_bool A rfl (by decide) at_291 (by decide) (by decide) (rfl)
   ·
    refine s_irem (pc' := 52) (z := (1 : Int32)) A at_51 rfl (by decide) hrr.symm ?_
    refine s_istore (pc' := 54) (Ls' := #[jv q0, S2, iv q1, iv q2, jv (posf q0 (0 : Int32) q1), S2, jv (posf q0 (1 : Int32) q1), S2, jv (posf q0 (2 : Int32) q1), S2, jv (posf q0 (3 : Int32) q1), S2, jv (posf q0 (4 : Int32) q1), S2, iv 3, iv 1, U0, U0, U0, U0]) A at_52 rfl rfl ?_
    refine s_iloadN (pc' := 55) A at_54 rfl rfl ?_
    refine s_bipush (pc' := 57) (z := (8 : Int32)) A at_55 rfl (by decide) ?_
    refine s_iushr (pc' := 58) (z := (ush q2 (8 : Int32))) A at_57 rfl rfl ?_
    refine s_ldcInt (pc' := 60) A at_58 rfl (w4 hw) ?_
    refine s_iand (pc' := 61) (z := ((ush q2 (8 : Int32)) &&& (65535 : Int32))) A at_60 rfl rfl ?_
    refine s_istore (pc' := 63) (Ls' := #[jv q0, S2, iv q1, iv q2, jv (posf q0 (0 : Int32) q1), S2, jv (posf q0 (1 : Int32) q1), S2, jv (posf q0 (2 : Int32) q1), S2, jv (posf q0 (3 : Int32) q1), S2, jv (posf q0 (4 : Int32) q1), S2, iv 3, iv 1, iv ((ush q2 (8 : Int32)) &&& (65535 : Int32)), U0, U0, U0]) A at_61 rfl rfl ?_
    refine s_new (pc' := 66) A (w5 hw) (w6 hw) (w7 hw) (by decide) (by decide) at_63 rfl fun T h794 b795 A g796 ge797 X798 E799 D800 => ?_
    have F801 : Fld Z h794 b795 "com/example/wirefram/wirefram/sequence/PositionIndex" "positions" "[J" .null := D800 (Or.inl (w16 hw)) (ty := (.array .long)) (by decide)
    have F802 : Fld Z h794 b795 "com/example/wirefram/wirefram/sequence/PositionIndex" "numbers" "[I" .null := D800 (Or.inl (w26 hw)) (ty := (.array .int)) (by decide)
    have F803 : Fld Z h794 b795 "com/example/wirefram/wirefram/sequence/PositionIndex" "size" "I" (.int (0 : Int32)) := D800 (Or.inl (w33 hw)) (ty := .int) (by decide)
    refine s_dup (pc' := 67) A at_66 rfl rfl ?_
    refine s_special (pc' := 70) (y := y6_init) (argsL := []) (rest := [(.ref b795)]) A (m_init l Z a0 hw n0 h794 A.size b795 E799 F801 F802 F803 ge797) rfl (w8 hw) (w9 hw) (w7 hw) (w10 hw) (by decide) pd___V rfl (W := 1) (by decide) (by decide) (Nat.le_of_eq rfl) (by decide) (by decide) rfl rfl at_67 rfl fun T h807 v808 A Q809 => ?_
    obtain ⟨rfl, a804, b805, H806⟩ := Q809
    refine Wp.stk (st' := [(.ref b795)]) rfl ?_
    refine s_astore (pc' := 72) (Ls' := #[jv q0, S2, iv q1, iv q2, jv (posf q0 (0 : Int32) q1), S2, jv (posf q0 (1 : Int32) q1), S2, jv (posf q0 (2 : Int32) q1), S2, jv (posf q0 (3 : Int32) q1), S2, jv (posf q0 (4 : Int32) q1), S2, iv 3, iv 1, iv ((ush q2 (8 : Int32)) &&& (65535 : Int32)), rv b795, U0, U0]) A at_70 rfl rfl rfl ?_
    refine s_aload (pc' := 74) A at_72 rfl rfl rfl ?_
    refine s_lload (pc' := 76) A at_74 rfl rfl ?_
    refine s_iload (pc' := 78) A at_76 rfl rfl ?_
    obtain ⟨fr815, fr815a, fr815b⟩ := Free.ex (c := 15) own_free0
    refine s_virtual (pc' := 81) (y := y2_put) (argsL := [(.long (posf q0 (0 : Int32) q1)), (.int ((ush q2 (8 : Int32)) &&& (65535 : Int32)))]) (rest := []) (z := y2_put) A H806.1 (m_put l Z a0 hw n0 h807 A.size b795 a804 b805 0 (fun _ => 0) (fun _ => -1) (fun _ => -1) H806 (posf q0 (0 : Int32) q1) ((ush q2 (8 : Int32)) &&& (65535 : Int32)) 1 (own_tab0 (fun _ => 0)) fr815 fr815a fr815b (own_nb0 q2) rfl (by decide) (by decide)) (w27 hw) (w28 hw) (nf_same (C := "") (w30 hw)) (w30 hw) (w29 hw) (w7 hw) (w31 hw) (by decide) pd__JI_V rfl (W := 0) (by decide) (by decide) (Nat.le_of_eq rfl) (by decide) (by decide) rfl rfl at_78 rfl fun T h816 v817 A Q818 => ?_
    obtain ⟨rfl, P810, N811, H812, HT813, FR814⟩ := Q818
    have FR814 := FR814 15 own_free0
    refine Wp.stk (st' := []) rfl ?_
    refine s_iload (pc' := 83) A at_81 rfl rfl ?_
    refine s_iconst (pc' := 84) (z := (1 : Int32)) A at_83 rfl (by decide) ?_
    refine s_icmpN (pc' := 87) A at_84 rfl (by decide) ?_
    refine s_aload (pc' := 89) A at_87 rfl rfl rfl ?_
    refine s_lload (pc' := 91) A at_89 rfl rfl ?_
    refine s_iload (pc' := 93) A at_91 rfl rfl ?_
    refine s_iconst (pc' := 94) (z := (1 : Int32)) A at_93 rfl (by decide) ?_
    refine s_iadd (pc' := 95) (z := (((ush q2 (8 : Int32)) &&& (65535 : Int32)) + (1 : Int32))) A at_94 rfl rfl ?_
    obtain ⟨fr824, fr824a, fr824b⟩ := Free.ex (c := 14) FR814
    refine s_virtual (pc' := 98) (y := y2_put) (argsL := [(.long (posf q0 (1 : Int32) q1)), (.int (((ush q2 (8 : Int32)) &&& (65535 : Int32)) + (1 : Int32)))]) (rest := []) (z := y2_put) A H812.1 (m_put l Z a0 hw n0 h816 A.size b795 a804 b805 1 P810 N811 (fun r => if r = (posf q0 (0 : Int32) q1) then ((ush q2 (8 : Int32)) &&& (65535 : Int32)) else (fun _ => -1) r) H812 (posf q0 (1 : Int32) q1) (((ush q2 (8 : Int32)) &&& (65535 : Int32)) + (1 : Int32)) 2 HT813 fr824 fr824a fr824b (own_nb1 q2) (by simp only [pn_0_1, pn_0_2, pn_0_3, pn_0_4, pn_1_0, pn_1_2, pn_1_3, pn_1_4, pn_2_0, pn_2_1, pn_2_3, pn_2_4, pn_3_0, pn_3_1, pn_3_2, pn_3_4, pn_4_0, pn_4_1, pn_4_2, pn_4_3, if_true, if_false]) (by decide) (by decide)) (w27 hw) (w28 hw) (nf_same (C := "") (w30 hw)) (w30 hw) (w29 hw) (w7 hw) (w31 hw) (by decide) pd__JI_V rfl (W := 0) (by decide) (by decide) (Nat.le_of_eq rfl) (by decide) (by decide) rfl rfl at_95 rfl fun T h825 v826 A Q827 => ?_
    obtain ⟨rfl, P819, N820, H821, HT822, FR823⟩ := Q827
    have FR823 := FR823 14 FR814
    refine Wp.stk (st' := []) rfl ?_
    refine s_iload (pc' := 100) A at_98 rfl rfl ?_
    refine s_iconst (pc' := 101) (z := (2 : Int32)) A at_100 rfl (by decide) ?_
    refine s_icmpN (pc' := 104) A at_101 rfl (by decide) ?_
    refine s_aload (pc' := 106) A at_104 rfl rfl rfl ?_
    refine s_lload (pc' := 108) A at_106 rfl rfl ?_
    refine s_iload (pc' := 110) A at_108 rfl rfl ?_
    refine s_iconst (pc' := 111) (z := (2 : Int32)) A at_110 rfl (by decide) ?_
    refine s_iadd (pc' := 112) (z := (((ush q2 (8 : Int32)) &&& (65535 : Int32)) + (2 : Int32))) A at_111 rfl rfl ?_
    obtain ⟨fr833, fr833a, fr833b⟩ := Free.ex (c := 13) FR823
    refine s_virtual (pc' := 115) (y := y2_put) (argsL := [(.long (posf q0 (2 : Int32) q1)), (.int (((ush q2 (8 : Int32)) &&& (65535 : Int32)) + (2 : Int32)))]) (rest := []) (z := y2_put) A H821.1 (m_put l Z a0 hw n0 h825 A.size b795 a804 b805 2 P819 N820 (fun r => if r = (posf q0 (1 : Int32) q1) then (((ush q2 (8 : Int32)) &&& (65535 : Int32)) + (1 : Int32)) else (fun r => if r = (posf q0 (0 : Int32) q1) then ((ush q2 (8 : Int32)) &&& (65535 : Int32)) else (fun _ => -1) r) r) H821 (posf q0 (2 : Int32) q1) (((ush q2 (8 : Int32)) &&& (65535 : Int32)) + (2 : Int32)) 3 HT822 fr833 fr833a fr833b (own_nb2 q2) (by simp only [pn_0_1, pn_0_2, pn_0_3, pn_0_4, pn_1_0, pn_1_2, pn_1_3, pn_1_4, pn_2_0, pn_2_1, pn_2_3, pn_2_4, pn_3_0, pn_3_1, pn_3_2, pn_3_4, pn_4_0, pn_4_1, pn_4_2, pn_4_3, if_true, if_false]) (by decide) (by decide)) (w27 hw) (w28 hw) (nf_same (C := "") (w30 hw)) (w30 hw) (w29 hw) (w7 hw) (w31 hw) (by decide) pd__JI_V rfl (W := 0) (by decide) (by decide) (Nat.le_of_eq rfl) (by decide) (by decide) rfl rfl at_112 rfl fun T h834 v835 A Q836 => ?_
    obtain ⟨rfl, P828, N829, H830, HT831, FR832⟩ := Q836
    have FR832 := FR832 13 FR823
    refine Wp.stk (st' := []) rfl ?_
    refine s_iload (pc' := 117) A at_115 rfl rfl ?_
    refine s_iconst (pc' := 118) (z := (3 : Int32)) A at_117 rfl (by decide) ?_
    refine s_icmpY (pc' := 132) A at_118 (by decide) (by decide) (by decide) ?_
    refine s_iload (pc' := 134) A at_132 rfl rfl ?_
    refine s_ifY (pc' := 142) A at_134 (by decide) (by decide) (by decide) ?_
    refine s_iload (pc' := 144) A at_142 rfl rfl ?_
    refine s_iconst (pc' := 145) (z := (1 : Int32)) A at_144 rfl (by decide) ?_
    refine s_icmpN (pc' := 148) A at_145 rfl (by decide) ?_
    refine s_lload (pc' := 150) A at_148 rfl rfl ?_
    refine s_goto (pc' := 177) A at_150 (by decide) (by decide) ?_
    refine s_lstore (pc' := 179) (Ls' := #[jv q0, S2, iv q1, iv q2, jv (posf q0 (0 : Int32) q1), S2, jv (posf q0 (1 : Int32) q1), S2, jv (posf q0 (2 : Int32) q1), S2, jv (posf q0 (3 : Int32) q1), S2, jv (posf q0 (4 : Int32) q1), S2, iv 3, iv 1, iv ((ush q2 (8 : Int32)) &&& (65535 : Int32)), rv b795, jv (posf q0 (1 : Int32) q1), S2]) A at_177 rfl rfl ?_
    refine s_aload (pc' := 181) A at_179 rfl rfl rfl ?_
    refine s_lload (pc' := 183) A at_181 rfl rfl ?_
    obtain ⟨fr843, fr843a, fr843b⟩ := Free.ex (c := 12) FR832
    refine s_virtual (pc' := 186) (y := y3_remove) (argsL := [(.long (posf q0 (1 : Int32) q1))]) (rest := []) (z := y3_remove) A H830.1 (m_rem l Z a0 hw n0 h834 A.size b795 a804 b805 3 P828 N829 (fun r => if r = (posf q0 (2 : Int32) q1) then (((ush q2 (8 : Int32)) &&& (65535 : Int32)) + (2 : Int32)) else (fun r => if r = (posf q0 (1 : Int32) q1) then (((ush q2 (8 : Int32)) &&& (65535 : Int32)) + (1 : Int32)) else (fun r => if r = (posf q0 (0 : Int32) q1) then ((ush q2 (8 : Int32)) &&& (65535 : Int32)) else (fun _ => -1) r) r) r) (posf q0 (1 : Int32) q1) H830 HT831 fr843 fr843a fr843b) (w38 hw) (w39 hw) (nf_same (C := "") (w41 hw)) (w41 hw) (w40 hw) (w7 hw) (w42 hw) (by decide) pd__J_V rfl (W := 0) (by decide) (by decide) (Nat.le_of_eq rfl) (by decide) (by decide) rfl rfl at_183 rfl fun T h844 v845 A Q846 => ?_
    obtain ⟨rfl, P837, N838, z839, H840, HT841, f842, f842a, f842b⟩ := Q846
    refine Wp.stk (st' := []) rfl ?_
    refine s_aload (pc' := 188) A at_186 rfl rfl rfl ?_
    refine s_lload (pc' := 190) A at_188 rfl rfl ?_
    refine s_virtual (pc' := 193) (y := y0_get) (argsL := [(.long (posf q0 (0 : Int32) q1))]) (rest := []) (z := y0_get) A H840.1 (m_get l Z a0 hw n0 h844 A.size b795 a804 b805 z839 P837 N838 (fun r => if r = (posf q0 (1 : Int32) q1) then -1 else (fun r => if r = (posf q0 (2 : Int32) q1) then (((ush q2 (8 : Int32)) &&& (65535 : Int32)) + (2 : Int32)) else (fun r => if r = (posf q0 (1 : Int32) q1) then (((ush q2 (8 : Int32)) &&& (65535 : Int32)) + (1 : Int32)) else (fun r => if r = (posf q0 (0 : Int32) q1) then ((ush q2 (8 : Int32)) &&& (65535 : Int32)) else (fun _ => -1) r) r) r) r) (posf q0 (0 : Int32) q1) H840 HT841 f842 f842a f842b) (w43 hw) (w44 hw) (nf_same (C := "") (w46 hw)) (w46 hw) (w45 hw) (w7 hw) (w47 hw) (by decide) pd__J_I rfl (W := 0) (by decide) (by decide) (Nat.le_of_eq rfl) (by decide) (by decide) rfl rfl at_190 rfl fun T h847 v848 A Q849 => ?_
    obtain ⟨ev, eh⟩ := Q849
    obtain rfl := ev.trans (congrArg (fun z => some (Value.int z)) (show (fun r => if r = (posf q0 (1 : Int32) q1) then -1 else (fun r => if r = (posf q0 (2 : Int32) q1) then (((ush q2 (8 : Int32)) &&& (65535 : Int32)) + (2 : Int32)) else (fun r => if r = (posf q0 (1 : Int32) q1) then (((ush q2 (8 : Int32)) &&& (65535 : Int32)) + (1 : Int32)) else (fun r => if r = (posf q0 (0 : Int32) q1) then ((ush q2 (8 : Int32)) &&& (65535 : Int32)) else (fun _ => -1) r) r) r) r) (posf q0 (0 : Int32) q1) = ((ush q2 (8 : Int32)) &&& (65535 : Int32)) from (by simp only [pn_0_1, pn_0_2, pn_0_3, pn_0_4, pn_1_0, pn_1_2, pn_1_3, pn_1_4, pn_2_0, pn_2_1, pn_2_3, pn_2_4, pn_3_0, pn_3_1, pn_3_2, pn_3_4, pn_4_0, pn_4_1, pn_4_2, pn_4_3, if_true, if_false])))
    rw [eh] at A
    refine Wp.stk (st' := [(.int ((ush q2 (8 : Int32)) &&& (65535 : Int32)))]) rfl ?_
    refine s_iconst (pc' := 194) (z := (0 : Int32)) A at_193 rfl (by decide) ?_
    refine s_iload (pc' := 196) A at_194 rfl rfl ?_
    refine s_iload (pc' := 198) A at_196 rfl rfl ?_
    refine s_iload (pc' := 200) A at_198 rfl rfl ?_
    refine s_static (pc' := 203) (y := y8_check) (argsL := [(.int ((ush q2 (8 : Int32)) &&& (65535 : Int32))), (.int (0 : Int32)), (.int (3 : Int32)), (.int (1 : Int32)), (.int ((ush q2 (8 : Int32)) &&& (65535 : Int32)))]) (rest := []) A (m_in l Z a0 hw n0 h844 A.size ((ush q2 (8 : Int32)) &&& (65535 : Int32)) (0 : Int32) (3 : Int32) (1 : Int32) ((ush q2 (8 : Int32)) &&& (65535 : Int32)) (by decide) (by decide) (Int32.add_zero _).symm) (w48 hw) (w49 hw) (w2 hw) (w50 hw) (by decide) pd__IIIII_Z rfl (W := 0) (by decide) (by decide) (Nat.le_of_eq rfl) (by decide) (by decide) rfl rfl at_200 rfl fun T h850 v851 A Q852 => ?_
    obtain ⟨rfl, eh⟩ := Q852
    rw [eh] at A
    refine Wp.stk (st' := [(.int (1 : Int32))]) rfl ?_
    refine s_ifN (pc' := 206) A at_203 rfl (by decide) ?_
    refine s_aload (pc' := 208) A at_206 rfl rfl rfl ?_
    refine s_lload (pc' := 210) A at_208 rfl rfl ?_
    refine s_virtual (pc' := 213) (y := y0_get) (argsL := [(.long (posf q0 (1 : Int32) q1))]) (rest := []) (z := y0_get) A H840.1 (m_get l Z a0 hw n0 h844 A.size b795 a804 b805 z839 P837 N838 (fun r => if r = (posf q0 (1 : Int32) q1) then -1 else (fun r => if r = (posf q0 (2 : Int32) q1) then (((ush q2 (8 : Int32)) &&& (65535 : Int32)) + (2 : Int32)) else (fun r => if r = (posf q0 (1 : Int32) q1) then (((ush q2 (8 : Int32)) &&& (65535 : Int32)) + (1 : Int32)) else (fun r => if r = (posf q0 (0 : Int32) q1) then ((ush q2 (8 : Int32)) &&& (65535 : Int32)) else (fun _ => -1) r) r) r) r) (posf q0 (1 : Int32) q1) H840 HT841 f842 f842a f842b) (w43 hw) (w44 hw) (nf_same (C := "") (w46 hw)) (w46 hw) (w45 hw) (w7 hw) (w47 hw) (by decide) pd__J_I rfl (W := 0) (by decide) (by decide) (Nat.le_of_eq rfl) (by decide) (by decide) rfl rfl at_210 rfl fun T h853 v854 A Q855 => ?_
    obtain ⟨ev, eh⟩ := Q855
    obtain rfl := ev.trans (congrArg (fun z => some (Value.int z)) (show (fun r => if r = (posf q0 (1 : Int32) q1) then -1 else (fun r => if r = (posf q0 (2 : Int32) q1) then (((ush q2 (8 : Int32)) &&& (65535 : Int32)) + (2 : Int32)) else (fun r => if r = (posf q0 (1 : Int32) q1) then (((ush q2 (8 : Int32)) &&& (65535 : Int32)) + (1 : Int32)) else (fun r => if r = (posf q0 (0 : Int32) q1) then ((ush q2 (8 : Int32)) &&& (65535 : Int32)) else (fun _ => -1) r) r) r) r) (posf q0 (1 : Int32) q1) = (-1 : Int32) from (by simp only [pn_0_1, pn_0_2, pn_0_3, pn_0_4, pn_1_0, pn_1_2, pn_1_3, pn_1_4, pn_2_0, pn_2_1, pn_2_3, pn_2_4, pn_3_0, pn_3_1, pn_3_2, pn_3_4, pn_4_0, pn_4_1, pn_4_2, pn_4_3, if_true, if_false])))
    rw [eh] at A
    refine Wp.stk (st' := [(.int (-1 : Int32))]) rfl ?_
    refine s_iconst (pc' := 214) (z := (1 : Int32)) A at_213 rfl (by decide) ?_
    refine s_iload (pc' := 216) A at_214 rfl rfl ?_
    refine s_iload (pc' := 218) A at_216 rfl rfl ?_
    refine s_iload (pc' := 220) A at_218 rfl rfl ?_
    refine s_static (pc' := 223) (y := y8_check) (argsL := [(.int (-1 : Int32)), (.int (1 : Int32)), (.int (3 : Int32)), (.int (1 : Int32)), (.int ((ush q2 (8 : Int32)) &&& (65535 : Int32)))]) (rest := []) A (m_out l Z a0 hw n0 h844 A.size (-1 : Int32) (1 : Int32) (3 : Int32) (1 : Int32) ((ush q2 (8 : Int32)) &&& (65535 : Int32)) (Or.inr rfl) rfl) (w48 hw) (w49 hw) (w2 hw) (w50 hw) (by decide) pd__IIIII_Z rfl (W := 0) (by decide) (by decide) (Nat.le_of_eq rfl) (by decide) (by decide) rfl rfl at_220 rfl fun T h856 v857 A Q858 => ?_
    obtain ⟨rfl, eh⟩ := Q858
    rw [eh] at A
    refine Wp.stk (st' := [(.int (1 : Int32))]) rfl ?_
    refine s_ifN (pc' := 226) A at_223 rfl (by decide) ?_
    refine s_aload (pc' := 228) A at_226 rfl rfl rfl ?_
    refine s_lload (pc' := 230) A at_228 rfl rfl ?_
    refine s_virtual (pc' := 233) (y := y0_get) (argsL := [(.long (posf q0 (2 : Int32) q1))]) (rest := []) (z := y0_get) A H840.1 (m_get l Z a0 hw n0 h844 A.size b795 a804 b805 z839 P837 N838 (fun r => if r = (posf q0 (1 : Int32) q1) then -1 else (fun r => if r = (posf q0 (2 : Int32) q1) then (((ush q2 (8 : Int32)) &&& (65535 : Int32)) + (2 : Int32)) else (fun r => if r = (posf q0 (1 : Int32) q1) then (((ush q2 (8 : Int32)) &&& (65535 : Int32)) + (1 : Int32)) else (fun r => if r = (posf q0 (0 : Int32) q1) then ((ush q2 (8 : Int32)) &&& (65535 : Int32)) else (fun _ => -1) r) r) r) r) (posf q0 (2 : Int32) q1) H840 HT841 f842 f842a f842b) (w43 hw) (w44 hw) (nf_same (C := "") (w46 hw)) (w46 hw) (w45 hw) (w7 hw) (w47 hw) (by decide) pd__J_I rfl (W := 0) (by decide) (by decide) (Nat.le_of_eq rfl) (by decide) (by decide) rfl rfl at_230 rfl fun T h859 v860 A Q861 => ?_
    obtain ⟨ev, eh⟩ := Q861
    obtain rfl := ev.trans (congrArg (fun z => some (Value.int z)) (show (fun r => if r = (posf q0 (1 : Int32) q1) then -1 else (fun r => if r = (posf q0 (2 : Int32) q1) then (((ush q2 (8 : Int32)) &&& (65535 : Int32)) + (2 : Int32)) else (fun r => if r = (posf q0 (1 : Int32) q1) then (((ush q2 (8 : Int32)) &&& (65535 : Int32)) + (1 : Int32)) else (fun r => if r = (posf q0 (0 : Int32) q1) then ((ush q2 (8 : Int32)) &&& (65535 : Int32)) else (fun _ => -1) r) r) r) r) (posf q0 (2 : Int32) q1) = (((ush q2 (8 : Int32)) &&& (65535 : Int32)) + (2 : Int32)) from (by simp only [pn_0_1, pn_0_2, pn_0_3, pn_0_4, pn_1_0, pn_1_2, pn_1_3, pn_1_4, pn_2_0, pn_2_1, pn_2_3, pn_2_4, pn_3_0, pn_3_1, pn_3_2, pn_3_4, pn_4_0, pn_4_1, pn_4_2, pn_4_3, if_true, if_false])))
    rw [eh] at A
    refine Wp.stk (st' := [(.int (((ush q2 (8 : Int32)) &&& (65535 : Int32)) + (2 : Int32)))]) rfl ?_
    refine s_iconst (pc' := 234) (z := (2 : Int32)) A at_233 rfl (by decide) ?_
    refine s_iload (pc' := 236) A at_234 rfl rfl ?_
    refine s_iload (pc' := 238) A at_236 rfl rfl ?_
    refine s_iload (pc' := 240) A at_238 rfl rfl ?_
    refine s_static (pc' := 243) (y := y8_check) (argsL := [(.int (((ush q2 (8 : Int32)) &&& (65535 : Int32)) + (2 : Int32))), (.int (2 : Int32)), (.int (3 : Int32)), (.int (1 : Int32)), (.int ((ush q2 (8 : Int32)) &&& (65535 : Int32)))]) (rest := []) A (m_in l Z a0 hw n0 h844 A.size (((ush q2 (8 : Int32)) &&& (65535 : Int32)) + (2 : Int32)) (2 : Int32) (3 : Int32) (1 : Int32) ((ush q2 (8 : Int32)) &&& (65535 : Int32)) (by decide) (by decide) rfl) (w48 hw) (w49 hw) (w2 hw) (w50 hw) (by decide) pd__IIIII_Z rfl (W := 0) (by decide) (by decide) (Nat.le_of_eq rfl) (by decide) (by decide) rfl rfl at_240 rfl fun T h862 v863 A Q864 => ?_
    obtain ⟨rfl, eh⟩ := Q864
    rw [eh] at A
    refine Wp.stk (st' := [(.int (1 : Int32))]) rfl ?_
    refine s_ifN (pc' := 246) A at_243 rfl (by decide) ?_
    refine s_aload (pc' := 248) A at_246 rfl rfl rfl ?_
    refine s_lload (pc' := 250) A at_248 rfl rfl ?_
    refine s_virtual (pc' := 253) (y := y0_get) (argsL := [(.long (posf q0 (3 : Int32) q1))]) (rest := []) (z := y0_get) A H840.1 (m_get l Z a0 hw n0 h844 A.size b795 a804 b805 z839 P837 N838 (fun r => if r = (posf q0 (1 : Int32) q1) then -1 else (fun r => if r = (posf q0 (2 : Int32) q1) then (((ush q2 (8 : Int32)) &&& (65535 : Int32)) + (2 : Int32)) else (fun r => if r = (posf q0 (1 : Int32) q1) then (((ush q2 (8 : Int32)) &&& (65535 : Int32)) + (1 : Int32)) else (fun r => if r = (posf q0 (0 : Int32) q1) then ((ush q2 (8 : Int32)) &&& (65535 : Int32)) else (fun _ => -1) r) r) r) r) (posf q0 (3 : Int32) q1) H840 HT841 f842 f842a f842b) (w43 hw) (w44 hw) (nf_same (C := "") (w46 hw)) (w46 hw) (w45 hw) (w7 hw) (w47 hw) (by decide) pd__J_I rfl (W := 0) (by decide) (by decide) (Nat.le_of_eq rfl) (by decide) (by decide) rfl rfl at_250 rfl fun T h865 v866 A Q867 => ?_
    obtain ⟨ev, eh⟩ := Q867
    obtain rfl := ev.trans (congrArg (fun z => some (Value.int z)) (show (fun r => if r = (posf q0 (1 : Int32) q1) then -1 else (fun r => if r = (posf q0 (2 : Int32) q1) then (((ush q2 (8 : Int32)) &&& (65535 : Int32)) + (2 : Int32)) else (fun r => if r = (posf q0 (1 : Int32) q1) then (((ush q2 (8 : Int32)) &&& (65535 : Int32)) + (1 : Int32)) else (fun r => if r = (posf q0 (0 : Int32) q1) then ((ush q2 (8 : Int32)) &&& (65535 : Int32)) else (fun _ => -1) r) r) r) r) (posf q0 (3 : Int32) q1) = (-1 : Int32) from (by simp only [pn_0_1, pn_0_2, pn_0_3, pn_0_4, pn_1_0, pn_1_2, pn_1_3, pn_1_4, pn_2_0, pn_2_1, pn_2_3, pn_2_4, pn_3_0, pn_3_1, pn_3_2, pn_3_4, pn_4_0, pn_4_1, pn_4_2, pn_4_3, if_true, if_false])))
    rw [eh] at A
    refine Wp.stk (st' := [(.int (-1 : Int32))]) rfl ?_
    refine s_iconst (pc' := 254) (z := (3 : Int32)) A at_253 rfl (by decide) ?_
    refine s_iload (pc' := 256) A at_254 rfl rfl ?_
    refine s_iload (pc' := 258) A at_256 rfl rfl ?_
    refine s_iload (pc' := 260) A at_258 rfl rfl ?_
    refine s_static (pc' := 263) (y := y8_check) (argsL := [(.int (-1 : Int32)), (.int (3 : Int32)), (.int (3 : Int32)), (.int (1 : Int32)), (.int ((ush q2 (8 : Int32)) &&& (65535 : Int32)))]) (rest := []) A (m_out l Z a0 hw n0 h844 A.size (-1 : Int32) (3 : Int32) (3 : Int32) (1 : Int32) ((ush q2 (8 : Int32)) &&& (65535 : Int32)) (Or.inl (by decide)) rfl) (w48 hw) (w49 hw) (w2 hw) (w50 hw) (by decide) pd__IIIII_Z rfl (W := 0) (by decide) (by decide) (Nat.le_of_eq rfl) (by decide) (by decide) rfl rfl at_260 rfl fun T h868 v869 A Q870 => ?_
    obtain ⟨rfl, eh⟩ := Q870
    rw [eh] at A
    refine Wp.stk (st' := [(.int (1 : Int32))]) rfl ?_
    refine s_ifN (pc' := 266) A at_263 rfl (by decide) ?_
    refine s_aload (pc' := 268) A at_266 rfl rfl rfl ?_
    refine s_lload (pc' := 270) A at_268 rfl rfl ?_
    refine s_virtual (pc' := 273) (y := y0_get) (argsL := [(.long (posf q0 (4 : Int32) q1))]) (rest := []) (z := y0_get) A H840.1 (m_get l Z a0 hw n0 h844 A.size b795 a804 b805 z839 P837 N838 (fun r => if r = (posf q0 (1 : Int32) q1) then -1 else (fun r => if r = (posf q0 (2 : Int32) q1) then (((ush q2 (8 : Int32)) &&& (65535 : Int32)) + (2 : Int32)) else (fun r => if r = (posf q0 (1 : Int32) q1) then (((ush q2 (8 : Int32)) &&& (65535 : Int32)) + (1 : Int32)) else (fun r => if r = (posf q0 (0 : Int32) q1) then ((ush q2 (8 : Int32)) &&& (65535 : Int32)) else (fun _ => -1) r) r) r) r) (posf q0 (4 : Int32) q1) H840 HT841 f842 f842a f842b) (w43 hw) (w44 hw) (nf_same (C := "") (w46 hw)) (w46 hw) (w45 hw) (w7 hw) (w47 hw) (by decide) pd__J_I rfl (W := 0) (by decide) (by decide) (Nat.le_of_eq rfl) (by decide) (by decide) rfl rfl at_270 rfl fun T h871 v872 A Q873 => ?_
    obtain ⟨ev, eh⟩ := Q873
    obtain rfl := ev.trans (congrArg (fun z => some (Value.int z)) (show (fun r => if r = (posf q0 (1 : Int32) q1) then -1 else (fun r => if r = (posf q0 (2 : Int32) q1) then (((ush q2 (8 : Int32)) &&& (65535 : Int32)) + (2 : Int32)) else (fun r => if r = (posf q0 (1 : Int32) q1) then (((ush q2 (8 : Int32)) &&& (65535 : Int32)) + (1 : Int32)) else (fun r => if r = (posf q0 (0 : Int32) q1) then ((ush q2 (8 : Int32)) &&& (65535 : Int32)) else (fun _ => -1) r) r) r) r) (posf q0 (4 : Int32) q1) = (-1 : Int32) from (by simp only [pn_0_1, pn_0_2, pn_0_3, pn_0_4, pn_1_0, pn_1_2, pn_1_3, pn_1_4, pn_2_0, pn_2_1, pn_2_3, pn_2_4, pn_3_0, pn_3_1, pn_3_2, pn_3_4, pn_4_0, pn_4_1, pn_4_2, pn_4_3, if_true, if_false])))
    rw [eh] at A
    refine Wp.stk (st' := [(.int (-1 : Int32))]) rfl ?_
    refine s_iconst (pc' := 274) (z := (4 : Int32)) A at_273 rfl (by decide) ?_
    refine s_iload (pc' := 276) A at_274 rfl rfl ?_
    refine s_iload (pc' := 278) A at_276 rfl rfl ?_
    refine s_iload (pc' := 280) A at_278 rfl rfl ?_
    refine s_static (pc' := 283) (y := y8_check) (argsL := [(.int (-1 : Int32)), (.int (4 : Int32)), (.int (3 : Int32)), (.int (1 : Int32)), (.int ((ush q2 (8 : Int32)) &&& (65535 : Int32)))]) (rest := []) A (m_out l Z a0 hw n0 h844 A.size (-1 : Int32) (4 : Int32) (3 : Int32) (1 : Int32) ((ush q2 (8 : Int32)) &&& (65535 : Int32)) (Or.inl (by decide)) rfl) (w48 hw) (w49 hw) (w2 hw) (w50 hw) (by decide) pd__IIIII_Z rfl (W := 0) (by decide) (by decide) (Nat.le_of_eq rfl) (by decide) (by decide) rfl rfl at_280 rfl fun T h874 v875 A Q876 => ?_
    obtain ⟨rfl, eh⟩ := Q876
    rw [eh] at A
    refine Wp.stk (st' := [(.int (1 : Int32))]) rfl ?_
    refine s_ifN (pc' := 286) A at_283 rfl (by decide) ?_
    refine s_iconst (pc' := 287) (z := (1 : Int32)) A at_286 rfl (by decide) ?_
    refine s_goto (pc' := 291) A at_287 (by decide) (by decide) ?_
    exact r_bool A rfl (by decide) at_291 (by decide) (by decide) (rfl)
   ·
    refine s_irem (pc' := 52) (z := (2 : Int32)) A at_51 rfl (by decide) hrr.symm ?_
    refine s_istore (pc' := 54) (Ls' := #[jv q0, S2, iv q1, iv q2, jv (posf q0 (0 : Int32) q1), S2, jv (posf q0 (1 : Int32) q1), S2, jv (posf q0 (2 : Int32) q1), S2, jv (posf q0 (3 : Int32) q1), S2, jv (posf q0 (4 : Int32) q1), S2, iv 3, iv 2, U0, U0, U0, U0]) A at_52 rfl rfl ?_
    refine s_iloadN (pc' := 55) A at_54 rfl rfl ?_
    refine s_bipush (pc' := 57) (z := (8 : Int32)) A at_55 rfl (by decide) ?_
    refine s_iushr (pc' := 58) (z := (ush q2 (8 : Int32))) A at_57 rfl rfl ?_
    refine s_ldcInt (pc' := 60) A at_58 rfl (w4 hw) ?_
    refine s_iand (pc' := 61) (z := ((ush q2 (8 : Int32)) &&& (65535 : Int32))) A at_60 rfl rfl ?_
    refine s_istore (pc' := 63) (Ls' := #[jv q0, S2, iv q1, iv q2, jv (posf q0 (0 : Int32) q1), S2, jv (posf q0 (1 : Int32) q1), S2, jv (posf q0 (2 : Int32) q1), S2, jv (posf q0 (3 : Int32) q1), S2, jv (posf q0 (4 : Int32) q1), S2, iv 3, iv 2, iv ((ush q2 (8 : Int32)) &&& (65535 : Int32)), U0, U0, U0]) A at_61 rfl rfl ?_
    refine s_new (pc' := 66) A (w5 hw) (w6 hw) (w7 hw) (by decide) (by decide) at_63 rfl fun T h877 b878 A g879 ge880 X881 E882 D883 => ?_
    have F884 : Fld Z h877 b878 "com/example/wirefram/wirefram/sequence/PositionIndex" "positions" "[J" .null := D883 (Or.inl (w16 hw)) (ty := (.array .long)) (by decide)
    have F885 : Fld Z h877 b878 "com/example/wirefram/wirefram/sequence/PositionIndex" "numbers" "[I" .null := D883 (Or.inl (w26 hw)) (ty := (.array .int)) (by decide)
    have F886 : Fld Z h877 b878 "com/example/wirefram/wirefram/sequence/PositionIndex" "size" "I" (.int (0 : Int32)) := D883 (Or.inl (w33 hw)) (ty := .int) (by decide)
    refine s_dup (pc' := 67) A at_66 rfl rfl ?_
    refine s_special (pc' := 70) (y := y6_init) (argsL := []) (rest := [(.ref b878)]) A (m_init l Z a0 hw n0 h877 A.size b878 E882 F884 F885 F886 ge880) rfl (w8 hw) (w9 hw) (w7 hw) (w10 hw) (by decide) pd___V rfl (W := 1) (by decide) (by decide) (Nat.le_of_eq rfl) (by decide) (by decide) rfl rfl at_67 rfl fun T h890 v891 A Q892 => ?_
    obtain ⟨rfl, a887, b888, H889⟩ := Q892
    refine Wp.stk (st' := [(.ref b878)]) rfl ?_
    refine s_astore (pc' := 72) (Ls' := #[jv q0, S2, iv q1, iv q2, jv (posf q0 (0 : Int32) q1), S2, jv (posf q0 (1 : Int32) q1), S2, jv (posf q0 (2 : Int32) q1), S2, jv (posf q0 (3 : Int32) q1), S2, jv (posf q0 (4 : Int32) q1), S2, iv 3, iv 2, iv ((ush q2 (8 : Int32)) &&& (65535 : Int32)), rv b878, U0, U0]) A at_70 rfl rfl rfl ?_
    refine s_aload (pc' := 74) A at_72 rfl rfl rfl ?_
    refine s_lload (pc' := 76) A at_74 rfl rfl ?_
    refine s_iload (pc' := 78) A at_76 rfl rfl ?_
    obtain ⟨fr898, fr898a, fr898b⟩ := Free.ex (c := 15) own_free0
    refine s_virtual (pc' := 81) (y := y2_put) (argsL := [(.long (posf q0 (0 : Int32) q1)), (.int ((ush q2 (8 : Int32)) &&& (65535 : Int32)))]) (rest := []) (z := y2_put) A H889.1 (m_put l Z a0 hw n0 h890 A.size b878 a887 b888 0 (fun _ => 0) (fun _ => -1) (fun _ => -1) H889 (posf q0 (0 : Int32) q1) ((ush q2 (8 : Int32)) &&& (65535 : Int32)) 1 (own_tab0 (fun _ => 0)) fr898 fr898a fr898b (own_nb0 q2) rfl (by decide) (by decide)) (w27 hw) (w28 hw) (nf_same (C := "") (w30 hw)) (w30 hw) (w29 hw) (w7 hw) (w31 hw) (by decide) pd__JI_V rfl (W := 0) (by decide) (by decide) (Nat.le_of_eq rfl) (by decide) (by decide) rfl rfl at_78 rfl fun T h899 v900 A Q901 => ?_
    obtain ⟨rfl, P893, N894, H895, HT896, FR897⟩ := Q901
    have FR897 := FR897 15 own_free0
    refine Wp.stk (st' := []) rfl ?_
    refine s_iload (pc' := 83) A at_81 rfl rfl ?_
    refine s_iconst (pc' := 84) (z := (1 : Int32)) A at_83 rfl (by decide) ?_
    refine s_icmpN (pc' := 87) A at_84 rfl (by decide) ?_
    refine s_aload (pc' := 89) A at_87 rfl rfl rfl ?_
    refine s_lload (pc' := 91) A at_89 rfl rfl ?_
    refine s_iload (pc' := 93) A at_91 rfl rfl ?_
    refine s_iconst (pc' := 94) (z := (1 : Int32)) A at_93 rfl (by decide) ?_
    refine s_iadd (pc' := 95) (z := (((ush q2 (8 : Int32)) &&& (65535 : Int32)) + (1 : Int32))) A at_94 rfl rfl ?_
    obtain ⟨fr907, fr907a, fr907b⟩ := Free.ex (c := 14) FR897
    refine s_virtual (pc' := 98) (y := y2_put) (argsL := [(.long (posf q0 (1 : Int32) q1)), (.int (((ush q2 (8 : Int32)) &&& (65535 : Int32)) + (1 : Int32)))]) (rest := []) (z := y2_put) A H895.1 (m_put l Z a0 hw n0 h899 A.size b878 a887 b888 1 P893 N894 (fun r => if r = (posf q0 (0 : Int32) q1) then ((ush q2 (8 : Int32)) &&& (65535 : Int32)) else (fun _ => -1) r) H895 (posf q0 (1 : Int32) q1) (((ush q2 (8 : Int32)) &&& (65535 : Int32)) + (1 : Int32)) 2 HT896 fr907 fr907a fr907b (own_nb1 q2) (by simp only [pn_0_1, pn_0_2, pn_0_3, pn_0_4, pn_1_0, pn_1_2, pn_1_3, pn_1_4, pn_2_0, pn_2_1, pn_2_3, pn_2_4, pn_3_0, pn_3_1, pn_3_2, pn_3_4, pn_4_0, pn_4_1, pn_4_2, pn_4_3, if_true, if_false]) (by decide) (by decide)) (w27 hw) (w28 hw) (nf_same (C := "") (w30 hw)) (w30 hw) (w29 hw) (w7 hw) (w31 hw) (by decide) pd__JI_V rfl (W := 0) (by decide) (by decide) (Nat.le_of_eq rfl) (by decide) (by decide) rfl rfl at_95 rfl fun T h908 v909 A Q910 => ?_
    obtain ⟨rfl, P902, N903, H904, HT905, FR906⟩ := Q910
    have FR906 := FR906 14 FR897
    refine Wp.stk (st' := []) rfl ?_
    refine s_iload (pc' := 100) A at_98 rfl rfl ?_
    refine s_iconst (pc' := 101) (z := (2 : Int32)) A at_100 rfl (by decide) ?_
    refine s_icmpN (pc' := 104) A at_101 rfl (by decide) ?_
    refine s_aload (pc' := 106) A at_104 rfl rfl rfl ?_
    refine s_lload (pc' := 108) A at_106 rfl rfl ?_
    refine s_iload (pc' := 110) A at_108 rfl rfl ?_
    refine s_iconst (pc' := 111) (z := (2 : Int32)) A at_110 rfl (by decide) ?_
    refine s_iadd (pc' := 112) (z := (((ush q2 (8 : Int32)) &&& (65535 : Int32)) + (2 : Int32))) A at_111 rfl rfl ?_
    obtain ⟨fr916, fr916a, fr916b⟩ := Free.ex (c := 13) FR906
    refine s_virtual (pc' := 115) (y := y2_put) (argsL := [(.long (posf q0 (2 : Int32) q1)), (.int (((ush q2 (8 : Int32)) &&& (65535 : Int32)) + (2 : Int32)))]) (rest := []) (z := y2_put) A H904.1 (m_put l Z a0 hw n0 h908 A.size b878 a887 b888 2 P902 N903 (fun r => if r = (posf q0 (1 : Int32) q1) then (((ush q2 (8 : Int32)) &&& (65535 : Int32)) + (1 : Int32)) else (fun r => if r = (posf q0 (0 : Int32) q1) then ((ush q2 (8 : Int32)) &&& (65535 : Int32)) else (fun _ => -1) r) r) H904 (posf q0 (2 : Int32) q1) (((ush q2 (8 : Int32)) &&& (65535 : Int32)) + (2 : Int32)) 3 HT905 fr916 fr916a fr916b (own_nb2 q2) (by simp only [pn_0_1, pn_0_2, pn_0_3, pn_0_4, pn_1_0, pn_1_2, pn_1_3, pn_1_4, pn_2_0, pn_2_1, pn_2_3, pn_2_4, pn_3_0, pn_3_1, pn_3_2, pn_3_4, pn_4_0, pn_4_1, pn_4_2, pn_4_3, if_true, if_false]) (by decide) (by decide)) (w27 hw) (w28 hw) (nf_same (C := "") (w30 hw)) (w30 hw) (w29 hw) (w7 hw) (w31 hw) (by decide) pd__JI_V rfl (W := 0) (by decide) (by decide) (Nat.le_of_eq rfl) (by decide) (by decide) rfl rfl at_112 rfl fun T h917 v918 A Q919 => ?_
    obtain ⟨rfl, P911, N912, H913, HT914, FR915⟩ := Q919
    have FR915 := FR915 13 FR906
    refine Wp.stk (st' := []) rfl ?_
    refine s_iload (pc' := 117) A at_115 rfl rfl ?_
    refine s_iconst (pc' := 118) (z := (3 : Int32)) A at_117 rfl (by decide) ?_
    refine s_icmpY (pc' := 132) A at_118 (by decide) (by decide) (by decide) ?_
    refine s_iload (pc' := 134) A at_132 rfl rfl ?_
    refine s_ifY (pc' := 142) A at_134 (by decide) (by decide) (by decide) ?_
    refine s_iload (pc' := 144) A at_142 rfl rfl ?_
    refine s_iconst (pc' := 145) (z := (1 : Int32)) A at_144 rfl (by decide) ?_
    refine s_icmpY (pc' := 153) A at_145 (by decide) (by decide) (by decide) ?_
    refine s_iload (pc' := 155) A at_153 rfl rfl ?_
    refine s_iconst (pc' := 156) (z := (2 : Int32)) A at_155 rfl (by decide) ?_
    refine s_icmpN (pc' := 159) A at_156 rfl (by decide) ?_
    refine s_lload (pc' := 161) A at_159 rfl rfl ?_
    refine s_goto (pc' := 177) A at_161 (by decide) (by decide) ?_
    refine s_lstore (pc' := 179) (Ls' := #[jv q0, S2, iv q1, iv q2, jv (posf q0 (0 : Int32) q1), S2, jv (posf q0 (1 : Int32) q1), S2, jv (posf q0 (2 : Int32) q1), S2, jv (posf q0 (3 : Int32) q1), S2, jv (posf q0 (4 : Int32) q1), S2, iv 3, iv 2, iv ((ush q2 (8 : Int32)) &&& (65535 : Int32)), rv b878, jv (posf q0 (2 : Int32) q1), S2]) A at_177 rfl rfl ?_
    refine s_aload (pc' := 181) A at_179 rfl rfl rfl ?_
    refine s_lload (pc' := 183) A at_181 rfl rfl ?_
    obtain ⟨fr926, fr926a, fr926b⟩ := Free.ex (c := 12) FR915
    refine s_virtual (pc' := 186) (y := y3_remove) (argsL := [(.long (posf q0 (2 : Int32) q1))]) (rest := []) (z := y3_remove) A H913.1 (m_rem l Z a0 hw n0 h917 A.size b878 a887 b888 3 P911 N912 (fun r => if r = (posf q0 (2 : Int32) q1) then (((ush q2 (8 : Int32)) &&& (65535 : Int32)) + (2 : Int32)) else (fun r => if r = (posf q0 (1 : Int32) q1) then (((ush q2 (8 : Int32)) &&& (65535 : Int32)) + (1 : Int32)) else (fun r => if r = (posf q0 (0 : Int32) q1) then ((ush q2 (8 : Int32)) &&& (65535 : Int32)) else (fun _ => -1) r) r) r) (posf q0 (2 : Int32) q1) H913 HT914 fr926 fr926a fr926b) (w38 hw) (w39 hw) (nf_same (C := "") (w41 hw)) (w41 hw) (w40 hw) (w7 hw) (w42 hw) (by decide) pd__J_V rfl (W := 0) (by decide) (by decide) (Nat.le_of_eq rfl) (by decide) (by decide) rfl rfl at_183 rfl fun T h927 v928 A Q929 => ?_
    obtain ⟨rfl, P920, N921, z922, H923, HT924, f925, f925a, f925b⟩ := Q929
    refine Wp.stk (st' := []) rfl ?_
    refine s_aload (pc' := 188) A at_186 rfl rfl rfl ?_
    refine s_lload (pc' := 190) A at_188 rfl rfl ?_
    refine s_virtual (pc' := 193) (y := y0_get) (argsL := [(.long (posf q0 (0 : Int32) q1))]) (rest := []) (z := y0_get) A H923.1 (m_get l Z a0 hw n0 h927 A.size b878 a887 b888 z922 P920 N921 (fun r => if r = (posf q0 (2 : Int32) q1) then -1 else (fun r => if r = (posf q0 (2 : Int32) q1) then (((ush q2 (8 : Int32)) &&& (65535 : Int32)) + (2 : Int32)) else (fun r => if r = (posf q0 (1 : Int32) q1) then (((ush q2 (8 : Int32)) &&& (65535 : Int32)) + (1 : Int32)) else (fun r => if r = (posf q0 (0 : Int32) q1) then ((ush q2 (8 : Int32)) &&& (65535 : Int32)) else (fun _ => -1) r) r) r) r) (posf q0 (0 : Int32) q1) H923 HT924 f925 f925a f925b) (w43 hw) (w44 hw) (nf_same (C := "") (w46 hw)) (w46 hw) (w45 hw) (w7 hw) (w47 hw) (by decide) pd__J_I rfl (W := 0) (by decide) (by decide) (Nat.le_of_eq rfl) (by decide) (by decide) rfl rfl at_190 rfl fun T h930 v931 A Q932 => ?_
    obtain ⟨ev, eh⟩ := Q932
    obtain rfl := ev.trans (congrArg (fun z => some (Value.int z)) (show (fun r => if r = (posf q0 (2 : Int32) q1) then -1 else (fun r => if r = (posf q0 (2 : Int32) q1) then (((ush q2 (8 : Int32)) &&& (65535 : Int32)) + (2 : Int32)) else (fun r => if r = (posf q0 (1 : Int32) q1) then (((ush q2 (8 : Int32)) &&& (65535 : Int32)) + (1 : Int32)) else (fun r => if r = (posf q0 (0 : Int32) q1) then ((ush q2 (8 : Int32)) &&& (65535 : Int32)) else (fun _ => -1) r) r) r) r) (posf q0 (0 : Int32) q1) = ((ush q2 (8 : Int32)) &&& (65535 : Int32)) from (by simp only [pn_0_1, pn_0_2, pn_0_3, pn_0_4, pn_1_0, pn_1_2, pn_1_3, pn_1_4, pn_2_0, pn_2_1, pn_2_3, pn_2_4, pn_3_0, pn_3_1, pn_3_2, pn_3_4, pn_4_0, pn_4_1, pn_4_2, pn_4_3, if_true, if_false])))
    rw [eh] at A
    refine Wp.stk (st' := [(.int ((ush q2 (8 : Int32)) &&& (65535 : Int32)))]) rfl ?_
    refine s_iconst (pc' := 194) (z := (0 : Int32)) A at_193 rfl (by decide) ?_
    refine s_iload (pc' := 196) A at_194 rfl rfl ?_
    refine s_iload (pc' := 198) A at_196 rfl rfl ?_
    refine s_iload (pc' := 200) A at_198 rfl rfl ?_
    refine s_static (pc' := 203) (y := y8_check) (argsL := [(.int ((ush q2 (8 : Int32)) &&& (65535 : Int32))), (.int (0 : Int32)), (.int (3 : Int32)), (.int (2 : Int32)), (.int ((ush q2 (8 : Int32)) &&& (65535 : Int32)))]) (rest := []) A (m_in l Z a0 hw n0 h927 A.size ((ush q2 (8 : Int32)) &&& (65535 : Int32)) (0 : Int32) (3 : Int32) (2 : Int32) ((ush q2 (8 : Int32)) &&& (65535 : Int32)) (by decide) (by decide) (Int32.add_zero _).symm) (w48 hw) (w49 hw) (w2 hw) (w50 hw) (by decide) pd__IIIII_Z rfl (W := 0) (by decide) (by decide) (Nat.le_of_eq rfl) (by decide) (by decide) rfl rfl at_200 rfl fun T h933 v934 A Q935 => ?_
    obtain ⟨rfl, eh⟩ := Q935
    rw [eh] at A
    refine Wp.stk (st' := [(.int (1 : Int32))]) rfl ?_
    refine s_ifN (pc' := 206) A at_203 rfl (by decide) ?_
    refine s_aload (pc' := 208) A at_206 rfl rfl rfl ?_
    refine s_lload (pc' := 210) A at_208 rfl rfl ?_
    refine s_virtual (pc' := 213) (y := y0_get) (argsL := [(.long (posf q0 (1 : Int32) q1))]) (rest := []) (z := y0_get) A H923.1 (m_get l Z a0 hw n0 h927 A.size b878 a887 b888 z922 P920 N921 (fun r => if r = (posf q0 (2 : Int32) q1) then -1 else (fun r => if r = (posf q0 (2 : Int32) q1) then (((ush q2 (8 : Int32)) &&& (65535 : Int32)) + (2 : Int32)) else (fun r => if r = (posf q0 (1 : Int32) q1) then (((ush q2 (8 : Int32)) &&& (65535 : Int32)) + (1 : Int32)) else (fun r => if r = (posf q0 (0 : Int32) q1) then ((ush q2 (8 : Int32)) &&& (65535 : Int32)) else (fun _ => -1) r) r) r) r) (posf q0 (1 : Int32) q1) H923 HT924 f925 f925a f925b) (w43 hw) (w44 hw) (nf_same (C := "") (w46 hw)) (w46 hw) (w45 hw) (w7 hw) (w47 hw) (by decide) pd__J_I rfl (W := 0) (by decide) (by decide) (Nat.le_of_eq rfl) (by decide) (by decide) rfl rfl at_210 rfl fun T h936 v937 A Q938 => ?_
    obtain ⟨ev, eh⟩ := Q938
    obtain rfl := ev.trans (congrArg (fun z => some (Value.int z)) (show (fun r => if r = (posf q0 (2 : Int32) q1) then -1 else (fun r => if r = (posf q0 (2 : Int32) q1) then (((ush q2 (8 : Int32)) &&& (65535 : Int32)) + (2 : Int32)) else (fun r => if r = (posf q0 (1 : Int32) q1) then (((ush q2 (8 : Int32)) &&& (65535 : Int32)) + (1 : Int32)) else (fun r => if r = (posf q0 (0 : Int32) q1) then ((ush q2 (8 : Int32)) &&& (65535 : Int32)) else (fun _ => -1) r) r) r) r) (posf q0 (1 : Int32) q1) = (((ush q2 (8 : Int32)) &&& (65535 : Int32)) + (1 : Int32)) from (by simp only [pn_0_1, pn_0_2, pn_0_3, pn_0_4, pn_1_0, pn_1_2, pn_1_3, pn_1_4, pn_2_0, pn_2_1, pn_2_3, pn_2_4, pn_3_0, pn_3_1, pn_3_2, pn_3_4, pn_4_0, pn_4_1, pn_4_2, pn_4_3, if_true, if_false])))
    rw [eh] at A
    refine Wp.stk (st' := [(.int (((ush q2 (8 : Int32)) &&& (65535 : Int32)) + (1 : Int32)))]) rfl ?_
    refine s_iconst (pc' := 214) (z := (1 : Int32)) A at_213 rfl (by decide) ?_
    refine s_iload (pc' := 216) A at_214 rfl rfl ?_
    refine s_iload (pc' := 218) A at_216 rfl rfl ?_
    refine s_iload (pc' := 220) A at_218 rfl rfl ?_
    refine s_static (pc' := 223) (y := y8_check) (argsL := [(.int (((ush q2 (8 : Int32)) &&& (65535 : Int32)) + (1 : Int32))), (.int (1 : Int32)), (.int (3 : Int32)), (.int (2 : Int32)), (.int ((ush q2 (8 : Int32)) &&& (65535 : Int32)))]) (rest := []) A (m_in l Z a0 hw n0 h927 A.size (((ush q2 (8 : Int32)) &&& (65535 : Int32)) + (1 : Int32)) (1 : Int32) (3 : Int32) (2 : Int32) ((ush q2 (8 : Int32)) &&& (65535 : Int32)) (by decide) (by decide) rfl) (w48 hw) (w49 hw) (w2 hw) (w50 hw) (by decide) pd__IIIII_Z rfl (W := 0) (by decide) (by decide) (Nat.le_of_eq rfl) (by decide) (by decide) rfl rfl at_220 rfl fun T h939 v940 A Q941 => ?_
    obtain ⟨rfl, eh⟩ := Q941
    rw [eh] at A
    refine Wp.stk (st' := [(.int (1 : Int32))]) rfl ?_
    refine s_ifN (pc' := 226) A at_223 rfl (by decide) ?_
    refine s_aload (pc' := 228) A at_226 rfl rfl rfl ?_
    refine s_lload (pc' := 230) A at_228 rfl rfl ?_
    refine s_virtual (pc' := 233) (y := y0_get) (argsL := [(.long (posf q0 (2 : Int32) q1))]) (rest := []) (z := y0_get) A H923.1 (m_get l Z a0 hw n0 h927 A.size b878 a887 b888 z922 P920 N921 (fun r => if r = (posf q0 (2 : Int32) q1) then -1 else (fun r => if r = (posf q0 (2 : Int32) q1) then (((ush q2 (8 : Int32)) &&& (65535 : Int32)) + (2 : Int32)) else (fun r => if r = (posf q0 (1 : Int32) q1) then (((ush q2 (8 : Int32)) &&& (65535 : Int32)) + (1 : Int32)) else (fun r => if r = (posf q0 (0 : Int32) q1) then ((ush q2 (8 : Int32)) &&& (65535 : Int32)) else (fun _ => -1) r) r) r) r) (posf q0 (2 : Int32) q1) H923 HT924 f925 f925a f925b) (w43 hw) (w44 hw) (nf_same (C := "") (w46 hw)) (w46 hw) (w45 hw) (w7 hw) (w47 hw) (by decide) pd__J_I rfl (W := 0) (by decide) (by decide) (Nat.le_of_eq rfl) (by decide) (by decide) rfl rfl at_230 rfl fun T h942 v943 A Q944 => ?_
    obtain ⟨ev, eh⟩ := Q944
    obtain rfl := ev.trans (congrArg (fun z => some (Value.int z)) (show (fun r => if r = (posf q0 (2 : Int32) q1) then -1 else (fun r => if r = (posf q0 (2 : Int32) q1) then (((ush q2 (8 : Int32)) &&& (65535 : Int32)) + (2 : Int32)) else (fun r => if r = (posf q0 (1 : Int32) q1) then (((ush q2 (8 : Int32)) &&& (65535 : Int32)) + (1 : Int32)) else (fun r => if r = (posf q0 (0 : Int32) q1) then ((ush q2 (8 : Int32)) &&& (65535 : Int32)) else (fun _ => -1) r) r) r) r) (posf q0 (2 : Int32) q1) = (-1 : Int32) from (by simp only [pn_0_1, pn_0_2, pn_0_3, pn_0_4, pn_1_0, pn_1_2, pn_1_3, pn_1_4, pn_2_0, pn_2_1, pn_2_3, pn_2_4, pn_3_0, pn_3_1, pn_3_2, pn_3_4, pn_4_0, pn_4_1, pn_4_2, pn_4_3, if_true, if_false])))
    rw [eh] at A
    refine Wp.stk (st' := [(.int (-1 : Int32))]) rfl ?_
    refine s_iconst (pc' := 234) (z := (2 : Int32)) A at_233 rfl (by decide) ?_
    refine s_iload (pc' := 236) A at_234 rfl rfl ?_
    refine s_iload (pc' := 238) A at_236 rfl rfl ?_
    refine s_iload (pc' := 240) A at_238 rfl rfl ?_
    refine s_static (pc' := 243) (y := y8_check) (argsL := [(.int (-1 : Int32)), (.int (2 : Int32)), (.int (3 : Int32)), (.int (2 : Int32)), (.int ((ush q2 (8 : Int32)) &&& (65535 : Int32)))]) (rest := []) A (m_out l Z a0 hw n0 h927 A.size (-1 : Int32) (2 : Int32) (3 : Int32) (2 : Int32) ((ush q2 (8 : Int32)) &&& (65535 : Int32)) (Or.inr rfl) rfl) (w48 hw) (w49 hw) (w2 hw) (w50 hw) (by decide) pd__IIIII_Z rfl (W := 0) (by decide) (by decide) (Nat.le_of_eq rfl) (by decide) (by decide) rfl rfl at_240 rfl fun T h945 v946 A Q947 => ?_
    obtain ⟨rfl, eh⟩ := Q947
    rw [eh] at A
    refine Wp.stk (st' := [(.int (1 : Int32))]) rfl ?_
    refine s_ifN (pc' := 246) A at_243 rfl (by decide) ?_
    refine s_aload (pc' := 248) A at_246 rfl rfl rfl ?_
    refine s_lload (pc' := 250) A at_248 rfl rfl ?_
    refine s_virtual (pc' := 253) (y := y0_get) (argsL := [(.long (posf q0 (3 : Int32) q1))]) (rest := []) (z := y0_get) A H923.1 (m_get l Z a0 hw n0 h927 A.size b878 a887 b888 z922 P920 N921 (fun r => if r = (posf q0 (2 : Int32) q1) then -1 else (fun r => if r = (posf q0 (2 : Int32) q1) then (((ush q2 (8 : Int32)) &&& (65535 : Int32)) + (2 : Int32)) else (fun r => if r = (posf q0 (1 : Int32) q1) then (((ush q2 (8 : Int32)) &&& (65535 : Int32)) + (1 : Int32)) else (fun r => if r = (posf q0 (0 : Int32) q1) then ((ush q2 (8 : Int32)) &&& (65535 : Int32)) else (fun _ => -1) r) r) r) r) (posf q0 (3 : Int32) q1) H923 HT924 f925 f925a f925b) (w43 hw) (w44 hw) (nf_same (C := "") (w46 hw)) (w46 hw) (w45 hw) (w7 hw) (w47 hw) (by decide) pd__J_I rfl (W := 0) (by decide) (by decide) (Nat.le_of_eq rfl) (by decide) (by decide) rfl rfl at_250 rfl fun T h948 v949 A Q950 => ?_
    obtain ⟨ev, eh⟩ := Q950
    obtain rfl := ev.trans (congrArg (fun z => some (Value.int z)) (show (fun r => if r = (posf q0 (2 : Int32) q1) then -1 else (fun r => if r = (posf q0 (2 : Int32) q1) then (((ush q2 (8 : Int32)) &&& (65535 : Int32)) + (2 : Int32)) else (fun r => if r = (posf q0 (1 : Int32) q1) then (((ush q2 (8 : Int32)) &&& (65535 : Int32)) + (1 : Int32)) else (fun r => if r = (posf q0 (0 : Int32) q1) then ((ush q2 (8 : Int32)) &&& (65535 : Int32)) else (fun _ => -1) r) r) r) r) (posf q0 (3 : Int32) q1) = (-1 : Int32) from (by simp only [pn_0_1, pn_0_2, pn_0_3, pn_0_4, pn_1_0, pn_1_2, pn_1_3, pn_1_4, pn_2_0, pn_2_1, pn_2_3, pn_2_4, pn_3_0, pn_3_1, pn_3_2, pn_3_4, pn_4_0, pn_4_1, pn_4_2, pn_4_3, if_true, if_false])))
    rw [eh] at A
    refine Wp.stk (st' := [(.int (-1 : Int32))]) rfl ?_
    refine s_iconst (pc' := 254) (z := (3 : Int32)) A at_253 rfl (by decide) ?_
    refine s_iload (pc' := 256) A at_254 rfl rfl ?_
    refine s_iload (pc' := 258) A at_256 rfl rfl ?_
    refine s_iload (pc' := 260) A at_258 rfl rfl ?_
    refine s_static (pc' := 263) (y := y8_check) (argsL := [(.int (-1 : Int32)), (.int (3 : Int32)), (.int (3 : Int32)), (.int (2 : Int32)), (.int ((ush q2 (8 : Int32)) &&& (65535 : Int32)))]) (rest := []) A (m_out l Z a0 hw n0 h927 A.size (-1 : Int32) (3 : Int32) (3 : Int32) (2 : Int32) ((ush q2 (8 : Int32)) &&& (65535 : Int32)) (Or.inl (by decide)) rfl) (w48 hw) (w49 hw) (w2 hw) (w50 hw) (by decide) pd__IIIII_Z rfl (W := 0) (by decide) (by decide) (Nat.le_of_eq rfl) (by decide) (by decide) rfl rfl at_260 rfl fun T h951 v952 A Q953 => ?_
    obtain ⟨rfl, eh⟩ := Q953
    rw [eh] at A
    refine Wp.stk (st' := [(.int (1 : Int32))]) rfl ?_
    refine s_ifN (pc' := 266) A at_263 rfl (by decide) ?_
    refine s_aload (pc' := 268) A at_266 rfl rfl rfl ?_
    refine s_lload (pc' := 270) A at_268 rfl rfl ?_
    refine s_virtual (pc' := 273) (y := y0_get) (argsL := [(.long (posf q0 (4 : Int32) q1))]) (rest := []) (z := y0_get) A H923.1 (m_get l Z a0 hw n0 h927 A.size b878 a887 b888 z922 P920 N921 (fun r => if r = (posf q0 (2 : Int32) q1) then -1 else (fun r => if r = (posf q0 (2 : Int32) q1) then (((ush q2 (8 : Int32)) &&& (65535 : Int32)) + (2 : Int32)) else (fun r => if r = (posf q0 (1 : Int32) q1) then (((ush q2 (8 : Int32)) &&& (65535 : Int32)) + (1 : Int32)) else (fun r => if r = (posf q0 (0 : Int32) q1) then ((ush q2 (8 : Int32)) &&& (65535 : Int32)) else (fun _ => -1) r) r) r) r) (posf q0 (4 : Int32) q1) H923 HT924 f925 f925a f925b) (w43 hw) (w44 hw) (nf_same (C := "") (w46 hw)) (w46 hw) (w45 hw) (w7 hw) (w47 hw) (by decide) pd__J_I rfl (W := 0) (by decide) (by decide) (Nat.le_of_eq rfl) (by decide) (by decide) rfl rfl at_270 rfl fun T h954 v955 A Q956 => ?_
    obtain ⟨ev, eh⟩ := Q956
    obtain rfl := ev.trans (congrArg (fun z => some (Value.int z)) (show (fun r => if r = (posf q0 (2 : Int32) q1) then -1 else (fun r => if r = (posf q0 (2 : Int32) q1) then (((ush q2 (8 : Int32)) &&& (65535 : Int32)) + (2 : Int32)) else (fun r => if r = (posf q0 (1 : Int32) q1) then (((ush q2 (8 : Int32)) &&& (65535 : Int32)) + (1 : Int32)) else (fun r => if r = (posf q0 (0 : Int32) q1) then ((ush q2 (8 : Int32)) &&& (65535 : Int32)) else (fun _ => -1) r) r) r) r) (posf q0 (4 : Int32) q1) = (-1 : Int32) from (by simp only [pn_0_1, pn_0_2, pn_0_3, pn_0_4, pn_1_0, pn_1_2, pn_1_3, pn_1_4, pn_2_0, pn_2_1, pn_2_3, pn_2_4, pn_3_0, pn_3_1, pn_3_2, pn_3_4, pn_4_0, pn_4_1, pn_4_2, pn_4_3, if_true, if_false])))
    rw [eh] at A
    refine Wp.stk (st' := [(.int (-1 : Int32))]) rfl ?_
    refine s_iconst (pc' := 274) (z := (4 : Int32)) A at_273 rfl (by decide) ?_
    refine s_iload (pc' := 276) A at_274 rfl rfl ?_
    refine s_iload (pc' := 278) A at_276 rfl rfl ?_
    refine s_iload (pc' := 280) A at_278 rfl rfl ?_
    refine s_static (pc' := 283) (y := y8_check) (argsL := [(.int (-1 : Int32)), (.int (4 : Int32)), (.int (3 : Int32)), (.int (2 : Int32)), (.int ((ush q2 (8 : Int32)) &&& (65535 : Int32)))]) (rest := []) A (m_out l Z a0 hw n0 h927 A.size (-1 : Int32) (4 : Int32) (3 : Int32) (2 : Int32) ((ush q2 (8 : Int32)) &&& (65535 : Int32)) (Or.inl (by decide)) rfl) (w48 hw) (w49 hw) (w2 hw) (w50 hw) (by decide) pd__IIIII_Z rfl (W := 0) (by decide) (by decide) (Nat.le_of_eq rfl) (by decide) (by decide) rfl rfl at_280 rfl fun T h957 v958 A Q959 => ?_
    obtain ⟨rfl, eh⟩ := Q959
    rw [eh] at A
    refine Wp.stk (st' := [(.int (1 : Int32))]) rfl ?_
    refine s_ifN (pc' := 286) A at_283 rfl (by decide) ?_
    refine s_iconst (pc' := 287) (z := (1 : Int32)) A at_286 rfl (by decide) ?_
    refine s_goto (pc' := 291) A at_287 (by decide) (by decide) ?_
    exact r_bool A rfl (by decide) at_291 (by decide) (by decide) (rfl)
   ·
    refine s_irem (pc' := 52) (z := (3 : Int32)) A at_51 rfl (by decide) hrr.symm ?_
    refine s_istore (pc' := 54) (Ls' := #[jv q0, S2, iv q1, iv q2, jv (posf q0 (0 : Int32) q1), S2, jv (posf q0 (1 : Int32) q1), S2, jv (posf q0 (2 : Int32) q1), S2, jv (posf q0 (3 : Int32) q1), S2, jv (posf q0 (4 : Int32) q1), S2, iv 3, iv 3, U0, U0, U0, U0]) A at_52 rfl rfl ?_
    refine s_iloadN (pc' := 55) A at_54 rfl rfl ?_
    refine s_bipush (pc' := 57) (z := (8 : Int32)) A at_55 rfl (by decide) ?_
    refine s_iushr (pc' := 58) (z := (ush q2 (8 : Int32))) A at_57 rfl rfl ?_
    refine s_ldcInt (pc' := 60) A at_58 rfl (w4 hw) ?_
    refine s_iand (pc' := 61) (z := ((ush q2 (8 : Int32)) &&& (65535 : Int32))) A at_60 rfl rfl ?_
    refine s_istore (pc' := 63) (Ls' := #[jv q0, S2, iv q1, iv q2, jv (posf q0 (0 : Int32) q1), S2, jv (posf q0 (1 : Int32) q1), S2, jv (posf q0 (2 : Int32) q1), S2, jv (posf q0 (3 : Int32) q1), S2, jv (posf q0 (4 : Int32) q1), S2, iv 3, iv 3, iv ((ush q2 (8 : Int32)) &&& (65535 : Int32)), U0, U0, U0]) A at_61 rfl rfl ?_
    refine s_new (pc' := 66) A (w5 hw) (w6 hw) (w7 hw) (by decide) (by decide) at_63 rfl fun T h960 b961 A g962 ge963 X964 E965 D966 => ?_
    have F967 : Fld Z h960 b961 "com/example/wirefram/wirefram/sequence/PositionIndex" "positions" "[J" .null := D966 (Or.inl (w16 hw)) (ty := (.array .long)) (by decide)
    have F968 : Fld Z h960 b961 "com/example/wirefram/wirefram/sequence/PositionIndex" "numbers" "[I" .null := D966 (Or.inl (w26 hw)) (ty := (.array .int)) (by decide)
    have F969 : Fld Z h960 b961 "com/example/wirefram/wirefram/sequence/PositionIndex" "size" "I" (.int (0 : Int32)) := D966 (Or.inl (w33 hw)) (ty := .int) (by decide)
    refine s_dup (pc' := 67) A at_66 rfl rfl ?_
    refine s_special (pc' := 70) (y := y6_init) (argsL := []) (rest := [(.ref b961)]) A (m_init l Z a0 hw n0 h960 A.size b961 E965 F967 F968 F969 ge963) rfl (w8 hw) (w9 hw) (w7 hw) (w10 hw) (by decide) pd___V rfl (W := 1) (by decide) (by decide) (Nat.le_of_eq rfl) (by decide) (by decide) rfl rfl at_67 rfl fun T h973 v974 A Q975 => ?_
    obtain ⟨rfl, a970, b971, H972⟩ := Q975
    refine Wp.stk (st' := [(.ref b961)]) rfl ?_
    refine s_astore (pc' := 72) (Ls' := #[jv q0, S2, iv q1, iv q2, jv (posf q0 (0 : Int32) q1), S2, jv (posf q0 (1 : Int32) q1), S2, jv (posf q0 (2 : Int32) q1), S2, jv (posf q0 (3 : Int32) q1), S2, jv (posf q0 (4 : Int32) q1), S2, iv 3, iv 3, iv ((ush q2 (8 : Int32)) &&& (65535 : Int32)), rv b961, U0, U0]) A at_70 rfl rfl rfl ?_
    refine s_aload (pc' := 74) A at_72 rfl rfl rfl ?_
    refine s_lload (pc' := 76) A at_74 rfl rfl ?_
    refine s_iload (pc' := 78) A at_76 rfl rfl ?_
    obtain ⟨fr981, fr981a, fr981b⟩ := Free.ex (c := 15) own_free0
    refine s_virtual (pc' := 81) (y := y2_put) (argsL := [(.long (posf q0 (0 : Int32) q1)), (.int ((ush q2 (8 : Int32)) &&& (65535 : Int32)))]) (rest := []) (z := y2_put) A H972.1 (m_put l Z a0 hw n0 h973 A.size b961 a970 b971 0 (fun _ => 0) (fun _ => -1) (fun _ => -1) H972 (posf q0 (0 : Int32) q1) ((ush q2 (8 : Int32)) &&& (65535 : Int32)) 1 (own_tab0 (fun _ => 0)) fr981 fr981a fr981b (own_nb0 q2) rfl (by decide) (by decide)) (w27 hw) (w28 hw) (nf_same (C := "") (w30 hw)) (w30 hw) (w29 hw) (w7 hw) (w31 hw) (by decide) pd__JI_V rfl (W := 0) (by decide) (by decide) (Nat.le_of_eq rfl) (by decide) (by decide) rfl rfl at_78 rfl fun T h982 v983 A Q984 => ?_
    obtain ⟨rfl, P976, N977, H978, HT979, FR980⟩ := Q984
    have FR980 := FR980 15 own_free0
    refine Wp.stk (st' := []) rfl ?_
    refine s_iload (pc' := 83) A at_81 rfl rfl ?_
    refine s_iconst (pc' := 84) (z := (1 : Int32)) A at_83 rfl (by decide) ?_
    refine s_icmpN (pc' := 87) A at_84 rfl (by decide) ?_
    refine s_aload (pc' := 89) A at_87 rfl rfl rfl ?_
    refine s_lload (pc' := 91) A at_89 rfl rfl ?_
    refine s_iload (pc' := 93) A at_91 rfl rfl ?_
    refine s_iconst (pc' := 94) (z := (1 : Int32)) A at_93 rfl (by decide) ?_
    refine s_iadd (pc' := 95) (z := (((ush q2 (8 : Int32)) &&& (65535 : Int32)) + (1 : Int32))) A at_94 rfl rfl ?_
    obtain ⟨fr990, fr990a, fr990b⟩ := Free.ex (c := 14) FR980
    refine s_virtual (pc' := 98) (y := y2_put) (argsL := [(.long (posf q0 (1 : Int32) q1)), (.int (((ush q2 (8 : Int32)) &&& (65535 : Int32)) + (1 : Int32)))]) (rest := []) (z := y2_put) A H978.1 (m_put l Z a0 hw n0 h982 A.size b961 a970 b971 1 P976 N977 (fun r => if r = (posf q0 (0 : Int32) q1) then ((ush q2 (8 : Int32)) &&& (65535 : Int32)) else (fun _ => -1) r) H978 (posf q0 (1 : Int32) q1) (((ush q2 (8 : Int32)) &&& (65535 : Int32)) + (1 : Int32)) 2 HT979 fr990 fr990a fr990b (own_nb1 q2) (by simp only [pn_0_1, pn_0_2, pn_0_3, pn_0_4, pn_1_0, pn_1_2, pn_1_3, pn_1_4, pn_2_0, pn_2_1, pn_2_3, pn_2_4, pn_3_0, pn_3_1, pn_3_2, pn_3_4, pn_4_0, pn_4_1, pn_4_2, pn_4_3, if_true, if_false]) (by decide) (by decide)) (w27 hw) (w28 hw) (nf_same (C := "") (w30 hw)) (w30 hw) (w29 hw) (w7 hw) (w31 hw) (by decide) pd__JI_V rfl (W := 0) (by decide) (by decide) (Nat.le_of_eq rfl) (by decide) (by decide) rfl rfl at_95 rfl fun T h991 v992 A Q993 => ?_
    obtain ⟨rfl, P985, N986, H987, HT988, FR989⟩ := Q993
    have FR989 := FR989 14 FR980
    refine Wp.stk (st' := []) rfl ?_
    refine s_iload (pc' := 100) A at_98 rfl rfl ?_
    refine s_iconst (pc' := 101) (z := (2 : Int32)) A at_100 rfl (by decide) ?_
    refine s_icmpN (pc' := 104) A at_101 rfl (by decide) ?_
    refine s_aload (pc' := 106) A at_104 rfl rfl rfl ?_
    refine s_lload (pc' := 108) A at_106 rfl rfl ?_
    refine s_iload (pc' := 110) A at_108 rfl rfl ?_
    refine s_iconst (pc' := 111) (z := (2 : Int32)) A at_110 rfl (by decide) ?_
    refine s_iadd (pc' := 112) (z := (((ush q2 (8 : Int32)) &&& (65535 : Int32)) + (2 : Int32))) A at_111 rfl rfl ?_
    obtain ⟨fr999, fr999a, fr999b⟩ := Free.ex (c := 13) FR989
    refine s_virtual (pc' := 115) (y := y2_put) (argsL := [(.long (posf q0 (2 : Int32) q1)), (.int (((ush q2 (8 : Int32)) &&& (65535 : Int32)) + (2 : Int32)))]) (rest := []) (z := y2_put) A H987.1 (m_put l Z a0 hw n0 h991 A.size b961 a970 b971 2 P985 N986 (fun r => if r = (posf q0 (1 : Int32) q1) then (((ush q2 (8 : Int32)) &&& (65535 : Int32)) + (1 : Int32)) else (fun r => if r = (posf q0 (0 : Int32) q1) then ((ush q2 (8 : Int32)) &&& (65535 : Int32)) else (fun _ => -1) r) r) H987 (posf q0 (2 : Int32) q1) (((ush q2 (8 : Int32)) &&& (65535 : Int32)) + (2 : Int32)) 3 HT988 fr999 fr999a fr999b (own_nb2 q2) (by simp only [pn_0_1, pn_0_2, pn_0_3, pn_0_4, pn_1_0, pn_1_2, pn_1_3, pn_1_4, pn_2_0, pn_2_1, pn_2_3, pn_2_4, pn_3_0, pn_3_1, pn_3_2, pn_3_4, pn_4_0, pn_4_1, pn_4_2, pn_4_3, if_true, if_false]) (by decide) (by decide)) (w27 hw) (w28 hw) (nf_same (C := "") (w30 hw)) (w30 hw) (w29 hw) (w7 hw) (w31 hw) (by decide) pd__JI_V rfl (W := 0) (by decide) (by decide) (Nat.le_of_eq rfl) (by decide) (by decide) rfl rfl at_112 rfl fun T h1000 v1001 A Q1002 => ?_
    obtain ⟨rfl, P994, N995, H996, HT997, FR998⟩ := Q1002
    have FR998 := FR998 13 FR989
    refine Wp.stk (st' := []) rfl ?_
    refine s_iload (pc' := 117) A at_115 rfl rfl ?_
    refine s_iconst (pc' := 118) (z := (3 : Int32)) A at_117 rfl (by decide) ?_
    refine s_icmpY (pc' := 132) A at_118 (by decide) (by decide) (by decide) ?_
    refine s_iload (pc' := 134) A at_132 rfl rfl ?_
    refine s_ifY (pc' := 142) A at_134 (by decide) (by decide) (by decide) ?_
    refine s_iload (pc' := 144) A at_142 rfl rfl ?_
    refine s_iconst (pc' := 145) (z := (1 : Int32)) A at_144 rfl (by decide) ?_
    refine s_icmpY (pc' := 153) A at_145 (by decide) (by decide) (by decide) ?_
    refine s_iload (pc' := 155) A at_153 rfl rfl ?_
    refine s_iconst (pc' := 156) (z := (2 : Int32)) A at_155 rfl (by decide) ?_
    refine s_icmpY (pc' := 164) A at_156 (by decide) (by decide) (by decide) ?_
    refine s_iload (pc' := 166) A at_164 rfl rfl ?_
    refine s_iconst (pc' := 167) (z := (3 : Int32)) A at_166 rfl (by decide) ?_
    refine s_icmpN (pc' := 170) A at_167 rfl (by decide) ?_
    refine s_lload (pc' := 172) A at_170 rfl rfl ?_
    refine s_goto (pc' := 177) A at_172 (by decide) (by decide) ?_
    refine s_lstore (pc' := 179) (Ls' := #[jv q0, S2, iv q1, iv q2, jv (posf q0 (0 : Int32) q1), S2, jv (posf q0 (1 : Int32) q1), S2, jv (posf q0 (2 : Int32) q1), S2, jv (posf q0 (3 : Int32) q1), S2, jv (posf q0 (4 : Int32) q1), S2, iv 3, iv 3, iv ((ush q2 (8 : Int32)) &&& (65535 : Int32)), rv b961, jv (posf q0 (3 : Int32) q1), S2]) A at_177 rfl rfl ?_
    refine s_aload (pc' := 181) A at_179 rfl rfl rfl ?_
    refine s_lload (pc' := 183) A at_181 rfl rfl ?_
    obtain ⟨fr1009, fr1009a, fr1009b⟩ := Free.ex (c := 12) FR998
    refine s_virtual (pc' := 186) (y := y3_remove) (argsL := [(.long (posf q0 (3 : Int32) q1))]) (rest := []) (z := y3_remove) A H996.1 (m_rem l Z a0 hw n0 h1000 A.size b961 a970 b971 3 P994 N995 (fun r => if r = (posf q0 (2 : Int32) q1) then (((ush q2 (8 : Int32)) &&& (65535 : Int32)) + (2 : Int32)) else (fun r => if r = (posf q0 (1 : Int32) q1) then (((ush q2 (8 : Int32)) &&& (65535 : Int32)) + (1 : Int32)) else (fun r => if r = (posf q0 (0 : Int32) q1) then ((ush q2 (8 : Int32)) &&& (65535 : Int32)) else (fun _ => -1) r) r) r) (posf q0 (3 : Int32) q1) H996 HT997 fr1009 fr1009a fr1009b) (w38 hw) (w39 hw) (nf_same (C := "") (w41 hw)) (w41 hw) (w40 hw) (w7 hw) (w42 hw) (by decide) pd__J_V rfl (W := 0) (by decide) (by decide) (Nat.le_of_eq rfl) (by decide) (by decide) rfl rfl at_183 rfl fun T h1010 v1011 A Q1012 => ?_
    obtain ⟨rfl, P1003, N1004, z1005, H1006, HT1007, f1008, f1008a, f1008b⟩ := Q1012
    refine Wp.stk (st' := []) rfl ?_
    refine s_aload (pc' := 188) A at_186 rfl rfl rfl ?_
    refine s_lload (pc' := 190) A at_188 rfl rfl ?_
    refine s_virtual (pc' := 193) (y := y0_get) (argsL := [(.long (posf q0 (0 : Int32) q1))]) (rest := []) (z := y0_get) A H1006.1 (m_get l Z a0 hw n0 h1010 A.size b961 a970 b971 z1005 P1003 N1004 (fun r => if r = (posf q0 (3 : Int32) q1) then -1 else (fun r => if r = (posf q0 (2 : Int32) q1) then (((ush q2 (8 : Int32)) &&& (65535 : Int32)) + (2 : Int32)) else (fun r => if r = (posf q0 (1 : Int32) q1) then (((ush q2 (8 : Int32)) &&& (65535 : Int32)) + (1 : Int32)) else (fun r => if r = (posf q0 (0 : Int32) q1) then ((ush q2 (8 : Int32)) &&& (65535 : Int32)) else (fun _ => -1) r) r) r) r) (posf q0 (0 : Int32) q1) H1006 HT1007 f1008 f1008a f1008b) (w43 hw) (w44 hw) (nf_same (C := "") (w46 hw)) (w46 hw) (w45 hw) (w7 hw) (w47 hw) (by decide) pd__J_I rfl (W := 0) (by decide) (by decide) (Nat.le_of_eq rfl) (by decide) (by decide) rfl rfl at_190 rfl fun T h1013 v1014 A Q1015 => ?_
    obtain ⟨ev, eh⟩ := Q1015
    obtain rfl := ev.trans (congrArg (fun z => some (Value.int z)) (show (fun r => if r = (posf q0 (3 : Int32) q1) then -1 else (fun r => if r = (posf q0 (2 : Int32) q1) then (((ush q2 (8 : Int32)) &&& (65535 : Int32)) + (2 : Int32)) else (fun r => if r = (posf q0 (1 : Int32) q1) then (((ush q2 (8 : Int32)) &&& (65535 : Int32)) + (1 : Int32)) else (fun r => if r = (posf q0 (0 : Int32) q1) then ((ush q2 (8 : Int32)) &&& (65535 : Int32)) else (fun _ => -1) r) r) r) r) (posf q0 (0 : Int32) q1) = ((ush q2 (8 : Int32)) &&& (65535 : Int32)) from (by simp only [pn_0_1, pn_0_2, pn_0_3, pn_0_4, pn_1_0, pn_1_2, pn_1_3, pn_1_4, pn_2_0, pn_2_1, pn_2_3, pn_2_4, pn_3_0, pn_3_1, pn_3_2, pn_3_4, pn_4_0, pn_4_1, pn_4_2, pn_4_3, if_true, if_false])))
    rw [eh] at A
    refine Wp.stk (st' := [(.int ((ush q2 (8 : Int32)) &&& (65535 : Int32)))]) rfl ?_
    refine s_iconst (pc' := 194) (z := (0 : Int32)) A at_193 rfl (by decide) ?_
    refine s_iload (pc' := 196) A at_194 rfl rfl ?_
    refine s_iload (pc' := 198) A at_196 rfl rfl ?_
    refine s_iload (pc' := 200) A at_198 rfl rfl ?_
    refine s_static (pc' := 203) (y := y8_check) (argsL := [(.int ((ush q2 (8 : Int32)) &&& (65535 : Int32))), (.int (0 : Int32)), (.int (3 : Int32)), (.int (3 : Int32)), (.int ((ush q2 (8 : Int32)) &&& (65535 : Int32)))]) (rest := []) A (m_in l Z a0 hw n0 h1010 A.size ((ush q2 (8 : Int32)) &&& (65535 : Int32)) (0 : Int32) (3 : Int32) (3 : Int32) ((ush q2 (8 : Int32)) &&& (65535 : Int32)) (by decide) (by decide) (Int32.add_zero _).symm) (w48 hw) (w49 hw) (w2 hw) (w50 hw) (by decide) pd__IIIII_Z rfl (W := 0) (by decide) (by decide) (Nat.le_of_eq rfl) (by decide) (by decide) rfl rfl at_200 rfl fun T h1016 v1017 A Q1018 => ?_
    obtain ⟨rfl, eh⟩ := Q1018
    rw [eh] at A
    refine Wp.stk (st' := [(.int (1 : Int32))]) rfl ?_
    refine s_ifN (pc' := 206) A at_203 rfl (by decide) ?_
    refine s_aload (pc' := 208) A at_206 rfl rfl rfl ?_
    refine s_lload (pc' := 210) A at_208 rfl rfl ?_
    refine s_virtual (pc' := 213) (y := y0_get) (argsL := [(.long (posf q0 (1 : Int32) q1))]) (rest := []) (z := y0_get) A H1006.1 (m_get l Z a0 hw n0 h1010 A.size b961 a970 b971 z1005 P1003 N1004 (fun r => if r = (posf q0 (3 : Int32) q1) then -1 else (fun r => if r = (posf q0 (2 : Int32) q1) then (((ush q2 (8 : Int32)) &&& (65535 : Int32)) + (2 : Int32)) else (fun r => if r = (posf q0 (1 : Int32) q1) then (((ush q2 (8 : Int32)) &&& (65535 : Int32)) + (1 : Int32)) else (fun r => if r = (posf q0 (0 : Int32) q1) then ((ush q2 (8 : Int32)) &&& (65535 : Int32)) else (fun _ => -1) r) r) r) r) (posf q0 (1 : Int32) q1) H1006 HT1007 f1008 f1008a f1008b) (w43 hw) (w44 hw) (nf_same (C := "") (w46 hw)) (w46 hw) (w45 hw) (w7 hw) (w47 hw) (by decide) pd__J_I rfl (W := 0) (by decide) (by decide) (Nat.le_of_eq rfl) (by decide) (by decide) rfl rfl at_210 rfl fun T h1019 v1020 A Q1021 => ?_
    obtain ⟨ev, eh⟩ := Q1021
    obtain rfl := ev.trans (congrArg (fun z => some (Value.int z)) (show (fun r => if r = (posf q0 (3 : Int32) q1) then -1 else (fun r => if r = (posf q0 (2 : Int32) q1) then (((ush q2 (8 : Int32)) &&& (65535 : Int32)) + (2 : Int32)) else (fun r => if r = (posf q0 (1 : Int32) q1) then (((ush q2 (8 : Int32)) &&& (65535 : Int32)) + (1 : Int32)) else (fun r => if r = (posf q0 (0 : Int32) q1) then ((ush q2 (8 : Int32)) &&& (65535 : Int32)) else (fun _ => -1) r) r) r) r) (posf q0 (1 : Int32) q1) = (((ush q2 (8 : Int32)) &&& (65535 : Int32)) + (1 : Int32)) from (by simp only [pn_0_1, pn_0_2, pn_0_3, pn_0_4, pn_1_0, pn_1_2, pn_1_3, pn_1_4, pn_2_0, pn_2_1, pn_2_3, pn_2_4, pn_3_0, pn_3_1, pn_3_2, pn_3_4, pn_4_0, pn_4_1, pn_4_2, pn_4_3, if_true, if_false])))
    rw [eh] at A
    refine Wp.stk (st' := [(.int (((ush q2 (8 : Int32)) &&& (65535 : Int32)) + (1 : Int32)))]) rfl ?_
    refine s_iconst (pc' := 214) (z := (1 : Int32)) A at_213 rfl (by decide) ?_
    refine s_iload (pc' := 216) A at_214 rfl rfl ?_
    refine s_iload (pc' := 218) A at_216 rfl rfl ?_
    refine s_iload (pc' := 220) A at_218 rfl rfl ?_
    refine s_static (pc' := 223) (y := y8_check) (argsL := [(.int (((ush q2 (8 : Int32)) &&& (65535 : Int32)) + (1 : Int32))), (.int (1 : Int32)), (.int (3 : Int32)), (.int (3 : Int32)), (.int ((ush q2 (8 : Int32)) &&& (65535 : Int32)))]) (rest := []) A (m_in l Z a0 hw n0 h1010 A.size (((ush q2 (8 : Int32)) &&& (65535 : Int32)) + (1 : Int32)) (1 : Int32) (3 : Int32) (3 : Int32) ((ush q2 (8 : Int32)) &&& (65535 : Int32)) (by decide) (by decide) rfl) (w48 hw) (w49 hw) (w2 hw) (w50 hw) (by decide) pd__IIIII_Z rfl (W := 0) (by decide) (by decide) (Nat.le_of_eq rfl) (by decide) (by decide) rfl rfl at_220 rfl fun T h1022 v1023 A Q1024 => ?_
    obtain ⟨rfl, eh⟩ := Q1024
    rw [eh] at A
    refine Wp.stk (st' := [(.int (1 : Int32))]) rfl ?_
    refine s_ifN (pc' := 226) A at_223 rfl (by decide) ?_
    refine s_aload (pc' := 228) A at_226 rfl rfl rfl ?_
    refine s_lload (pc' := 230) A at_228 rfl rfl ?_
    refine s_virtual (pc' := 233) (y := y0_get) (argsL := [(.long (posf q0 (2 : Int32) q1))]) (rest := []) (z := y0_get) A H1006.1 (m_get l Z a0 hw n0 h1010 A.size b961 a970 b971 z1005 P1003 N1004 (fun r => if r = (posf q0 (3 : Int32) q1) then -1 else (fun r => if r = (posf q0 (2 : Int32) q1) then (((ush q2 (8 : Int32)) &&& (65535 : Int32)) + (2 : Int32)) else (fun r => if r = (posf q0 (1 : Int32) q1) then (((ush q2 (8 : Int32)) &&& (65535 : Int32)) + (1 : Int32)) else (fun r => if r = (posf q0 (0 : Int32) q1) then ((ush q2 (8 : Int32)) &&& (65535 : Int32)) else (fun _ => -1) r) r) r) r) (posf q0 (2 : Int32) q1) H1006 HT1007 f1008 f1008a f1008b) (w43 hw) (w44 hw) (nf_same (C := "") (w46 hw)) (w46 hw) (w45 hw) (w7 hw) (w47 hw) (by decide) pd__J_I rfl (W := 0) (by decide) (by decide) (Nat.le_of_eq rfl) (by decide) (by decide) rfl rfl at_230 rfl fun T h1025 v1026 A Q1027 => ?_
    obtain ⟨ev, eh⟩ := Q1027
    obtain rfl := ev.trans (congrArg (fun z => some (Value.int z)) (show (fun r => if r = (posf q0 (3 : Int32) q1) then -1 else (fun r => if r = (posf q0 (2 : Int32) q1) then (((ush q2 (8 : Int32)) &&& (65535 : Int32)) + (2 : Int32)) else (fun r => if r = (posf q0 (1 : Int32) q1) then (((ush q2 (8 : Int32)) &&& (65535 : Int32)) + (1 : Int32)) else (fun r => if r = (posf q0 (0 : Int32) q1) then ((ush q2 (8 : Int32)) &&& (65535 : Int32)) else (fun _ => -1) r) r) r) r) (posf q0 (2 : Int32) q1) = (((ush q2 (8 : Int32)) &&& (65535 : Int32)) + (2 : Int32)) from (by simp only [pn_0_1, pn_0_2, pn_0_3, pn_0_4, pn_1_0, pn_1_2, pn_1_3, pn_1_4, pn_2_0, pn_2_1, pn_2_3, pn_2_4, pn_3_0, pn_3_1, pn_3_2, pn_3_4, pn_4_0, pn_4_1, pn_4_2, pn_4_3, if_true, if_false])))
    rw [eh] at A
    refine Wp.stk (st' := [(.int (((ush q2 (8 : Int32)) &&& (65535 : Int32)) + (2 : Int32)))]) rfl ?_
    refine s_iconst (pc' := 234) (z := (2 : Int32)) A at_233 rfl (by decide) ?_
    refine s_iload (pc' := 236) A at_234 rfl rfl ?_
    refine s_iload (pc' := 238) A at_236 rfl rfl ?_
    refine s_iload (pc' := 240) A at_238 rfl rfl ?_
    refine s_static (pc' := 243) (y := y8_check) (argsL := [(.int (((ush q2 (8 : Int32)) &&& (65535 : Int32)) + (2 : Int32))), (.int (2 : Int32)), (.int (3 : Int32)), (.int (3 : Int32)), (.int ((ush q2 (8 : Int32)) &&& (65535 : Int32)))]) (rest := []) A (m_in l Z a0 hw n0 h1010 A.size (((ush q2 (8 : Int32)) &&& (65535 : Int32)) + (2 : Int32)) (2 : Int32) (3 : Int32) (3 : Int32) ((ush q2 (8 : Int32)) &&& (65535 : Int32)) (by decide) (by decide) rfl) (w48 hw) (w49 hw) (w2 hw) (w50 hw) (by decide) pd__IIIII_Z rfl (W := 0) (by decide) (by decide) (Nat.le_of_eq rfl) (by decide) (by decide) rfl rfl at_240 rfl fun T h1028 v1029 A Q1030 => ?_
    obtain ⟨rfl, eh⟩ := Q1030
    rw [eh] at A
    refine Wp.stk (st' := [(.int (1 : Int32))]) rfl ?_
    refine s_ifN (pc' := 246) A at_243 rfl (by decide) ?_
    refine s_aload (pc' := 248) A at_246 rfl rfl rfl ?_
    refine s_lload (pc' := 250) A at_248 rfl rfl ?_
    refine s_virtual (pc' := 253) (y := y0_get) (argsL := [(.long (posf q0 (3 : Int32) q1))]) (rest := []) (z := y0_get) A H1006.1 (m_get l Z a0 hw n0 h1010 A.size b961 a970 b971 z1005 P1003 N1004 (fun r => if r = (posf q0 (3 : Int32) q1) then -1 else (fun r => if r = (posf q0 (2 : Int32) q1) then (((ush q2 (8 : Int32)) &&& (65535 : Int32)) + (2 : Int32)) else (fun r => if r = (posf q0 (1 : Int32) q1) then (((ush q2 (8 : Int32)) &&& (65535 : Int32)) + (1 : Int32)) else (fun r => if r = (posf q0 (0 : Int32) q1) then ((ush q2 (8 : Int32)) &&& (65535 : Int32)) else (fun _ => -1) r) r) r) r) (posf q0 (3 : Int32) q1) H1006 HT1007 f1008 f1008a f1008b) (w43 hw) (w44 hw) (nf_same (C := "") (w46 hw)) (w46 hw) (w45 hw) (w7 hw) (w47 hw) (by decide) pd__J_I rfl (W := 0) (by decide) (by decide) (Nat.le_of_eq rfl) (by decide) (by decide) rfl rfl at_250 rfl fun T h1031 v1032 A Q1033 => ?_
    obtain ⟨ev, eh⟩ := Q1033
    obtain rfl := ev.trans (congrArg (fun z => some (Value.int z)) (show (fun r => if r = (posf q0 (3 : Int32) q1) then -1 else (fun r => if r = (posf q0 (2 : Int32) q1) then (((ush q2 (8 : Int32)) &&& (65535 : Int32)) + (2 : Int32)) else (fun r => if r = (posf q0 (1 : Int32) q1) then (((ush q2 (8 : Int32)) &&& (65535 : Int32)) + (1 : Int32)) else (fun r => if r = (posf q0 (0 : Int32) q1) then ((ush q2 (8 : Int32)) &&& (65535 : Int32)) else (fun _ => -1) r) r) r) r) (posf q0 (3 : Int32) q1) = (-1 : Int32) from (by simp only [pn_0_1, pn_0_2, pn_0_3, pn_0_4, pn_1_0, pn_1_2, pn_1_3, pn_1_4, pn_2_0, pn_2_1, pn_2_3, pn_2_4, pn_3_0, pn_3_1, pn_3_2, pn_3_4, pn_4_0, pn_4_1, pn_4_2, pn_4_3, if_true, if_false])))
    rw [eh] at A
    refine Wp.stk (st' := [(.int (-1 : Int32))]) rfl ?_
    refine s_iconst (pc' := 254) (z := (3 : Int32)) A at_253 rfl (by decide) ?_
    refine s_iload (pc' := 256) A at_254 rfl rfl ?_
    refine s_iload (pc' := 258) A at_256 rfl rfl ?_
    refine s_iload (pc' := 260) A at_258 rfl rfl ?_
    refine s_static (pc' := 263) (y := y8_check) (argsL := [(.int (-1 : Int32)), (.int (3 : Int32)), (.int (3 : Int32)), (.int (3 : Int32)), (.int ((ush q2 (8 : Int32)) &&& (65535 : Int32)))]) (rest := []) A (m_out l Z a0 hw n0 h1010 A.size (-1 : Int32) (3 : Int32) (3 : Int32) (3 : Int32) ((ush q2 (8 : Int32)) &&& (65535 : Int32)) (Or.inl (by decide)) rfl) (w48 hw) (w49 hw) (w2 hw) (w50 hw) (by decide) pd__IIIII_Z rfl (W := 0) (by decide) (by decide) (Nat.le_of_eq rfl) (by decide) (by decide) rfl rfl at_260 rfl fun T h1034 v1035 A Q1036 => ?_
    obtain ⟨rfl, eh⟩ := Q1036
    rw [eh] at A
    refine Wp.stk (st' := [(.int (1 : Int32))]) rfl ?_
    refine s_ifN (pc' := 266) A at_263 rfl (by decide) ?_
    refine s_aload (pc' := 268) A at_266 rfl rfl rfl ?_
    refine s_lload (pc' := 270) A at_268 rfl rfl ?_
    refine s_virtual (pc' := 273) (y := y0_get) (argsL := [(.long (posf q0 (4 : Int32) q1))]) (rest := []) (z := y0_get) A H1006.1 (m_get l Z a0 hw n0 h1010 A.size b961 a970 b971 z1005 P1003 N1004 (fun r => if r = (posf q0 (3 : Int32) q1) then -1 else (fun r => if r = (posf q0 (2 : Int32) q1) then (((ush q2 (8 : Int32)) &&& (65535 : Int32)) + (2 : Int32)) else (fun r => if r = (posf q0 (1 : Int32) q1) then (((ush q2 (8 : Int32)) &&& (65535 : Int32)) + (1 : Int32)) else (fun r => if r = (posf q0 (0 : Int32) q1) then ((ush q2 (8 : Int32)) &&& (65535 : Int32)) else (fun _ => -1) r) r) r) r) (posf q0 (4 : Int32) q1) H1006 HT1007 f1008 f1008a f1008b) (w43 hw) (w44 hw) (nf_same (C := "") (w46 hw)) (w46 hw) (w45 hw) (w7 hw) (w47 hw) (by decide) pd__J_I rfl (W := 0) (by decide) (by decide) (Nat.le_of_eq rfl) (by decide) (by decide) rfl rfl at_270 rfl fun T h1037 v1038 A Q1039 => ?_
    obtain ⟨ev, eh⟩ := Q1039
    obtain rfl := ev.trans (congrArg (fun z => some (Value.int z)) (show (fun r => if r = (posf q0 (3 : Int32) q1) then -1 else (fun r => if r = (posf q0 (2 : Int32) q1) then (((ush q2 (8 : Int32)) &&& (65535 : Int32)) + (2 : Int32)) else (fun r => if r = (posf q0 (1 : Int32) q1) then (((ush q2 (8 : Int32)) &&& (65535 : Int32)) + (1 : Int32)) else (fun r => if r = (posf q0 (0 : Int32) q1) then ((ush q2 (8 : Int32)) &&& (65535 : Int32)) else (fun _ => -1) r) r) r) r) (posf q0 (4 : Int32) q1) = (-1 : Int32) from (by simp only [pn_0_1, pn_0_2, pn_0_3, pn_0_4, pn_1_0, pn_1_2, pn_1_3, pn_1_4, pn_2_0, pn_2_1, pn_2_3, pn_2_4, pn_3_0, pn_3_1, pn_3_2, pn_3_4, pn_4_0, pn_4_1, pn_4_2, pn_4_3, if_true, if_false])))
    rw [eh] at A
    refine Wp.stk (st' := [(.int (-1 : Int32))]) rfl ?_
    refine s_iconst (pc' := 274) (z := (4 : Int32)) A at_273 rfl (by decide) ?_
    refine s_iload (pc' := 276) A at_274 rfl rfl ?_
    refine s_iload (pc' := 278) A at_276 rfl rfl ?_
    refine s_iload (pc' := 280) A at_278 rfl rfl ?_
    refine s_static (pc' := 283) (y := y8_check) (argsL := [(.int (-1 : Int32)), (.int (4 : Int32)), (.int (3 : Int32)), (.int (3 : Int32)), (.int ((ush q2 (8 : Int32)) &&& (65535 : Int32)))]) (rest := []) A (m_out l Z a0 hw n0 h1010 A.size (-1 : Int32) (4 : Int32) (3 : Int32) (3 : Int32) ((ush q2 (8 : Int32)) &&& (65535 : Int32)) (Or.inl (by decide)) rfl) (w48 hw) (w49 hw) (w2 hw) (w50 hw) (by decide) pd__IIIII_Z rfl (W := 0) (by decide) (by decide) (Nat.le_of_eq rfl) (by decide) (by decide) rfl rfl at_280 rfl fun T h1040 v1041 A Q1042 => ?_
    obtain ⟨rfl, eh⟩ := Q1042
    rw [eh] at A
    refine Wp.stk (st' := [(.int (1 : Int32))]) rfl ?_
    refine s_ifN (pc' := 286) A at_283 rfl (by decide) ?_
    refine s_iconst (pc' := 287) (z := (1 : Int32)) A at_286 rfl (by decide) ?_
    refine s_goto (pc' := 291) A at_287 (by decide) (by decide) ?_
    exact r_bool A rfl (by decide) at_291 (by decide) (by decide) (rfl)
   ·
    refine s_irem (pc' := 52) (z := (4 : Int32)) A at_51 rfl (by decide) hrr.symm ?_
    refine s_istore (pc' := 54) (Ls' := #[jv q0, S2, iv q1, iv q2, jv (posf q0 (0 : Int32) q1), S2, jv (posf q0 (1 : Int32) q1), S2, jv (posf q0 (2 : Int32) q1), S2, jv (posf q0 (3 : Int32) q1), S2, jv (posf q0 (4 : Int32) q1), S2, iv 3, iv 4, U0, U0, U0, U0]) A at_52 rfl rfl ?_
    refine s_iloadN (pc' := 55) A at_54 rfl rfl ?_
    refine s_bipush (pc' := 57) (z := (8 : Int32)) A at_55 rfl (by decide) ?_
    refine s_iushr (pc' := 58) (z := (ush q2 (8 : Int32))) A at_57 rfl rfl ?_
    refine s_ldcInt (pc' := 60) A at_58 rfl (w4 hw) ?_
    refine s_iand (pc' := 61) (z := ((ush q2 (8 : Int32)) &&& (65535 : Int32))) A at_60 rfl rfl ?_
    refine s_istore (pc' := 63) (Ls' := #[jv q0, S2, iv q1, iv q2, jv (posf q0 (0 : Int32) q1), S2, jv (posf q0 (1 : Int32) q1), S2, jv (posf q0 (2 : Int32) q1), S2, jv (posf q0 (3 : Int32) q1), S2, jv (posf q0 (4 : Int32) q1), S2, iv 3, iv 4, iv ((ush q2 (8 : Int32)) &&& (65535 : Int32)), U0, U0, U0]) A at_61 rfl rfl ?_
    refine s_new (pc' := 66) A (w5 hw) (w6 hw) (w7 hw) (by decide) (by decide) at_63 rfl fun T h1043 b1044 A g1045 ge1046 X1047 E1048 D1049 => ?_
    have F1050 : Fld Z h1043 b1044 "com/example/wirefram/wirefram/sequence/PositionIndex" "positions" "[J" .null := D1049 (Or.inl (w16 hw)) (ty := (.array .long)) (by decide)
    have F1051 : Fld Z h1043 b1044 "com/example/wirefram/wirefram/sequence/PositionIndex" "numbers" "[I" .null := D1049 (Or.inl (w26 hw)) (ty := (.array .int)) (by decide)
    have F1052 : Fld Z h1043 b1044 "com/example/wirefram/wirefram/sequence/PositionIndex" "size" "I" (.int (0 : Int32)) := D1049 (Or.inl (w33 hw)) (ty := .int) (by decide)
    refine s_dup (pc' := 67) A at_66 rfl rfl ?_
    refine s_special (pc' := 70) (y := y6_init) (argsL := []) (rest := [(.ref b1044)]) A (m_init l Z a0 hw n0 h1043 A.size b1044 E1048 F1050 F1051 F1052 ge1046) rfl (w8 hw) (w9 hw) (w7 hw) (w10 hw) (by decide) pd___V rfl (W := 1) (by decide) (by decide) (Nat.le_of_eq rfl) (by decide) (by decide) rfl rfl at_67 rfl fun T h1056 v1057 A Q1058 => ?_
    obtain ⟨rfl, a1053, b1054, H1055⟩ := Q1058
    refine Wp.stk (st' := [(.ref b1044)]) rfl ?_
    refine s_astore (pc' := 72) (Ls' := #[jv q0, S2, iv q1, iv q2, jv (posf q0 (0 : Int32) q1), S2, jv (posf q0 (1 : Int32) q1), S2, jv (posf q0 (2 : Int32) q1), S2, jv (posf q0 (3 : Int32) q1), S2, jv (posf q0 (4 : Int32) q1), S2, iv 3, iv 4, iv ((ush q2 (8 : Int32)) &&& (65535 : Int32)), rv b1044, U0, U0]) A at_70 rfl rfl rfl ?_
    refine s_aload (pc' := 74) A at_72 rfl rfl rfl ?_
    refine s_lload (pc' := 76) A at_74 rfl rfl ?_
    refine s_iload (pc' := 78) A at_76 rfl rfl ?_
    obtain ⟨fr1064, fr1064a, fr1064b⟩ := Free.ex (c := 15) own_free0
    refine s_virtual (pc' := 81) (y := y2_put) (argsL := [(.long (posf q0 (0 : Int32) q1)), (.int ((ush q2 (8 : Int32)) &&& (65535 : Int32)))]) (rest := []) (z := y2_put) A H1055.1 (m_put l Z a0 hw n0 h1056 A.size b1044 a1053 b1054 0 (fun _ => 0) (fun _ => -1) (fun _ => -1) H1055 (posf q0 (0 : Int32) q1) ((ush q2 (8 : Int32)) &&& (65535 : Int32)) 1 (own_tab0 (fun _ => 0)) fr1064 fr1064a fr1064b (own_nb0 q2) rfl (by decide) (by decide)) (w27 hw) (w28 hw) (nf_same (C := "") (w30 hw)) (w30 hw) (w29 hw) (w7 hw) (w31 hw) (by decide) pd__JI_V rfl (W := 0) (by decide) (by decide) (Nat.le_of_eq rfl) (by decide) (by decide) rfl rfl at_78 rfl fun T h1065 v1066 A Q1067 => ?_
    obtain ⟨rfl, P1059, N1060, H1061, HT1062, FR1063⟩ := Q1067
    have FR1063 := FR1063 15 own_free0
    refine Wp.stk (st' := []) rfl ?_
    refine s_iload (pc' := 83) A at_81 rfl rfl ?_
    refine s_iconst (pc' := 84) (z := (1 : Int32)) A at_83 rfl (by decide) ?_
    refine s_icmpN (pc' := 87) A at_84 rfl (by decide) ?_
    refine s_aload (pc' := 89) A at_87 rfl rfl rfl ?_
    refine s_lload (pc' := 91) A at_89 rfl rfl ?_
    refine s_iload (pc' := 93) A at_91 rfl rfl ?_
    refine s_iconst (pc' := 94) (z := (1 : Int32)) A at_93 rfl (by decide) ?_
    refine s_iadd (pc' := 95) (z := (((ush q2 (8 : Int32)) &&& (65535 : Int32)) + (1 : Int32))) A at_94 rfl rfl ?_
    obtain ⟨fr1073, fr1073a, fr1073b⟩ := Free.ex (c := 14) FR1063
    refine s_virtual (pc' := 98) (y := y2_put) (argsL := [(.long (posf q0 (1 : Int32) q1)), (.int (((ush q2 (8 : Int32)) &&& (65535 : Int32)) + (1 : Int32)))]) (rest := []) (z := y2_put) A H1061.1 (m_put l Z a0 hw n0 h1065 A.size b1044 a1053 b1054 1 P1059 N1060 (fun r => if r = (posf q0 (0 : Int32) q1) then ((ush q2 (8 : Int32)) &&& (65535 : Int32)) else (fun _ => -1) r) H1061 (posf q0 (1 : Int32) q1) (((ush q2 (8 : Int32)) &&& (65535 : Int32)) + (1 : Int32)) 2 HT1062 fr1073 fr1073a fr1073b (own_nb1 q2) (by simp only [pn_0_1, pn_0_2, pn_0_3, pn_0_4, pn_1_0, pn_1_2, pn_1_3, pn_1_4, pn_2_0, pn_2_1, pn_2_3, pn_2_4, pn_3_0, pn_3_1, pn_3_2, pn_3_4, pn_4_0, pn_4_1, pn_4_2, pn_4_3, if_true, if_false]) (by decide) (by decide)) (w27 hw) (w28 hw) (nf_same (C := "") (w30 hw)) (w30 hw) (w29 hw) (w7 hw) (w31 hw) (by decide) pd__JI_V rfl (W := 0) (by decide) (by decide) (Nat.le_of_eq rfl) (by decide) (by decide) rfl rfl at_95 rfl fun T h1074 v1075 A Q1076 => ?_
    obtain ⟨rfl, P1068, N1069, H1070, HT1071, FR1072⟩ := Q1076
    have FR1072 := FR1072 14 FR1063
    refine Wp.stk (st' := []) rfl ?_
    refine s_iload (pc' := 100) A at_98 rfl rfl ?_
    refine s_iconst (pc' := 101) (z := (2 : Int32)) A at_100 rfl (by decide) ?_
    refine s_icmpN (pc' := 104) A at_101 rfl (by decide) ?_
    refine s_aload (pc' := 106) A at_104 rfl rfl rfl ?_
    refine s_lload (pc' := 108) A at_106 rfl rfl ?_
    refine s_iload (pc' := 110) A at_108 rfl rfl ?_
    refine s_iconst (pc' := 111) (z := (2 : Int32)) A at_110 rfl (by decide) ?_
    refine s_iadd (pc' := 112) (z := (((ush q2 (8 : Int32)) &&& (65535 : Int32)) + (2 : Int32))) A at_111 rfl rfl ?_
    obtain ⟨fr1082, fr1082a, fr1082b⟩ := Free.ex (c := 13) FR1072
    refine s_virtual (pc' := 115) (y := y2_put) (argsL := [(.long (posf q0 (2 : Int32) q1)), (.int (((ush q2 (8 : Int32)) &&& (65535 : Int32)) + (2 : Int32)))]) (rest := []) (z := y2_put) A H1070.1 (m_put l Z a0 hw n0 h1074 A.size b1044 a1053 b1054 2 P1068 N1069 (fun r => if r = (posf q0 (1 : Int32) q1) then (((ush q2 (8 : Int32)) &&& (65535 : Int32)) + (1 : Int32)) else (fun r => if r = (posf q0 (0 : Int32) q1) then ((ush q2 (8 : Int32)) &&& (65535 : Int32)) else (fun _ => -1) r) r) H1070 (posf q0 (2 : Int32) q1) (((ush q2 (8 : Int32)) &&& (65535 : Int32)) + (2 : Int32)) 3 HT1071 fr1082 fr1082a fr1082b (own_nb2 q2) (by simp only [pn_0_1, pn_0_2, pn_0_3, pn_0_4, pn_1_0, pn_1_2, pn_1_3, pn_1_4, pn_2_0, pn_2_1, pn_2_3, pn_2_4, pn_3_0, pn_3_1, pn_3_2, pn_3_4, pn_4_0, pn_4_1, pn_4_2, pn_4_3, if_true, if_false]) (by decide) (by decide)) (w27 hw) (w28 hw) (nf_same (C := "") (w30 hw)) (w30 hw) (w29 hw) (w7 hw) (w31 hw) (by decide) pd__JI_V rfl (W := 0) (by decide) (by decide) (Nat.le_of_eq rfl) (by decide) (by decide) rfl rfl at_112 rfl fun T h1083 v1084 A Q1085 => ?_
    obtain ⟨rfl, P1077, N1078, H1079, HT1080, FR1081⟩ := Q1085
    have FR1081 := FR1081 13 FR1072
    refine Wp.stk (st' := []) rfl ?_
    refine s_iload (pc' := 117) A at_115 rfl rfl ?_
    refine s_iconst (pc' := 118) (z := (3 : Int32)) A at_117 rfl (by decide) ?_
    refine s_icmpY (pc' := 132) A at_118 (by decide) (by decide) (by decide) ?_
    refine s_iload (pc' := 134) A at_132 rfl rfl ?_
    refine s_ifY (pc' := 142) A at_134 (by decide) (by decide) (by decide) ?_
    refine s_iload (pc' := 144) A at_142 rfl rfl ?_
    refine s_iconst (pc' := 145) (z := (1 : Int32)) A at_144 rfl (by decide) ?_
    refine s_icmpY (pc' := 153) A at_145 (by decide) (by decide) (by decide) ?_
    refine s_iload (pc' := 155) A at_153 rfl rfl ?_
    refine s_iconst (pc' := 156) (z := (2 : Int32)) A at_155 rfl (by decide) ?_
    refine s_icmpY (pc' := 164) A at_156 (by decide) (by decide) (by decide) ?_
    refine s_iload (pc' := 166) A at_164 rfl rfl ?_
    refine s_iconst (pc' := 167) (z := (3 : Int32)) A at_166 rfl (by decide) ?_
    refine s_icmpY (pc' := 175) A at_167 (by decide) (by decide) (by decide) ?_
    refine s_lload (pc' := 177) A at_175 rfl rfl ?_
    refine s_lstore (pc' := 179) (Ls' := #[jv q0, S2, iv q1, iv q2, jv (posf q0 (0 : Int32) q1), S2, jv (posf q0 (1 : Int32) q1), S2, jv (posf q0 (2 : Int32) q1), S2, jv (posf q0 (3 : Int32) q1), S2, jv (posf q0 (4 : Int32) q1), S2, iv 3, iv 4, iv ((ush q2 (8 : Int32)) &&& (65535 : Int32)), rv b1044, jv (posf q0 (4 : Int32) q1), S2]) A at_177 rfl rfl ?_
    refine s_aload (pc' := 181) A at_179 rfl rfl rfl ?_
    refine s_lload (pc' := 183) A at_181 rfl rfl ?_
    obtain ⟨fr1092, fr1092a, fr1092b⟩ := Free.ex (c := 12) FR1081
    refine s_virtual (pc' := 186) (y := y3_remove) (argsL := [(.long (posf q0 (4 : Int32) q1))]) (rest := []) (z := y3_remove) A H1079.1 (m_rem l Z a0 hw n0 h1083 A.size b1044 a1053 b1054 3 P1077 N1078 (fun r => if r = (posf q0 (2 : Int32) q1) then (((ush q2 (8 : Int32)) &&& (65535 : Int32)) + (2 : Int32)) else (fun r => if r = (posf q0 (1 : Int32) q1) then (((ush q2 (8 : Int32)) &&& (65535 : Int32)) + (1 : Int32)) else (fun r => if r = (posf q0 (0 : Int32) q1) then ((ush q2 (8 : Int32)) &&& (65535 : Int32)) else (fun _ => -1) r) r) r) (posf q0 (4 : Int32) q1) H1079 HT1080 fr1092 fr1092a fr1092b) (w38 hw) (w39 hw) (nf_same (C := "") (w41 hw)) (w41 hw) (w40 hw) (w7 hw) (w42 hw) (by decide) pd__J_V rfl (W := 0) (by decide) (by decide) (Nat.le_of_eq rfl) (by decide) (by decide) rfl rfl at_183 rfl fun T h1093 v1094 A Q1095 => ?_
    obtain ⟨rfl, P1086, N1087, z1088, H1089, HT1090, f1091, f1091a, f1091b⟩ := Q1095
    refine Wp.stk (st' := []) rfl ?_
    refine s_aload (pc' := 188) A at_186 rfl rfl rfl ?_
    refine s_lload (pc' := 190) A at_188 rfl rfl ?_
    refine s_virtual (pc' := 193) (y := y0_get) (argsL := [(.long (posf q0 (0 : Int32) q1))]) (rest := []) (z := y0_get) A H1089.1 (m_get l Z a0 hw n0 h1093 A.size b1044 a1053 b1054 z1088 P1086 N1087 (fun r => if r = (posf q0 (4 : Int32) q1) then -1 else (fun r => if r = (posf q0 (2 : Int32) q1) then (((ush q2 (8 : Int32)) &&& (65535 : Int32)) + (2 : Int32)) else (fun r => if r = (posf q0 (1 : Int32) q1) then (((ush q2 (8 : Int32)) &&& (65535 : Int32)) + (1 : Int32)) else (fun r => if r = (posf q0 (0 : Int32) q1) then ((ush q2 (8 : Int32)) &&& (65535 : Int32)) else (fun _ => -1) r) r) r) r) (posf q0 (0 : Int32) q1) H1089 HT1090 f1091 f1091a f1091b) (w43 hw) (w44 hw) (nf_same (C := "") (w46 hw)) (w46 hw) (w45 hw) (w7 hw) (w47 hw) (by decide) pd__J_I rfl (W := 0) (by decide) (by decide) (Nat.le_of_eq rfl) (by decide) (by decide) rfl rfl at_190 rfl fun T h1096 v1097 A Q1098 => ?_
    obtain ⟨ev, eh⟩ := Q1098
    obtain rfl := ev.trans (congrArg (fun z => some (Value.int z)) (show (fun r => if r = (posf q0 (4 : Int32) q1) then -1 else (fun r => if r = (posf q0 (2 : Int32) q1) then (((ush q2 (8 : Int32)) &&& (65535 : Int32)) + (2 : Int32)) else (fun r => if r = (posf q0 (1 : Int32) q1) then (((ush q2 (8 : Int32)) &&& (65535 : Int32)) + (1 : Int32)) else (fun r => if r = (posf q0 (0 : Int32) q1) then ((ush q2 (8 : Int32)) &&& (65535 : Int32)) else (fun _ => -1) r) r) r) r) (posf q0 (0 : Int32) q1) = ((ush q2 (8 : Int32)) &&& (65535 : Int32)) from (by simp only [pn_0_1, pn_0_2, pn_0_3, pn_0_4, pn_1_0, pn_1_2, pn_1_3, pn_1_4, pn_2_0, pn_2_1, pn_2_3, pn_2_4, pn_3_0, pn_3_1, pn_3_2, pn_3_4, pn_4_0, pn_4_1, pn_4_2, pn_4_3, if_true, if_false])))
    rw [eh] at A
    refine Wp.stk (st' := [(.int ((ush q2 (8 : Int32)) &&& (65535 : Int32)))]) rfl ?_
    refine s_iconst (pc' := 194) (z := (0 : Int32)) A at_193 rfl (by decide) ?_
    refine s_iload (pc' := 196) A at_194 rfl rfl ?_
    refine s_iload (pc' := 198) A at_196 rfl rfl ?_
    refine s_iload (pc' := 200) A at_198 rfl rfl ?_
    refine s_static (pc' := 203) (y := y8_check) (argsL := [(.int ((ush q2 (8 : Int32)) &&& (65535 : Int32))), (.int (0 : Int32)), (.int (3 : Int32)), (.int (4 : Int32)), (.int ((ush q2 (8 : Int32)) &&& (65535 : Int32)))]) (rest := []) A (m_in l Z a0 hw n0 h1093 A.size ((ush q2 (8 : Int32)) &&& (65535 : Int32)) (0 : Int32) (3 : Int32) (4 : Int32) ((ush q2 (8 : Int32)) &&& (65535 : Int32)) (by decide) (by decide) (Int32.add_zero _).symm) (w48 hw) (w49 hw) (w2 hw) (w50 hw) (by decide) pd__IIIII_Z rfl (W := 0) (by decide) (by decide) (Nat.le_of_eq rfl) (by decide) (by decide) rfl rfl at_200 rfl fun T h1099 v1100 A Q1101 => ?_
    obtain ⟨rfl, eh⟩ := Q1101
    rw [eh] at A
    refine Wp.stk (st' := [(.int (1 : Int32))]) rfl ?_
    refine s_ifN (pc' := 206) A at_203 rfl (by decide) ?_
    refine s_aload (pc' := 208) A at_206 rfl rfl rfl ?_
    refine s_lload (pc' := 210) A at_208 rfl rfl ?_
    refine s_virtual (pc' := 213) (y := y0_get) (argsL := [(.long (posf q0 (1 : Int32) q1))]) (rest := []) (z := y0_get) A H1089.1 (m_get l Z a0 hw n0 h1093 A.size b1044 a1053 b1054 z1088 P1086 N1087 (fun r => if r = (posf q0 (4 : Int32) q1) then -1 else (fun r => if r = (posf q0 (2 : Int32) q1) then (((ush q2 (8 : Int32)) &&& (65535 : Int32)) + (2 : Int32)) else (fun r => if r = (posf q0 (1 : Int32) q1) then (((ush q2 (8 : Int32)) &&& (65535 : Int32)) + (1 : Int32)) else (fun r => if r = (posf q0 (0 : Int32) q1) then ((ush q2 (8 : Int32)) &&& (65535 : Int32)) else (fun _ => -1) r) r) r) r) (posf q0 (1 : Int32) q1) H1089 HT1090 f1091 f1091a f1091b) (w43 hw) (w44 hw) (nf_same (C := "") (w46 hw)) (w46 hw) (w45 hw) (w7 hw) (w47 hw) (by decide) pd__J_I rfl (W := 0) (by decide) (by decide) (Nat.le_of_eq rfl) (by decide) (by decide) rfl rfl at_210 rfl fun T h1102 v1103 A Q1104 => ?_
    obtain ⟨ev, eh⟩ := Q1104
    obtain rfl := ev.trans (congrArg (fun z => some (Value.int z)) (show (fun r => if r = (posf q0 (4 : Int32) q1) then -1 else (fun r => if r = (posf q0 (2 : Int32) q1) then (((ush q2 (8 : Int32)) &&& (65535 : Int32)) + (2 : Int32)) else (fun r => if r = (posf q0 (1 : Int32) q1) then (((ush q2 (8 : Int32)) &&& (65535 : Int32)) + (1 : Int32)) else (fun r => if r = (posf q0 (0 : Int32) q1) then ((ush q2 (8 : Int32)) &&& (65535 : Int32)) else (fun _ => -1) r) r) r) r) (posf q0 (1 : Int32) q1) = (((ush q2 (8 : Int32)) &&& (65535 : Int32)) + (1 : Int32)) from (by simp only [pn_0_1, pn_0_2, pn_0_3, pn_0_4, pn_1_0, pn_1_2, pn_1_3, pn_1_4, pn_2_0, pn_2_1, pn_2_3, pn_2_4, pn_3_0, pn_3_1, pn_3_2, pn_3_4, pn_4_0, pn_4_1, pn_4_2, pn_4_3, if_true, if_false])))
    rw [eh] at A
    refine Wp.stk (st' := [(.int (((ush q2 (8 : Int32)) &&& (65535 : Int32)) + (1 : Int32)))]) rfl ?_
    refine s_iconst (pc' := 214) (z := (1 : Int32)) A at_213 rfl (by decide) ?_
    refine s_iload (pc' := 216) A at_214 rfl rfl ?_
    refine s_iload (pc' := 218) A at_216 rfl rfl ?_
    refine s_iload (pc' := 220) A at_218 rfl rfl ?_
    refine s_static (pc' := 223) (y := y8_check) (argsL := [(.int (((ush q2 (8 : Int32)) &&& (65535 : Int32)) + (1 : Int32))), (.int (1 : Int32)), (.int (3 : Int32)), (.int (4 : Int32)), (.int ((ush q2 (8 : Int32)) &&& (65535 : Int32)))]) (rest := []) A (m_in l Z a0 hw n0 h1093 A.size (((ush q2 (8 : Int32)) &&& (65535 : Int32)) + (1 : Int32)) (1 : Int32) (3 : Int32) (4 : Int32) ((ush q2 (8 : Int32)) &&& (65535 : Int32)) (by decide) (by decide) rfl) (w48 hw) (w49 hw) (w2 hw) (w50 hw) (by decide) pd__IIIII_Z rfl (W := 0) (by decide) (by decide) (Nat.le_of_eq rfl) (by decide) (by decide) rfl rfl at_220 rfl fun T h1105 v1106 A Q1107 => ?_
    obtain ⟨rfl, eh⟩ := Q1107
    rw [eh] at A
    refine Wp.stk (st' := [(.int (1 : Int32))]) rfl ?_
    refine s_ifN (pc' := 226) A at_223 rfl (by decide) ?_
    refine s_aload (pc' := 228) A at_226 rfl rfl rfl ?_
    refine s_lload (pc' := 230) A at_228 rfl rfl ?_
    refine s_virtual (pc' := 233) (y := y0_get) (argsL := [(.long (posf q0 (2 : Int32) q1))]) (rest := []) (z := y0_get) A H1089.1 (m_get l Z a0 hw n0 h1093 A.size b1044 a1053 b1054 z1088 P1086 N1087 (fun r => if r = (posf q0 (4 : Int32) q1) then -1 else (fun r => if r = (posf q0 (2 : Int32) q1) then (((ush q2 (8 : Int32)) &&& (65535 : Int32)) + (2 : Int32)) else (fun r => if r = (posf q0 (1 : Int32) q1) then (((ush q2 (8 : Int32)) &&& (65535 : Int32)) + (1 : Int32)) else (fun r => if r = (posf q0 (0 : Int32) q1) then ((ush q2 (8 : Int32)) &&& (65535 : Int32)) else (fun _ => -1) r) r) r) r) (posf q0 (2 : Int32) q1) H1089 HT1090 f1091 f1091a f1091b) (w43 hw) (w44 hw) (nf_same (C := "") (w46 hw)) (w46 hw) (w45 hw) (w7 hw) (w47 hw) (by decide) pd__J_I rfl (W := 0) (by decide) (by decide) (Nat.le_of_eq rfl) (by decide) (by decide) rfl rfl at_230 rfl fun T h1108 v1109 A Q1110 => ?_
    obtain ⟨ev, eh⟩ := Q1110
    obtain rfl := ev.trans (congrArg (fun z => some (Value.int z)) (show (fun r => if r = (posf q0 (4 : Int32) q1) then -1 else (fun r => if r = (posf q0 (2 : Int32) q1) then (((ush q2 (8 : Int32)) &&& (65535 : Int32)) + (2 : Int32)) else (fun r => if r = (posf q0 (1 : Int32) q1) then (((ush q2 (8 : Int32)) &&& (65535 : Int32)) + (1 : Int32)) else (fun r => if r = (posf q0 (0 : Int32) q1) then ((ush q2 (8 : Int32)) &&& (65535 : Int32)) else (fun _ => -1) r) r) r) r) (posf q0 (2 : Int32) q1) = (((ush q2 (8 : Int32)) &&& (65535 : Int32)) + (2 : Int32)) from (by simp only [pn_0_1, pn_0_2, pn_0_3, pn_0_4, pn_1_0, pn_1_2, pn_1_3, pn_1_4, pn_2_0, pn_2_1, pn_2_3, pn_2_4, pn_3_0, pn_3_1, pn_3_2, pn_3_4, pn_4_0, pn_4_1, pn_4_2, pn_4_3, if_true, if_false])))
    rw [eh] at A
    refine Wp.stk (st' := [(.int (((ush q2 (8 : Int32)) &&& (65535 : Int32)) + (2 : Int32)))]) rfl ?_
    refine s_iconst (pc' := 234) (z := (2 : Int32)) A at_233 rfl (by decide) ?_
    refine s_iload (pc' := 236) A at_234 rfl rfl ?_
    refine s_iload (pc' := 238) A at_236 rfl rfl ?_
    refine s_iload (pc' := 240) A at_238 rfl rfl ?_
    refine s_static (pc' := 243) (y := y8_check) (argsL := [(.int (((ush q2 (8 : Int32)) &&& (65535 : Int32)) + (2 : Int32))), (.int (2 : Int32)), (.int (3 : Int32)), (.int (4 : Int32)), (.int ((ush q2 (8 : Int32)) &&& (65535 : Int32)))]) (rest := []) A (m_in l Z a0 hw n0 h1093 A.size (((ush q2 (8 : Int32)) &&& (65535 : Int32)) + (2 : Int32)) (2 : Int32) (3 : Int32) (4 : Int32) ((ush q2 (8 : Int32)) &&& (65535 : Int32)) (by decide) (by decide) rfl) (w48 hw) (w49 hw) (w2 hw) (w50 hw) (by decide) pd__IIIII_Z rfl (W := 0) (by decide) (by decide) (Nat.le_of_eq rfl) (by decide) (by decide) rfl rfl at_240 rfl fun T h1111 v1112 A Q1113 => ?_
    obtain ⟨rfl, eh⟩ := Q1113
    rw [eh] at A
    refine Wp.stk (st' := [(.int (1 : Int32))]) rfl ?_
    refine s_ifN (pc' := 246) A at_243 rfl (by decide) ?_
    refine s_aload (pc' := 248) A at_246 rfl rfl rfl ?_
    refine s_lload (pc' := 250) A at_248 rfl rfl ?_
    refine s_virtual (pc' := 253) (y := y0_get) (argsL := [(.long (posf q0 (3 : Int32) q1))]) (rest := []) (z := y0_get) A H1089.1 (m_get l Z a0 hw n0 h1093 A.size b1044 a1053 b1054 z1088 P1086 N1087 (fun r => if r = (posf q0 (4 : Int32) q1) then -1 else (fun r => if r = (posf q0 (2 : Int32) q1) then (((ush q2 (8 : Int32)) &&& (65535 : Int32)) + (2 : Int32)) else (fun r => if r = (posf q0 (1 : Int32) q1) then (((ush q2 (8 : Int32)) &&& (65535 : Int32)) + (1 : Int32)) else (fun r => if r = (posf q0 (0 : Int32) q1) then ((ush q2 (8 : Int32)) &&& (65535 : Int32)) else (fun _ => -1) r) r) r) r) (posf q0 (3 : Int32) q1) H1089 HT1090 f1091 f1091a f1091b) (w43 hw) (w44 hw) (nf_same (C := "") (w46 hw)) (w46 hw) (w45 hw) (w7 hw) (w47 hw) (by decide) pd__J_I rfl (W := 0) (by decide) (by decide) (Nat.le_of_eq rfl) (by decide) (by decide) rfl rfl at_250 rfl fun T h1114 v1115 A Q1116 => ?_
    obtain ⟨ev, eh⟩ := Q1116
    obtain rfl := ev.trans (congrArg (fun z => some (Value.int z)) (show (fun r => if r = (posf q0 (4 : Int32) q1) then -1 else (fun r => if r = (posf q0 (2 : Int32) q1) then (((ush q2 (8 : Int32)) &&& (65535 : Int32)) + (2 : Int32)) else (fun r => if r = (posf q0 (1 : Int32) q1) then (((ush q2 (8 : Int32)) &&& (65535 : Int32)) + (1 : Int32)) else (fun r => if r = (posf q0 (0 : Int32) q1) then ((ush q2 (8 : Int32)) &&& (65535 : Int32)) else (fun _ => -1) r) r) r) r) (posf q0 (3 : Int32) q1) = (-1 : Int32) from (by simp only [pn_0_1, pn_0_2, pn_0_3, pn_0_4, pn_1_0, pn_1_2, pn_1_3, pn_1_4, pn_2_0, pn_2_1, pn_2_3, pn_2_4, pn_3_0, pn_3_1, pn_3_2, pn_3_4, pn_4_0, pn_4_1, pn_4_2, pn_4_3, if_true, if_false])))
    rw [eh] at A
    refine Wp.stk (st' := [(.int (-1 : Int32))]) rfl ?_
    refine s_iconst (pc' := 254) (z := (3 : Int32)) A at_253 rfl (by decide) ?_
    refine s_iload (pc' := 256) A at_254 rfl rfl ?_
    refine s_iload (pc' := 258) A at_256 rfl rfl ?_
    refine s_iload (pc' := 260) A at_258 rfl rfl ?_
    refine s_static (pc' := 263) (y := y8_check) (argsL := [(.int (-1 : Int32)), (.int (3 : Int32)), (.int (3 : Int32)), (.int (4 : Int32)), (.int ((ush q2 (8 : Int32)) &&& (65535 : Int32)))]) (rest := []) A (m_out l Z a0 hw n0 h1093 A.size (-1 : Int32) (3 : Int32) (3 : Int32) (4 : Int32) ((ush q2 (8 : Int32)) &&& (65535 : Int32)) (Or.inl (by decide)) rfl) (w48 hw) (w49 hw) (w2 hw) (w50 hw) (by decide) pd__IIIII_Z rfl (W := 0) (by decide) (by decide) (Nat.le_of_eq rfl) (by decide) (by decide) rfl rfl at_260 rfl fun T h1117 v1118 A Q1119 => ?_
    obtain ⟨rfl, eh⟩ := Q1119
    rw [eh] at A
    refine Wp.stk (st' := [(.int (1 : Int32))]) rfl ?_
    refine s_ifN (pc' := 266) A at_263 rfl (by decide) ?_
    refine s_aload (pc' := 268) A at_266 rfl rfl rfl ?_
    refine s_lload (pc' := 270) A at_268 rfl rfl ?_
    refine s_virtual (pc' := 273) (y := y0_get) (argsL := [(.long (posf q0 (4 : Int32) q1))]) (rest := []) (z := y0_get) A H1089.1 (m_get l Z a0 hw n0 h1093 A.size b1044 a1053 b1054 z1088 P1086 N1087 (fun r => if r = (posf q0 (4 : Int32) q1) then -1 else (fun r => if r = (posf q0 (2 : Int32) q1) then (((ush q2 (8 : Int32)) &&& (65535 : Int32)) + (2 : Int32)) else (fun r => if r = (posf q0 (1 : Int32) q1) then (((ush q2 (8 : Int32)) &&& (65535 : Int32)) + (1 : Int32)) else (fun r => if r = (posf q0 (0 : Int32) q1) then ((ush q2 (8 : Int32)) &&& (65535 : Int32)) else (fun _ => -1) r) r) r) r) (posf q0 (4 : Int32) q1) H1089 HT1090 f1091 f1091a f1091b) (w43 hw) (w44 hw) (nf_same (C := "") (w46 hw)) (w46 hw) (w45 hw) (w7 hw) (w47 hw) (by decide) pd__J_I rfl (W := 0) (by decide) (by decide) (Nat.le_of_eq rfl) (by decide) (by decide) rfl rfl at_270 rfl fun T h1120 v1121 A Q1122 => ?_
    obtain ⟨ev, eh⟩ := Q1122
    obtain rfl := ev.trans (congrArg (fun z => some (Value.int z)) (show (fun r => if r = (posf q0 (4 : Int32) q1) then -1 else (fun r => if r = (posf q0 (2 : Int32) q1) then (((ush q2 (8 : Int32)) &&& (65535 : Int32)) + (2 : Int32)) else (fun r => if r = (posf q0 (1 : Int32) q1) then (((ush q2 (8 : Int32)) &&& (65535 : Int32)) + (1 : Int32)) else (fun r => if r = (posf q0 (0 : Int32) q1) then ((ush q2 (8 : Int32)) &&& (65535 : Int32)) else (fun _ => -1) r) r) r) r) (posf q0 (4 : Int32) q1) = (-1 : Int32) from (by simp only [pn_0_1, pn_0_2, pn_0_3, pn_0_4, pn_1_0, pn_1_2, pn_1_3, pn_1_4, pn_2_0, pn_2_1, pn_2_3, pn_2_4, pn_3_0, pn_3_1, pn_3_2, pn_3_4, pn_4_0, pn_4_1, pn_4_2, pn_4_3, if_true, if_false])))
    rw [eh] at A
    refine Wp.stk (st' := [(.int (-1 : Int32))]) rfl ?_
    refine s_iconst (pc' := 274) (z := (4 : Int32)) A at_273 rfl (by decide) ?_
    refine s_iload (pc' := 276) A at_274 rfl rfl ?_
    refine s_iload (pc' := 278) A at_276 rfl rfl ?_
    refine s_iload (pc' := 280) A at_278 rfl rfl ?_
    refine s_static (pc' := 283) (y := y8_check) (argsL := [(.int (-1 : Int32)), (.int (4 : Int32)), (.int (3 : Int32)), (.int (4 : Int32)), (.int ((ush q2 (8 : Int32)) &&& (65535 : Int32)))]) (rest := []) A (m_out l Z a0 hw n0 h1093 A.size (-1 : Int32) (4 : Int32) (3 : Int32) (4 : Int32) ((ush q2 (8 : Int32)) &&& (65535 : Int32)) (Or.inl (by decide)) rfl) (w48 hw) (w49 hw) (w2 hw) (w50 hw) (by decide) pd__IIIII_Z rfl (W := 0) (by decide) (by decide) (Nat.le_of_eq rfl) (by decide) (by decide) rfl rfl at_280 rfl fun T h1123 v1124 A Q1125 => ?_
    obtain ⟨rfl, eh⟩ := Q1125
    rw [eh] at A
    refine Wp.stk (st' := [(.int (1 : Int32))]) rfl ?_
    refine s_ifN (pc' := 286) A at_283 rfl (by decide) ?_
    refine s_iconst (pc' := 287) (z := (1 : Int32)) A at_286 rfl (by decide) ?_
    refine s_goto (pc' := 291) A at_287 (by decide) (by decide) ?_
    exact r_bool A rfl (by decide) at_291 (by decide) (by decide) (rfl)
  ·
   refine s_iand (pc' := 43) (z := (3 : Int32)) A at_42 rfl hkk.symm ?_
   refine s_iconst (pc' := 44) (z := (1 : Int32)) A at_43 rfl (by decide) ?_
   refine s_iadd (pc' := 45) (z := (4 : Int32)) A at_44 rfl (by decide) ?_
   refine s_istore (pc' := 47) (Ls' := #[jv q0, S2, iv q1, iv q2, jv (posf q0 (0 : Int32) q1), S2, jv (posf q0 (1 : Int32) q1), S2, jv (posf q0 (2 : Int32) q1), S2, jv (posf q0 (3 : Int32) q1), S2, jv (posf q0 (4 : Int32) q1), S2, iv 4, U0, U0, U0, U0, U0]) A at_45 rfl rfl ?_
   refine s_iloadN (pc' := 48) A at_47 rfl rfl ?_
   refine s_iconst (pc' := 49) (z := (2 : Int32)) A at_48 rfl (by decide) ?_
   refine s_iushr (pc' := 50) (z := (ush q2 (2 : Int32))) A at_49 rfl rfl ?_
   refine s_iconst (pc' := 51) (z := (5 : Int32)) A at_50 rfl (by decide) ?_
   obtain ⟨rr, hrr⟩ : ∃ z, z = ((ush q2 (2 : Int32)) % (5 : Int32)) := ⟨_, rfl⟩
   have cr := own_r5 q2
   rw [← hrr] at cr
   rcases cr with rfl | rfl | rfl | rfl | rfl
   ·
    refine s_irem (pc' := 52) (z := (0 : Int32)) A at_51 rfl (by decide) hrr.symm ?_
    refine s_istore (pc' := 54) (Ls' := #[jv q0, S2, iv q1, iv q2, jv (posf q0 (0 : Int32) q1), S2, jv (posf q0 (1 : Int32) q1), S2, jv (posf q0 (2 : Int32) q1), S2, jv (posf q0 (3 : Int32) q1), S2, jv (posf q0 (4 : Int32) q1), S2, iv 4, iv 0, U0, U0, U0, U0]) A at_52 rfl rfl ?_
    refine s_iloadN (pc' := 55) A at_54 rfl rfl ?_
    refine s_bipush (pc' := 57) (z := (8 : Int32)) A at_55 rfl (by decide) ?_
    refine s_iushr (pc' := 58) (z := (ush q2 (8 : Int32))) A at_57 rfl rfl ?_
    refine s_ldcInt (pc' := 60) A at_58 rfl (w4 hw) ?_
    refine s_iand (pc' := 61) (z := ((ush q2 (8 : Int32)) &&& (65535 : Int32))) A at_60 rfl rfl ?_
    refine s_istore (pc' := 63) (Ls' := #[jv q0, S2, iv q1, iv q2, jv (posf q0 (0 : Int32) q1), S2, jv (posf q0 (1 : Int32) q1), S2, jv (posf q0 (2 : Int32) q1), S2, jv (posf q0 (3 : Int32) q1), S2, jv (posf q0 (4 : Int32) q1), S2, iv 4, iv 0, iv ((ush q2 (8 : Int32)) &&& (65535 : Int32)), U0, U0, U0]) A at_61 rfl rfl ?_
    refine s_new (pc' := 66) A (w5 hw) (w6 hw) (w7 hw) (by decide) (by decide) at_63 rfl fun T h1126 b1127 A g1128 ge1129 X1130 E1131 D1132 => ?_
    have F1133 : Fld Z h1126 b1127 "com/example/wirefram/wirefram/sequence/PositionIndex" "positions" "[J" .null := D1132 (Or.inl (w16 hw)) (ty := (.array .long)) (by decide)
    have F1134 : Fld Z h1126 b1127 "com/example/wirefram/wirefram/sequence/PositionIndex" "numbers" "[I" .null := D1132 (Or.inl (w26 hw)) (ty := (.array .int)) (by decide)
    have F1135 : Fld Z h1126 b1127 "com/example/wirefram/wirefram/sequence/PositionIndex" "size" "I" (.int (0 : Int32)) := D1132 (Or.inl (w33 hw)) (ty := .int) (by decide)
    refine s_dup (pc' := 67) A at_66 rfl rfl ?_
    refine s_special (pc' := 70) (y := y6_init) (argsL := []) (rest := [(.ref b1127)]) A (m_init l Z a0 hw n0 h1126 A.size b1127 E1131 F1133 F1134 F1135 ge1129) rfl (w8 hw) (w9 hw) (w7 hw) (w10 hw) (by decide) pd___V rfl (W := 1) (by decide) (by decide) (Nat.le_of_eq rfl) (by decide) (by decide) rfl rfl at_67 rfl fun T h1139 v1140 A Q1141 => ?_
    obtain ⟨rfl, a1136, b1137, H1138⟩ := Q1141
    refine Wp.stk (st' := [(.ref b1127)]) rfl ?_
    refine s_astore (pc' := 72) (Ls' := #[jv q0, S2, iv q1, iv q2, jv (posf q0 (0 : Int32) q1), S2, jv (posf q0 (1 : Int32) q1), S2, jv (posf q0 (2 : Int32) q1), S2, jv (posf q0 (3 : Int32) q1), S2, jv (posf q0 (4 : Int32) q1), S2, iv 4, iv 0, iv ((ush q2 (8 : Int32)) &&& (65535 : Int32)), rv b1127, U0, U0]) A at_70 rfl rfl rfl ?_
    refine s_aload (pc' := 74) A at_72 rfl rfl rfl ?_
    refine s_lload (pc' := 76) A at_74 rfl rfl ?_
    refine s_iload (pc' := 78) A at_76 rfl rfl ?_
    obtain ⟨fr1147, fr1147a, fr1147b⟩ := Free.ex (c := 15) own_free0
    refine s_virtual (pc' := 81) (y := y2_put) (argsL := [(.long (posf q0 (0 : Int32) q1)), (.int ((ush q2 (8 : Int32)) &&& (65535 : Int32)))]) (rest := []) (z := y2_put) A H1138.1 (m_put l Z a0 hw n0 h1139 A.size b1127 a1136 b1137 0 (fun _ => 0) (fun _ => -1) (fun _ => -1) H1138 (posf q0 (0 : Int32) q1) ((ush q2 (8 : Int32)) &&& (65535 : Int32)) 1 (own_tab0 (fun _ => 0)) fr1147 fr1147a fr1147b (own_nb0 q2) rfl (by decide) (by decide)) (w27 hw) (w28 hw) (nf_same (C := "") (w30 hw)) (w30 hw) (w29 hw) (w7 hw) (w31 hw) (by decide) pd__JI_V rfl (W := 0) (by decide) (by decide) (Nat.le_of_eq rfl) (by decide) (by decide) rfl rfl at_78 rfl fun T h1148 v1149 A Q1150 => ?_
    obtain ⟨rfl, P1142, N1143, H1144, HT1145, FR1146⟩ := Q1150
    have FR1146 := FR1146 15 own_free0
    refine Wp.stk (st' := []) rfl ?_
    refine s_iload (pc' := 83) A at_81 rfl rfl ?_
    refine s_iconst (pc' := 84) (z := (1 : Int32)) A at_83 rfl (by decide) ?_
    refine s_icmpN (pc' := 87) A at_84 rfl (by decide) ?_
    refine s_aload (pc' := 89) A at_87 rfl rfl rfl ?_
    refine s_lload (pc' := 91) A at_89 rfl rfl ?_
    refine s_iload (pc' := 93) A at_91 rfl rfl ?_
    refine s_iconst (pc' := 94) (z := (1 : Int32)) A at_93 rfl (by decide) ?_
    refine s_iadd (pc' := 95) (z := (((ush q2 (8 : Int32)) &&& (65535 : Int32)) + (1 : Int32))) A at_94 rfl rfl ?_
    obtain ⟨fr1156, fr1156a, fr1156b⟩ := Free.ex (c := 14) FR1146
    refine s_virtual (pc' := 98) (y := y2_put) (argsL := [(.long (posf q0 (1 : Int32) q1)), (.int (((ush q2 (8 : Int32)) &&& (65535 : Int32)) + (1 : Int32)))]) (rest := []) (z := y2_put) A H1144.1 (m_put l Z a0 hw n0 h1148 A.size b1127 a1136 b1137 1 P1142 N1143 (fun r => if r = (posf q0 (0 : Int32) q1) then ((ush q2 (8 : Int32)) &&& (65535 : Int32)) else (fun _ => -1) r) H1144 (posf q0 (1 : Int32) q1) (((ush q2 (8 : Int32)) &&& (65535 : Int32)) + (1 : Int32)) 2 HT1145 fr1156 fr1156a fr1156b (own_nb1 q2) (by simp only [pn_0_1, pn_0_2, pn_0_3, pn_0_4, pn_1_0, pn_1_2, pn_1_3, pn_1_4, pn_2_0, pn_2_1, pn_2_3, pn_2_4, pn_3_0, pn_3_1, pn_3_2, pn_3_4, pn_4_0, pn_4_1, pn_4_2, pn_4_3, if_true, if_false]) (by decide) (by decide)) (w27 hw) (w28 hw) (nf_same (C := "") (w30 hw)) (w30 hw) (w29 hw) (w7 hw) (w31 hw) (by decide) pd__JI_V rfl (W := 0) (by decide) (by decide) (Nat.le_of_eq rfl) (by decide) (by decide) rfl rfl at_95 rfl fun T h1157 v1158 A Q1159 => ?_
    obtain ⟨rfl, P1151, N1152, H1153, HT1154, FR1155⟩ := Q1159
    have FR1155 := FR1155 14 FR1146
    refine Wp.stk (st' := []) rfl ?_
    refine s_iload (pc' := 100) A at_98 rfl rfl ?_
    refine s_iconst (pc' := 101) (z := (2 : Int32)) A at_100 rfl (by decide) ?_
    refine s_icmpN (pc' := 104) A at_101 rfl (by decide) ?_
    refine s_aload (pc' := 106) A at_104 rfl rfl rfl ?_
    refine s_lload (pc' := 108) A at_106 rfl rfl ?_
    refine s_iload (pc' := 110) A at_108 rfl rfl ?_
    refine s_iconst (pc' := 111) (z := (2 : Int32)) A at_110 rfl (by decide) ?_
    refine s_iadd (pc' := 112) (z := (((ush q2 (8 : Int32)) &&& (65535 : Int32)) + (2 : Int32))) A at_111 rfl rfl ?_
    obtain ⟨fr1165, fr1165a, fr1165b⟩ := Free.ex (c := 13) FR1155
    refine s_virtual (pc' := 115) (y := y2_put) (argsL := [(.long (posf q0 (2 : Int32) q1)), (.int (((ush q2 (8 : Int32)) &&& (65535 : Int32)) + (2 : Int32)))]) (rest := []) (z := y2_put) A H1153.1 (m_put l Z a0 hw n0 h1157 A.size b1127 a1136 b1137 2 P1151 N1152 (fun r => if r = (posf q0 (1 : Int32) q1) then (((ush q2 (8 : Int32)) &&& (65535 : Int32)) + (1 : Int32)) else (fun r => if r = (posf q0 (0 : Int32) q1) then ((ush q2 (8 : Int32)) &&& (65535 : Int32)) else (fun _ => -1) r) r) H1153 (posf q0 (2 : Int32) q1) (((ush q2 (8 : Int32)) &&& (65535 : Int32)) + (2 : Int32)) 3 HT1154 fr1165 fr1165a fr1165b (own_nb2 q2) (by simp only [pn_0_1, pn_0_2, pn_0_3, pn_0_4, pn_1_0, pn_1_2, pn_1_3, pn_1_4, pn_2_0, pn_2_1, pn_2_3, pn_2_4, pn_3_0, pn_3_1, pn_3_2, pn_3_4, pn_4_0, pn_4_1, pn_4_2, pn_4_3, if_true, if_false]) (by decide) (by decide)) (w27 hw) (w28 hw) (nf_same (C := "") (w30 hw)) (w30 hw) (w29 hw) (w7 hw) (w31 hw) (by decide) pd__JI_V rfl (W := 0) (by decide) (by decide) (Nat.le_of_eq rfl) (by decide) (by decide) rfl rfl at_112 rfl fun T h1166 v1167 A Q1168 => ?_
    obtain ⟨rfl, P1160, N1161, H1162, HT1163, FR1164⟩ := Q1168
    have FR1164 := FR1164 13 FR1155
    refine Wp.stk (st' := []) rfl ?_
    refine s_iload (pc' := 117) A at_115 rfl rfl ?_
    refine s_iconst (pc' := 118) (z := (3 : Int32)) A at_117 rfl (by decide) ?_
    refine s_icmpN (pc' := 121) A at_118 rfl (by decide) ?_
    refine s_aload (pc' := 123) A at_121 rfl rfl rfl ?_
    refine s_lload (pc' := 125) A at_123 rfl rfl ?_
    refine s_iload (pc' := 127) A at_125 rfl rfl ?_
    refine s_iconst (pc' := 128) (z := (3 : Int32)) A at_127 rfl (by decide) ?_
    refine s_iadd (pc' := 129) (z := (((ush q2 (8 : Int32)) &&& (65535 : Int32)) + (3 : Int32))) A at_128 rfl rfl ?_
    obtain ⟨fr1174, fr1174a, fr1174b⟩ := Free.ex (c := 12) FR1164
    refine s_virtual (pc' := 132) (y := y2_put) (argsL := [(.long (posf q0 (3 : Int32) q1)), (.int (((ush q2 (8 : Int32)) &&& (65535 : Int32)) + (3 : Int32)))]) (rest := []) (z := y2_put) A H1162.1 (m_put l Z a0 hw n0 h1166 A.size b1127 a1136 b1137 3 P1160 N1161 (fun r => if r = (posf q0 (2 : Int32) q1) then (((ush q2 (8 : Int32)) &&& (65535 : Int32)) + (2 : Int32)) else (fun r => if r = (posf q0 (1 : Int32) q1) then (((ush q2 (8 : Int32)) &&& (65535 : Int32)) + (1 : Int32)) else (fun r => if r = (posf q0 (0 : Int32) q1) then ((ush q2 (8 : Int32)) &&& (65535 : Int32)) else (fun _ => -1) r) r) r) H1162 (posf q0 (3 : Int32) q1) (((ush q2 (8 : Int32)) &&& (65535 : Int32)) + (3 : Int32)) 4 HT1163 fr1174 fr1174a fr1174b (own_nb3 q2) (by simp only [pn_0_1, pn_0_2, pn_0_3, pn_0_4, pn_1_0, pn_1_2, pn_1_3, pn_1_4, pn_2_0, pn_2_1, pn_2_3, pn_2_4, pn_3_0, pn_3_1, pn_3_2, pn_3_4, pn_4_0, pn_4_1, pn_4_2, pn_4_3, if_true, if_false]) (by decide) (by decide)) (w27 hw) (w28 hw) (nf_same (C := "") (w30 hw)) (w30 hw) (w29 hw) (w7 hw) (w31 hw) (by decide) pd__JI_V rfl (W := 0) (by decide) (by decide) (Nat.le_of_eq rfl) (by decide) (by decide) rfl rfl at_129 rfl fun T h1175 v1176 A Q1177 => ?_
    obtain ⟨rfl, P1169, N1170, H1171, HT1172, FR1173⟩ := Q1177
    have FR1173 := FR1173 12 FR1164
    refine Wp.stk (st' := []) rfl ?_
    refine s_iload (pc' := 134) A at_132 rfl rfl ?_
    refine s_ifN (pc' := 137) A at_134 rfl (by decide) ?_
    refine s_lload (pc' := 139) A at_137 rfl rfl ?_
    refine s_goto (pc' := 177) A at_139 (by decide) (by decide) ?_
    refine s_lstore (pc' := 179) (Ls' := #[jv q0, S2, iv q1, iv q2, jv (posf q0 (0 : Int32) q1), S2, jv (posf q0 (1 : Int32) q1), S2, jv (posf q0 (2 : Int32) q1), S2, jv (posf q0 (3 : Int32) q1), S2, jv (posf q0 (4 : Int32) q1), S2, iv 4, iv 0, iv ((ush q2 (8 : Int32)) &&& (65535 : Int32)), rv b1127, jv (posf q0 (0 : Int32) q1), S2]) A at_177 rfl rfl ?_
    refine s_aload (pc' := 181) A at_179 rfl rfl rfl ?_
    refine s_lload (pc' := 183) A at_181 rfl rfl ?_
    obtain ⟨fr1184, fr1184a, fr1184b⟩ := Free.ex (c := 11) FR1173
    refine s_virtual (pc' := 186) (y := y3_remove) (argsL := [(.long (posf q0 (0 : Int32) q1))]) (rest := []) (z := y3_remove) A H1171.1 (m_rem l Z a0 hw n0 h1175 A.size b1127 a1136 b1137 4 P1169 N1170 (fun r => if r = (posf q0 (3 : Int32) q1) then (((ush q2 (8 : Int32)) &&& (65535 : Int32)) + (3 : Int32)) else (fun r => if r = (posf q0 (2 : Int32) q1) then (((ush q2 (8 : Int32)) &&& (65535 : Int32)) + (2 : Int32)) else (fun r => if r = (posf q0 (1 : Int32) q1) then (((ush q2 (8 : Int32)) &&& (65535 : Int32)) + (1 : Int32)) else (fun r => if r = (posf q0 (0 : Int32) q1) then ((ush q2 (8 : Int32)) &&& (65535 : Int32)) else (fun _ => -1) r) r) r) r) (posf q0 (0 : Int32) q1) H1171 HT1172 fr1184 fr1184a fr1184b) (w38 hw) (w39 hw) (nf_same (C := "") (w41 hw)) (w41 hw) (w40 hw) (w7 hw) (w42 hw) (by decide) pd__J_V rfl (W := 0) (by decide) (by decide) (Nat.le_of_eq rfl) (by decide) (by decide) rfl rfl at_183 rfl fun T h1185 v1186 A Q1187 => ?_
    obtain ⟨rfl, P1178, N1179, z1180, H1181, HT1182, f1183, f1183a, f1183b⟩ := Q1187
    refine Wp.stk (st' := []) rfl ?_
    refine s_aload (pc' := 188) A at_186 rfl rfl rfl ?_
    refine s_lload (pc' := 190) A at_188 rfl rfl ?_
    refine s_virtual (pc' := 193) (y := y0_get) (argsL := [(.long (posf q0 (0 : Int32) q1))]) (rest := []) (z := y0_get) A H1181.1 (m_get l Z a0 hw n0 h1185 A.size b1127 a1136 b1137 z1180 P1178 N1179 (fun r => if r = (posf q0 (0 : Int32) q1) then -1 else (fun r => if r = (posf q0 (3 : Int32) q1) then (((ush q2 (8 : Int32)) &&& (65535 : Int32)) + (3 : Int32)) else (fun r => if r = (posf q0 (2 : Int32) q1) then (((ush q2 (8 : Int32)) &&& (65535 : Int32)) + (2 : Int32)) else (fun r => if r = (posf q0 (1 : Int32) q1) then (((ush q2 (8 : Int32)) &&& (65535 : Int32)) + (1 : Int32)) else (fun r => if r = (posf q0 (0 : Int32) q1) then ((ush q2 (8 : Int32)) &&& (65535 : Int32)) else (fun _ => -1) r) r) r) r) r) (posf q0 (0 : Int32) q1) H1181 HT1182 f1183 f1183a f1183b) (w43 hw) (w44 hw) (nf_same (C := "") (w46 hw)) (w46 hw) (w45 hw) (w7 hw) (w47 hw) (by decide) pd__J_I rfl (W := 0) (by decide) (by decide) (Nat.le_of_eq rfl) (by decide) (by decide) rfl rfl at_190 rfl fun T h1188 v1189 A Q1190 => ?_
    obtain ⟨ev, eh⟩ := Q1190
    obtain rfl := ev.trans (congrArg (fun z => some (Value.int z)) (show (fun r => if r = (posf q0 (0 : Int32) q1) then -1 else (fun r => if r = (posf q0 (3 : Int32) q1) then (((ush q2 (8 : Int32)) &&& (65535 : Int32)) + (3 : Int32)) else (fun r => if r = (posf q0 (2 : Int32) q1) then (((ush q2 (8 : Int32)) &&& (65535 : Int32)) + (2 : Int32)) else (fun r => if r = (posf q0 (1 : Int32) q1) then (((ush q2 (8 : Int32)) &&& (65535 : Int32)) + (1 : Int32)) else (fun r => if r = (posf q0 (0 : Int32) q1) then ((ush q2 (8 : Int32)) &&& (65535 : Int32)) else (fun _ => -1) r) r) r) r) r) (posf q0 (0 : Int32) q1) = (-1 : Int32) from (by simp only [pn_0_1, pn_0_2, pn_0_3, pn_0_4, pn_1_0, pn_1_2, pn_1_3, pn_1_4, pn_2_0, pn_2_1, pn_2_3, pn_2_4, pn_3_0, pn_3_1, pn_3_2, pn_3_4, pn_4_0, pn_4_1, pn_4_2, pn_4_3, if_true, if_false])))
    rw [eh] at A
    refine Wp.stk (st' := [(.int (-1 : Int32))]) rfl ?_
    refine s_iconst (pc' := 194) (z := (0 : Int32)) A at_193 rfl (by decide) ?_
    refine s_iload (pc' := 196) A at_194 rfl rfl ?_
    refine s_iload (pc' := 198) A at_196 rfl rfl ?_
    refine s_iload (pc' := 200) A at_198 rfl rfl ?_
    refine s_static (pc' := 203) (y := y8_check) (argsL := [(.int (-1 : Int32)), (.int (0 : Int32)), (.int (4 : Int32)), (.int (0 : Int32)), (.int ((ush q2 (8 : Int32)) &&& (65535 : Int32)))]) (rest := []) A (m_out l Z a0 hw n0 h1185 A.size (-1 : Int32) (0 : Int32) (4 : Int32) (0 : Int32) ((ush q2 (8 : Int32)) &&& (65535 : Int32)) (Or.inr rfl) rfl) (w48 hw) (w49 hw) (w2 hw) (w50 hw) (by decide) pd__IIIII_Z rfl (W := 0) (by decide) (by decide) (Nat.le_of_eq rfl) (by decide) (by decide) rfl rfl at_200 rfl fun T h1191 v1192 A Q1193 => ?_
    obtain ⟨rfl, eh⟩ := Q1193
    rw [eh] at A
    refine Wp.stk (st' := [(.int (1 : Int32))]) rfl ?_
    refine s_ifN (pc' := 206) A at_203 rfl (by decide) ?_
    refine s_aload (pc' := 208) A at_206 rfl rfl rfl ?_
    refine s_lload (pc' := 210) A at_208 rfl rfl ?_
    refine s_virtual (pc' := 213) (y := y0_get) (argsL := [(.long (posf q0 (1 : Int32) q1))]) (rest := []) (z := y0_get) A H1181.1 (m_get l Z a0 hw n0 h1185 A.size b1127 a1136 b1137 z1180 P1178 N1179 (fun r => if r = (posf q0 (0 : Int32) q1) then -1 else (fun r => if r = (posf q0 (3 : Int32) q1) then (((ush q2 (8 : Int32)) &&& (65535 : Int32)) + (3 : Int32)) else (fun r => if r = (posf q0 (2 : Int32) q1) then (((ush q2 (8 : Int32)) &&& (65535 : Int32)) + (2 : Int32)) else (fun r => if r = (posf q0 (1 : Int32) q1) then (((ush q2 (8 : Int32)) &&& (65535 : Int32)) + (1 : Int32)) else (fun r => if r = (posf q0 (0 : Int32) q1) then ((ush q2 (8 : Int32)) &&& (65535 : Int32)) else (fun _ => -1) r) r) r) r) r) (posf q0 (1 : Int32) q1) H1181 HT1182 f1183 f1183a f1183b) (w43 hw) (w44 hw) (nf_same (C := "") (w46 hw)) (w46 hw) (w45 hw) (w7 hw) (w47 hw) (by decide) pd__J_I rfl (W := 0) (by decide) (by decide) (Nat.le_of_eq rfl) (by decide) (by decide) rfl rfl at_210 rfl fun T h1194 v1195 A Q1196 => ?_
    obtain ⟨ev, eh⟩ := Q1196
    obtain rfl := ev.trans (congrArg (fun z => some (Value.int z)) (show (fun r => if r = (posf q0 (0 : Int32) q1) then -1 else (fun r => if r = (posf q0 (3 : Int32) q1) then (((ush q2 (8 : Int32)) &&& (65535 : Int32)) + (3 : Int32)) else (fun r => if r = (posf q0 (2 : Int32) q1) then (((ush q2 (8 : Int32)) &&& (65535 : Int32)) + (2 : Int32)) else (fun r => if r = (posf q0 (1 : Int32) q1) then (((ush q2 (8 : Int32)) &&& (65535 : Int32)) + (1 : Int32)) else (fun r => if r = (posf q0 (0 : Int32) q1) then ((ush q2 (8 : Int32)) &&& (65535 : Int32)) else (fun _ => -1) r) r) r) r) r) (posf q0 (1 : Int32) q1) = (((ush q2 (8 : Int32)) &&& (65535 : Int32)) + (1 : Int32)) from (by simp only [pn_0_1, pn_0_2, pn_0_3, pn_0_4, pn_1_0, pn_1_2, pn_1_3, pn_1_4, pn_2_0, pn_2_1, pn_2_3, pn_2_4, pn_3_0, pn_3_1, pn_3_2, pn_3_4, pn_4_0, pn_4_1, pn_4_2, pn_4_3, if_true, if_false])))
    rw [eh] at A
    refine Wp.stk (st' := [(.int (((ush q2 (8 : Int32)) &&& (65535 : Int32)) + (1 : Int32)))]) rfl ?_
    refine s_iconst (pc' := 214) (z := (1 : Int32)) A at_213 rfl (by decide) ?_
    refine s_iload (pc' := 216) A at_214 rfl rfl ?_
    refine s_iload (pc' := 218) A at_216 rfl rfl ?_
    refine s_iload (pc' := 220) A at_218 rfl rfl ?_
    refine s_static (pc' := 223) (y := y8_check) (argsL := [(.int (((ush q2 (8 : Int32)) &&& (65535 : Int32)) + (1 : Int32))), (.int (1 : Int32)), (.int (4 : Int32)), (.int (0 : Int32)), (.int ((ush q2 (8 : Int32)) &&& (65535 : Int32)))]) (rest := []) A (m_in l Z a0 hw n0 h1185 A.size (((ush q2 (8 : Int32)) &&& (65535 : Int32)) + (1 : Int32)) (1 : Int32) (4 : Int32) (0 : Int32) ((ush q2 (8 : Int32)) &&& (65535 : Int32)) (by decide) (by decide) rfl) (w48 hw) (w49 hw) (w2 hw) (w50 hw) (by decide) pd__IIIII_Z rfl (W := 0) (by decide) (by decide) (Nat.le_of_eq rfl) (by decide) (by decide) rfl rfl at_220 rfl fun T h1197 v1198 A Q1199 => ?_
    obtain ⟨rfl, eh⟩ := Q1199
    rw [eh] at A
    refine Wp.stk (st' := [(.int (1 : Int32))]) rfl ?_
    refine s_ifN (pc' := 226) A at_223 rfl (by decide) ?_
    refine s_aload (pc' := 228) A at_226 rfl rfl rfl ?_
    refine s_lload (pc' := 230) A at_228 rfl rfl ?_
    refine s_virtual (pc' := 233) (y := y0_get) (argsL := [(.long (posf q0 (2 : Int32) q1))]) (rest := []) (z := y0_get) A H1181.1 (m_get l Z a0 hw n0 h1185 A.size b1127 a1136 b1137 z1180 P1178 N1179 (fun r => if r = (posf q0 (0 : Int32) q1) then -1 else (fun r => if r = (posf q0 (3 : Int32) q1) then (((ush q2 (8 : Int32)) &&& (65535 : Int32)) + (3 : Int32)) else (fun r => if r = (posf q0 (2 : Int32) q1) then (((ush q2 (8 : Int32)) &&& (65535 : Int32)) + (2 : Int32)) else (fun r => if r = (posf q0 (1 : Int32) q1) then (((ush q2 (8 : Int32)) &&& (65535 : Int32)) + (1 : Int32)) else (fun r => if r = (posf q0 (0 : Int32) q1) then ((ush q2 (8 : Int32)) &&& (65535 : Int32)) else (fun _ => -1) r) r) r) r) r) (posf q0 (2 : Int32) q1) H1181 HT1182 f1183 f1183a f1183b) (w43 hw) (w44 hw) (nf_same (C := "") (w46 hw)) (w46 hw) (w45 hw) (w7 hw) (w47 hw) (by decide) pd__J_I rfl (W := 0) (by decide) (by decide) (Nat.le_of_eq rfl) (by decide) (by decide) rfl rfl at_230 rfl fun T h1200 v1201 A Q1202 => ?_
    obtain ⟨ev, eh⟩ := Q1202
    obtain rfl := ev.trans (congrArg (fun z => some (Value.int z)) (show (fun r => if r = (posf q0 (0 : Int32) q1) then -1 else (fun r => if r = (posf q0 (3 : Int32) q1) then (((ush q2 (8 : Int32)) &&& (65535 : Int32)) + (3 : Int32)) else (fun r => if r = (posf q0 (2 : Int32) q1) then (((ush q2 (8 : Int32)) &&& (65535 : Int32)) + (2 : Int32)) else (fun r => if r = (posf q0 (1 : Int32) q1) then (((ush q2 (8 : Int32)) &&& (65535 : Int32)) + (1 : Int32)) else (fun r => if r = (posf q0 (0 : Int32) q1) then ((ush q2 (8 : Int32)) &&& (65535 : Int32)) else (fun _ => -1) r) r) r) r) r) (posf q0 (2 : Int32) q1) = (((ush q2 (8 : Int32)) &&& (65535 : Int32)) + (2 : Int32)) from (by simp only [pn_0_1, pn_0_2, pn_0_3, pn_0_4, pn_1_0, pn_1_2, pn_1_3, pn_1_4, pn_2_0, pn_2_1, pn_2_3, pn_2_4, pn_3_0, pn_3_1, pn_3_2, pn_3_4, pn_4_0, pn_4_1, pn_4_2, pn_4_3, if_true, if_false])))
    rw [eh] at A
    refine Wp.stk (st' := [(.int (((ush q2 (8 : Int32)) &&& (65535 : Int32)) + (2 : Int32)))]) rfl ?_
    refine s_iconst (pc' := 234) (z := (2 : Int32)) A at_233 rfl (by decide) ?_
    refine s_iload (pc' := 236) A at_234 rfl rfl ?_
    refine s_iload (pc' := 238) A at_236 rfl rfl ?_
    refine s_iload (pc' := 240) A at_238 rfl rfl ?_
    refine s_static (pc' := 243) (y := y8_check) (argsL := [(.int (((ush q2 (8 : Int32)) &&& (65535 : Int32)) + (2 : Int32))), (.int (2 : Int32)), (.int (4 : Int32)), (.int (0 : Int32)), (.int ((ush q2 (8 : Int32)) &&& (65535 : Int32)))]) (rest := []) A (m_in l Z a0 hw n0 h1185 A.size (((ush q2 (8 : Int32)) &&& (65535 : Int32)) + (2 : Int32)) (2 : Int32) (4 : Int32) (0 : Int32) ((ush q2 (8 : Int32)) &&& (65535 : Int32)) (by decide) (by decide) rfl) (w48 hw) (w49 hw) (w2 hw) (w50 hw) (by decide) pd__IIIII_Z rfl (W := 0) (by decide) (by decide) (Nat.le_of_eq rfl) (by decide) (by decide) rfl rfl at_240 rfl fun T h1203 v1204 A Q1205 => ?_
    obtain ⟨rfl, eh⟩ := Q1205
    rw [eh] at A
    refine Wp.stk (st' := [(.int (1 : Int32))]) rfl ?_
    refine s_ifN (pc' := 246) A at_243 rfl (by decide) ?_
    refine s_aload (pc' := 248) A at_246 rfl rfl rfl ?_
    refine s_lload (pc' := 250) A at_248 rfl rfl ?_
    refine s_virtual (pc' := 253) (y := y0_get) (argsL := [(.long (posf q0 (3 : Int32) q1))]) (rest := []) (z := y0_get) A H1181.1 (m_get l Z a0 hw n0 h1185 A.size b1127 a1136 b1137 z1180 P1178 N1179 (fun r => if r = (posf q0 (0 : Int32) q1) then -1 else (fun r => if r = (posf q0 (3 : Int32) q1) then (((ush q2 (8 : Int32)) &&& (65535 : Int32)) + (3 : Int32)) else (fun r => if r = (posf q0 (2 : Int32) q1) then (((ush q2 (8 : Int32)) &&& (65535 : Int32)) + (2 : Int32)) else (fun r => if r = (posf q0 (1 : Int32) q1) then (((ush q2 (8 : Int32)) &&& (65535 : Int32)) + (1 : Int32)) else (fun r => if r = (posf q0 (0 : Int32) q1) then ((ush q2 (8 : Int32)) &&& (65535 : Int32)) else (fun _ => -1) r) r) r) r) r) (posf q0 (3 : Int32) q1) H1181 HT1182 f1183 f1183a f1183b) (w43 hw) (w44 hw) (nf_same (C := "") (w46 hw)) (w46 hw) (w45 hw) (w7 hw) (w47 hw) (by decide) pd__J_I rfl (W := 0) (by decide) (by decide) (Nat.le_of_eq rfl) (by decide) (by decide) rfl rfl at_250 rfl fun T h1206 v1207 A Q1208 => ?_
    obtain ⟨ev, eh⟩ := Q1208
    obtain rfl := ev.trans (congrArg (fun z => some (Value.int z)) (show (fun r => if r = (posf q0 (0 : Int32) q1) then -1 else (fun r => if r = (posf q0 (3 : Int32) q1) then (((ush q2 (8 : Int32)) &&& (65535 : Int32)) + (3 : Int32)) else (fun r => if r = (posf q0 (2 : Int32) q1) then (((ush q2 (8 : Int32)) &&& (65535 : Int32)) + (2 : Int32)) else (fun r => if r = (posf q0 (1 : Int32) q1) then (((ush q2 (8 : Int32)) &&& (65535 : Int32)) + (1 : Int32)) else (fun r => if r = (posf q0 (0 : Int32) q1) then ((ush q2 (8 : Int32)) &&& (65535 : Int32)) else (fun _ => -1) r) r) r) r) r) (posf q0 (3 : Int32) q1) = (((ush q2 (8 : Int32)) &&& (65535 : Int32)) + (3 : Int32)) from (by simp only [pn_0_1, pn_0_2, pn_0_3, pn_0_4, pn_1_0, pn_1_2, pn_1_3, pn_1_4, pn_2_0, pn_2_1, pn_2_3, pn_2_4, pn_3_0, pn_3_1, pn_3_2, pn_3_4, pn_4_0, pn_4_1, pn_4_2, pn_4_3, if_true, if_false])))
    rw [eh] at A
    refine Wp.stk (st' := [(.int (((ush q2 (8 : Int32)) &&& (65535 : Int32)) + (3 : Int32)))]) rfl ?_
    refine s_iconst (pc' := 254) (z := (3 : Int32)) A at_253 rfl (by decide) ?_
    refine s_iload (pc' := 256) A at_254 rfl rfl ?_
    refine s_iload (pc' := 258) A at_256 rfl rfl ?_
    refine s_iload (pc' := 260) A at_258 rfl rfl ?_
    refine s_static (pc' := 263) (y := y8_check) (argsL := [(.int (((ush q2 (8 : Int32)) &&& (65535 : Int32)) + (3 : Int32))), (.int (3 : Int32)), (.int (4 : Int32)), (.int (0 : Int32)), (.int ((ush q2 (8 : Int32)) &&& (65535 : Int32)))]) (rest := []) A (m_in l Z a0 hw n0 h1185 A.size (((ush q2 (8 : Int32)) &&& (65535 : Int32)) + (3 : Int32)) (3 : Int32) (4 : Int32) (0 : Int32) ((ush q2 (8 : Int32)) &&& (65535 : Int32)) (by decide) (by decide) rfl) (w48 hw) (w49 hw) (w2 hw) (w50 hw) (by decide) pd__IIIII_Z rfl (W := 0) (by decide) (by decide) (Nat.le_of_eq rfl) (by decide) (by decide) rfl rfl at_260 rfl fun T h1209 v1210 A Q1211 => ?_
    obtain ⟨rfl, eh⟩ := Q1211
    rw [eh] at A
    refine Wp.stk (st' := [(.int (1 : Int32))]) rfl ?_
    refine s_ifN (pc' := 266) A at_263 rfl (by decide) ?_
    refine s_aload (pc' := 268) A at_266 rfl rfl rfl ?_
    refine s_lload (pc' := 270) A at_268 rfl rfl ?_
    refine s_virtual (pc' := 273) (y := y0_get) (argsL := [(.long (posf q0 (4 : Int32) q1))]) (rest := []) (z := y0_get) A H1181.1 (m_get l Z a0 hw n0 h1185 A.size b1127 a1136 b1137 z1180 P1178 N1179 (fun r => if r = (posf q0 (0 : Int32) q1) then -1 else (fun r => if r = (posf q0 (3 : Int32) q1) then (((ush q2 (8 : Int32)) &&& (65535 : Int32)) + (3 : Int32)) else (fun r => if r = (posf q0 (2 : Int32) q1) then (((ush q2 (8 : Int32)) &&& (65535 : Int32)) + (2 : Int32)) else (fun r => if r = (posf q0 (1 : Int32) q1) then (((ush q2 (8 : Int32)) &&& (65535 : Int32)) + (1 : Int32)) else (fun r => if r = (posf q0 (0 : Int32) q1) then ((ush q2 (8 : Int32)) &&& (65535 : Int32)) else (fun _ => -1) r) r) r) r) r) (posf q0 (4 : Int32) q1) H1181 HT1182 f1183 f1183a f1183b) (w43 hw) (w44 hw) (nf_same (C := "") (w46 hw)) (w46 hw) (w45 hw) (w7 hw) (w47 hw) (by decide) pd__J_I rfl (W := 0) (by decide) (by decide) (Nat.le_of_eq rfl) (by decide) (by decide) rfl rfl at_270 rfl fun T h1212 v1213 A Q1214 => ?_
    obtain ⟨ev, eh⟩ := Q1214
    obtain rfl := ev.trans (congrArg (fun z => some (Value.int z)) (show (fun r => if r = (posf q0 (0 : Int32) q1) then -1 else (fun r => if r = (posf q0 (3 : Int32) q1) then (((ush q2 (8 : Int32)) &&& (65535 : Int32)) + (3 : Int32)) else (fun r => if r = (posf q0 (2 : Int32) q1) then (((ush q2 (8 : Int32)) &&& (65535 : Int32)) + (2 : Int32)) else (fun r => if r = (posf q0 (1 : Int32) q1) then (((ush q2 (8 : Int32)) &&& (65535 : Int32)) + (1 : Int32)) else (fun r => if r = (posf q0 (0 : Int32) q1) then ((ush q2 (8 : Int32)) &&& (65535 : Int32)) else (fun _ => -1) r) r) r) r) r) (posf q0 (4 : Int32) q1) = (-1 : Int32) from (by simp only [pn_0_1, pn_0_2, pn_0_3, pn_0_4, pn_1_0, pn_1_2, pn_1_3, pn_1_4, pn_2_0, pn_2_1, pn_2_3, pn_2_4, pn_3_0, pn_3_1, pn_3_2, pn_3_4, pn_4_0, pn_4_1, pn_4_2, pn_4_3, if_true, if_false])))
    rw [eh] at A
    refine Wp.stk (st' := [(.int (-1 : Int32))]) rfl ?_
    refine s_iconst (pc' := 274) (z := (4 : Int32)) A at_273 rfl (by decide) ?_
    refine s_iload (pc' := 276) A at_274 rfl rfl ?_
    refine s_iload (pc' := 278) A at_276 rfl rfl ?_
    refine s_iload (pc' := 280) A at_278 rfl rfl ?_
    refine s_static (pc' := 283) (y := y8_check) (argsL := [(.int (-1 : Int32)), (.int (4 : Int32)), (.int (4 : Int32)), (.int (0 : Int32)), (.int ((ush q2 (8 : Int32)) &&& (65535 : Int32)))]) (rest := []) A (m_out l Z a0 hw n0 h1185 A.size (-1 : Int32) (4 : Int32) (4 : Int32) (0 : Int32) ((ush q2 (8 : Int32)) &&& (65535 : Int32)) (Or.inl (by decide)) rfl) (w48 hw) (w49 hw) (w2 hw) (w50 hw) (by decide) pd__IIIII_Z rfl (W := 0) (by decide) (by decide) (Nat.le_of_eq rfl) (by decide) (by decide) rfl rfl at_280 rfl fun T h1215 v1216 A Q1217 => ?_
    obtain ⟨rfl, eh⟩ := Q1217
    rw [eh] at A
    refine Wp.stk (st' := [(.int (1 : Int32))]) rfl ?_
    refine s_ifN (pc' := 286) A at_283 rfl (by decide) ?_
    refine s_iconst (pc' := 287) (z := (1 : Int32)) A at_286 rfl (by decide) ?_
    refine s_goto (pc' := 291) A at_287 (by decide) (by decide) ?_
    exact r_bool A rfl (by decide) at_291 (by decide) (by decide) (rfl)
   ·
    refine s_irem (pc' := 52) (z := (1 : Int32)) A at_51 rfl (by decide) hrr.symm ?_
    refine s_istore (pc' := 54) (Ls' := #[jv q0, S2, iv q1, iv q2, jv (posf q0 (0 : Int32) q1), S2, jv (posf q0 (1 : Int32) q1), S2, jv (posf q0 (2 : Int32) q1), S2, jv (posf q0 (3 : Int32) q1), S2, jv (posf q0 (4 : Int32) q1), S2, iv 4, iv 1, U0, U0, U0, U0]) A at_52 rfl rfl ?_
    refine s_iloadN (pc' := 55) A at_54 rfl rfl ?_
    refine s_bipush (pc' := 57) (z := (8 : Int32)) A at_55 rfl (by decide) ?_
    refine s_iushr (pc' := 58) (z := (ush q2 (8 : Int32))) A at_57 rfl rfl ?_
    refine s_ldcInt (pc' := 60) A at_58 rfl (w4 hw) ?_
    refine s_iand (pc' := 61) (z := ((ush q2 (8 : Int32)) &&& (65535 : Int32))) A at_60 rfl rfl ?_
    refine s_istore (pc' := 63) (Ls' := #[jv q0, S2, iv q1, iv q2, jv (posf q0 (0 : Int32) q1), S2, jv (posf q0 (1 : Int32) q1), S2, jv (posf q0 (2 : Int32) q1), S2, jv (posf q0 (3 : Int32) q1), S2, jv (posf q0 (4 : Int32) q1), S2, iv 4, iv 1, iv ((ush q2 (8 : Int32)) &&& (65535 : Int32)), U0, U0, U0]) A at_61 rfl rfl ?_
    refine s_new (pc' := 66) A (w5 hw) (w6 hw) (w7 hw) (by decide) (by decide) at_63 rfl fun T h1218 b1219 A g1220 ge1221 X1222 E1223 D1224 => ?_
    have F1225 : Fld Z h1218 b1219 "com/example/wirefram/wirefram/sequence/PositionIndex" "positions" "[J" .null := D1224 (Or.inl (w16 hw)) (ty := (.array .long)) (by decide)
    have F1226 : Fld Z h1218 b1219 "com/example/wirefram/wirefram/sequence/PositionIndex" "numbers" "[I" .null := D1224 (Or.inl (w26 hw)) (ty := (.array .int)) (by decide)
    have F1227 : Fld Z h1218 b1219 "com/example/wirefram/wirefram/sequence/PositionIndex" "size" "I" (.int (0 : Int32)) := D1224 (Or.inl (w33 hw)) (ty := .int) (by decide)
    refine s_dup (pc' := 67) A at_66 rfl rfl ?_
    refine s_special (pc' := 70) (y := y6_init) (argsL := []) (rest := [(.ref b1219)]) A (m_init l Z a0 hw n0 h1218 A.size b1219 E1223 F1225 F1226 F1227 ge1221) rfl (w8 hw) (w9 hw) (w7 hw) (w10 hw) (by decide) pd___V rfl (W := 1) (by decide) (by decide) (Nat.le_of_eq rfl) (by decide) (by decide) rfl rfl at_67 rfl fun T h1231 v1232 A Q1233 => ?_
    obtain ⟨rfl, a1228, b1229, H1230⟩ := Q1233
    refine Wp.stk (st' := [(.ref b1219)]) rfl ?_
    refine s_astore (pc' := 72) (Ls' := #[jv q0, S2, iv q1, iv q2, jv (posf q0 (0 : Int32) q1), S2, jv (posf q0 (1 : Int32) q1), S2, jv (posf q0 (2 : Int32) q1), S2, jv (posf q0 (3 : Int32) q1), S2, jv (posf q0 (4 : Int32) q1), S2, iv 4, iv 1, iv ((ush q2 (8 : Int32)) &&& (65535 : Int32)), rv b1219, U0, U0]) A at_70 rfl rfl rfl ?_
    refine s_aload (pc' := 74) A at_72 rfl rfl rfl ?_
    refine s_lload (pc' := 76) A at_74 rfl rfl ?_
    refine s_iload (pc' := 78) A at_76 rfl rfl ?_
    obtain ⟨fr1239, fr1239a, fr1239b⟩ := Free.ex (c := 15) own_free0
    refine s_virtual (pc' := 81) (y := y2_put) (argsL := [(.long (posf q0 (0 : Int32) q1)), (.int ((ush q2 (8 : Int32)) &&& (65535 : Int32)))]) (rest := []) (z := y2_put) A H1230.1 (m_put l Z a0 hw n0 h1231 A.size b1219 a1228 b1229 0 (fun _ => 0) (fun _ => -1) (fun _ => -1) H1230 (posf q0 (0 : Int32) q1) ((ush q2 (8 : Int32)) &&& (65535 : Int32)) 1 (own_tab0 (fun _ => 0)) fr1239 fr1239a fr1239b (own_nb0 q2) rfl (by decide) (by decide)) (w27 hw) (w28 hw) (nf_same (C := "") (w30 hw)) (w30 hw) (w29 hw) (w7 hw) (w31 hw) (by decide) pd__JI_V rfl (W := 0) (by decide) (by decide) (Nat.le_of_eq rfl) (by decide) (by decide) rfl rfl at_78 rfl fun T h1240 v1241 A Q1242 => ?_
    obtain ⟨rfl, P1234, N1235, H1236, HT1237, FR1238⟩ := Q1242
    have FR1238 := FR1238 15 own_free0
    refine Wp.stk (st' := []) rfl ?_
    refine s_iload (pc' := 83) A at_81 rfl rfl ?_
    refine s_iconst (pc' := 84) (z := (1 : Int32)) A at_83 rfl (by decide) ?_
    refine s_icmpN (pc' := 87) A at_84 rfl (by decide) ?_
    refine s_aload (pc' := 89) A at_87 rfl rfl rfl ?_
    refine s_lload (pc' := 91) A at_89 rfl rfl ?_
    refine s_iload (pc' := 93) A at_91 rfl rfl ?_
    refine s_iconst (pc' := 94) (z := (1 : Int32)) A at_93 rfl (by decide) ?_
    refine s_iadd (pc' := 95) (z := (((ush q2 (8 : Int32)) &&& (65535 : Int32)) + (1 : Int32))) A at_94 rfl rfl ?_
    obtain ⟨fr1248, fr1248a, fr1248b⟩ := Free.ex (c := 14) FR1238
    refine s_virtual (pc' := 98) (y := y2_put) (argsL := [(.long (posf q0 (1 : Int32) q1)), (.int (((ush q2 (8 : Int32)) &&& (65535 : Int32)) + (1 : Int32)))]) (rest := []) (z := y2_put) A H1236.1 (m_put l Z a0 hw n0 h1240 A.size b1219 a1228 b1229 1 P1234 N1235 (fun r => if r = (posf q0 (0 : Int32) q1) then ((ush q2 (8 : Int32)) &&& (65535 : Int32)) else (fun _ => -1) r) H1236 (posf q0 (1 : Int32) q1) (((ush q2 (8 : Int32)) &&& (65535 : Int32)) + (1 : Int32)) 2 HT1237 fr1248 fr1248a fr1248b (own_nb1 q2) (by simp only [pn_0_1, pn_0_2, pn_0_3, pn_0_4, pn_1_0, pn_1_2, pn_1_3, pn_1_4, pn_2_0, pn_2_1, pn_2_3, pn_2_4, pn_3_0, pn_3_1, pn_3_2, pn_3_4, pn_4_0, pn_4_1, pn_4_2, pn_4_3, if_true, if_false]) (by decide) (by decide)) (w27 hw) (w28 hw) (nf_same (C := "") (w30 hw)) (w30 hw) (w29 hw) (w7 hw) (w31 hw) (by decide) pd__JI_V rfl (W := 0) (by decide) (by decide) (Nat.le_of_eq rfl) (by decide) (by decide) rfl rfl at_95 rfl fun T h1249 v1250 A Q1251 => ?_
    obtain ⟨rfl, P1243, N1244, H1245, HT1246, FR1247⟩ := Q1251
    have FR1247 := FR1247 14 FR1238
    refine Wp.stk (st' := []) rfl ?_
    refine s_iload (pc' := 100) A at_98 rfl rfl ?_
    refine s_iconst (pc' := 101) (z := (2 : Int32)) A at_100 rfl (by decide) ?_
    refine s_icmpN (pc' := 104) A at_101 rfl (by decide) ?_
    refine s_aload (pc' := 106) A at_104 rfl rfl rfl ?_
    refine s_lload (pc' := 108) A at_106 rfl rfl ?_
    refine s_iload (pc' := 110) A at_108 rfl rfl ?_
    refine s_iconst (pc' := 111) (z := (2 : Int32)) A at_110 rfl (by decide) ?_
    refine s_iadd (pc' := 112) (z := (((ush q2 (8 : Int32)) &&& (65535 : Int32)) + (2 : Int32))) A at_111 rfl rfl ?_
    obtain ⟨fr1257, fr1257a, fr1257b⟩ := Free.ex (c := 13) FR1247
    refine s_virtual (pc' := 115) (y := y2_put) (argsL := [(.long (posf q0 (2 : Int32) q1)), (.int (((ush q2 (8 : Int32)) &&& (65535 : Int32)) + (2 : Int32)))]) (rest := []) (z := y2_put) A H1245.1 (m_put l Z a0 hw n0 h1249 A.size b1219 a1228 b1229 2 P1243 N1244 (fun r => if r = (posf q0 (1 : Int32) q1) then (((ush q2 (8 : Int32)) &&& (65535 : Int32)) + (1 : Int32)) else (fun r => if r = (posf q0 (0 : Int32) q1) then ((ush q2 (8 : Int32)) &&& (65535 : Int32)) else (fun _ => -1) r) r) H1245 (posf q0 (2 : Int32) q1) (((ush q2 (8 : Int32)) &&& (65535 : Int32)) + (2 : Int32)) 3 HT1246 fr1257 fr1257a fr1257b (own_nb2 q2) (by simp only [pn_0_1, pn_0_2, pn_0_3, pn_0_4, pn_1_0, pn_1_2, pn_1_3, pn_1_4, pn_2_0, pn_2_1, pn_2_3, pn_2_4, pn_3_0, pn_3_1, pn_3_2, pn_3_4, pn_4_0, pn_4_1, pn_4_2, pn_4_3, if_true, if_false]) (by decide) (by decide)) (w27 hw) (w28 hw) (nf_same (C := "") (w30 hw)) (w30 hw) (w29 hw) (w7 hw) (w31 hw) (by decide) pd__JI_V rfl (W := 0) (by decide) (by decide) (Nat.le_of_eq rfl) (by decide) (by decide) rfl rfl at_112 rfl fun T h1258 v1259 A Q1260 => ?_
    obtain ⟨rfl, P1252, N1253, H1254, HT1255, FR1256⟩ := Q1260
    have FR1256 := FR1256 13 FR1247
    refine Wp.stk (st' := []) rfl ?_
    refine s_iload (pc' := 117) A at_115 rfl rfl ?_
    refine s_iconst (pc' := 118) (z := (3 : Int32)) A at_117 rfl (by decide) ?_
    refine s_icmpN (pc' := 121) A at_118 rfl (by decide) ?_
    refine s_aload (pc' := 123) A at_121 rfl rfl rfl ?_
    refine s_lload (pc' := 125) A at_123 rfl rfl ?_
    refine s_iload (pc' := 127) A at_125 rfl rfl ?_
    refine s_iconst (pc' := 128) (z := (3 : Int32)) A at_127 rfl (by decide) ?_
    refine s_iadd (pc' := 129) (z := (((ush q2 (8 : Int32)) &&& (65535 : Int32)) + (3 : Int32))) A at_128 rfl rfl ?_
    obtain ⟨fr1266, fr1266a, fr1266b⟩ := Free.ex (c := 12) FR1256
    refine s_virtual (pc' := 132) (y := y2_put) (argsL := [(.long (posf q0 (3 : Int32) q1)), (.int (((ush q2 (8 : Int32)) &&& (65535 : Int32)) + (3 : Int32)))]) (rest := []) (z := y2_put) A H1254.1 (m_put l Z a0 hw n0 h1258 A.size b1219 a1228 b1229 3 P1252 N1253 (fun r => if r = (posf q0 (2 : Int32) q1) then (((ush q2 (8 : Int32)) &&& (65535 : Int32)) + (2 : Int32)) else (fun r => if r = (posf q0 (1 : Int32) q1) then (((ush q2 (8 : Int32)) &&& (65535 : Int32)) + (1 : Int32)) else (fun r => if r = (posf q0 (0 : Int32) q1) then ((ush q2 (8 : Int32)) &&& (65535 : Int32)) else (fun _ => -1) r) r) r) H1254 (posf q0 (3 : Int32) q1) (((ush q2 (8 : Int32)) &&& (65535 : Int32)) + (3 : Int32)) 4 HT1255 fr1266 fr1266a fr1266b (own_nb3 q2) (by simp only [pn_0_1, pn_0_2, pn_0_3, pn_0_4, pn_1_0, pn_1_2, pn_1_3, pn_1_4, pn_2_0, pn_2_1, pn_2_3, pn_2_4, pn_3_0, pn_3_1, pn_3_2, pn_3_4, pn_4_0, pn_4_1, pn_4_2, pn_4_3, if_true, if_false]) (by decide) (by decide)) (w27 hw) (w28 hw) (nf_same (C := "") (w30 hw)) (w30 hw) (w29 hw) (w7 hw) (w31 hw) (by decide) pd__JI_V rfl (W := 0) (by decide) (by decide) (Nat.le_of_eq rfl) (by decide) (by decide) rfl rfl at_129 rfl fun T h1267 v1268 A Q1269 => ?_
    obtain ⟨rfl, P1261, N1262, H1263, HT1264, FR1265⟩ := Q1269
    have FR1265 := FR1265 12 FR1256
    refine Wp.stk (st' := []) rfl ?_
    refine s_iload (pc' := 134) A at_132 rfl rfl ?_
    refine s_ifY (pc' := 142) A at_134 (by decide) (by decide) (by decide) ?_
    refine s_iload (pc' := 144) A at_142 rfl rfl ?_
    refine s_iconst (pc' := 145) (z := (1 : Int32)) A at_144 rfl (by decide) ?_
    refine s_icmpN (pc' := 148) A at_145 rfl (by decide) ?_
    refine s_lload (pc' := 150) A at_148 rfl rfl ?_
    refine s_goto (pc' := 177) A at_150 (by decide) (by decide) ?_
    refine s_lstore (pc' := 179) (Ls' := #[jv q0, S2, iv q1, iv q2, jv (posf q0 (0 : Int32) q1), S2, jv (posf q0 (1 : Int32) q1), S2, jv (posf q0 (2 : Int32) q1), S2, jv (posf q0 (3 : Int32) q1), S2, jv (posf q0 (4 : Int32) q1), S2, iv 4, iv 1, iv ((ush q2 (8 : Int32)) &&& (65535 : Int32)), rv b1219, jv (posf q0 (1 : Int32) q1), S2]) A at_177 rfl rfl ?_
    refine s_aload (pc' := 181) A at_179 rfl rfl rfl ?_
    refine s_lload (pc' := 183) A at_181 rfl rfl ?_
    obtain ⟨fr1276, fr1276a, fr1276b⟩ := Free.ex (c := 11) FR1265
    refine s_virtual (pc' := 186) (y := y3_remove) (argsL := [(.long (posf q0 (1 : Int32) q1))]) (rest := []) (z := y3_remove) A H1263.1 (m_rem l Z a0 hw n0 h1267 A.size b1219 a1228 b1229 4 P1261 N1262 (fun r => if r = (posf q0 (3 : Int32) q1) then (((ush q2 (8 : Int32)) &&& (65535 : Int32)) + (3 : Int32)) else (fun r => if r = (posf q0 (2 : Int32) q1) then (((ush q2 (8 : Int32)) &&& (65535 : Int32)) + (2 : Int32)) else (fun r => if r = (posf q0 (1 : Int32) q1) then (((ush q2 (8 : Int32)) &&& (65535 : Int32)) + (1 : Int32)) else (fun r => if r = (posf q0 (0 : Int32) q1) then ((ush q2 (8 : Int32)) &&& (65535 : Int32)) else (fun _ => -1) r) r) r) r) (posf q0 (1 : Int32) q1) H1263 HT1264 fr1276 fr1276a fr1276b) (w38 hw) (w39 hw) (nf_same (C := "") (w41 hw)) (w41 hw) (w40 hw) (w7 hw) (w42 hw) (by decide) pd__J_V rfl (W := 0) (by decide) (by decide) (Nat.le_of_eq rfl) (by decide) (by decide) rfl rfl at_183 rfl fun T h1277 v1278 A Q1279 => ?_
    obtain ⟨rfl, P1270, N1271, z1272, H1273, HT1274, f1275, f1275a, f1275b⟩ := Q1279
    refine Wp.stk (st' := []) rfl ?_
    refine s_aload (pc' := 188) A at_186 rfl rfl rfl ?_
    refine s_lload (pc' := 190) A at_188 rfl rfl ?_
    refine s_virtual (pc' := 193) (y := y0_get) (argsL := [(.long (posf q0 (0 : Int32) q1))]) (rest := []) (z := y0_get) A H1273.1 (m_get l Z a0 hw n0 h1277 A.size b1219 a1228 b1229 z1272 P1270 N1271 (fun r => if r = (posf q0 (1 : Int32) q1) then -1 else (fun r => if r = (posf q0 (3 : Int32) q1) then (((ush q2 (8 : Int32)) &&& (65535 : Int32)) + (3 : Int32)) else (fun r => if r = (posf q0 (2 : Int32) q1) then (((ush q2 (8 : Int32)) &&& (65535 : Int32)) + (2 : Int32)) else (fun r => if r = (posf q0 (1 : Int32) q1) then (((ush q2 (8 : Int32)) &&& (65535 : Int32)) + (1 : Int32)) else (fun r => if r = (posf q0 (0 : Int32) q1) then ((ush q2 (8 : Int32)) &&& (65535 : Int32)) else (fun _ => -1) r) r) r) r) r) (posf q0 (0 : Int32) q1) H1273 HT1274 f1275 f1275a f1275b) (w43 hw) (w44 hw) (nf_same (C := "") (w46 hw)) (w46 hw) (w45 hw) (w7 hw) (w47 hw) (by decide) pd__J_I rfl (W := 0) (by decide) (by decide) (Nat.le_of_eq rfl) (by decide) (by decide) rfl rfl at_190 rfl fun T h1280 v1281 A Q1282 => ?_
    obtain ⟨ev, eh⟩ := Q1282
    obtain rfl := ev.trans (congrArg (fun z => some (Value.int z)) (show (fun r => if r = (posf q0 (1 : Int32) q1) then -1 else (fun r => if r = (posf q0 (3 : Int32) q1) then (((ush q2 (8 : Int32)) &&& (65535 : Int32)) + (3 : Int32)) else (fun r => if r = (posf q0 (2 : Int32) q1) then (((ush q2 (8 : Int32)) &&& (65535 : Int32)) + (2 : Int32)) else (fun r => if r = (posf q0 (1 : Int32) q1) then (((ush q2 (8 : Int32)) &&& (65535 : Int32)) + (1 : Int32)) else (fun r => if r = (posf q0 (0 : Int32) q1) then ((ush q2 (8 : Int32)) &&& (65535 : Int32)) else (fun _ => -1) r) r) r) r) r) (posf q0 (0 : Int32) q1) = ((ush q2 (8 : Int32)) &&& (65535 : Int32)) from (by simp only [pn_0_1, pn_0_2, pn_0_3, pn_0_4, pn_1_0, pn_1_2, pn_1_3, pn_1_4, pn_2_0, pn_2_1, pn_2_3, pn_2_4, pn_3_0, pn_3_1, pn_3_2, pn_3_4, pn_4_0, pn_4_1, pn_4_2, pn_4_3, if_true, if_false])))
    rw [eh] at A
    refine Wp.stk (st' := [(.int ((ush q2 (8 : Int32)) &&& (65535 : Int32)))]) rfl ?_
    refine s_iconst (pc' := 194) (z := (0 : Int32)) A at_193 rfl (by decide) ?_
    refine s_iload (pc' := 196) A at_194 rfl rfl ?_
    refine s_iload (pc' := 198) A at_196 rfl rfl ?_
    refine s_iload (pc' := 200) A at_198 rfl rfl ?_
    refine s_static (pc' := 203) (y := y8_check) (argsL := [(.int ((ush q2 (8 : Int32)) &&& (65535 : Int32))), (.int (0 : Int32)), (.int (4 : Int32)), (.int (1 : Int32)), (.int ((ush q2 (8 : Int32)) &&& (65535 : Int32)))]) (rest := []) A (m_in l Z a0 hw n0 h1277 A.size ((ush q2 (8 : Int32)) &&& (65535 : Int32)) (0 : Int32) (4 : Int32) (1 : Int32) ((ush q2 (8 : Int32)) &&& (65535 : Int32)) (by decide) (by decide) (Int32.add_zero _).symm) (w48 hw) (w49 hw) (w2 hw) (w50 hw) (by decide) pd__IIIII_Z rfl (W := 0) (by decide) (by decide) (Nat.le_of_eq rfl) (by decide) (by decide) rfl rfl at_200 rfl fun T h1283 v1284 A Q1285 => ?_
    obtain ⟨rfl, eh⟩ := Q1285
    rw [eh] at A
    refine Wp.stk (st' := [(.int (1 : Int32))]) rfl ?_
    refine s_ifN (pc' := 206) A at_203 rfl (by decide) ?_
    refine s_aload (pc' := 208) A at_206 rfl rfl rfl ?_
    refine s_lload (pc' := 210) A at_208 rfl rfl ?_
    refine s_virtual (pc' := 213) (y := y0_get) (argsL := [(.long (posf q0 (1 : Int32) q1))]) (rest := []) (z := y0_get) A H1273.1 (m_get l Z a0 hw n0 h1277 A.size b1219 a1228 b1229 z1272 P1270 N1271 (fun r => if r = (posf q0 (1 : Int32) q1) then -1 else (fun r => if r = (posf q0 (3 : Int32) q1) then (((ush q2 (8 : Int32)) &&& (65535 : Int32)) + (3 : Int32)) else (fun r => if r = (posf q0 (2 : Int32) q1) then (((ush q2 (8 : Int32)) &&& (65535 : Int32)) + (2 : Int32)) else (fun r => if r = (posf q0 (1 : Int32) q1) then (((ush q2 (8 : Int32)) &&& (65535 : Int32)) + (1 : Int32)) else (fun r => if r = (posf q0 (0 : Int32) q1) then ((ush q2 (8 : Int32)) &&& (65535 : Int32)) else (fun _ => -1) r) r) r) r) r) (posf q0 (1 : Int32) q1) H1273 HT1274 f1275 f1275a f1275b) (w43 hw) (w44 hw) (nf_same (C := "") (w46 hw)) (w46 hw) (w45 hw) (w7 hw) (w47 hw) (by decide) pd__J_I rfl (W := 0) (by decide) (by decide) (Nat.le_of_eq rfl) (by decide) (by decide) rfl rfl at_210 rfl fun T h1286 v1287 A Q1288 => ?_
    obtain ⟨ev, eh⟩ := Q1288
    obtain rfl := ev.trans (congrArg (fun z => some (Value.int z)) (show (fun r => if r = (posf q0 (1 : Int32) q1) then -1 else (fun r => if r = (posf q0 (3 : Int32) q1) then (((ush q2 (8 : Int32)) &&& (65535 : Int32)) + (3 : Int32)) else (fun r => if r = (posf q0 (2 : Int32) q1) then (((ush q2 (8 : Int32)) &&& (65535 : Int32)) + (2 : Int32)) else (fun r => if r = (posf q0 (1 : Int32) q1) then (((ush q2 (8 : Int32)) &&& (65535 : Int32)) + (1 : Int32)) else (fun r => if r = (posf q0 (0 : Int32) q1) then ((ush q2 (8 : Int32)) &&& (65535 : Int32)) else (fun _ => -1) r) r) r) r) r) (posf q0 (1 : Int32) q1) = (-1 : Int32) from (by simp only [pn_0_1, pn_0_2, pn_0_3, pn_0_4, pn_1_0, pn_1_2, pn_1_3, pn_1_4, pn_2_0, pn_2_1, pn_2_3, pn_2_4, pn_3_0, pn_3_1, pn_3_2, pn_3_4, pn_4_0, pn_4_1, pn_4_2, pn_4_3, if_true, if_false])))
    rw [eh] at A
    refine Wp.stk (st' := [(.int (-1 : Int32))]) rfl ?_
    refine s_iconst (pc' := 214) (z := (1 : Int32)) A at_213 rfl (by decide) ?_
    refine s_iload (pc' := 216) A at_214 rfl rfl ?_
    refine s_iload (pc' := 218) A at_216 rfl rfl ?_
    refine s_iload (pc' := 220) A at_218 rfl rfl ?_
    refine s_static (pc' := 223) (y := y8_check) (argsL := [(.int (-1 : Int32)), (.int (1 : Int32)), (.int (4 : Int32)), (.int (1 : Int32)), (.int ((ush q2 (8 : Int32)) &&& (65535 : Int32)))]) (rest := []) A (m_out l Z a0 hw n0 h1277 A.size (-1 : Int32) (1 : Int32) (4 : Int32) (1 : Int32) ((ush q2 (8 : Int32)) &&& (65535 : Int32)) (Or.inr rfl) rfl) (w48 hw) (w49 hw) (w2 hw) (w50 hw) (by decide) pd__IIIII_Z rfl (W := 0) (by decide) (by decide) (Nat.le_of_eq rfl) (by decide) (by decide) rfl rfl at_220 rfl fun T h1289 v1290 A Q1291 => ?_
    obtain ⟨rfl, eh⟩ := Q1291
    rw [eh] at A
    refine Wp.stk (st' := [(.int (1 : Int32))]) rfl ?_
    refine s_ifN (pc' := 226) A at_223 rfl (by decide) ?_
    refine s_aload (pc' := 228) A at_226 rfl rfl rfl ?_
    refine s_lload (pc' := 230) A at_228 rfl rfl ?_
    refine s_virtual (pc' := 233) (y := y0_get) (argsL := [(.long (posf q0 (2 : Int32) q1))]) (rest := []) (z := y0_get) A H1273.1 (m_get l Z a0 hw n0 h1277 A.size b1219 a1228 b1229 z1272 P1270 N1271 (fun r => if r = (posf q0 (1 : Int32) q1) then -1 else (fun r => if r = (posf q0 (3 : Int32) q1) then (((ush q2 (8 : Int32)) &&& (65535 : Int32)) + (3 : Int32)) else (fun r => if r = (posf q0 (2 : Int32) q1) then (((ush q2 (8 : Int32)) &&& (65535 : Int32)) + (2 : Int32)) else (fun r => if r = (posf q0 (1 : Int32) q1) then (((ush q2 (8 : Int32)) &&& (65535 : Int32)) + (1 : Int32)) else (fun r => if r = (posf q0 (0 : Int32) q1) then ((ush q2 (8 : Int32)) &&& (65535 : Int32)) else (fun _ => -1) r) r) r) r) r) (posf q0 (2 : Int32) q1) H1273 HT1274 f1275 f1275a f1275b) (w43 hw) (w44 hw) (nf_same (C := "") (w46 hw)) (w46 hw) (w45 hw) (w7 hw) (w47 hw) (by decide) pd__J_I rfl (W := 0) (by decide) (by decide) (Nat.le_of_eq rfl) (by decide) (by decide) rfl rfl at_230 rfl fun T h1292 v1293 A Q1294 => ?_
    obtain ⟨ev, eh⟩ := Q1294
    obtain rfl := ev.trans (congrArg (fun z => some (Value.int z)) (show (fun r => if r = (posf q0 (1 : Int32) q1) then -1 else (fun r => if r = (posf q0 (3 : Int32) q1) then (((ush q2 (8 : Int32)) &&& (65535 : Int32)) + (3 : Int32)) else (fun r => if r = (posf q0 (2 : Int32) q1) then (((ush q2 (8 : Int32)) &&& (65535 : Int32)) + (2 : Int32)) else (fun r => if r = (posf q0 (1 : Int32) q1) then (((ush q2 (8 : Int32)) &&& (65535 : Int32)) + (1 : Int32)) else (fun r => if r = (posf q0 (0 : Int32) q1) then ((ush q2 (8 : Int32)) &&& (65535 : Int32)) else (fun _ => -1) r) r) r) r) r) (posf q0 (2 : Int32) q1) = (((ush q2 (8 : Int32)) &&& (65535 : Int32)) + (2 : Int32)) from (by simp only [pn_0_1, pn_0_2, pn_0_3, pn_0_4, pn_1_0, pn_1_2, pn_1_3, pn_1_4, pn_2_0, pn_2_1, pn_2_3, pn_2_4, pn_3_0, pn_3_1, pn_3_2, pn_3_4, pn_4_0, pn_4_1, pn_4_2, pn_4_3, if_true, if_false])))
    rw [eh] at A
    refine Wp.stk (st' := [(.int (((ush q2 (8 : Int32)) &&& (65535 : Int32)) + (2 : Int32)))]) rfl ?_
    refine s_iconst (pc' := 234) (z := (2 : Int32)) A at_233 rfl (by decide) ?_
    refine s_iload (pc' := 236) A at_234 rfl rfl ?_
    refine s_iload (pc' := 238) A at_236 rfl rfl ?_
    refine s_iload (pc' := 240) A at_238 rfl rfl ?_
    refine s_static (pc' := 243) (y := y8_check) (argsL := [(.int (((ush q2 (8 : Int32)) &&& (65535 : Int32)) + (2 : Int32))), (.int (2 : Int32)), (.int (4 : Int32)), (.int (1 : Int32)), (.int ((ush q2 (8 : Int32)) &&& (65535 : Int32)))]) (rest := []) A (m_in l Z a0 hw n0 h1277 A.size (((ush q2 (8 : Int32)) &&& (65535 : Int32)) + (2 : Int32)) (2 : Int32) (4 : Int32) (1 : Int32) ((ush q2 (8 : Int32)) &&& (65535 : Int32)) (by decide) (by decide) rfl) (w48 hw) (w49 hw) (w2 hw) (w50 hw) (by decide) pd__IIIII_Z rfl (W := 0) (by decide) (by decide) (Nat.le_of_eq rfl) (by decide) (by decide) rfl rfl at_240 rfl fun T h1295 v1296 A Q1297 => ?_
    obtain ⟨rfl, eh⟩ := Q1297
    rw [eh] at A
    refine Wp.stk (st' := [(.int (1 : Int32))]) rfl ?_
    refine s_ifN (pc' := 246) A at_243 rfl (by decide) ?_
    refine s_aload (pc' := 248) A at_246 rfl rfl rfl ?_
    refine s_lload (pc' := 250) A at_248 rfl rfl ?_
    refine s_virtual (pc' := 253) (y := y0_get) (argsL := [(.long (posf q0 (3 : Int32) q1))]) (rest := []) (z := y0_get) A H1273.1 (m_get l Z a0 hw n0 h1277 A.size b1219 a1228 b1229 z1272 P1270 N1271 (fun r => if r = (posf q0 (1 : Int32) q1) then -1 else (fun r => if r = (posf q0 (3 : Int32) q1) then (((ush q2 (8 : Int32)) &&& (65535 : Int32)) + (3 : Int32)) else (fun r => if r = (posf q0 (2 : Int32) q1) then (((ush q2 (8 : Int32)) &&& (65535 : Int32)) + (2 : Int32)) else (fun r => if r = (posf q0 (1 : Int32) q1) then (((ush q2 (8 : Int32)) &&& (65535 : Int32)) + (1 : Int32)) else (fun r => if r = (posf q0 (0 : Int32) q1) then ((ush q2 (8 : Int32)) &&& (65535 : Int32)) else (fun _ => -1) r) r) r) r) r) (posf q0 (3 : Int32) q1) H1273 HT1274 f1275 f1275a f1275b) (w43 hw) (w44 hw) (nf_same (C := "") (w46 hw)) (w46 hw) (w45 hw) (w7 hw) (w47 hw) (by decide) pd__J_I rfl (W := 0) (by decide) (by decide) (Nat.le_of_eq rfl) (by decide) (by decide) rfl rfl at_250 rfl fun T h1298 v1299 A Q1300 => ?_
    obtain ⟨ev, eh⟩ := Q1300
    obtain rfl := ev.trans (congrArg (fun z => some (Value.int z)) (show (fun r => if r = (posf q0 (1 : Int32) q1) then -1 else (fun r => if r = (posf q0 (3 : Int32) q1) then (((ush q2 (8 : Int32)) &&& (65535 : Int32)) + (3 : Int32)) else (fun r => if r = (posf q0 (2 : Int32) q1) then (((ush q2 (8 : Int32)) &&& (65535 : Int32)) + (2 : Int32)) else (fun r => if r = (posf q0 (1 : Int32) q1) then (((ush q2 (8 : Int32)) &&& (65535 : Int32)) + (1 : Int32)) else (fun r => if r = (posf q0 (0 : Int32) q1) then ((ush q2 (8 : Int32)) &&& (65535 : Int32)) else (fun _ => -1) r) r) r) r) r) (posf q0 (3 : Int32) q1) = (((ush q2 (8 : Int32)) &&& (65535 : Int32)) + (3 : Int32)) from (by simp only [pn_0_1, pn_0_2, pn_0_3, pn_0_4, pn_1_0, pn_1_2, pn_1_3, pn_1_4, pn_2_0, pn_2_1, pn_2_3, pn_2_4, pn_3_0, pn_3_1, pn_3_2, pn_3_4, pn_4_0, pn_4_1, pn_4_2, pn_4_3, if_true, if_false])))
    rw [eh] at A
    refine Wp.stk (st' := [(.int (((ush q2 (8 : Int32)) &&& (65535 : Int32)) + (3 : Int32)))]) rfl ?_
    refine s_iconst (pc' := 254) (z := (3 : Int32)) A at_253 rfl (by decide) ?_
    refine s_iload (pc' := 256) A at_254 rfl rfl ?_
    refine s_iload (pc' := 258) A at_256 rfl rfl ?_
    refine s_iload (pc' := 260) A at_258 rfl rfl ?_
    refine s_static (pc' := 263) (y := y8_check) (argsL := [(.int (((ush q2 (8 : Int32)) &&& (65535 : Int32)) + (3 : Int32))), (.int (3 : Int32)), (.int (4 : Int32)), (.int (1 : Int32)), (.int ((ush q2 (8 : Int32)) &&& (65535 : Int32)))]) (rest := []) A (m_in l Z a0 hw n0 h1277 A.size (((ush q2 (8 : Int32)) &&& (65535 : Int32)) + (3 : Int32)) (3 : Int32) (4 : Int32) (1 : Int32) ((ush q2 (8 : Int32)) &&& (65535 : Int32)) (by decide) (by decide) rfl) (w48 hw) (w49 hw) (w2 hw) (w50 hw) (by decide) pd__IIIII_Z rfl (W := 0) (by decide) (by decide) (Nat.le_of_eq rfl) (by decide) (by decide) rfl rfl at_260 rfl fun T h1301 v1302 A Q1303 => ?_
    obtain ⟨rfl, eh⟩ := Q1303
    rw [eh] at A
    refine Wp.stk (st' := [(.int (1 : Int32))]) rfl ?_
    refine s_ifN (pc' := 266) A at_263 rfl (by decide) ?_
    refine s_aload (pc' := 268) A at_266 rfl rfl rfl ?_
    refine s_lload (pc' := 270) A at_268 rfl rfl ?_
    refine s_virtual (pc' := 273) (y := y0_get) (argsL := [(.long (posf q0 (4 : Int32) q1))]) (rest := []) (z := y0_get) A H1273.1 (m_get l Z a0 hw n0 h1277 A.size b1219 a1228 b1229 z1272 P1270 N1271 (fun r => if r = (posf q0 (1 : Int32) q1) then -1 else (fun r => if r = (posf q0 (3 : Int32) q1) then (((ush q2 (8 : Int32)) &&& (65535 : Int32)) + (3 : Int32)) else (fun r => if r = (posf q0 (2 : Int32) q1) then (((ush q2 (8 : Int32)) &&& (65535 : Int32)) + (2 : Int32)) else (fun r => if r = (posf q0 (1 : Int32) q1) then (((ush q2 (8 : Int32)) &&& (65535 : Int32)) + (1 : Int32)) else (fun r => if r = (posf q0 (0 : Int32) q1) then ((ush q2 (8 : Int32)) &&& (65535 : Int32)) else (fun _ => -1) r) r) r) r) r) (posf q0 (4 : Int32) q1) H1273 HT1274 f1275 f1275a f1275b) (w43 hw) (w44 hw) (nf_same (C := "") (w46 hw)) (w46 hw) (w45 hw) (w7 hw) (w47 hw) (by decide) pd__J_I rfl (W := 0) (by decide) (by decide) (Nat.le_of_eq rfl) (by decide) (by decide) rfl rfl at_270 rfl fun T h1304 v1305 A Q1306 => ?_
    obtain ⟨ev, eh⟩ := Q1306
    obtain rfl := ev.trans (congrArg (fun z => some (Value.int z)) (show (fun r => if r = (posf q0 (1 : Int32) q1) then -1 else (fun r => if r = (posf q0 (3 : Int32) q1) then (((ush q2 (8 : Int32)) &&& (65535 : Int32)) + (3 : Int32)) else (fun r => if r = (posf q0 (2 : Int32) q1) then (((ush q2 (8 : Int32)) &&& (65535 : Int32)) + (2 : Int32)) else (fun r => if r = (posf q0 (1 : Int32) q1) then (((ush q2 (8 : Int32)) &&& (65535 : Int32)) + (1 : Int32)) else (fun r => if r = (posf q0 (0 : Int32) q1) then ((ush q2 (8 : Int32)) &&& (65535 : Int32)) else (fun _ => -1) r) r) r) r) r) (posf q0 (4 : Int32) q1) = (-1 : Int32) from (by simp only [pn_0_1, pn_0_2, pn_0_3, pn_0_4, pn_1_0, pn_1_2, pn_1_3, pn_1_4, pn_2_0, pn_2_1, pn_2_3, pn_2_4, pn_3_0, pn_3_1, pn_3_2, pn_3_4, pn_4_0, pn_4_1, pn_4_2, pn_4_3, if_true, if_false])))
    rw [eh] at A
    refine Wp.stk (st' := [(.int (-1 : Int32))]) rfl ?_
    refine s_iconst (pc' := 274) (z := (4 : Int32)) A at_273 rfl (by decide) ?_
    refine s_iload (pc' := 276) A at_274 rfl rfl ?_
    refine s_iload (pc' := 278) A at_276 rfl rfl ?_
    refine s_iload (pc' := 280) A at_278 rfl rfl ?_
    refine s_static (pc' := 283) (y := y8_check) (argsL := [(.int (-1 : Int32)), (.int (4 : Int32)), (.int (4 : Int32)), (.int (1 : Int32)), (.int ((ush q2 (8 : Int32)) &&& (65535 : Int32)))]) (rest := []) A (m_out l Z a0 hw n0 h1277 A.size (-1 : Int32) (4 : Int32) (4 : Int32) (1 : Int32) ((ush q2 (8 : Int32)) &&& (65535 : Int32)) (Or.inl (by decide)) rfl) (w48 hw) (w49 hw) (w2 hw) (w50 hw) (by decide) pd__IIIII_Z rfl (W := 0) (by decide) (by decide) (Nat.le_of_eq rfl) (by decide) (by decide) rfl rfl at_280 rfl fun T h1307 v1308 A Q1309 => ?_
    obtain ⟨rfl, eh⟩ := Q1309
    rw [eh] at A
    refine Wp.stk (st' := [(.int (1 : Int32))]) rfl ?_
    refine s_ifN (pc' := 286) A at_283 rfl (by decide) ?_
    refine s_iconst (pc' := 287) (z := (1 : Int32)) A at_286 rfl (by decide) ?_
    refine s_goto (pc' := 291) A at_287 (by decide) (by decide) ?_
    exact r_bool A rfl (by decide) at_291 (by decide) (by decide) (rfl)
   ·
    refine s_irem (pc' := 52) (z := (2 : Int32)) A at_51 rfl (by decide) hrr.symm ?_
    refine s_istore (pc' := 54) (Ls' := #[jv q0, S2, iv q1, iv q2, jv (posf q0 (0 : Int32) q1), S2, jv (posf q0 (1 : Int32) q1), S2, jv (posf q0 (2 : Int32) q1), S2, jv (posf q0 (3 : Int32) q1), S2, jv (posf q0 (4 : Int32) q1), S2, iv 4, iv 2, U0, U0, U0, U0]) A at_52 rfl rfl ?_
    refine s_iloadN (pc' := 55) A at_54 rfl rfl ?_
    refine s_bipush (pc' := 57) (z := (8 : Int32)) A at_55 rfl (by decide) ?_
    refine s_iushr (pc' := 58) (z := (ush q2 (8 : Int32))) A at_57 rfl rfl ?_
    refine s_ldcInt (pc' := 60) A at_58 rfl (w4 hw) ?_
    refine s_iand (pc' := 61) (z := ((ush q2 (8 : Int32)) &&& (65535 : Int32))) A at_60 rfl rfl ?_
    refine s_istore (pc' := 63) (Ls' := #[jv q0, S2, iv q1, iv q2, jv (posf q0 (0 : Int32) q1), S2, jv (posf q0 (1 : Int32) q1), S2, jv (posf q0 (2 : Int32) q1), S2, jv (posf q0 (3 : Int32) q1), S2, jv (posf q0 (4 : Int32) q1), S2, iv 4, iv 2, iv ((ush q2 (8 : Int32)) &&& (65535 : Int32)), U0, U0, U0]) A at_61 rfl rfl ?_
    refine s_new (pc' := 66) A (w5 hw) (w6 hw) (w7 hw) (by decide) (by decide) at_63 rfl fun T h1310 b1311 A g1312 ge1313 X1314 E1315 D1316 => ?_
    have F1317 : Fld Z h1310 b1311 "com/example/wirefram/wirefram/sequence/PositionIndex" "positions" "[J" .null := D1316 (Or.inl (w16 hw)) (ty := (.array .long)) (by decide)
    have F1318 : Fld Z h1310 b1311 "com/example/wirefram/wirefram/sequence/PositionIndex" "numbers" "[I" .null := D1316 (Or.inl (w26 hw)) (ty := (.array .int)) (by decide)
    have F1319 : Fld Z h1310 b1311 "com/example/wirefram/wirefram/sequence/PositionIndex" "size" "I" (.int (0 : Int32)) := D1316 (Or.inl (w33 hw)) (ty := .int) (by decide)
    refine s_dup (pc' := 67) A at_66 rfl rfl ?_
    refine s_special (pc' := 70) (y := y6_init) (argsL := []) (rest := [(.ref b1311)]) A (m_init l Z a0 hw n0 h1310 A.size b1311 E1315 F1317 F1318 F1319 ge1313) rfl (w8 hw) (w9 hw) (w7 hw) (w10 hw) (by decide) pd___V rfl (W := 1) (by decide) (by decide) (Nat.le_of_eq rfl) (by decide) (by decide) rfl rfl at_67 rfl fun T h1323 v1324 A Q1325 => ?_
    obtain ⟨rfl, a1320, b1321, H1322⟩ := Q1325
    refine Wp.stk (st' := [(.ref b1311)]) rfl ?_
    refine s_astore (pc' := 72) (Ls' := #[jv q0, S2, iv q1, iv q2, jv (posf q0 (0 : Int32) q1), S2, jv (posf q0 (1 : Int32) q1), S2, jv (posf q0 (2 : Int32) q1), S2, jv (posf q0 (3 : Int32) q1), S2, jv (posf q0 (4 : Int32) q1), S2, iv 4, iv 2, iv ((ush q2 (8 : Int32)) &&& (65535 : Int32)), rv b1311, U0, U0]) A at_70 rfl rfl rfl ?_
    refine s_aload (pc' := 74) A at_72 rfl rfl rfl ?_
    refine s_lload (pc' := 76) A at_74 rfl rfl ?_
    refine s_iload (pc' := 78) A at_76 rfl rfl ?_
    obtain ⟨fr1331, fr1331a, fr1331b⟩ := Free.ex (c := 15) own_free0
    refine s_virtual (pc' := 81) (y := y2_put) (argsL := [(.long (posf q0 (0 : Int32) q1)), (.int ((ush q2 (8 : Int32)) &&& (65535 : Int32)))]) (rest := []) (z := y2_put) A H1322.1 (m_put l Z a0 hw n0 h1323 A.size b1311 a1320 b1321 0 (fun _ => 0) (fun _ => -1) (fun _ => -1) H1322 (posf q0 (0 : Int32) q1) ((ush q2 (8 : Int32)) &&& (65535 : Int32)) 1 (own_tab0 (fun _ => 0)) fr1331 fr1331a fr1331b (own_nb0 q2) rfl (by decide) (by decide)) (w27 hw) (w28 hw) (nf_same (C := "") (w30 hw)) (w30 hw) (w29 hw) (w7 hw) (w31 hw) (by decide) pd__JI_V rfl (W := 0) (by decide) (by decide) (Nat.le_of_eq rfl) (by decide) (by decide) rfl rfl at_78 rfl fun T h1332 v1333 A Q1334 => ?_
    obtain ⟨rfl, P1326, N1327, H1328, HT1329, FR1330⟩ := Q1334
    have FR1330 := FR1330 15 own_free0
    refine Wp.stk (st' := []) rfl ?_
    refine s_iload (pc' := 83) A at_81 rfl rfl ?_
    refine s_iconst (pc' := 84) (z := (1 : Int32)) A at_83 rfl (by decide) ?_
    refine s_icmpN (pc' := 87) A at_84 rfl (by decide) ?_
    refine s_aload (pc' := 89) A at_87 rfl rfl rfl ?_
    refine s_lload (pc' := 91) A at_89 rfl rfl ?_
    refine s_iload (pc' := 93) A at_91 rfl rfl ?_
    refine s_iconst (pc' := 94) (z := (1 : Int32)) A at_93 rfl (by decide) ?_
    refine s_iadd (pc' := 95) (z := (((ush q2 (8 : Int32)) &&& (65535 : Int32)) + (1 : Int32))) A at_94 rfl rfl ?_
    obtain ⟨fr1340, fr1340a, fr1340b⟩ := Free.ex (c := 14) FR1330
    refine s_virtual (pc' := 98) (y := y2_put) (argsL := [(.long (posf q0 (1 : Int32) q1)), (.int (((ush q2 (8 : Int32)) &&& (65535 : Int32)) + (1 : Int32)))]) (rest := []) (z := y2_put) A H1328.1 (m_put l Z a0 hw n0 h1332 A.size b1311 a1320 b1321 1 P1326 N1327 (fun r => if r = (posf q0 (0 : Int32) q1) then ((ush q2 (8 : Int32)) &&& (65535 : Int32)) else (fun _ => -1) r) H1328 (posf q0 (1 : Int32) q1) (((ush q2 (8 : Int32)) &&& (65535 : Int32)) + (1 : Int32)) 2 HT1329 fr1340 fr1340a fr1340b (own_nb1 q2) (by simp only [pn_0_1, pn_0_2, pn_0_3, pn_0_4, pn_1_0, pn_1_2, pn_1_3, pn_1_4, pn_2_0, pn_2_1, pn_2_3, pn_2_4, pn_3_0, pn_3_1, pn_3_2, pn_3_4, pn_4_0, pn_4_1, pn_4_2, pn_4_3, if_true, if_false]) (by decide) (by decide)) (w27 hw) (w28 hw) (nf_same (C := "") (w30 hw)) (w30 hw) (w29 hw) (w7 hw) (w31 hw) (by decide) pd__JI_V rfl (W := 0) (by decide) (by decide) (Nat.le_of_eq rfl) (by decide) (by decide) rfl rfl at_95 rfl fun T h1341 v1342 A Q1343 => ?_
    obtain ⟨rfl, P1335, N1336, H1337, HT1338, FR1339⟩ := Q1343
    have FR1339 := FR1339 14 FR1330
    refine Wp.stk (st' := []) rfl ?_
    refine s_iload (pc' := 100) A at_98 rfl rfl ?_
    refine s_iconst (pc' := 101) (z := (2 : Int32)) A at_100 rfl (by decide) ?_
    refine s_icmpN (pc' := 104) A at_101 rfl (by decide) ?_
    refine s_aload (pc' := 106) A at_104 rfl rfl rfl ?_
    refine s_lload (pc' := 108) A at_106 rfl rfl ?_
    refine s_iload (pc' := 110) A at_108 rfl rfl ?_
    refine s_iconst (pc' := 111) (z := (2 : Int32)) A at_110 rfl (by decide) ?_
    refine s_iadd (pc' := 112) (z := (((ush q2 (8 : Int32)) &&& (65535 : Int32)) + (2 : Int32))) A at_111 rfl rfl ?_
    obtain ⟨fr1349, fr1349a, fr1349b⟩ := Free.ex (c := 13) FR1339
    refine s_virtual (pc' := 115) (y := y2_put) (argsL := [(.long (posf q0 (2 : Int32) q1)), (.int (((ush q2 (8 : Int32)) &&& (65535 : Int32)) + (2 : Int32)))]) (rest := []) (z := y2_put) A H1337.1 (m_put l Z a0 hw n0 h1341 A.size b1311 a1320 b1321 2 P1335 N1336 (fun r => if r = (posf q0 (1 : Int32) q1) then (((ush q2 (8 : Int32)) &&& (65535 : Int32)) + (1 : Int32)) else (fun r => if r = (posf q0 (0 : Int32) q1) then ((ush q2 (8 : Int32)) &&& (65535 : Int32)) else (fun _ => -1) r) r) H1337 (posf q0 (2 : Int32) q1) (((ush q2 (8 : Int32)) &&& (65535 : Int32)) + (2 : Int32)) 3 HT1338 fr1349 fr1349a fr1349b (own_nb2 q2) (by simp only [pn_0_1, pn_0_2, pn_0_3, pn_0_4, pn_1_0, pn_1_2, pn_1_3, pn_1_4, pn_2_0, pn_2_1, pn_2_3, pn_2_4, pn_3_0, pn_3_1, pn_3_2, pn_3_4, pn_4_0, pn_4_1, pn_4_2, pn_4_3, if_true, if_false]) (by decide) (by decide)) (w27 hw) (w28 hw) (nf_same (C := "") (w30 hw)) (w30 hw) (w29 hw) (w7 hw) (w31 hw) (by decide) pd__JI_V rfl (W := 0) (by decide) (by decide) (Nat.le_of_eq rfl) (by decide) (by decide) rfl rfl at_112 rfl fun T h1350 v1351 A Q1352 => ?_
    obtain ⟨rfl, P1344, N1345, H1346, HT1347, FR1348⟩ := Q1352
    have FR1348 := FR1348 13 FR1339
    refine Wp.stk (st' := []) rfl ?_
    refine s_iload (pc' := 117) A at_115 rfl rfl ?_
    refine s_iconst (pc' := 118) (z := (3 : Int32)) A at_117 rfl (by decide) ?_
    refine s_icmpN (pc' := 121) A at_118 rfl (by decide) ?_
    refine s_aload (pc' := 123) A at_121 rfl rfl rfl ?_
    refine s_lload (pc' := 125) A at_123 rfl rfl ?_
    refine s_iload (pc' := 127) A at_125 rfl rfl ?_
    refine s_iconst (pc' := 128) (z := (3 : Int32)) A at_127 rfl (by decide) ?_
    refine s_iadd (pc' := 129) (z := (((ush q2 (8 : Int32)) &&& (65535 : Int32)) + (3 : Int32))) A at_128 rfl rfl ?_
    obtain ⟨fr1358, fr1358a, fr1358b⟩ := Free.ex (c := 12) FR1348
    refine s_virtual (pc' := 132) (y := y2_put) (argsL := [(.long (posf q0 (3 : Int32) q1)), (.int (((ush q2 (8 : Int32)) &&& (65535 : Int32)) + (3 : Int32)))]) (rest := []) (z := y2_put) A H1346.1 (m_put l Z a0 hw n0 h1350 A.size b1311 a1320 b1321 3 P1344 N1345 (fun r => if r = (posf q0 (2 : Int32) q1) then (((ush q2 (8 : Int32)) &&& (65535 : Int32)) + (2 : Int32)) else (fun r => if r = (posf q0 (1 : Int32) q1) then (((ush q2 (8 : Int32)) &&& (65535 : Int32)) + (1 : Int32)) else (fun r => if r = (posf q0 (0 : Int32) q1) then ((ush q2 (8 : Int32)) &&& (65535 : Int32)) else (fun _ => -1) r) r) r) H1346 (posf q0 (3 : Int32) q1) (((ush q2 (8 : Int32)) &&& (65535 : Int32)) + (3 : Int32)) 4 HT1347 fr1358 fr1358a fr1358b (own_nb3 q2) (by simp only [pn_0_1, pn_0_2, pn_0_3, pn_0_4, pn_1_0, pn_1_2, pn_1_3, pn_1_4, pn_2_0, pn_2_1, pn_2_3, pn_2_4, pn_3_0, pn_3_1, pn_3_2, pn_3_4, pn_4_0, pn_4_1, pn_4_2, pn_4_3, if_true, if_false]) (by decide) (by decide)) (w27 hw) (w28 hw) (nf_same (C := "") (w30 hw)) (w30 hw) (w29 hw) (w7 hw) (w31 hw) (by decide) pd__JI_V rfl (W := 0) (by decide) (by decide) (Nat.le_of_eq rfl) (by decide) (by decide) rfl rfl at_129 rfl fun T h1359 v1360 A Q1361 => ?_
    obtain ⟨rfl, P1353, N1354, H1355, HT1356, FR1357⟩ := Q1361
    have FR1357 := FR1357 12 FR1348
    refine Wp.stk (st' := []) rfl ?_
    refine s_iload (pc' := 134) A at_132 rfl rfl ?_
    refine s_ifY (pc' := 142) A at_134 (by decide) (by decide) (by decide) ?_
    refine s_iload (pc' := 144) A at_142 rfl rfl ?_
    refine s_iconst (pc' := 145) (z := (1 : Int32)) A at_144 rfl (by decide) ?_
    refine s_icmpY (pc' := 153) A at_145 (by decide) (by decide) (by decide) ?_
    refine s_iload (pc' := 155) A at_153 rfl rfl ?_
    refine s_iconst (pc' := 156) (z := (2 : Int32)) A at_155 rfl (by decide) ?_
    refine s_icmpN (pc' := 159) A at_156 rfl (by decide) ?_
    refine s_lload (pc' := 161) A at_159 rfl rfl ?_
    refine s_goto (pc' := 177) A at_161 (by decide) (by decide) ?_
    refine s_lstore (pc' := 179) (Ls' := #[jv q0, S2, iv q1, iv q2, jv (posf q0 (0 : Int32) q1), S2, jv (posf q0 (1 : Int32) q1), S2, jv (posf q0 (2 : Int32) q1), S2, jv (posf q0 (3 : Int32) q1), S2, jv (posf q0 (4 : Int32) q1), S2, iv 4, iv 2, iv ((ush q2 (8 : Int32)) &&& (65535 : Int32)), rv b1311, jv (posf q0 (2 : Int32) q1), S2]) A at_177 rfl rfl ?_
    refine s_aload (pc' := 181) A at_179 rfl rfl rfl ?_
    refine s_lload (pc' := 183) A at_181 rfl rfl ?_
    obtain ⟨fr1368, fr1368a, fr1368b⟩ := Free.ex (c := 11) FR1357
    refine s_virtual (pc' := 186) (y := y3_remove) (argsL := [(.long (posf q0 (2 : Int32) q1))]) (rest := []) (z := y3_remove) A H1355.1 (m_rem l Z a0 hw n0 h1359 A.size b1311 a1320 b1321 4 P1353 N1354 (fun r => if r = (posf q0 (3 : Int32) q1) then (((ush q2 (8 : Int32)) &&& (65535 : Int32)) + (3 : Int32)) else (fun r => if r = (posf q0 (2 : Int32) q1) then (((ush q2 (8 : Int32)) &&& (65535 : Int32)) + (2 : Int32)) else (fun r => if r = (posf q0 (1 : Int32) q1) then (((ush q2 (8 : Int32)) &&& (65535 : Int32)) + (1 : Int32)) else (fun r => if r = (posf q0 (0 : Int32) q1) then ((ush q2 (8 : Int32)) &&& (65535 : Int32)) else (fun _ => -1) r) r) r) r) (posf q0 (2 : Int32) q1) H1355 HT1356 fr1368 fr1368a fr1368b) (w38 hw) (w39 hw) (nf_same (C := "") (w41 hw)) (w41 hw) (w40 hw) (w7 hw) (w42 hw) (by decide) pd__J_V rfl (W := 0) (by decide) (by decide) (Nat.le_of_eq rfl) (by decide) (by decide) rfl rfl at_183 rfl fun T h1369 v1370 A Q1371 => ?_
    obtain ⟨rfl, P1362, N1363, z1364, H1365, HT1366, f1367, f1367a, f1367b⟩ := Q1371
    refine Wp.stk (st' := []) rfl ?_
    refine s_aload (pc' := 188) A at_186 rfl rfl rfl ?_
    refine s_lload (pc' := 190) A at_188 rfl rfl ?_
    refine s_virtual (pc' := 193) (y := y0_get) (argsL := [(.long (posf q0 (0 : Int32) q1))]) (rest := []) (z := y0_get) A H1365.1 (m_get l Z a0 hw n0 h1369 A.size b1311 a1320 b1321 z1364 P1362 N1363 (fun r => if r = (posf q0 (2 : Int32) q1) then -1 else (fun r => if r = (posf q0 (3 : Int32) q1) then (((ush q2 (8 : Int32)) &&& (65535 : Int32)) + (3 : Int32)) else (fun r => if r = (posf q0 (2 : Int32) q1) then (((ush q2 (8 : Int32)) &&& (65535 : Int32)) + (2 : Int32)) else (fun r => if r = (posf q0 (1 : Int32) q1) then (((ush q2 (8 : Int32)) &&& (65535 : Int32)) + (1 : Int32)) else (fun r => if r = (posf q0 (0 : Int32) q1) then ((ush q2 (8 : Int32)) &&& (65535 : Int32)) else (fun _ => -1) r) r) r) r) r) (posf q0 (0 : Int32) q1) H1365 HT1366 f1367 f1367a f1367b) (w43 hw) (w44 hw) (nf_same (C := "") (w46 hw)) (w46 hw) (w45 hw) (w7 hw) (w47 hw) (by decide) pd__J_I rfl (W := 0) (by decide) (by decide) (Nat.le_of_eq rfl) (by decide) (by decide) rfl rfl at_190 rfl fun T h1372 v1373 A Q1374 => ?_
    obtain ⟨ev, eh⟩ := Q1374
    obtain rfl := ev.trans (congrArg (fun z => some (Value.int z)) (show (fun r => if r = (posf q0 (2 : Int32) q1) then -1 else (fun r => if r = (posf q0 (3 : Int32) q1) then (((ush q2 (8 : Int32)) &&& (65535 : Int32)) + (3 : Int32)) else (fun r => if r = (posf q0 (2 : Int32) q1) then (((ush q2 (8 : Int32)) &&& (65535 : Int32)) + (2 : Int32)) else (fun r => if r = (posf q0 (1 : Int32) q1) then (((ush q2 (8 : Int32)) &&& (65535 : Int32)) + (1 : Int32)) else (fun r => if r = (posf q0 (0 : Int32) q1) then ((ush q2 (8 : Int32)) &&& (65535 : Int32)) else (fun _ => -1) r) r) r) r) r) (posf q0 (0 : Int32) q1) = ((ush q2 (8 : Int32)) &&& (65535 : Int32)) from (by simp only [pn_0_1, pn_0_2, pn_0_3, pn_0_4, pn_1_0, pn_1_2, pn_1_3, pn_1_4, pn_2_0, pn_2_1, pn_2_3, pn_2_4, pn_3_0, pn_3_1, pn_3_2, pn_3_4, pn_4_0, pn_4_1, pn_4_2, pn_4_3, if_true, if_false])))
    rw [eh] at A
    refine Wp.stk (st' := [(.int ((ush q2 (8 : Int32)) &&& (65535 : Int32)))]) rfl ?_
    refine s_iconst (pc' := 194) (z := (0 : Int32)) A at_193 rfl (by decide) ?_
    refine s_iload (pc' := 196) A at_194 rfl rfl ?_
    refine s_iload (pc' := 198) A at_196 rfl rfl ?_
    refine s_iload (pc' := 200) A at_198 rfl rfl ?_
    refine s_static (pc' := 203) (y := y8_check) (argsL := [(.int ((ush q2 (8 : Int32)) &&& (65535 : Int32))), (.int (0 : Int32)), (.int (4 : Int32)), (.int (2 : Int32)), (.int ((ush q2 (8 : Int32)) &&& (65535 : Int32)))]) (rest := []) A (m_in l Z a0 hw n0 h1369 A.size ((ush q2 (8 : Int32)) &&& (65535 : Int32)) (0 : Int32) (4 : Int32) (2 : Int32) ((ush q2 (8 : Int32)) &&& (65535 : Int32)) (by decide) (by decide) (Int32.add_zero _).symm) (w48 hw) (w49 hw) (w2 hw) (w50 hw) (by decide) pd__IIIII_Z rfl (W := 0) (by decide) (by decide) (Nat.le_of_eq rfl) (by decide) (by decide) rfl rfl at_200 rfl fun T h1375 v1376 A Q1377 => ?_
    obtain ⟨rfl, eh⟩ := Q1377
    rw [eh] at A
    refine Wp.stk (st' := [(.int (1 : Int32))]) rfl ?_
    refine s_ifN (pc' := 206) A at_203 rfl (by decide) ?_
    refine s_aload (pc' := 208) A at_206 rfl rfl rfl ?_
    refine s_lload (pc' := 210) A at_208 rfl rfl ?_
    refine s_virtual (pc' := 213) (y := y0_get) (argsL := [(.long (posf q0 (1 : Int32) q1))]) (rest := []) (z := y0_get) A H1365.1 (m_get l Z a0 hw n0 h1369 A.size b1311 a1320 b1321 z1364 P1362 N1363 (fun r => if r = (posf q0 (2 : Int32) q1) then -1 else (fun r => if r = (posf q0 (3 : Int32) q1) then (((ush q2 (8 : Int32)) &&& (65535 : Int32)) + (3 : Int32)) else (fun r => if r = (posf q0 (2 : Int32) q1) then (((ush q2 (8 : Int32)) &&& (65535 : Int32)) + (2 : Int32)) else (fun r => if r = (posf q0 (1 : Int32) q1) then (((ush q2 (8 : Int32)) &&& (65535 : Int32)) + (1 : Int32)) else (fun r => if r = (posf q0 (0 : Int32) q1) then ((ush q2 (8 : Int32)) &&& (65535 : Int32)) else (fun _ => -1) r) r) r) r) r) (posf q0 (1 : Int32) q1) H1365 HT1366 f1367 f1367a f1367b) (w43 hw) (w44 hw) (nf_same (C := "") (w46 hw)) (w46 hw) (w45 hw) (w7 hw) (w47 hw) (by decide) pd__J_I rfl (W := 0) (by decide) (by decide) (Nat.le_of_eq rfl) (by decide) (by decide) rfl rfl at_210 rfl fun T h1378 v1379 A Q1380 => ?_
    obtain ⟨ev, eh⟩ := Q1380
    obtain rfl := ev.trans (congrArg (fun z => some (Value.int z)) (show (fun r => if r = (posf q0 (2 : Int32) q1) then -1 else (fun r => if r = (posf q0 (3 : Int32) q1) then (((ush q2 (8 : Int32)) &&& (65535 : Int32)) + (3 : Int32)) else (fun r => if r = (posf q0 (2 : Int32) q1) then (((ush q2 (8 : Int32)) &&& (65535 : Int32)) + (2 : Int32)) else (fun r => if r = (posf q0 (1 : Int32) q1) then (((ush q2 (8 : Int32)) &&& (65535 : Int32)) + (1 : Int32)) else (fun r => if r = (posf q0 (0 : Int32) q1) then ((ush q2 (8 : Int32)) &&& (65535 : Int32)) else (fun _ => -1) r) r) r) r) r) (posf q0 (1 : Int32) q1) = (((ush q2 (8 : Int32)) &&& (65535 : Int32)) + (1 : Int32)) from (by simp only [pn_0_1, pn_0_2, pn_0_3, pn_0_4, pn_1_0, pn_1_2, pn_1_3, pn_1_4, pn_2_0, pn_2_1, pn_2_3, pn_2_4, pn_3_0, pn_3_1, pn_3_2, pn_3_4, pn_4_0, pn_4_1, pn_4_2, pn_4_3, if_true, if_false])))
    rw [eh] at A
    refine Wp.stk (st' := [(.int (((ush q2 (8 : Int32)) &&& (65535 : Int32)) + (1 : Int32)))]) rfl ?_
    refine s_iconst (pc' := 214) (z := (1 : Int32)) A at_213 rfl (by decide) ?_
    refine s_iload (pc' := 216) A at_214 rfl rfl ?_
    refine s_iload (pc' := 218) A at_216 rfl rfl ?_
    refine s_iload (pc' := 220) A at_218 rfl rfl ?_
    refine s_static (pc' := 223) (y := y8_check) (argsL := [(.int (((ush q2 (8 : Int32)) &&& (65535 : Int32)) + (1 : Int32))), (.int (1 : Int32)), (.int (4 : Int32)), (.int (2 : Int32)), (.int ((ush q2 (8 : Int32)) &&& (65535 : Int32)))]) (rest := []) A (m_in l Z a0 hw n0 h1369 A.size (((ush q2 (8 : Int32)) &&& (65535 : Int32)) + (1 : Int32)) (1 : Int32) (4 : Int32) (2 : Int32) ((ush q2 (8 : Int32)) &&& (65535 : Int32)) (by decide) (by decide) rfl) (w48 hw) (w49 hw) (w2 hw) (w50 hw) (by decide) pd__IIIII_Z rfl (W := 0) (by decide) (by decide) (Nat.le_of_eq rfl) (by decide) (by decide) rfl rfl at_220 rfl fun T h1381 v1382 A Q1383 => ?_
    obtain ⟨rfl, eh⟩ := Q1383
    rw [eh] at A
    refine Wp.stk (st' := [(.int (1 : Int32))]) rfl ?_
    refine s_ifN (pc' := 226) A at_223 rfl (by decide) ?_
    refine s_aload (pc' := 228) A at_226 rfl rfl rfl ?_
    refine s_lload (pc' := 230) A at_228 rfl rfl ?_
    refine s_virtual (pc' := 233) (y := y0_get) (argsL := [(.long (posf q0 (2 : Int32) q1))]) (rest := []) (z := y0_get) A H1365.1 (m_get l Z a0 hw n0 h1369 A.size b1311 a1320 b1321 z1364 P1362 N1363 (fun r => if r = (posf q0 (2 : Int32) q1) then -1 else (fun r => if r = (posf q0 (3 : Int32) q1) then (((ush q2 (8 : Int32)) &&& (65535 : Int32)) + (3 : Int32)) else (fun r => if r = (posf q0 (2 : Int32) q1) then (((ush q2 (8 : Int32)) &&& (65535 : Int32)) + (2 : Int32)) else (fun r => if r = (posf q0 (1 : Int32) q1) then (((ush q2 (8 : Int32)) &&& (65535 : Int32)) + (1 : Int32)) else (fun r => if r = (posf q0 (0 : Int32) q1) then ((ush q2 (8 : Int32)) &&& (65535 : Int32)) else (fun _ => -1) r) r) r) r) r) (posf q0 (2 : Int32) q1) H1365 HT1366 f1367 f1367a f1367b) (w43 hw) (w44 hw) (nf_same (C := "") (w46 hw)) (w46 hw) (w45 hw) (w7 hw) (w47 hw) (by decide) pd__J_I rfl (W := 0) (by decide) (by decide) (Nat.le_of_eq rfl) (by decide) (by decide) rfl rfl at_230 rfl fun T h1384 v1385 A Q1386 => ?_
    obtain ⟨ev, eh⟩ := Q1386
    obtain rfl := ev.trans (congrArg (fun z => some (Value.int z)) (show (fun r => if r = (posf q0 (2 : Int32) q1) then -1 else (fun r => if r = (posf q0 (3 : Int32) q1) then (((ush q2 (8 : Int32)) &&& (65535 : Int32)) + (3 : Int32)) else (fun r => if r = (posf q0 (2 : Int32) q1) then (((ush q2 (8 : Int32)) &&& (65535 : Int32)) + (2 : Int32)) else (fun r => if r = (posf q0 (1 : Int32) q1) then (((ush q2 (8 : Int32)) &&& (65535 : Int32)) + (1 : Int32)) else (fun r => if r = (posf q0 (0 : Int32) q1) then ((ush q2 (8 : Int32)) &&& (65535 : Int32)) else (fun _ => -1) r) r) r) r) r) (posf q0 (2 : Int32) q1) = (-1 : Int32) from (by simp only [pn_0_1, pn_0_2, pn_0_3, pn_0_4, pn_1_0, pn_1_2, pn_1_3, pn_1_4, pn_2_0, pn_2_1, pn_2_3, pn_2_4, pn_3_0, pn_3_1, pn_3_2, pn_3_4, pn_4_0, pn_4_1, pn_4_2, pn_4_3, if_true, if_false])))
    rw [eh] at A
    refine Wp.stk (st' := [(.int (-1 : Int32))]) rfl ?_
    refine s_iconst (pc' := 234) (z := (2 : Int32)) A at_233 rfl (by decide) ?_
    refine s_iload (pc' := 236) A at_234 rfl rfl ?_
    refine s_iload (pc' := 238) A at_236 rfl rfl ?_
    refine s_iload (pc' := 240) A at_238 rfl rfl ?_
    refine s_static (pc' := 243) (y := y8_check) (argsL := [(.int (-1 : Int32)), (.int (2 : Int32)), (.int (4 : Int32)), (.int (2 : Int32)), (.int ((ush q2 (8 : Int32)) &&& (65535 : Int32)))]) (rest := []) A (m_out l Z a0 hw n0 h1369 A.size (-1 : Int32) (2 : Int32) (4 : Int32) (2 : Int32) ((ush q2 (8 : Int32)) &&& (65535 : Int32)) (Or.inr rfl) rfl) (w48 hw) (w49 hw) (w2 hw) (w50 hw) (by decide) pd__IIIII_Z rfl (W := 0) (by decide) (by decide) (Nat.le_of_eq rfl) (by decide) (by decide) rfl rfl at_240 rfl fun T h1387 v1388 A Q1389 => ?_
    obtain ⟨rfl, eh⟩ := Q1389
    rw [eh] at A
    refine Wp.stk (st' := [(.int (1 : Int32))]) rfl ?_
    refine s_ifN (pc' := 246) A at_243 rfl (by decide) ?_
    refine s_aload (pc' := 248) A at_246 rfl rfl rfl ?_
    refine s_lload (pc' := 250) A at_248 rfl rfl ?_
    refine s_virtual (pc' := 253) (y := y0_get) (argsL := [(.long (posf q0 (3 : Int32) q1))]) (rest := []) (z := y0_get) A H1365.1 (m_get l Z a0 hw n0 h1369 A.size b1311 a1320 b1321 z1364 P1362 N1363 (fun r => if r = (posf q0 (2 : Int32) q1) then -1 else (fun r => if r = (posf q0 (3 : Int32) q1) then (((ush q2 (8 : Int32)) &&& (65535 : Int32)) + (3 : Int32)) else (fun r => if r = (posf q0 (2 : Int32) q1) then (((ush q2 (8 : Int32)) &&& (65535 : Int32)) + (2 : Int32)) else (fun r => if r = (posf q0 (1 : Int32) q1) then (((ush q2 (8 : Int32)) &&& (65535 : Int32)) + (1 : Int32)) else (fun r => if r = (posf q0 (0 : Int32) q1) then ((ush q2 (8 : Int32)) &&& (65535 : Int32)) else (fun _ => -1) r) r) r) r) r) (posf q0 (3 : Int32) q1) H1365 HT1366 f1367 f1367a f1367b) (w43 hw) (w44 hw) (nf_same (C := "") (w46 hw)) (w46 hw) (w45 hw) (w7 hw) (w47 hw) (by decide) pd__J_I rfl (W := 0) (by decide) (by decide) (Nat.le_of_eq rfl) (by decide) (by decide) rfl rfl at_250 rfl fun T h1390 v1391 A Q1392 => ?_
    obtain ⟨ev, eh⟩ := Q1392
    obtain rfl := ev.trans (congrArg (fun z => some (Value.int z)) (show (fun r => if r = (posf q0 (2 : Int32) q1) then -1 else (fun r => if r = (posf q0 (3 : Int32) q1) then (((ush q2 (8 : Int32)) &&& (65535 : Int32)) + (3 : Int32)) else (fun r => if r = (posf q0 (2 : Int32) q1) then (((ush q2 (8 : Int32)) &&& (65535 : Int32)) + (2 : Int32)) else (fun r => if r = (posf q0 (1 : Int32) q1) then (((ush q2 (8 : Int32)) &&& (65535 : Int32)) + (1 : Int32)) else (fun r => if r = (posf q0 (0 : Int32) q1) then ((ush q2 (8 : Int32)) &&& (65535 : Int32)) else (fun _ => -1) r) r) r) r) r) (posf q0 (3 : Int32) q1) = (((ush q2 (8 : Int32)) &&& (65535 : Int32)) + (3 : Int32)) from (by simp only [pn_0_1, pn_0_2, pn_0_3, pn_0_4, pn_1_0, pn_1_2, pn_1_3, pn_1_4, pn_2_0, pn_2_1, pn_2_3, pn_2_4, pn_3_0, pn_3_1, pn_3_2, pn_3_4, pn_4_0, pn_4_1, pn_4_2, pn_4_3, if_true, if_false])))
    rw [eh] at A
    refine Wp.stk (st' := [(.int (((ush q2 (8 : Int32)) &&& (65535 : Int32)) + (3 : Int32)))]) rfl ?_
    refine s_iconst (pc' := 254) (z := (3 : Int32)) A at_253 rfl (by decide) ?_
    refine s_iload (pc' := 256) A at_254 rfl rfl ?_
    refine s_iload (pc' := 258) A at_256 rfl rfl ?_
    refine s_iload (pc' := 260) A at_258 rfl rfl ?_
    refine s_static (pc' := 263) (y := y8_check) (argsL := [(.int (((ush q2 (8 : Int32)) &&& (65535 : Int32)) + (3 : Int32))), (.int (3 : Int32)), (.int (4 : Int32)), (.int (2 : Int32)), (.int ((ush q2 (8 : Int32)) &&& (65535 : Int32)))]) (rest := []) A (m_in l Z a0 hw n0 h1369 A.size (((ush q2 (8 : Int32)) &&& (65535 : Int32)) + (3 : Int32)) (3 : Int32) (4 : Int32) (2 : Int32) ((ush q2 (8 : Int32)) &&& (65535 : Int32)) (by decide) (by decide) rfl) (w48 hw) (w49 hw) (w2 hw) (w50 hw) (by decide) pd__IIIII_Z rfl (W := 0) (by decide) (by decide) (Nat.le_of_eq rfl) (by decide) (by decide) rfl rfl at_260 rfl fun T h1393 v1394 A Q1395 => ?_
    obtain ⟨rfl, eh⟩ := Q1395
    rw [eh] at A
    refine Wp.stk (st' := [(.int (1 : Int32))]) rfl ?_
    refine s_ifN (pc' := 266) A at_263 rfl (by decide) ?_
    refine s_aload (pc' := 268) A at_266 rfl rfl rfl ?_
    refine s_lload (pc' := 270) A at_268 rfl rfl ?_
    refine s_virtual (pc' := 273) (y := y0_get) (argsL := [(.long (posf q0 (4 : Int32) q1))]) (rest := []) (z := y0_get) A H1365.1 (m_get l Z a0 hw n0 h1369 A.size b1311 a1320 b1321 z1364 P1362 N1363 (fun r => if r = (posf q0 (2 : Int32) q1) then -1 else (fun r => if r = (posf q0 (3 : Int32) q1) then (((ush q2 (8 : Int32)) &&& (65535 : Int32)) + (3 : Int32)) else (fun r => if r = (posf q0 (2 : Int32) q1) then (((ush q2 (8 : Int32)) &&& (65535 : Int32)) + (2 : Int32)) else (fun r => if r = (posf q0 (1 : Int32) q1) then (((ush q2 (8 : Int32)) &&& (65535 : Int32)) + (1 : Int32)) else (fun r => if r = (posf q0 (0 : Int32) q1) then ((ush q2 (8 : Int32)) &&& (65535 : Int32)) else (fun _ => -1) r) r) r) r) r) (posf q0 (4 : Int32) q1) H1365 HT1366 f1367 f1367a f1367b) (w43 hw) (w44 hw) (nf_same (C := "") (w46 hw)) (w46 hw) (w45 hw) (w7 hw) (w47 hw) (by decide) pd__J_I rfl (W := 0) (by decide) (by decide) (Nat.le_of_eq rfl) (by decide) (by decide) rfl rfl at_270 rfl fun T h1396 v1397 A Q1398 => ?_
    obtain ⟨ev, eh⟩ := Q1398
    obtain rfl := ev.trans (congrArg (fun z => some (Value.int z)) (show (fun r => if r = (posf q0 (2 : Int32) q1) then -1 else (fun r => if r = (posf q0 (3 : Int32) q1) then (((ush q2 (8 : Int32)) &&& (65535 : Int32)) + (3 : Int32)) else (fun r => if r = (posf q0 (2 : Int32) q1) then (((ush q2 (8 : Int32)) &&& (65535 : Int32)) + (2 : Int32)) else (fun r => if r = (posf q0 (1 : Int32) q1) then (((ush q2 (8 : Int32)) &&& (65535 : Int32)) + (1 : Int32)) else (fun r => if r = (posf q0 (0 : Int32) q1) then ((ush q2 (8 : Int32)) &&& (65535 : Int32)) else (fun _ => -1) r) r) r) r) r) (posf q0 (4 : Int32) q1) = (-1 : Int32) from (by simp only [pn_0_1, pn_0_2, pn_0_3, pn_0_4, pn_1_0, pn_1_2, pn_1_3, pn_1_4, pn_2_0, pn_2_1, pn_2_3, pn_2_4, pn_3_0, pn_3_1, pn_3_2, pn_3_4, pn_4_0, pn_4_1, pn_4_2, pn_4_3, if_true, if_false])))
    rw [eh] at A
    refine Wp.stk (st' := [(.int (-1 : Int32))]) rfl ?_
    refine s_iconst (pc' := 274) (z := (4 : Int32)) A at_273 rfl (by decide) ?_
    refine s_iload (pc' := 276) A at_274 rfl rfl ?_
    refine s_iload (pc' := 278) A at_276 rfl rfl ?_
    refine s_iload (pc' := 280) A at_278 rfl rfl ?_
    refine s_static (pc' := 283) (y := y8_check) (argsL := [(.int (-1 : Int32)), (.int (4 : Int32)), (.int (4 : Int32)), (.int (2 : Int32)), (.int ((ush q2 (8 : Int32)) &&& (65535 : Int32)))]) (rest := []) A (m_out l Z a0 hw n0 h1369 A.size (-1 : Int32) (4 : Int32) (4 : Int32) (2 : Int32) ((ush q2 (8 : Int32)) &&& (65535 : Int32)) (Or.inl (by decide)) rfl) (w48 hw) (w49 hw) (w2 hw) (w50 hw) (by decide) pd__IIIII_Z rfl (W := 0) (by decide) (by decide) (Nat.le_of_eq rfl) (by decide) (by decide) rfl rfl at_280 rfl fun T h1399 v1400 A Q1401 => ?_
    obtain ⟨rfl, eh⟩ := Q1401
    rw [eh] at A
    refine Wp.stk (st' := [(.int (1 : Int32))]) rfl ?_
    refine s_ifN (pc' := 286) A at_283 rfl (by decide) ?_
    refine s_iconst (pc' := 287) (z := (1 : Int32)) A at_286 rfl (by decide) ?_
    refine s_goto (pc' := 291) A at_287 (by decide) (by decide) ?_
    exact r_bool A rfl (by decide) at_291 (by decide) (by decide) (rfl)
   ·
    refine s_irem (pc' := 52) (z := (3 : Int32)) A at_51 rfl (by decide) hrr.symm ?_
    refine s_istore (pc' := 54) (Ls' := #[jv q0, S2, iv q1, iv q2, jv (posf q0 (0 : Int32) q1), S2, jv (posf q0 (1 : Int32) q1), S2, jv (posf q0 (2 : Int32) q1), S2, jv (posf q0 (3 : Int32) q1), S2, jv (posf q0 (4 : Int32) q1), S2, iv 4, iv 3, U0, U0, U0, U0]) A at_52 rfl rfl ?_
    refine s_iloadN (pc' := 55) A at_54 rfl rfl ?_
    refine s_bipush (pc' := 57) (z := (8 : Int32)) A at_55 rfl (by decide) ?_
    refine s_iushr (pc' := 58) (z := (ush q2 (8 : Int32))) A at_57 rfl rfl ?_
    refine s_ldcInt (pc' := 60) A at_58 rfl (w4 hw) ?_
    refine s_iand (pc' := 61) (z := ((ush q2 (8 : Int32)) &&& (65535 : Int32))) A at_60 rfl rfl ?_
    refine s_istore (pc' := 63) (Ls' := #[jv q0, S2, iv q1, iv q2, jv (posf q0 (0 : Int32) q1), S2, jv (posf q0 (1 : Int32) q1), S2, jv (posf q0 (2 : Int32) q1), S2, jv (posf q0 (3 : Int32) q1), S2, jv (posf q0 (4 : Int32) q1), S2, iv 4, iv 3, iv ((ush q2 (8 : Int32)) &&& (65535 : Int32)), U0, U0, U0]) A at_61 rfl rfl ?_
    refine s_new (pc' := 66) A (w5 hw) (w6 hw) (w7 hw) (by decide) (by decide) at_63 rfl fun T h1402 b1403 A g1404 ge1405 X1406 E1407 D1408 => ?_
    have F1409 : Fld Z h1402 b1403 "com/example/wirefram/wirefram/sequence/PositionIndex" "positions" "[J" .null := D1408 (Or.inl (w16 hw)) (ty := (.array .long)) (by decide)
    have F1410 : Fld Z h1402 b1403 "com/example/wirefram/wirefram/sequence/PositionIndex" "numbers" "[I" .null := D1408 (Or.inl (w26 hw)) (ty := (.array .int)) (by decide)
    have F1411 : Fld Z h1402 b1403 "com/example/wirefram/wirefram/sequence/PositionIndex" "size" "I" (.int (0 : Int32)) := D1408 (Or.inl (w33 hw)) (ty := .int) (by decide)
    refine s_dup (pc' := 67) A at_66 rfl rfl ?_
    refine s_special (pc' := 70) (y := y6_init) (argsL := []) (rest := [(.ref b1403)]) A (m_init l Z a0 hw n0 h1402 A.size b1403 E1407 F1409 F1410 F1411 ge1405) rfl (w8 hw) (w9 hw) (w7 hw) (w10 hw) (by decide) pd___V rfl (W := 1) (by decide) (by decide) (Nat.le_of_eq rfl) (by decide) (by decide) rfl rfl at_67 rfl fun T h1415 v1416 A Q1417 => ?_
    obtain ⟨rfl, a1412, b1413, H1414⟩ := Q1417
    refine Wp.stk (st' := [(.ref b1403)]) rfl ?_
    refine s_astore (pc' := 72) (Ls' := #[jv q0, S2, iv q1, iv q2, jv (posf q0 (0 : Int32) q1), S2, jv (posf q0 (1 : Int32) q1), S2, jv (posf q0 (2 : Int32) q1), S2, jv (posf q0 (3 : Int32) q1), S2, jv (posf q0 (4 : Int32) q1), S2, iv 4, iv 3, iv ((ush q2 (8 : Int32)) &&& (65535 : Int32)), rv b1403, U0, U0]) A at_70 rfl rfl rfl ?_
    refine s_aload (pc' := 74) A at_72 rfl rfl rfl ?_
    refine s_lload (pc' := 76) A at_74 rfl rfl ?_
    refine s_iload (pc' := 78) A at_76 rfl rfl ?_
    obtain ⟨fr1423, fr1423a, fr1423b⟩ := Free.ex (c := 15) own_free0
    refine s_virtual (pc' := 81) (y := y2_put) (argsL := [(.long (posf q0 (0 : Int32) q1)), (.int ((ush q2 (8 : Int32)) &&& (65535 : Int32)))]) (rest := []) (z := y2_put) A H1414.1 (m_put l Z a0 hw n0 h1415 A.size b1403 a1412 b1413 0 (fun _ => 0) (fun _ => -1) (fun _ => -1) H1414 (posf q0 (0 : Int32) q1) ((ush q2 (8 : Int32)) &&& (65535 : Int32)) 1 (own_tab0 (fun _ => 0)) fr1423 fr1423a fr1423b (own_nb0 q2) rfl (by decide) (by decide)) (w27 hw) (w28 hw) (nf_same (C := "") (w30 hw)) (w30 hw) (w29 hw) (w7 hw) (w31 hw) (by decide) pd__JI_V rfl (W := 0) (by decide) (by decide) (Nat.le_of_eq rfl) (by decide) (by decide) rfl rfl at_78 rfl fun T h1424 v1425 A Q1426 => ?_
    obtain ⟨rfl, P1418, N1419, H1420, HT1421, FR1422⟩ := Q1426
    have FR1422 := FR1422 15 own_free0
    refine Wp.stk (st' := []) rfl ?_
    refine s_iload (pc' := 83) A at_81 rfl rfl ?_
    refine s_iconst (pc' := 84) (z := (1 : Int32)) A at_83 rfl (by decide) ?_
    refine s_icmpN (pc' := 87) A at_84 rfl (by decide) ?_
    refine s_aload (pc' := 89) A at_87 rfl rfl rfl ?_
    refine s_lload (pc' := 91) A at_89 rfl rfl ?_
    refine s_iload (pc' := 93) A at_91 rfl rfl ?_
    refine s_iconst (pc' := 94) (z := (1 : Int32)) A at_93 rfl (by decide) ?_
    refine s_iadd (pc' := 95) (z := (((ush q2 (8 : Int32)) &&& (65535 : Int32)) + (1 : Int32))) A at_94 rfl rfl ?_
    obtain ⟨fr1432, fr1432a, fr1432b⟩ := Free.ex (c := 14) FR1422
    refine s_virtual (pc' := 98) (y := y2_put) (argsL := [(.long (posf q0 (1 : Int32) q1)), (.int (((ush q2 (8 : Int32)) &&& (65535 : Int32)) + (1 : Int32)))]) (rest := []) (z := y2_put) A H1420.1 (m_put l Z a0 hw n0 h1424 A.size b1403 a1412 b1413 1 P1418 N1419 (fun r => if r = (posf q0 (0 : Int32) q1) then ((ush q2 (8 : Int32)) &&& (65535 : Int32)) else (fun _ => -1) r) H1420 (posf q0 (1 : Int32) q1) (((ush q2 (8 : Int32)) &&& (65535 : Int32)) + (1 : Int32)) 2 HT1421 fr1432 fr1432a fr1432b (own_nb1 q2) (by simp only [pn_0_1, pn_0_2, pn_0_3, pn_0_4, pn_1_0, pn_1_2, pn_1_3, pn_1_4, pn_2_0, pn_2_1, pn_2_3, pn_2_4, pn_3_0, pn_3_1, pn_3_2, pn_3_4, pn_4_0, pn_4_1, pn_4_2, pn_4_3, if_true, if_false]) (by decide) (by decide)) (w27 hw) (w28 hw) (nf_same (C := "") (w30 hw)) (w30 hw) (w29 hw) (w7 hw) (w31 hw) (by decide) pd__JI_V rfl (W := 0) (by decide) (by decide) (Nat.le_of_eq rfl) (by decide) (by decide) rfl rfl at_95 rfl fun T h1433 v1434 A Q1435 => ?_
    obtain ⟨rfl, P1427, N1428, H1429, HT1430, FR1431⟩ := Q1435
    have FR1431 := FR1431 14 FR1422
    refine Wp.stk (st' := []) rfl ?_
    refine s_iload (pc' := 100) A at_98 rfl rfl ?_
    refine s_iconst (pc' := 101) (z := (2 : Int32)) A at_100 rfl (by decide) ?_
    refine s_icmpN (pc' := 104) A at_101 rfl (by decide) ?_
    refine s_aload (pc' := 106) A at_104 rfl rfl rfl ?_
    refine s_lload (pc' := 108) A at_106 rfl rfl ?_
    refine s_iload (pc' := 110) A at_108 rfl rfl ?_
    refine s_iconst (pc' := 111) (z := (2 : Int32)) A at_110 rfl (by decide) ?_
    refine s_iadd (pc' := 112) (z := (((ush q2 (8 : Int32)) &&& (65535 : Int32)) + (2 : Int32))) A at_111 rfl rfl ?_
    obtain ⟨fr1441, fr1441a, fr1441b⟩ := Free.ex (c := 13) FR1431
    refine s_virtual (pc' := 115) (y := y2_put) (argsL := [(.long (posf q0 (2 : Int32) q1)), (.int (((ush q2 (8 : Int32)) &&& (65535 : Int32)) + (2 : Int32)))]) (rest := []) (z := y2_put) A H1429.1 (m_put l Z a0 hw n0 h1433 A.size b1403 a1412 b1413 2 P1427 N1428 (fun r => if r = (posf q0 (1 : Int32) q1) then (((ush q2 (8 : Int32)) &&& (65535 : Int32)) + (1 : Int32)) else (fun r => if r = (posf q0 (0 : Int32) q1) then ((ush q2 (8 : Int32)) &&& (65535 : Int32)) else (fun _ => -1) r) r) H1429 (posf q0 (2 : Int32) q1) (((ush q2 (8 : Int32)) &&& (65535 : Int32)) + (2 : Int32)) 3 HT1430 fr1441 fr1441a fr1441b (own_nb2 q2) (by simp only [pn_0_1, pn_0_2, pn_0_3, pn_0_4, pn_1_0, pn_1_2, pn_1_3, pn_1_4, pn_2_0, pn_2_1, pn_2_3, pn_2_4, pn_3_0, pn_3_1, pn_3_2, pn_3_4, pn_4_0, pn_4_1, pn_4_2, pn_4_3, if_true, if_false]) (by decide) (by decide)) (w27 hw) (w28 hw) (nf_same (C := "") (w30 hw)) (w30 hw) (w29 hw) (w7 hw) (w31 hw) (by decide) pd__JI_V rfl (W := 0) (by decide) (by decide) (Nat.le_of_eq rfl) (by decide) (by decide) rfl rfl at_112 rfl fun T h1442 v1443 A Q1444 => ?_
    obtain ⟨rfl, P1436, N1437, H1438, HT1439, FR1440⟩ := Q1444
    have FR1440 := FR1440 13 FR1431
    refine Wp.stk (st' := []) rfl ?_
    refine s_iload (pc' := 117) A at_115 rfl rfl ?_
    refine s_iconst (pc' := 118) (z := (3 : Int32)) A at_117 rfl (by decide) ?_
    refine s_icmpN (pc' := 121) A at_118 rfl (by decide) ?_
    refine s_aload (pc' := 123) A at_121 rfl rfl rfl ?_
    refine s_lload (pc' := 125) A at_123 rfl rfl ?_
    refine s_iload (pc' := 127) A at_125 rfl rfl ?_
    refine s_iconst (pc' := 128) (z := (3 : Int32)) A at_127 rfl (by decide) ?_
    refine s_iadd (pc' := 129) (z := (((ush q2 (8 : Int32)) &&& (65535 : Int32)) + (3 : Int32))) A at_128 rfl rfl ?_
    obtain ⟨fr1450, fr1450a, fr1450b⟩ := Free.ex (c := 12) FR1440
    refine s_virtual (pc' := 132) (y := y2_put) (argsL := [(.long (posf q0 (3 : Int32) q1)), (.int (((ush q2 (8 : Int32)) &&& (65535 : Int32)) + (3 : Int32)))]) (rest := []) (z := y2_put) A H1438.1 (m_put l Z a0 hw n0 h1442 A.size b1403 a1412 b1413 3 P1436 N1437 (fun r => if r = (posf q0 (2 : Int32) q1) then (((ush q2 (8 : Int32)) &&& (65535 : Int32)) + (2 : Int32)) else (fun r => if r = (posf q0 (1 : Int32) q1) then (((ush q2 (8 : Int32)) &&& (65535 : Int32)) + (1 : Int32)) else (fun r => if r = (posf q0 (0 : Int32) q1) then ((ush q2 (8 : Int32)) &&& (65535 : Int32)) else (fun _ => -1) r) r) r) H1438 (posf q0 (3 : Int32) q1) (((ush q2 (8 : Int32)) &&& (65535 : Int32)) + (3 : Int32)) 4 HT1439 fr1450 fr1450a fr1450b (own_nb3 q2) (by simp only [pn_0_1, pn_0_2, pn_0_3, pn_0_4, pn_1_0, pn_1_2, pn_1_3, pn_1_4, pn_2_0, pn_2_1, pn_2_3, pn_2_4, pn_3_0, pn_3_1, pn_3_2, pn_3_4, pn_4_0, pn_4_1, pn_4_2, pn_4_3, if_true, if_false]) (by decide) (by decide)) (w27 hw) (w28 hw) (nf_same (C := "") (w30 hw)) (w30 hw) (w29 hw) (w7 hw) (w31 hw) (by decide) pd__JI_V rfl (W := 0) (by decide) (by decide) (Nat.le_of_eq rfl) (by decide) (by decide) rfl rfl at_129 rfl fun T h1451 v1452 A Q1453 => ?_
    obtain ⟨rfl, P1445, N1446, H1447, HT1448, FR1449⟩ := Q1453
    have FR1449 := FR1449 12 FR1440
    refine Wp.stk (st' := []) rfl ?_
    refine s_iload (pc' := 134) A at_132 rfl rfl ?_
    refine s_ifY (pc' := 142) A at_134 (by decide) (by decide) (by decide) ?_
    refine s_iload (pc' := 144) A at_142 rfl rfl ?_
    refine s_iconst (pc' := 145) (z := (1 : Int32)) A at_144 rfl (by decide) ?_
    refine s_icmpY (pc' := 153) A at_145 (by decide) (by decide) (by decide) ?_
    refine s_iload (pc' := 155) A at_153 rfl rfl ?_
    refine s_iconst (pc' := 156) (z := (2 : Int32)) A at_155 rfl (by decide) ?_
    refine s_icmpY (pc' := 164) A at_156 (by decide) (by decide) (by decide) ?_
    refine s_iload (pc' := 166) A at_164 rfl rfl ?_
    refine s_iconst (pc' := 167) (z := (3 : Int32)) A at_166 rfl (by decide) ?_
    refine s_icmpN (pc' := 170) A at_167 rfl (by decide) ?_
    refine s_lload (pc' := 172) A at_170 rfl rfl ?_
    refine s_goto (pc' := 177) A at_172 (by decide) (by decide) ?_
    refine s_lstore (pc' := 179) (Ls' := #[jv q0, S2, iv q1, iv q2, jv (posf q0 (0 : Int32) q1), S2, jv (posf q0 (1 : Int32) q1), S2, jv (posf q0 (2 : Int32) q1), S2, jv (posf q0 (3 : Int32) q1), S2, jv (posf q0 (4 : Int32) q1), S2, iv 4, iv 3, iv ((ush q2 (8 : Int32)) &&& (65535 : Int32)), rv b1403, jv (posf q0 (3 : Int32) q1), S2]) A at_177 rfl rfl ?_
    refine s_aload (pc' := 181) A at_179 rfl rfl rfl ?_
    refine s_lload (pc' := 183) A at_181 rfl rfl ?_
    obtain ⟨fr1460, fr1460a, fr1460b⟩ := Free.ex (c := 11) FR1449
    refine s_virtual (pc' := 186) (y := y3_remove) (argsL := [(.long (posf q0 (3 : Int32) q1))]) (rest := []) (z := y3_remove) A H1447.1 (m_rem l Z a0 hw n0 h1451 A.size b1403 a1412 b1413 4 P1445 N1446 (fun r => if r = (posf q0 (3 : Int32) q1) then (((ush q2 (8 : Int32)) &&& (65535 : Int32)) + (3 : Int32)) else (fun r => if r = (posf q0 (2 : Int32) q1) then (((ush q2 (8 : Int32)) &&& (65535 : Int32)) + (2 : Int32)) else (fun r => if r = (posf q0 (1 : Int32) q1) then (((ush q2 (8 : Int32)) &&& (65535 : Int32)) + (1 : Int32)) else (fun r => if r = (posf q0 (0 : Int32) q1) then ((ush q2 (8 : Int32)) &&& (65535 : Int32)) else (fun _ => -1) r) r) r) r) (posf q0 (3 : Int32) q1) H1447 HT1448 fr1460 fr1460a fr1460b) (w38 hw) (w39 hw) (nf_same (C := "") (w41 hw)) (w41 hw) (w40 hw) (w7 hw) (w42 hw) (by decide) pd__J_V rfl (W := 0) (by decide) (by decide) (Nat.le_of_eq rfl) (by decide) (by decide) rfl rfl at_183 rfl fun T h1461 v1462 A Q1463 => ?_
    obtain ⟨rfl, P1454, N1455, z1456, H1457, HT1458, f1459, f1459a, f1459b⟩ := Q1463
    refine Wp.stk (st' := []) rfl ?_
    refine s_aload (pc' := 188) A at_186 rfl rfl rfl ?_
    refine s_lload (pc' := 190) A at_188 rfl rfl ?_
    refine s_virtual (pc' := 193) (y := y0_get) (argsL := [(.long (posf q0 (0 : Int32) q1))]) (rest := []) (z := y0_get) A H1457.1 (m_get l Z a0 hw n0 h1461 A.size b1403 a1412 b1413 z1456 P1454 N1455 (fun r => if r = (posf q0 (3 : Int32) q1) then -1 else (fun r => if r = (posf q0 (3 : Int32) q1) then (((ush q2 (8 : Int32)) &&& (65535 : Int32)) + (3 : Int32)) else (fun r => if r = (posf q0 (2 : Int32) q1) then (((ush q2 (8 : Int32)) &&& (65535 : Int32)) + (2 : Int32)) else (fun r => if r = (posf q0 (1 : Int32) q1) then (((ush q2 (8 : Int32)) &&& (65535 : Int32)) + (1 : Int32)) else (fun r => if r = (posf q0 (0 : Int32) q1) then ((ush q2 (8 : Int32)) &&& (65535 : Int32)) else (fun _ => -1) r) r) r) r) r) (posf q0 (0 : Int32) q1) H1457 HT1458 f1459 f1459a f1459b) (w43 hw) (w44 hw) (nf_same (C := "") (w46 hw)) (w46 hw) (w45 hw) (w7 hw) (w47 hw) (by decide) pd__J_I rfl (W := 0) (by decide) (by decide) (Nat.le_of_eq rfl) (by decide) (by decide) rfl rfl at_190 rfl fun T h1464 v1465 A Q1466 => ?_
    obtain ⟨ev, eh⟩ := Q1466
    obtain rfl := ev.trans (congrArg (fun z => some (Value.int z)) (show (fun r => if r = (posf q0 (3 : Int32) q1) then -1 else (fun r => if r = (posf q0 (3 : Int32) q1) then (((ush q2 (8 : Int32)) &&& (65535 : Int32)) + (3 : Int32)) else (fun r => if r = (posf q0 (2 : Int32) q1) then (((ush q2 (8 : Int32)) &&& (65535 : Int32)) + (2 : Int32)) else (fun r => if r = (posf q0 (1 : Int32) q1) then (((ush q2 (8 : Int32)) &&& (65535 : Int32)) + (1 : Int32)) else (fun r => if r = (posf q0 (0 : Int32) q1) then ((ush q2 (8 : Int32)) &&& (65535 : Int32)) else (fun _ => -1) r) r) r) r) r) (posf q0 (0 : Int32) q1) = ((ush q2 (8 : Int32)) &&& (65535 : Int32)) from (by simp only [pn_0_1, pn_0_2, pn_0_3, pn_0_4, pn_1_0, pn_1_2, pn_1_3, pn_1_4, pn_2_0, pn_2_1, pn_2_3, pn_2_4, pn_3_0, pn_3_1, pn_3_2, pn_3_4, pn_4_0, pn_4_1, pn_4_2, pn_4_3, if_true, if_false])))
    rw [eh] at A
    refine Wp.stk (st' := [(.int ((ush q2 (8 : Int32)) &&& (65535 : Int32)))]) rfl ?_
    refine s_iconst (pc' := 194) (z := (0 : Int32)) A at_193 rfl (by decide) ?_
    refine s_iload (pc' := 196) A at_194 rfl rfl ?_
    refine s_iload (pc' := 198) A at_196 rfl rfl ?_
    refine s_iload (pc' := 200) A at_198 rfl rfl ?_
    refine s_static (pc' := 203) (y := y8_check) (argsL := [(.int ((ush q2 (8 : Int32)) &&& (65535 : Int32))), (.int (0 : Int32)), (.int (4 : Int32)), (.int (3 : Int32)), (.int ((ush q2 (8 : Int32)) &&& (65535 : Int32)))]) (rest := []) A (m_in l Z a0 hw n0 h1461 A.size ((ush q2 (8 : Int32)) &&& (65535 : Int32)) (0 : Int32) (4 : Int32) (3 : Int32) ((ush q2 (8 : Int32)) &&& (65535 : Int32)) (by decide) (by decide) (Int32.add_zero _).symm) (w48 hw) (w49 hw) (w2 hw) (w50 hw) (by decide) pd__IIIII_Z rfl (W := 0) (by decide) (by decide) (Nat.le_of_eq rfl) (by decide) (by decide) rfl rfl at_200 rfl fun T h1467 v1468 A Q1469 => ?_
    obtain ⟨rfl, eh⟩ := Q1469
    rw [eh] at A
    refine Wp.stk (st' := [(.int (1 : Int32))]) rfl ?_
    refine s_ifN (pc' := 206) A at_203 rfl (by decide) ?_
    refine s_aload (pc' := 208) A at_206 rfl rfl rfl ?_
    refine s_lload (pc' := 210) A at_208 rfl rfl ?_
    refine s_virtual (pc' := 213) (y := y0_get) (argsL := [(.long (posf q0 (1 : Int32) q1))]) (rest := []) (z := y0_get) A H1457.1 (m_get l Z a0 hw n0 h1461 A.size b1403 a1412 b1413 z1456 P1454 N1455 (fun r => if r = (posf q0 (3 : Int32) q1) then -1 else (fun r => if r = (posf q0 (3 : Int32) q1) then (((ush q2 (8 : Int32)) &&& (65535 : Int32)) + (3 : Int32)) else (fun r => if r = (posf q0 (2 : Int32) q1) then (((ush q2 (8 : Int32)) &&& (65535 : Int32)) + (2 : Int32)) else (fun r => if r = (posf q0 (1 : Int32) q1) then (((ush q2 (8 : Int32)) &&& (65535 : Int32)) + (1 : Int32)) else (fun r => if r = (posf q0 (0 : Int32) q1) then ((ush q2 (8 : Int32)) &&& (65535 : Int32)) else (fun _ => -1) r) r) r) r) r) (posf q0 (1 : Int32) q1) H1457 HT1458 f1459 f1459a f1459b) (w43 hw) (w44 hw) (nf_same (C := "") (w46 hw)) (w46 hw) (w45 hw) (w7 hw) (w47 hw) (by decide) pd__J_I rfl (W := 0) (by decide) (by decide) (Nat.le_of_eq rfl) (by decide) (by decide) rfl rfl at_210 rfl fun T h1470 v1471 A Q1472 => ?_
    obtain ⟨ev, eh⟩ := Q1472
    obtain rfl := ev.trans (congrArg (fun z => some (Value.int z)) (show (fun r => if r = (posf q0 (3 : Int32) q1) then -1 else (fun r => if r = (posf q0 (3 : Int32) q1) then (((ush q2 (8 : Int32)) &&& (65535 : Int32)) + (3 : Int32)) else (fun r => if r = (posf q0 (2 : Int32) q1) then (((ush q2 (8 : Int32)) &&& (65535 : Int32)) + (2 : Int32)) else (fun r => if r = (posf q0 (1 : Int32) q1) then (((ush q2 (8 : Int32)) &&& (65535 : Int32)) + (1 : Int32)) else (fun r => if r = (posf q0 (0 : Int32) q1) then ((ush q2 (8 : Int32)) &&& (65535 : Int32)) else (fun _ => -1) r) r) r) r) r) (posf q0 (1 : Int32) q1) = (((ush q2 (8 : Int32)) &&& (65535 : Int32)) + (1 : Int32)) from (by simp only [pn_0_1, pn_0_2, pn_0_3, pn_0_4, pn_1_0, pn_1_2, pn_1_3, pn_1_4, pn_2_0, pn_2_1, pn_2_3, pn_2_4, pn_3_0, pn_3_1, pn_3_2, pn_3_4, pn_4_0, pn_4_1, pn_4_2, pn_4_3, if_true, if_false])))
    rw [eh] at A
    refine Wp.stk (st' := [(.int (((ush q2 (8 : Int32)) &&& (65535 : Int32)) + (1 : Int32)))]) rfl ?_
    refine s_iconst (pc' := 214) (z := (1 : Int32)) A at_213 rfl (by decide) ?_
    refine s_iload (pc' := 216) A at_214 rfl rfl ?_
    refine s_iload (pc' := 218) A at_216 rfl rfl ?_
    refine s_iload (pc' := 220) A at_218 rfl rfl ?_
    refine s_static (pc' := 223) (y := y8_check) (argsL := [(.int (((ush q2 (8 : Int32)) &&& (65535 : Int32)) + (1 : Int32))), (.int (1 : Int32)), (.int (4 : Int32)), (.int (3 : Int32)), (.int ((ush q2 (8 : Int32)) &&& (65535 : Int32)))]) (rest := []) A (m_in l Z a0 hw n0 h1461 A.size (((ush q2 (8 : Int32)) &&& (65535 : Int32)) + (1 : Int32)) (1 : Int32) (4 : Int32) (3 : Int32) ((ush q2 (8 : Int32)) &&& (65535 : Int32)) (by decide) (by decide) rfl) (w48 hw) (w49 hw) (w2 hw) (w50 hw) (by decide) pd__IIIII_Z rfl (W := 0) (by decide) (by decide) (Nat.le_of_eq rfl) (by decide) (by decide) rfl rfl at_220 rfl fun T h1473 v1474 A Q1475 => ?_
    obtain ⟨rfl, eh⟩ := Q1475
    rw [eh] at A
    refine Wp.stk (st' := [(.int (1 : Int32))]) rfl ?_
    refine s_ifN (pc' := 226) A at_223 rfl (by decide) ?_
    refine s_aload (pc' := 228) A at_226 rfl rfl rfl ?_
    refine s_lload (pc' := 230) A at_228 rfl rfl ?_
    refine s_virtual (pc' := 233) (y := y0_get) (argsL := [(.long (posf q0 (2 : Int32) q1))]) (rest := []) (z := y0_get) A H1457.1 (m_get l Z a0 hw n0 h1461 A.size b1403 a1412 b1413 z1456 P1454 N1455 (fun r => if r = (posf q0 (3 : Int32) q1) then -1 else (fun r => if r = (posf q0 (3 : Int32) q1) then (((ush q2 (8 : Int32)) &&& (65535 : Int32)) + (3 : Int32)) else (fun r => if r = (posf q0 (2 : Int32) q1) then (((ush q2 (8 : Int32)) &&& (65535 : Int32)) + (2 : Int32)) else (fun r => if r = (posf q0 (1 : Int32) q1) then (((ush q2 (8 : Int32)) &&& (65535 : Int32)) + (1 : Int32)) else (fun r => if r = (posf q0 (0 : Int32) q1) then ((ush q2 (8 : Int32)) &&& (65535 : Int32)) else (fun _ => -1) r) r) r) r) r) (posf q0 (2 : Int32) q1) H1457 HT1458 f1459 f1459a f1459b) (w43 hw) (w44 hw) (nf_same (C := "") (w46 hw)) (w46 hw) (w45 hw) (w7 hw) (w47 hw) (by decide) pd__J_I rfl (W := 0) (by decide) (by decide) (Nat.le_of_eq rfl) (by decide) (by decide) rfl rfl at_230 rfl fun T h1476 v1477 A Q1478 => ?_
    obtain ⟨ev, eh⟩ := Q1478
    obtain rfl := ev.trans (congrArg (fun z => some (Value.int z)) (show (fun r => if r = (posf q0 (3 : Int32) q1) then -1 else (fun r => if r = (posf q0 (3 : Int32) q1) then (((ush q2 (8 : Int32)) &&& (65535 : Int32)) + (3 : Int32)) else (fun r => if r = (posf q0 (2 : Int32) q1) then (((ush q2 (8 : Int32)) &&& (65535 : Int32)) + (2 : Int32)) else (fun r => if r = (posf q0 (1 : Int32) q1) then (((ush q2 (8 : Int32)) &&& (65535 : Int32)) + (1 : Int32)) else (fun r => if r = (posf q0 (0 : Int32) q1) then ((ush q2 (8 : Int32)) &&& (65535 : Int32)) else (fun _ => -1) r) r) r) r) r) (posf q0 (2 : Int32) q1) = (((ush q2 (8 : Int32)) &&& (65535 : Int32)) + (2 : Int32)) from (by simp only [pn_0_1, pn_0_2, pn_0_3, pn_0_4, pn_1_0, pn_1_2, pn_1_3, pn_1_4, pn_2_0, pn_2_1, pn_2_3, pn_2_4, pn_3_0, pn_3_1, pn_3_2, pn_3_4, pn_4_0, pn_4_1, pn_4_2, pn_4_3, if_true, if_false])))
    rw [eh] at A
    refine Wp.stk (st' := [(.int (((ush q2 (8 : Int32)) &&& (65535 : Int32)) + (2 : Int32)))]) rfl ?_
    refine s_iconst (pc' := 234) (z := (2 : Int32)) A at_233 rfl (by decide) ?_
    refine s_iload (pc' := 236) A at_234 rfl rfl ?_
    refine s_iload (pc' := 238) A at_236 rfl rfl ?_
    refine s_iload (pc' := 240) A at_238 rfl rfl ?_
    refine s_static (pc' := 243) (y := y8_check) (argsL := [(.int (((ush q2 (8 : Int32)) &&& (65535 : Int32)) + (2 : Int32))), (.int (2 : Int32)), (.int (4 : Int32)), (.int (3 : Int32)), (.int ((ush q2 (8 : Int32)) &&& (65535 : Int32)))]) (rest := []) A (m_in l Z a0 hw n0 h1461 A.size (((ush q2 (8 : Int32)) &&& (65535 : Int32)) + (2 : Int32)) (2 : Int32) (4 : Int32) (3 : Int32) ((ush q2 (8 : Int32)) &&& (65535 : Int32)) (by decide) (by decide) rfl) (w48 hw) (w49 hw) (w2 hw) (w50 hw) (by decide) pd__IIIII_Z rfl (W := 0) (by decide) (by decide) (Nat.le_of_eq rfl) (by decide) (by decide) rfl rfl at_240 rfl fun T h1479 v1480 A Q1481 => ?_
    obtain ⟨rfl, eh⟩ := Q1481
    rw [eh] at A
    refine Wp.stk (st' := [(.int (1 : Int32))]) rfl ?_
    refine s_ifN (pc' := 246) A at_243 rfl (by decide) ?_
    refine s_aload (pc' := 248) A at_246 rfl rfl rfl ?_
    refine s_lload (pc' := 250) A at_248 rfl rfl ?_
    refine s_virtual (pc' := 253) (y := y0_get) (argsL := [(.long (posf q0 (3 : Int32) q1))]) (rest := []) (z := y0_get) A H1457.1 (m_get l Z a0 hw n0 h1461 A.size b1403 a1412 b1413 z1456 P1454 N1455 (fun r => if r = (posf q0 (3 : Int32) q1) then -1 else (fun r => if r = (posf q0 (3 : Int32) q1) then (((ush q2 (8 : Int32)) &&& (65535 : Int32)) + (3 : Int32)) else (fun r => if r = (posf q0 (2 : Int32) q1) then (((ush q2 (8 : Int32)) &&& (65535 : Int32)) + (2 : Int32)) else (fun r => if r = (posf q0 (1 : Int32) q1) then (((ush q2 (8 : Int32)) &&& (65535 : Int32)) + (1 : Int32)) else (fun r => if r = (posf q0 (0 : Int32) q1) then ((ush q2 (8 : Int32)) &&& (65535 : Int32)) else (fun _ => -1) r) r) r) r) r) (posf q0 (3 : Int32) q1) H1457 HT1458 f1459 f1459a f1459b) (w43 hw) (w44 hw) (nf_same (C := "") (w46 hw)) (w46 hw) (w45 hw) (w7 hw) (w47 hw) (by decide) pd__J_I rfl (W := 0) (by decide) (by decide) (Nat.le_of_eq rfl) (by decide) (by decide) rfl rfl at_250 rfl fun T h1482 v1483 A Q1484 => ?_
    obtain ⟨ev, eh⟩ := Q1484
    obtain rfl := ev.trans (congrArg (fun z => some (Value.int z)) (show (fun r => if r = (posf q0 (3 : Int32) q1) then -1 else (fun r => if r = (posf q0 (3 : Int32) q1) then (((ush q2 (8 : Int32)) &&& (65535 : Int32)) + (3 : Int32)) else (fun r => if r = (posf q0 (2 : Int32) q1) then (((ush q2 (8 : Int32)) &&& (65535 : Int32)) + (2 : Int32)) else (fun r => if r = (posf q0 (1 : Int32) q1) then (((ush q2 (8 : Int32)) &&& (65535 : Int32)) + (1 : Int32)) else (fun r => if r = (posf q0 (0 : Int32) q1) then ((ush q2 (8 : Int32)) &&& (65535 : Int32)) else (fun _ => -1) r) r) r) r) r) (posf q0 (3 : Int32) q1) = (-1 : Int32) from (by simp only [pn_0_1, pn_0_2, pn_0_3, pn_0_4, pn_1_0, pn_1_2, pn_1_3, pn_1_4, pn_2_0, pn_2_1, pn_2_3, pn_2_4, pn_3_0, pn_3_1, pn_3_2, pn_3_4, pn_4_0, pn_4_1, pn_4_2, pn_4_3, if_true, if_false])))
    rw [eh] at A
    refine Wp.stk (st' := [(.int (-1 : Int32))]) rfl ?_
    refine s_iconst (pc' := 254) (z := (3 : Int32)) A at_253 rfl (by decide) ?_
    refine s_iload (pc' := 256) A at_254 rfl rfl ?_
    refine s_iload (pc' := 258) A at_256 rfl rfl ?_
    refine s_iload (pc' := 260) A at_258 rfl rfl ?_
    refine s_static (pc' := 263) (y := y8_check) (argsL := [(.int (-1 : Int32)), (.int (3 : Int32)), (.int (4 : Int32)), (.int (3 : Int32)), (.int ((ush q2 (8 : Int32)) &&& (65535 : Int32)))]) (rest := []) A (m_out l Z a0 hw n0 h1461 A.size (-1 : Int32) (3 : Int32) (4 : Int32) (3 : Int32) ((ush q2 (8 : Int32)) &&& (65535 : Int32)) (Or.inr rfl) rfl) (w48 hw) (w49 hw) (w2 hw) (w50 hw) (by decide) pd__IIIII_Z rfl (W := 0) (by decide) (by decide) (Nat.le_of_eq rfl) (by decide) (by decide) rfl rfl at_260 rfl fun T h1485 v1486 A Q1487 => ?_
    obtain ⟨rfl, eh⟩ := Q1487
    rw [eh] at A
    refine Wp.stk (st' := [(.int (1 : Int32))]) rfl ?_
    refine s_ifN (pc' := 266) A at_263 rfl (by decide) ?_
    refine s_aload (pc' := 268) A at_266 rfl rfl rfl ?_
    refine s_lload (pc' := 270) A at_268 rfl rfl ?_
    refine s_virtual (pc' := 273) (y := y0_get) (argsL := [(.long (posf q0 (4 : Int32) q1))]) (rest := []) (z := y0_get) A H1457.1 (m_get l Z a0 hw n0 h1461 A.size b1403 a1412 b1413 z1456 P1454 N1455 (fun r => if r = (posf q0 (3 : Int32) q1) then -1 else (fun r => if r = (posf q0 (3 : Int32) q1) then (((ush q2 (8 : Int32)) &&& (65535 : Int32)) + (3 : Int32)) else (fun r => if r = (posf q0 (2 : Int32) q1) then (((ush q2 (8 : Int32)) &&& (65535 : Int32)) + (2 : Int32)) else (fun r => if r = (posf q0 (1 : Int32) q1) then (((ush q2 (8 : Int32)) &&& (65535 : Int32)) + (1 : Int32)) else (fun r => if r = (posf q0 (0 : Int32) q1) then ((ush q2 (8 : Int32)) &&& (65535 : Int32)) else (fun _ => -1) r) r) r) r) r) (posf q0 (4 : Int32) q1) H1457 HT1458 f1459 f1459a f1459b) (w43 hw) (w44 hw) (nf_same (C := "") (w46 hw)) (w46 hw) (w45 hw) (w7 hw) (w47 hw) (by decide) pd__J_I rfl (W := 0) (by decide) (by decide) (Nat.le_of_eq rfl) (by decide) (by decide) rfl rfl at_270 rfl fun T h1488 v1489 A Q1490 => ?_
    obtain ⟨ev, eh⟩ := Q1490
    obtain rfl := ev.trans (congrArg (fun z => some (Value.int z)) (show (fun r => if r = (posf q0 (3 : Int32) q1) then -1 else (fun r => if r = (posf q0 (3 : Int32) q1) then (((ush q2 (8 : Int32)) &&& (65535 : Int32)) + (3 : Int32)) else (fun r => if r = (posf q0 (2 : Int32) q1) then (((ush q2 (8 : Int32)) &&& (65535 : Int32)) + (2 : Int32)) else (fun r => if r = (posf q0 (1 : Int32) q1) then (((ush q2 (8 : Int32)) &&& (65535 : Int32)) + (1 : Int32)) else (fun r => if r = (posf q0 (0 : Int32) q1) then ((ush q2 (8 : Int32)) &&& (65535 : Int32)) else (fun _ => -1) r) r) r) r) r) (posf q0 (4 : Int32) q1) = (-1 : Int32) from (by simp only [pn_0_1, pn_0_2, pn_0_3, pn_0_4, pn_1_0, pn_1_2, pn_1_3, pn_1_4, pn_2_0, pn_2_1, pn_2_3, pn_2_4, pn_3_0, pn_3_1, pn_3_2, pn_3_4, pn_4_0, pn_4_1, pn_4_2, pn_4_3, if_true, if_false])))
    rw [eh] at A
    refine Wp.stk (st' := [(.int (-1 : Int32))]) rfl ?_
    refine s_iconst (pc' := 274) (z := (4 : Int32)) A at_273 rfl (by decide) ?_
    refine s_iload (pc' := 276) A at_274 rfl rfl ?_
    refine s_iload (pc' := 278) A at_276 rfl rfl ?_
    refine s_iload (pc' := 280) A at_278 rfl rfl ?_
    refine s_static (pc' := 283) (y := y8_check) (argsL := [(.int (-1 : Int32)), (.int (4 : Int32)), (.int (4 : Int32)), (.int (3 : Int32)), (.int ((ush q2 (8 : Int32)) &&& (65535 : Int32)))]) (rest := []) A (m_out l Z a0 hw n0 h1461 A.size (-1 : Int32) (4 : Int32) (4 : Int32) (3 : Int32) ((ush q2 (8 : Int32)) &&& (65535 : Int32)) (Or.inl (by decide)) rfl) (w48 hw) (w49 hw) (w2 hw) (w50 hw) (by decide) pd__IIIII_Z rfl (W := 0) (by decide) (by decide) (Nat.le_of_eq rfl) (by decide) (by decide) rfl rfl at_280 rfl fun T h1491 v1492 A Q1493 => ?_
    obtain ⟨rfl, eh⟩ := Q1493
    rw [eh] at A
    refine Wp.stk (st' := [(.int (1 : Int32))]) rfl ?_
    refine s_ifN (pc' := 286) A at_283 rfl (by decide) ?_
    refine s_iconst (pc' := 287) (z := (1 : Int32)) A at_286 rfl (by decide) ?_
    refine s_goto (pc' := 291) A at_287 (by decide) (by decide) ?_
    exact r_bool A rfl (by decide) at_291 (by decide) (by decide) (rfl)
   ·
    refine s_irem (pc' := 52) (z := (4 : Int32)) A at_51 rfl (by decide) hrr.symm ?_
    refine s_istore (pc' := 54) (Ls' := #[jv q0, S2, iv q1, iv q2, jv (posf q0 (0 : Int32) q1), S2, jv (posf q0 (1 : Int32) q1), S2, jv (posf q0 (2 : Int32) q1), S2, jv (posf q0 (3 : Int32) q1), S2, jv (posf q0 (4 : Int32) q1), S2, iv 4, iv 4, U0, U0, U0, U0]) A at_52 rfl rfl ?_
    refine s_iloadN (pc' := 55) A at_54 rfl rfl ?_
    refine s_bipush (pc' := 57) (z := (8 : Int32)) A at_55 rfl (by decide) ?_
    refine s_iushr (pc' := 58) (z := (ush q2 (8 : Int32))) A at_57 rfl rfl ?_
    refine s_ldcInt (pc' := 60) A at_58 rfl (w4 hw) ?_
    refine s_iand (pc' := 61) (z := ((ush q2 (8 : Int32)) &&& (65535 : Int32))) A at_60 rfl rfl ?_
    refine s_istore (pc' := 63) (Ls' := #[jv q0, S2, iv q1, iv q2, jv (posf q0 (0 : Int32) q1), S2, jv (posf q0 (1 : Int32) q1), S2, jv (posf q0 (2 : Int32) q1), S2, jv (posf q0 (3 : Int32) q1), S2, jv (posf q0 (4 : Int32) q1), S2, iv 4, iv 4, iv ((ush q2 (8 : Int32)) &&& (65535 : Int32)), U0, U0, U0]) A at_61 rfl rfl ?_
    refine s_new (pc' := 66) A (w5 hw) (w6 hw) (w7 hw) (by decide) (by decide) at_63 rfl fun T h1494 b1495 A g1496 ge1497 X1498 E1499 D1500 => ?_
    have F1501 : Fld Z h1494 b1495 "com/example/wirefram/wirefram/sequence/PositionIndex" "positions" "[J" .null := D1500 (Or.inl (w16 hw)) (ty := (.array .long)) (by decide)
    have F1502 : Fld Z h1494 b1495 "com/example/wirefram/wirefram/sequence/PositionIndex" "numbers" "[I" .null := D1500 (Or.inl (w26 hw)) (ty := (.array .int)) (by decide)
    have F1503 : Fld Z h1494 b1495 "com/example/wirefram/wirefram/sequence/PositionIndex" "size" "I" (.int (0 : Int32)) := D1500 (Or.inl (w33 hw)) (ty := .int) (by decide)
    refine s_dup (pc' := 67) A at_66 rfl rfl ?_
    refine s_special (pc' := 70) (y := y6_init) (argsL := []) (rest := [(.ref b1495)]) A (m_init l Z a0 hw n0 h1494 A.size b1495 E1499 F1501 F1502 F1503 ge1497) rfl (w8 hw) (w9 hw) (w7 hw) (w10 hw) (by decide) pd___V rfl (W := 1) (by decide) (by decide) (Nat.le_of_eq rfl) (by decide) (by decide) rfl rfl at_67 rfl fun T h1507 v1508 A Q1509 => ?_
    obtain ⟨rfl, a1504, b1505, H1506⟩ := Q1509
    refine Wp.stk (st' := [(.ref b1495)]) rfl ?_
    refine s_astore (pc' := 72) (Ls' := #[jv q0, S2, iv q1, iv q2, jv (posf q0 (0 : Int32) q1), S2, jv (posf q0 (1 : Int32) q1), S2, jv (posf q0 (2 : Int32) q1), S2, jv (posf q0 (3 : Int32) q1), S2, jv (posf q0 (4 : Int32) q1), S2, iv 4, iv 4, iv ((ush q2 (8 : Int32)) &&& (65535 : Int32)), rv b1495, U0, U0]) A at_70 rfl rfl rfl ?_
    refine s_aload (pc' := 74) A at_72 rfl rfl rfl ?_
    refine s_lload (pc' := 76) A at_74 rfl rfl ?_
    refine s_iload (pc' := 78) A at_76 rfl rfl ?_
    obtain ⟨fr1515, fr1515a, fr1515b⟩ := Free.ex (c := 15) own_free0
    refine s_virtual (pc' := 81) (y := y2_put) (argsL := [(.long (posf q0 (0 : Int32) q1)), (.int ((ush q2 (8 : Int32)) &&& (65535 : Int32)))]) (rest := []) (z := y2_put) A H1506.1 (m_put l Z a0 hw n0 h1507 A.size b1495 a1504 b1505 0 (fun _ => 0) (fun _ => -1) (fun _ => -1) H1506 (posf q0 (0 : Int32) q1) ((ush q2 (8 : Int32)) &&& (65535 : Int32)) 1 (own_tab0 (fun _ => 0)) fr1515 fr1515a fr1515b (own_nb0 q2) rfl (by decide) (by decide)) (w27 hw) (w28 hw) (nf_same (C := "") (w30 hw)) (w30 hw) (w29 hw) (w7 hw) (w31 hw) (by decide) pd__JI_V rfl (W := 0) (by decide) (by decide) (Nat.le_of_eq rfl) (by decide) (by decide) rfl rfl at_78 rfl fun T h1516 v1517 A Q1518 => ?_
    obtain ⟨rfl, P1510, N1511, H1512, HT1513, FR1514⟩ := Q1518
    have FR1514 := FR1514 15 own_free0
    refine Wp.stk (st' := []) rfl ?_
    refine s_iload (pc' := 83) A at_81 rfl rfl ?_
    refine s_iconst (pc' := 84) (z := (1 : Int32)) A at_83 rfl (by decide) ?_
    refine s_icmpN (pc' := 87) A at_84 rfl (by decide) ?_
    refine s_aload (pc' := 89) A at_87 rfl rfl rfl ?_
    refine s_lload (pc' := 91) A at_89 rfl rfl ?_
    refine s_iload (pc' := 93) A at_91 rfl rfl ?_
    refine s_iconst (pc' := 94) (z := (1 : Int32)) A at_93 rfl (by decide) ?_
    refine s_iadd (pc' := 95) (z := (((ush q2 (8 : Int32)) &&& (65535 : Int32)) + (1 : Int32))) A at_94 rfl rfl ?_
    obtain ⟨fr1524, fr1524a, fr1524b⟩ := Free.ex (c := 14) FR1514
    refine s_virtual (pc' := 98) (y := y2_put) (argsL := [(.long (posf q0 (1 : Int32) q1)), (.int (((ush q2 (8 : Int32)) &&& (65535 : Int32)) + (1 : Int32)))]) (rest := []) (z := y2_put) A H1512.1 (m_put l Z a0 hw n0 h1516 A.size b1495 a1504 b1505 1 P1510 N1511 (fun r => if r = (posf q0 (0 : Int32) q1) then ((ush q2 (8 : Int32)) &&& (65535 : Int32)) else (fun _ => -1) r) H1512 (posf q0 (1 : Int32) q1) (((ush q2 (8 : Int32)) &&& (65535 : Int32)) + (1 : Int32)) 2 HT1513 fr1524 fr1524a fr1524b (own_nb1 q2) (by simp only [pn_0_1, pn_0_2, pn_0_3, pn_0_4, pn_1_0, pn_1_2, pn_1_3, pn_1_4, pn_2_0, pn_2_1, pn_2_3, pn_2_4, pn_3_0, pn_3_1, pn_3_2, pn_3_4, pn_4_0, pn_4_1, pn_4_2, pn_4_3, if_true, if_false]) (by decide) (by decide)) (w27 hw) (w28 hw) (nf_same (C := "") (w30 hw)) (w30 hw) (w29 hw) (w7 hw) (w31 hw) (by decide) pd__JI_V rfl (W := 0) (by decide) (by decide) (Nat.le_of_eq rfl) (by decide) (by decide) rfl rfl at_95 rfl fun T h1525 v1526 A Q1527 => ?_
    obtain ⟨rfl, P1519, N1520, H1521, HT1522, FR1523⟩ := Q1527
    have FR1523 := FR1523 14 FR1514
    refine Wp.stk (st' := []) rfl ?_
    refine s_iload (pc' := 100) A at_98 rfl rfl ?_
    refine s_iconst (pc' := 101) (z := (2 : Int32)) A at_100 rfl (by decide) ?_
    refine s_icmpN (pc' := 104) A at_101 rfl (by decide) ?_
    refine s_aload (pc' := 106) A at_104 rfl rfl rfl ?_
    refine s_lload (pc' := 108) A at_106 rfl rfl ?_
    refine s_iload (pc' := 110) A at_108 rfl rfl ?_
    refine s_iconst (pc' := 111) (z := (2 : Int32)) A at_110 rfl (by decide) ?_
    refine s_iadd (pc' := 112) (z := (((ush q2 (8 : Int32)) &&& (65535 : Int32)) + (2 : Int32))) A at_111 rfl rfl ?_
    obtain ⟨fr1533, fr1533a, fr1533b⟩ := Free.ex (c := 13) FR1523
    refine s_virtual (pc' := 115) (y := y2_put) (argsL := [(.long (posf q0 (2 : Int32) q1)), (.int (((ush q2 (8 : Int32)) &&& (65535 : Int32)) + (2 : Int32)))]) (rest := []) (z := y2_put) A H1521.1 (m_put l Z a0 hw n0 h1525 A.size b1495 a1504 b1505 2 P1519 N1520 (fun r => if r = (posf q0 (1 : Int32) q1) then (((ush q2 (8 : Int32)) &&& (65535 : Int32)) + (1 : Int32)) else (fun r => if r = (posf q0 (0 : Int32) q1) then ((ush q2 (8 : Int32)) &&& (65535 : Int32)) else (fun _ => -1) r) r) H1521 (posf q0 (2 : Int32) q1) (((ush q2 (8 : Int32)) &&& (65535 : Int32)) + (2 : Int32)) 3 HT1522 fr1533 fr1533a fr1533b (own_nb2 q2) (by simp only [pn_0_1, pn_0_2, pn_0_3, pn_0_4, pn_1_0, pn_1_2, pn_1_3, pn_1_4, pn_2_0, pn_2_1, pn_2_3, pn_2_4, pn_3_0, pn_3_1, pn_3_2, pn_3_4, pn_4_0, pn_4_1, pn_4_2, pn_4_3, if_true, if_false]) (by decide) (by decide)) (w27 hw) (w28 hw) (nf_same (C := "") (w30 hw)) (w30 hw) (w29 hw) (w7 hw) (w31 hw) (by decide) pd__JI_V rfl (W := 0) (by decide) (by decide) (Nat.le_of_eq rfl) (by decide) (by decide) rfl rfl at_112 rfl fun T h1534 v1535 A Q1536 => ?_
    obtain ⟨rfl, P1528, N1529, H1530, HT1531, FR1532⟩ := Q1536
    have FR1532 := FR1532 13 FR1523
    refine Wp.stk (st' := []) rfl ?_
    refine s_iload (pc' := 117) A at_115 rfl rfl ?_
    refine s_iconst (pc' := 118) (z := (3 : Int32)) A at_117 rfl (by decide) ?_
    refine s_icmpN (pc' := 121) A at_118 rfl (by decide) ?_
    refine s_aload (pc' := 123) A at_121 rfl rfl rfl ?_
    refine s_lload (pc' := 125) A at_123 rfl rfl ?_
    refine s_iload (pc' := 127) A at_125 rfl rfl ?_
    refine s_iconst (pc' := 128) (z := (3 : Int32)) A at_127 rfl (by decide) ?_
    refine s_iadd (pc' := 129) (z := (((ush q2 (8 : Int32)) &&& (65535 : Int32)) + (3 : Int32))) A at_128 rfl rfl ?_
    obtain ⟨fr1542, fr1542a, fr1542b⟩ := Free.ex (c := 12) FR1532
    refine s_virtual (pc' := 132) (y := y2_put) (argsL := [(.long (posf q0 (3 : Int32) q1)), (.int (((ush q2 (8 : Int32)) &&& (65535 : Int32)) + (3 : Int32)))]) (rest := []) (z := y2_put) A H1530.1 (m_put l Z a0 hw n0 h1534 A.size b1495 a1504 b1505 3 P1528 N1529 (fun r => if r = (posf q0 (2 : Int32) q1) then (((ush q2 (8 : Int32)) &&& (65535 : Int32)) + (2 : Int32)) else (fun r => if r = (posf q0 (1 : Int32) q1) then (((ush q2 (8 : Int32)) &&& (65535 : Int32)) + (1 : Int32)) else (fun r => if r = (posf q0 (0 : Int32) q1) then ((ush q2 (8 : Int32)) &&& (65535 : Int32)) else (fun _ => -1) r) r) r) H1530 (posf q0 (3 : Int32) q1) (((ush q2 (8 : Int32)) &&& (65535 : Int32)) + (3 : Int32)) 4 HT1531 fr1542 fr1542a fr1542b (own_nb3 q2) (by simp only [pn_0_1, pn_0_2, pn_0_3, pn_0_4, pn_1_0, pn_1_2, pn_1_3, pn_1_4, pn_2_0, pn_2_1, pn_2_3, pn_2_4, pn_3_0, pn_3_1, pn_3_2, pn_3_4, pn_4_0, pn_4_1, pn_4_2, pn_4_3, if_true, if_false]) (by decide) (by decide)) (w27 hw) (w28 hw) (nf_same (C := "") (w30 hw)) (w30 hw) (w29 hw) (w7 hw) (w31 hw) (by decide) pd__JI_V rfl (W := 0) (by decide) (by decide) (Nat.le_of_eq rfl) (by decide) (by decide) rfl rfl at_129 rfl fun T h1543 v1544 A Q1545 => ?_
    obtain ⟨rfl, P1537, N1538, H1539, HT1540, FR1541⟩ := Q1545
    have FR1541 := FR1541 12 FR1532
    refine Wp.stk (st' := []) rfl ?_
    refine s_iload (pc' := 134) A at_132 rfl rfl ?_
    refine s_ifY (pc' := 142) A at_134 (by decide) (by decide) (by decide) ?_
    refine s_iload (pc' := 144) A at_142 rfl rfl ?_
    refine s_iconst (pc' := 145) (z := (1 : Int32)) A at_144 rfl (by decide) ?_
    refine s_icmpY (pc' := 153) A at_145 (by decide) (by decide) (by decide) ?_
    refine s_iload (pc' := 155) A at_153 rfl rfl ?_
    refine s_iconst (pc' := 156) (z := (2 : Int32)) A at_155 rfl (by decide) ?_
    refine s_icmpY (pc' := 164) A at_156 (by decide) (by decide) (by decide) ?_
    refine s_iload (pc' := 166) A at_164 rfl rfl ?_
    refine s_iconst (pc' := 167) (z := (3 : Int32)) A at_166 rfl (by decide) ?_
    refine s_icmpY (pc' := 175) A at_167 (by decide) (by decide) (by decide) ?_
    refine s_lload (pc' := 177) A at_175 rfl rfl ?_
    refine s_lstore (pc' := 179) (Ls' := #[jv q0, S2, iv q1, iv q2, jv (posf q0 (0 : Int32) q1), S2, jv (posf q0 (1 : Int32) q1), S2, jv (posf q0 (2 : Int32) q1), S2, jv (posf q0 (3 : Int32) q1), S2, jv (posf q0 (4 : Int32) q1), S2, iv 4, iv 4, iv ((ush q2 (8 : Int32)) &&& (65535 : Int32)), rv b1495, jv (posf q0 (4 : Int32) q1), S2]) A at_177 rfl rfl ?_
    refine s_aload (pc' := 181) A at_179 rfl rfl rfl ?_
    refine s_lload (pc' := 183) A at_181 rfl rfl ?_
    obtain ⟨fr1552, fr1552a, fr1552b⟩ := Free.ex (c := 11) FR1541
    refine s_virtual (pc' := 186) (y := y3_remove) (argsL := [(.long (posf q0 (4 : Int32) q1))]) (rest := []) (z := y3_remove) A H1539.1 (m_rem l Z a0 hw n0 h1543 A.size b1495 a1504 b1505 4 P1537 N1538 (fun r => if r = (posf q0 (3 : Int32) q1) then (((ush q2 (8 : Int32)) &&& (65535 : Int32)) + (3 : Int32)) else (fun r => if r = (posf q0 (2 : Int32) q1) then (((ush q2 (8 : Int32)) &&& (65535 : Int32)) + (2 : Int32)) else (fun r => if r = (posf q0 (1 : Int32) q1) then (((ush q2 (8 : Int32)) &&& (65535 : Int32)) + (1 : Int32)) else (fun r => if r = (posf q0 (0 : Int32) q1) then ((ush q2 (8 : Int32)) &&& (65535 : Int32)) else (fun _ => -1) r) r) r) r) (posf q0 (4 : Int32) q1) H1539 HT1540 fr1552 fr1552a fr1552b) (w38 hw) (w39 hw) (nf_same (C := "") (w41 hw)) (w41 hw) (w40 hw) (w7 hw) (w42 hw) (by decide) pd__J_V rfl (W := 0) (by decide) (by decide) (Nat.le_of_eq rfl) (by decide) (by decide) rfl rfl at_183 rfl fun T h1553 v1554 A Q1555 => ?_
    obtain ⟨rfl, P1546, N1547, z1548, H1549, HT1550, f1551, f1551a, f1551b⟩ := Q1555
    refine Wp.stk (st' := []) rfl ?_
    refine s_aload (pc' := 188) A at_186 rfl rfl rfl ?_
    refine s_lload (pc' := 190) A at_188 rfl rfl ?_
    refine s_virtual (pc' := 193) (y := y0_get) (argsL := [(.long (posf q0 (0 : Int32) q1))]) (rest := []) (z := y0_get) A H1549.1 (m_get l Z a0 hw n0 h1553 A.size b1495 a1504 b1505 z1548 P1546 N1547 (fun r => if r = (posf q0 (4 : Int32) q1) then -1 else (fun r => if r = (posf q0 (3 : Int32) q1) then (((ush q2 (8 : Int32)) &&& (65535 : Int32)) + (3 : Int32)) else (fun r => if r = (posf q0 (2 : Int32) q1) then (((ush q2 (8 : Int32)) &&& (65535 : Int32)) + (2 : Int32)) else (fun r => if r = (posf q0 (1 : Int32) q1) then (((ush q2 (8 : Int32)) &&& (65535 : Int32)) + (1 : Int32)) else (fun r => if r = (posf q0 (0 : Int32) q1) then ((ush q2 (8 : Int32)) &&& (65535 : Int32)) else (fun _ => -1) r) r) r) r) r) (posf q0 (0 : Int32) q1) H1549 HT1550 f1551 f1551a f1551b) (w43 hw) (w44 hw) (nf_same (C := "") (w46 hw)) (w46 hw) (w45 hw) (w7 hw) (w47 hw) (by decide) pd__J_I rfl (W := 0) (by decide) (by decide) (Nat.le_of_eq rfl) (by decide) (by decide) rfl rfl at_190 rfl fun T h1556 v1557 A Q1558 => ?_
    obtain ⟨ev, eh⟩ := Q1558
    obtain rfl := ev.trans (congrArg (fun z => some (Value.int z)) (show (fun r => if r = (posf q0 (4 : Int32) q1) then -1 else (fun r => if r = (posf q0 (3 : Int32) q1) then (((ush q2 (8 : Int32)) &&& (65535 : Int32)) + (3 : Int32)) else (fun r => if r = (posf q0 (2 : Int32) q1) then (((ush q2 (8 : Int32)) &&& (65535 : Int32)) + (2 : Int32)) else (fun r => if r = (posf q0 (1 : Int32) q1) then (((ush q2 (8 : Int32)) &&& (65535 : Int32)) + (1 : Int32)) else (fun r => if r = (posf q0 (0 : Int32) q1) then ((ush q2 (8 : Int32)) &&& (65535 : Int32)) else (fun _ => -1) r) r) r) r) r) (posf q0 (0 : Int32) q1) = ((ush q2 (8 : Int32)) &&& (65535 : Int32)) from (by simp only [pn_0_1, pn_0_2, pn_0_3, pn_0_4, pn_1_0, pn_1_2, pn_1_3, pn_1_4, pn_2_0, pn_2_1, pn_2_3, pn_2_4, pn_3_0, pn_3_1, pn_3_2, pn_3_4, pn_4_0, pn_4_1, pn_4_2, pn_4_3, if_true, if_false])))
    rw [eh] at A
    refine Wp.stk (st' := [(.int ((ush q2 (8 : Int32)) &&& (65535 : Int32)))]) rfl ?_
    refine s_iconst (pc' := 194) (z := (0 : Int32)) A at_193 rfl (by decide) ?_
    refine s_iload (pc' := 196) A at_194 rfl rfl ?_
    refine s_iload (pc' := 198) A at_196 rfl rfl ?_
    refine s_iload (pc' := 200) A at_198 rfl rfl ?_
    refine s_static (pc' := 203) (y := y8_check) (argsL := [(.int ((ush q2 (8 : Int32)) &&& (65535 : Int32))), (.int (0 : Int32)), (.int (4 : Int32)), (.int (4 : Int32)), (.int ((ush q2 (8 : Int32)) &&& (65535 : Int32)))]) (rest := []) A (m_in l Z a0 hw n0 h1553 A.size ((ush q2 (8 : Int32)) &&& (65535 : Int32)) (0 : Int32) (4 : Int32) (4 : Int32) ((ush q2 (8 : Int32)) &&& (65535 : Int32)) (by decide) (by decide) (Int32.add_zero _).symm) (w48 hw) (w49 hw) (w2 hw) (w50 hw) (by decide) pd__IIIII_Z rfl (W := 0) (by decide) (by decide) (Nat.le_of_eq rfl) (by decide) (by decide) rfl rfl at_200 rfl fun T h1559 v1560 A Q1561 => ?_
    obtain ⟨rfl, eh⟩ := Q1561
    rw [eh] at A
    refine Wp.stk (st' := [(.int (1 : Int32))]) rfl ?_
    refine s_ifN (pc' := 206) A at_203 rfl (by decide) ?_
    refine s_aload (pc' := 208) A at_206 rfl rfl rfl ?_
    refine s_lload (pc' := 210) A at_208 rfl rfl ?_
    refine s_virtual (pc' := 213) (y := y0_get) (argsL := [(.long (posf q0 (1 : Int32) q1))]) (rest := []) (z := y0_get) A H1549.1 (m_get l Z a0 hw n0 h1553 A.size b1495 a1504 b1505 z1548 P1546 N1547 (fun r => if r = (posf q0 (4 : Int32) q1) then -1 else (fun r => if r = (posf q0 (3 : Int32) q1) then (((ush q2 (8 : Int32)) &&& (65535 : Int32)) + (3 : Int32)) else (fun r => if r = (posf q0 (2 : Int32) q1) then (((ush q2 (8 : Int32)) &&& (65535 : Int32)) + (2 : Int32)) else (fun r => if r = (posf q0 (1 : Int32) q1) then (((ush q2 (8 : Int32)) &&& (65535 : Int32)) + (1 : Int32)) else (fun r => if r = (posf q0 (0 : Int32) q1) then ((ush q2 (8 : Int32)) &&& (65535 : Int32)) else (fun _ => -1) r) r) r) r) r) (posf q0 (1 : Int32) q1) H1549 HT1550 f1551 f1551a f1551b) (w43 hw) (w44 hw) (nf_same (C := "") (w46 hw)) (w46 hw) (w45 hw) (w7 hw) (w47 hw) (by decide) pd__J_I rfl (W := 0) (by decide) (by decide) (Nat.le_of_eq rfl) (by decide) (by decide) rfl rfl at_210 rfl fun T h1562 v1563 A Q1564 => ?_
    obtain ⟨ev, eh⟩ := Q1564
    obtain rfl := ev.trans (congrArg (fun z => some (Value.int z)) (show (fun r => if r = (posf q0 (4 : Int32) q1) then -1 else (fun r => if r = (posf q0 (3 : Int32) q1) then (((ush q2 (8 : Int32)) &&& (65535 : Int32)) + (3 : Int32)) else (fun r => if r = (posf q0 (2 : Int32) q1) then (((ush q2 (8 : Int32)) &&& (65535 : Int32)) + (2 : Int32)) else (fun r => if r = (posf q0 (1 : Int32) q1) then (((ush q2 (8 : Int32)) &&& (65535 : Int32)) + (1 : Int32)) else (fun r => if r = (posf q0 (0 : Int32) q1) then ((ush q2 (8 : Int32)) &&& (65535 : Int32)) else (fun _ => -1) r) r) r) r) r) (posf q0 (1 : Int32) q1) = (((ush q2 (8 : Int32)) &&& (65535 : Int32)) + (1 : Int32)) from (by simp only [pn_0_1, pn_0_2, pn_0_3, pn_0_4, pn_1_0, pn_1_2, pn_1_3, pn_1_4, pn_2_0, pn_2_1, pn_2_3, pn_2_4, pn_3_0, pn_3_1, pn_3_2, pn_3_4, pn_4_0, pn_4_1, pn_4_2, pn_4_3, if_true, if_false])))
    rw [eh] at A
    refine Wp.stk (st' := [(.int (((ush q2 (8 : Int32)) &&& (65535 : Int32)) + (1 : Int32)))]) rfl ?_
    refine s_iconst (pc' := 214) (z := (1 : Int32)) A at_213 rfl (by decide) ?_
    refine s_iload (pc' := 216) A at_214 rfl rfl ?_
    refine s_iload (pc' := 218) A at_216 rfl rfl ?_
    refine s_iload (pc' := 220) A at_218 rfl rfl ?_
    refine s_static (pc' := 223) (y := y8_check) (argsL := [(.int (((ush q2 (8 : Int32)) &&& (65535 : Int32)) + (1 : Int32))), (.int (1 : Int32)), (.int (4 : Int32)), (.int (4 : Int32)), (.int ((ush q2 (8 : Int32)) &&& (65535 : Int32)))]) (rest := []) A (m_in l Z a0 hw n0 h1553 A.size (((ush q2 (8 : Int32)) &&& (65535 : Int32)) + (1 : Int32)) (1 : Int32) (4 : Int32) (4 : Int32) ((ush q2 (8 : Int32)) &&& (65535 : Int32)) (by decide) (by decide) rfl) (w48 hw) (w49 hw) (w2 hw) (w50 hw) (by decide) pd__IIIII_Z rfl (W := 0) (by decide) (by decide) (Nat.le_of_eq rfl) (by decide) (by decide) rfl rfl at_220 rfl fun T h1565 v1566 A Q1567 => ?_
    obtain ⟨rfl, eh⟩ := Q1567
    rw [eh] at A
    refine Wp.stk (st' := [(.int (1 : Int32))]) rfl ?_
    refine s_ifN (pc' := 226) A at_223 rfl (by decide) ?_
    refine s_aload (pc' := 228) A at_226 rfl rfl rfl ?_
    refine s_lload (pc' := 230) A at_228 rfl rfl ?_
    refine s_virtual (pc' := 233) (y := y0_get) (argsL := [(.long (posf q0 (2 : Int32) q1))]) (rest := []) (z := y0_get) A H1549.1 (m_get l Z a0 hw n0 h1553 A.size b1495 a1504 b1505 z1548 P1546 N1547 (fun r => if r = (posf q0 (4 : Int32) q1) then -1 else (fun r => if r = (posf q0 (3 : Int32) q1) then (((ush q2 (8 : Int32)) &&& (65535 : Int32)) + (3 : Int32)) else (fun r => if r = (posf q0 (2 : Int32) q1) then (((ush q2 (8 : Int32)) &&& (65535 : Int32)) + (2 : Int32)) else (fun r => if r = (posf q0 (1 : Int32) q1) then (((ush q2 (8 : Int32)) &&& (65535 : Int32)) + (1 : Int32)) else (fun r => if r = (posf q0 (0 : Int32) q1) then ((ush q2 (8 : Int32)) &&& (65535 : Int32)) else (fun _ => -1) r) r) r) r) r) (posf q0 (2 : Int32) q1) H1549 HT1550 f1551 f1551a f1551b) (w43 hw) (w44 hw) (nf_same (C := "") (w46 hw)) (w46 hw) (w45 hw) (w7 hw) (w47 hw) (by decide) pd__J_I rfl (W := 0) (by decide) (by decide) (Nat.le_of_eq rfl) (by decide) (by decide) rfl rfl at_230 rfl fun T h1568 v1569 A Q1570 => ?_
    obtain ⟨ev, eh⟩ := Q1570
    obtain rfl := ev.trans (congrArg (fun z => some (Value.int z)) (show (fun r => if r = (posf q0 (4 : Int32) q1) then -1 else (fun r => if r = (posf q0 (3 : Int32) q1) then (((ush q2 (8 : Int32)) &&& (65535 : Int32)) + (3 : Int32)) else (fun r => if r = (posf q0 (2 : Int32) q1) then (((ush q2 (8 : Int32)) &&& (65535 : Int32)) + (2 : Int32)) else (fun r => if r = (posf q0 (1 : Int32) q1) then (((ush q2 (8 : Int32)) &&& (65535 : Int32)) + (1 : Int32)) else (fun r => if r = (posf q0 (0 : Int32) q1) then ((ush q2 (8 : Int32)) &&& (65535 : Int32)) else (fun _ => -1) r) r) r) r) r) (posf q0 (2 : Int32) q1) = (((ush q2 (8 : Int32)) &&& (65535 : Int32)) + (2 : Int32)) from (by simp only [pn_0_1, pn_0_2, pn_0_3, pn_0_4, pn_1_0, pn_1_2, pn_1_3, pn_1_4, pn_2_0, pn_2_1, pn_2_3, pn_2_4, pn_3_0, pn_3_1, pn_3_2, pn_3_4, pn_4_0, pn_4_1, pn_4_2, pn_4_3, if_true, if_false])))
    rw [eh] at A
    refine Wp.stk (st' := [(.int (((ush q2 (8 : Int32)) &&& (65535 : Int32)) + (2 : Int32)))]) rfl ?_
    refine s_iconst (pc' := 234) (z := (2 : Int32)) A at_233 rfl (by decide) ?_
    refine s_iload (pc' := 236) A at_234 rfl rfl ?_
    refine s_iload (pc' := 238) A at_236 rfl rfl ?_
    refine s_iload (pc' := 240) A at_238 rfl rfl ?_
    refine s_static (pc' := 243) (y := y8_check) (argsL := [(.int (((ush q2 (8 : Int32)) &&& (65535 : Int32)) + (2 : Int32))), (.int (2 : Int32)), (.int (4 : Int32)), (.int (4 : Int32)), (.int ((ush q2 (8 : Int32)) &&& (65535 : Int32)))]) (rest := []) A (m_in l Z a0 hw n0 h1553 A.size (((ush q2 (8 : Int32)) &&& (65535 : Int32)) + (2 : Int32)) (2 : Int32) (4 : Int32) (4 : Int32) ((ush q2 (8 : Int32)) &&& (65535 : Int32)) (by decide) (by decide) rfl) (w48 hw) (w49 hw) (w2 hw) (w50 hw) (by decide) pd__IIIII_Z rfl (W := 0) (by decide) (by decide) (Nat.le_of_eq rfl) (by decide) (by decide) rfl rfl at_240 rfl fun T h1571 v1572 A Q1573 => ?_
    obtain ⟨rfl, eh⟩ := Q1573
    rw [eh] at A
    refine Wp.stk (st' := [(.int (1 : Int32))]) rfl ?_
    refine s_ifN (pc' := 246) A at_243 rfl (by decide) ?_
    refine s_aload (pc' := 248) A at_246 rfl rfl rfl ?_
    refine s_lload (pc' := 250) A at_248 rfl rfl ?_
    refine s_virtual (pc' := 253) (y := y0_get) (argsL := [(.long (posf q0 (3 : Int32) q1))]) (rest := []) (z := y0_get) A H1549.1 (m_get l Z a0 hw n0 h1553 A.size b1495 a1504 b1505 z1548 P1546 N1547 (fun r => if r = (posf q0 (4 : Int32) q1) then -1 else (fun r => if r = (posf q0 (3 : Int32) q1) then (((ush q2 (8 : Int32)) &&& (65535 : Int32)) + (3 : Int32)) else (fun r => if r = (posf q0 (2 : Int32) q1) then (((ush q2 (8 : Int32)) &&& (65535 : Int32)) + (2 : Int32)) else (fun r => if r = (posf q0 (1 : Int32) q1) then (((ush q2 (8 : Int32)) &&& (65535 : Int32)) + (1 : Int32)) else (fun r => if r = (posf q0 (0 : Int32) q1) then ((ush q2 (8 : Int32)) &&& (65535 : Int32)) else (fun _ => -1) r) r) r) r) r) (posf q0 (3 : Int32) q1) H1549 HT1550 f1551 f1551a f1551b) (w43 hw) (w44 hw) (nf_same (C := "") (w46 hw)) (w46 hw) (w45 hw) (w7 hw) (w47 hw) (by decide) pd__J_I rfl (W := 0) (by decide) (by decide) (Nat.le_of_eq rfl) (by decide) (by decide) rfl rfl at_250 rfl fun T h1574 v1575 A Q1576 => ?_
    obtain ⟨ev, eh⟩ := Q1576
    obtain rfl := ev.trans (congrArg (fun z => some (Value.int z)) (show (fun r => if r = (posf q0 (4 : Int32) q1) then -1 else (fun r => if r = (posf q0 (3 : Int32) q1) then (((ush q2 (8 : Int32)) &&& (65535 : Int32)) + (3 : Int32)) else (fun r => if r = (posf q0 (2 : Int32) q1) then (((ush q2 (8 : Int32)) &&& (65535 : Int32)) + (2 : Int32)) else (fun r => if r = (posf q0 (1 : Int32) q1) then (((ush q2 (8 : Int32)) &&& (65535 : Int32)) + (1 : Int32)) else (fun r => if r = (posf q0 (0 : Int32) q1) then ((ush q2 (8 : Int32)) &&& (65535 : Int32)) else (fun _ => -1) r) r) r) r) r) (posf q0 (3 : Int32) q1) = (((ush q2 (8 : Int32)) &&& (65535 : Int32)) + (3 : Int32)) from (by simp only [pn_0_1, pn_0_2, pn_0_3, pn_0_4, pn_1_0, pn_1_2, pn_1_3, pn_1_4, pn_2_0, pn_2_1, pn_2_3, pn_2_4, pn_3_0, pn_3_1, pn_3_2, pn_3_4, pn_4_0, pn_4_1, pn_4_2, pn_4_3, if_true, if_false])))
    rw [eh] at A
    refine Wp.stk (st' := [(.int (((ush q2 (8 : Int32)) &&& (65535 : Int32)) + (3 : Int32)))]) rfl ?_
    refine s_iconst (pc' := 254) (z := (3 : Int32)) A at_253 rfl (by decide) ?_
    refine s_iload (pc' := 256) A at_254 rfl rfl ?_
    refine s_iload (pc' := 258) A at_256 rfl rfl ?_
    refine s_iload (pc' := 260) A at_258 rfl rfl ?_
    refine s_static (pc' := 263) (y := y8_check) (argsL := [(.int (((ush q2 (8 : Int32)) &&& (65535 : Int32)) + (3 : Int32))), (.int (3 : Int32)), (.int (4 : Int32)), (.int (4 : Int32)), (.int ((ush q2 (8 : Int32)) &&& (65535 : Int32)))]) (rest := []) A (m_in l Z a0 hw n0 h1553 A.size (((ush q2 (8 : Int32)) &&& (65535 : Int32)) + (3 : Int32)) (3 : Int32) (4 : Int32) (4 : Int32) ((ush q2 (8 : Int32)) &&& (65535 : Int32)) (by decide) (by decide) rfl) (w48 hw) (w49 hw) (w2 hw) (w50 hw) (by decide) pd__IIIII_Z rfl (W := 0) (by decide) (by decide) (Nat.le_of_eq rfl) (by decide) (by decide) rfl rfl at_260 rfl fun T h1577 v1578 A Q1579 => ?_
    obtain ⟨rfl, eh⟩ := Q1579
    rw [eh] at A
    refine Wp.stk (st' := [(.int (1 : Int32))]) rfl ?_
    refine s_ifN (pc' := 266) A at_263 rfl (by decide) ?_
    refine s_aload (pc' := 268) A at_266 rfl rfl rfl ?_
    refine s_lload (pc' := 270) A at_268 rfl rfl ?_
    refine s_virtual (pc' := 273) (y := y0_get) (argsL := [(.long (posf q0 (4 : Int32) q1))]) (rest := []) (z := y0_get) A H1549.1 (m_get l Z a0 hw n0 h1553 A.size b1495 a1504 b1505 z1548 P1546 N1547 (fun r => if r = (posf q0 (4 : Int32) q1) then -1 else (fun r => if r = (posf q0 (3 : Int32) q1) then (((ush q2 (8 : Int32)) &&& (65535 : Int32)) + (3 : Int32)) else (fun r => if r = (posf q0 (2 : Int32) q1) then (((ush q2 (8 : Int32)) &&& (65535 : Int32)) + (2 : Int32)) else (fun r => if r = (posf q0 (1 : Int32) q1) then (((ush q2 (8 : Int32)) &&& (65535 : Int32)) + (1 : Int32)) else (fun r => if r = (posf q0 (0 : Int32) q1) then ((ush q2 (8 : Int32)) &&& (65535 : Int32)) else (fun _ => -1) r) r) r) r) r) (posf q0 (4 : Int32) q1) H1549 HT1550 f1551 f1551a f1551b) (w43 hw) (w44 hw) (nf_same (C := "") (w46 hw)) (w46 hw) (w45 hw) (w7 hw) (w47 hw) (by decide) pd__J_I rfl (W := 0) (by decide) (by decide) (Nat.le_of_eq rfl) (by decide) (by decide) rfl rfl at_270 rfl fun T h1580 v1581 A Q1582 => ?_
    obtain ⟨ev, eh⟩ := Q1582
    obtain rfl := ev.trans (congrArg (fun z => some (Value.int z)) (show (fun r => if r = (posf q0 (4 : Int32) q1) then -1 else (fun r => if r = (posf q0 (3 : Int32) q1) then (((ush q2 (8 : Int32)) &&& (65535 : Int32)) + (3 : Int32)) else (fun r => if r = (posf q0 (2 : Int32) q1) then (((ush q2 (8 : Int32)) &&& (65535 : Int32)) + (2 : Int32)) else (fun r => if r = (posf q0 (1 : Int32) q1) then (((ush q2 (8 : Int32)) &&& (65535 : Int32)) + (1 : Int32)) else (fun r => if r = (posf q0 (0 : Int32) q1) then ((ush q2 (8 : Int32)) &&& (65535 : Int32)) else (fun _ => -1) r) r) r) r) r) (posf q0 (4 : Int32) q1) = (-1 : Int32) from (by simp only [pn_0_1, pn_0_2, pn_0_3, pn_0_4, pn_1_0, pn_1_2, pn_1_3, pn_1_4, pn_2_0, pn_2_1, pn_2_3, pn_2_4, pn_3_0, pn_3_1, pn_3_2, pn_3_4, pn_4_0, pn_4_1, pn_4_2, pn_4_3, if_true, if_false])))
    rw [eh] at A
    refine Wp.stk (st' := [(.int (-1 : Int32))]) rfl ?_
    refine s_iconst (pc' := 274) (z := (4 : Int32)) A at_273 rfl (by decide) ?_
    refine s_iload (pc' := 276) A at_274 rfl rfl ?_
    refine s_iload (pc' := 278) A at_276 rfl rfl ?_
    refine s_iload (pc' := 280) A at_278 rfl rfl ?_
    refine s_static (pc' := 283) (y := y8_check) (argsL := [(.int (-1 : Int32)), (.int (4 : Int32)), (.int (4 : Int32)), (.int (4 : Int32)), (.int ((ush q2 (8 : Int32)) &&& (65535 : Int32)))]) (rest := []) A (m_out l Z a0 hw n0 h1553 A.size (-1 : Int32) (4 : Int32) (4 : Int32) (4 : Int32) ((ush q2 (8 : Int32)) &&& (65535 : Int32)) (Or.inl (by decide)) rfl) (w48 hw) (w49 hw) (w2 hw) (w50 hw) (by decide) pd__IIIII_Z rfl (W := 0) (by decide) (by decide) (Nat.le_of_eq rfl) (by decide) (by decide) rfl rfl at_280 rfl fun T h1583 v1584 A Q1585 => ?_
    obtain ⟨rfl, eh⟩ := Q1585
    rw [eh] at A
    refine Wp.stk (st' := [(.int (1 : Int32))]) rfl ?_
    refine s_ifN (pc' := 286) A at_283 rfl (by decide) ?_
    refine s_iconst (pc' := 287) (z := (1 : Int32)) A at_286 rfl (by decide) ?_
    refine s_goto (pc' := 291) A at_287 (by decide) (by decide) ?_
    exact r_bool A rfl (by decide) at_291 (by decide) (by decide) (rfl)
set_option maxRecDepth 65536 in
set_option maxHeartbeats 40000000 in
theorem comes_1 {Post : Tables → Env → Array Value → State → Outcome → State → Prop} (hpost : ∀ tb e args s v u, (limb_1_1.after args s (.returned v) u = true ∧ limb_1_2.after args s (.returned v) u = true ∧ True) → FrameEnd s (.returned v) u (Jvm.fieldLocs frame_1_writes args s ++ Jvm.arrayLocs frame_1_arrays args s ++ Jvm.staticLocs frame_1_statics s) 16 192 → Post tb e args s (.returned v) u) :
    ArmFor flags0 classFile x code maxLocals ret World_1 tables_1 room_1 Calls_1 rest_1 Pre_1 Post := by
  intro l hfl _ _ p e ha hc hk s m args below hf hA hF happ hP
  obtain ⟨hcalls, hrest, hpre⟩ := hP
  obtain ⟨-, -, -, hnamed, -, -, -, hat⟩ := (Spec.applies_iff hf).mp happ
  obtain ⟨hg, hn⟩ := and_e (Cond.before_iff.mp (show (Jvm.Cond.and given_1 narrow_1).before args s = true from hpre))
  obtain ⟨hcnt, hg⟩ := and_e hg
  obtain ⟨w0, w1, w2, rfl⟩ : ∃ w0 w1 w2 : Value, args = #[w0, w1, w2] := by
    have hs : args.size = 3 := by simpa [Cond.value, given_1] using hcnt
    obtain ⟨L⟩ := args
    match L, hs with
    | [w0, w1, w2], _ => exact ⟨w0, w1, w2, rfl⟩
  have hw := fun d (hd : d ∈ tables_1) => atoms_spec (ws := Jvm.Cond.code x code maxLocals ret :: tables_1) hat d (List.mem_cons_of_mem _ hd)
  have hfit : Fit s := fun {y c} hc i hi => by
    obtain ⟨ha, rfl⟩ := Array.getElem?_eq_some_iff.mp hc
    have q := List.all_eq_true.mp ((Array.all_eq_true_iff_forall_mem.mp hF) _ (Array.getElem_mem ha)) i (List.mem_range.mpr hi)
    simpa [Array.getElem?_eq_getElem hi] using q
  obtain ⟨g0, hg⟩ := and_e hg
  obtain ⟨x0, e0⟩ := isL_v g0
  obtain rfl : w0 = (.long x0) := Option.some.inj e0
  obtain ⟨g1, hg⟩ := and_e hg
  obtain ⟨x1, e1⟩ := is_v g1
  obtain rfl : w1 = (.int x1) := Option.some.inj e1
  obtain ⟨x2, e2⟩ := is_v hg
  obtain rfl : w2 = (.int x2) := Option.some.inj e2
  obtain ⟨n, o, h1, h2, h3, _, L, rfl, ⟨N, rfl⟩, hq⟩ := rm0 l s _ hw s.heap.size s.heap (Nat.le_refl _) x0 x1 x2 tables_1 p e ha hc hk s m _ below hf ((Spec.applies_iff_loose hf).mp happ).1 ⟨rfl, State.Warmed39.refl s, rfl⟩ trivial
  refine ⟨n, _, h1, h2, h3, hpost _ _ _ _ _ _ ⟨Cond.after_iff.mpr rfl, Cond.after_iff.mpr (eq_i res_at (Term.int_eval (1)) rfl), trivial⟩ ⟨hq.1, hq.2.1, (hq.2.2.sift fun y hy => Or.inr (N y hy)).mono (by decide) (by decide)⟩⟩
theorem main_1_1 : Claimed_1_1 := comes_1 fun _ _ _ _ _ _ h hF => ⟨h.1, hF⟩
theorem main_1_2 : Claimed_1_2 := comes_1 fun _ _ _ _ _ _ h hF => ⟨h.2.1, hF⟩
end Jvm.Pilot.@@N@@
namespace Jvm.Pilot.@@N@@
open Jvm Jvm.ClassFile Sem Op Lib Jvm.Free Jvm.Stand Jvm.Pilot.@@N@@.Jvm.D
/-! MADE BY PROGRAM (witnessworld.py) out of the Statement's table words and the real class files: 12 classes; the members and pool entries that the words name. The judged class is class 1, her method 1. -/
namespace start1
open Jvm.ClassFile
def u (s : String) : CpInfo := .utf8 (stringToUtf16 s)
/-- a pool by its gaps: so many unusable entries, then the entry; so many at the end -/
def gap : Nat → List CpInfo → List CpInfo
  | 0, r => r
  | n + 1, r => .unusable :: gap n r
def poolList (es : List (Nat × CpInfo)) (last : Nat) : List CpInfo := es.foldr (fun e r => gap e.1 (e.2 :: r)) (gap last [])
def pool (es : List (Nat × CpInfo)) (last : Nat) : Array CpInfo := ⟨poolList es last⟩
def fileOf (pool : Array CpInfo) (this : Nat) (attrs : Array Attribute := #[]) (ms : Array MethodInfo := #[]) (fl : Nat := 33) (sup : Nat := 0) (ifs : Array Nat := #[]) (fds : Array FieldInfo := #[]) : ClassFile where
  minorVersion := 0
  majorVersion := 65
  constantPool := pool
  accessFlags := fl
  thisClass := this
  superClass := sup
  interfaces := ifs
  fields := fds
  methods := ms
  attributes := attrs
def plain (name : String) (sup : Option ClassId) : Class where
  name := name
  kind := .ordinary
  loader := none
  accessFlags := 33
  super := sup
  interfaces := #[]
  cf := none
  fields := #[]
  methods := #[]
  instanceTypes := #[]
  staticTypes := #[]
  resolved := #[]
  callSites := []
  init := .initialized
  statics := none
  mirror := none

def pool0 : Array CpInfo := pool [(5, u "<init>"), (0, u "()V"), (1, .class_ 10), (1, u "java/lang/Object")] 113

def k0c0 : Code := { maxStack := 0, maxLocals := 1, code := object_method_1_code, exceptionTable := #[], attributes := #[] }
def k0m0 : Method := { name := "<init>", desc := "()V", sig := { parameters := [], returnType := none }, accessFlags := 1, code := some k0c0 }
/-- java/lang/Object -/
def k0 : Class := { plain "java/lang/Object" none with
  accessFlags := 33
  interfaces := #[]
  cf := some (fileOf pool0 8 #[] #[{ accessFlags := 1, nameIndex := 5, descriptorIndex := 6, attributes := #[] }] 33 0 #[] #[])
  fields := #[]
  methods := #[k0m0]
  instanceTypes := #[]
  staticTypes := #[]
  resolved := Array.replicate 124 none
  statics := none }

def pool1 : Array CpInfo := pool [(2, .class_ 4), (0, .nameAndType 5 6), (0, u "java/lang/Object"), (0, u "<init>"), (0, u "()V"), (0, .methodref 8 9), (0, .class_ 10), (0, .nameAndType 11 12), (0, u "com/example/wirefram/wirefram/sequence/PositionIndexRemovePinLaw"), (0, u "pos"), (0, u "(JII)J"), (0, .integer 65535), (0, .class_ 15), (0, u "com/example/wirefram/wirefram/sequence/PositionIndex"), (0, .methodref 14 3), (0, .methodref 14 18), (0, .nameAndType 19 20), (0, u "put"), (0, u "(JI)V"), (0, .methodref 14 22), (0, .nameAndType 23 24), (0, u "remove"), (0, u "(J)V"), (0, .methodref 14 26), (0, .nameAndType 27 28), (0, u "get"), (0, u "(J)I"), (0, .methodref 8 30), (0, .nameAndType 31 32), (0, u "check"), (0, u "(IIIII)Z"), (2, u "law"), (0, u "(JII)Z")] 3

def k1m0 : Method := { name := "<init>", desc := "()V", sig := { parameters := [], returnType := none }, accessFlags := 1, code := none }
def k1c1 : Code := { maxStack := 5, maxLocals := 20, code := code, exceptionTable := #[], attributes := #[] }
def k1m1 : Method := { name := "law", desc := "(JII)Z", sig := { parameters := [.long, .int, .int], returnType := some .boolean }, accessFlags := 9, code := some k1c1 }
def k1c2 : Code := { maxStack := 5, maxLocals := 4, code := method_3_code, exceptionTable := #[], attributes := #[] }
def k1m2 : Method := { name := "pos", desc := "(JII)J", sig := { parameters := [.long, .int, .int], returnType := some .long }, accessFlags := 10, code := some k1c2 }
def k1c3 : Code := { maxStack := 2, maxLocals := 6, code := method_4_code, exceptionTable := #[], attributes := #[] }
def k1m3 : Method := { name := "check", desc := "(IIIII)Z", sig := { parameters := [.int, .int, .int, .int, .int], returnType := some .boolean }, accessFlags := 10, code := some k1c3 }
/-- com/example/wirefram/wirefram/sequence/PositionIndexRemovePinLaw -/
def k1 : Class := { plain "com/example/wirefram/wirefram/sequence/PositionIndexRemovePinLaw" (some 0) with
  accessFlags := 49
  interfaces := #[]
  cf := some (fileOf pool1 8 #[] #[{ accessFlags := 1, nameIndex := 5, descriptorIndex := 6, attributes := #[] }, { accessFlags := 9, nameIndex := 35, descriptorIndex := 36, attributes := #[] }, { accessFlags := 10, nameIndex := 11, descriptorIndex := 12, attributes := #[] }, { accessFlags := 10, nameIndex := 31, descriptorIndex := 32, attributes := #[] }] 49 2 #[] #[])
  fields := #[]
  methods := #[k1m0, k1m1, k1m2, k1m3]
  instanceTypes := #[]
  staticTypes := #[]
  resolved := Array.replicate 40 none
  statics := none }

def pool2 : Array CpInfo := pool [(1, .methodref 2 3), (0, .class_ 4), (0, .nameAndType 5 6), (0, u "java/lang/Object"), (0, u "<init>"), (0, u "()V"), (0, .class_ 8), (0, u "com/example/wirefram/wirefram/sequence/PositionIndex"), (0, .fieldref 7 10), (0, .nameAndType 11 12), (0, u "positions"), (0, u "[J"), (0, .methodref 7 14), (0, .nameAndType 15 16), (0, u "filled"), (0, u "(I)[I"), (0, .fieldref 7 18), (0, .nameAndType 19 20), (0, u "numbers"), (0, u "[I"), (0, .fieldref 7 22), (0, .nameAndType 23 24), (0, u "size"), (0, u "I"), (3, .methodref 7 29), (0, .nameAndType 30 31), (0, u "place"), (0, u "(JI)V"), (0, .methodref 33 34), (0, .class_ 35), (0, .nameAndType 36 37), (0, u "java/util/Arrays"), (0, u "fill"), (0, u "([II)V"), (0, u "NONE"), (2, u "FIRST_LENGTH"), (3, u "get"), (0, u "(J)I"), (1, u "put"), (0, u "remove"), (0, u "(J)V")] 4

def k2c0 : Code := { maxStack := 2, maxLocals := 1, code := prog_75_method_1_code, exceptionTable := #[], attributes := #[] }
def k2m0 : Method := { name := "<init>", desc := "()V", sig := { parameters := [], returnType := none }, accessFlags := 0, code := some k2c0 }
def k2c1 : Code := { maxStack := 4, maxLocals := 5, code := prog_75_method_2_code, exceptionTable := #[], attributes := #[] }
def k2m1 : Method := { name := "get", desc := "(J)I", sig := { parameters := [.long], returnType := some .int }, accessFlags := 0, code := some k2c1 }
def k2c2 : Code := { maxStack := 4, maxLocals := 4, code := prog_75_method_3_code, exceptionTable := #[], attributes := #[] }
def k2m2 : Method := { name := "put", desc := "(JI)V", sig := { parameters := [.long, .int], returnType := none }, accessFlags := 0, code := some k2c2 }
def k2c3 : Code := { maxStack := 4, maxLocals := 8, code := prog_75_method_4_code, exceptionTable := #[], attributes := #[] }
def k2m3 : Method := { name := "remove", desc := "(J)V", sig := { parameters := [.long], returnType := none }, accessFlags := 0, code := some k2c3 }
def k2c4 : Code := { maxStack := 4, maxLocals := 6, code := prog_75_method_5_code, exceptionTable := #[], attributes := #[] }
def k2m4 : Method := { name := "place", desc := "(JI)V", sig := { parameters := [.long, .int], returnType := none }, accessFlags := 2, code := some k2c4 }
def k2c5 : Code := { maxStack := 2, maxLocals := 2, code := prog_75_method_7_code, exceptionTable := #[], attributes := #[] }
def k2m5 : Method := { name := "filled", desc := "(I)[I", sig := { parameters := [.int], returnType := some (.array .int) }, accessFlags := 10, code := some k2c5 }
/-- com/example/wirefram/wirefram/sequence/PositionIndex -/
def k2 : Class := { plain "com/example/wirefram/wirefram/sequence/PositionIndex" (some 0) with
  accessFlags := 32
  interfaces := #[]
  cf := some (fileOf pool2 7 #[] #[{ accessFlags := 0, nameIndex := 5, descriptorIndex := 6, attributes := #[] }, { accessFlags := 0, nameIndex := 45, descriptorIndex := 46, attributes := #[] }, { accessFlags := 0, nameIndex := 48, descriptorIndex := 31, attributes := #[] }, { accessFlags := 0, nameIndex := 49, descriptorIndex := 50, attributes := #[] }, { accessFlags := 2, nameIndex := 30, descriptorIndex := 31, attributes := #[] }, { accessFlags := 10, nameIndex := 15, descriptorIndex := 16, attributes := #[] }] 32 2 #[] #[{ accessFlags := 24, nameIndex := 38, descriptorIndex := 24, attributes := #[] }, { accessFlags := 26, nameIndex := 41, descriptorIndex := 24, attributes := #[] }, { accessFlags := 2, nameIndex := 11, descriptorIndex := 12, attributes := #[] }, { accessFlags := 2, nameIndex := 19, descriptorIndex := 20, attributes := #[] }, { accessFlags := 2, nameIndex := 23, descriptorIndex := 24, attributes := #[] }])
  fields := #[{ name := "NONE", type := .int, accessFlags := 24, slot := 0, constantValue := 0 }, { name := "FIRST_LENGTH", type := .int, accessFlags := 26, slot := 1, constantValue := 0 }, { name := "positions", type := (.array .long), accessFlags := 2, slot := 0, constantValue := 0 }, { name := "numbers", type := (.array .int), accessFlags := 2, slot := 1, constantValue := 0 }, { name := "size", type := .int, accessFlags := 2, slot := 2, constantValue := 0 }]
  methods := #[k2m0, k2m1, k2m2, k2m3, k2m4, k2m5]
  instanceTypes := #[(.array .long), (.array .int), .int]
  staticTypes := #[.int, .int]
  resolved := Array.replicate 55 none
  statics := none }

def pool3 : Array CpInfo := pool [(2, .class_ 4), (1, u "java/lang/Object"), (0, u "<init>"), (0, u "()V"), (7, .class_ 16), (1, u "java/util/Arrays"), (57, .class_ 76), (1, u "java/util/Arrays$NaturalOrder"), (36, .class_ 115), (1, u "java/util/Arrays$LegacyMergeSort"), (1, u "Z"), (257, .class_ 376), (0, u "java/util/Arrays$ArrayList"), (68, u "$assertionsDisabled"), (269, u "MIN_ARRAY_SORT_GRAN"), (0, u "I"), (2, u "INSERTIONSORT_THRESHOLD"), (120, u "fill"), (4, u "([II)V"), (129, .class_ 976), (0, u "java/util/Arrays$ArrayItr")] 52

def k3m0 : Method := { name := "<init>", desc := "()V", sig := { parameters := [], returnType := none }, accessFlags := 2, code := none }
def k3c1 : Code := { maxStack := 3, maxLocals := 4, code := jdk_65_method_103_code, exceptionTable := #[], attributes := #[] }
def k3m1 : Method := { name := "fill", desc := "([II)V", sig := { parameters := [(.array .int), .int], returnType := none }, accessFlags := 9, code := some k3c1 }
/-- java/util/Arrays -/
def k3 : Class := { plain "java/util/Arrays" (some 0) with
  accessFlags := 49
  interfaces := #[]
  cf := some (fileOf pool3 14 #[.nestMembers #[975, 375, 113, 74]] #[{ accessFlags := 2, nameIndex := 5, descriptorIndex := 6, attributes := #[] }, { accessFlags := 9, nameIndex := 840, descriptorIndex := 845, attributes := #[] }] 49 2 #[] #[{ accessFlags := 26, nameIndex := 715, descriptorIndex := 716, attributes := #[] }, { accessFlags := 26, nameIndex := 719, descriptorIndex := 716, attributes := #[] }, { accessFlags := 4120, nameIndex := 445, descriptorIndex := 117, attributes := #[] }])
  fields := #[{ name := "MIN_ARRAY_SORT_GRAN", type := .int, accessFlags := 26, slot := 0, constantValue := 0 }, { name := "INSERTIONSORT_THRESHOLD", type := .int, accessFlags := 26, slot := 1, constantValue := 0 }, { name := "$assertionsDisabled", type := .boolean, accessFlags := 4120, slot := 2, constantValue := 0 }]
  methods := #[k3m0, k3m1]
  instanceTypes := #[]
  staticTypes := #[.int, .int, .boolean]
  resolved := Array.replicate 1029 none
  statics := none }

def pool4 : Array CpInfo := pool [(1, u "java/lang/Cloneable"), (0, .class_ 1), (0, u "java/lang/Object"), (0, .class_ 3)] 3

/-- java/lang/Cloneable -/
def k4 : Class := { plain "java/lang/Cloneable" (some 0) with
  accessFlags := 1537
  interfaces := #[]
  cf := some (fileOf pool4 2 #[] #[] 1537 4 #[] #[])
  fields := #[]
  methods := #[]
  instanceTypes := #[]
  staticTypes := #[]
  resolved := Array.replicate 8 none
  statics := none }

def pool5 : Array CpInfo := pool [(1, u "java/io/Serializable"), (0, .class_ 1), (0, u "java/lang/Object"), (0, .class_ 3)] 3

/-- java/io/Serializable -/
def k5 : Class := { plain "java/io/Serializable" (some 0) with
  accessFlags := 1537
  interfaces := #[]
  cf := some (fileOf pool5 2 #[] #[] 1537 4 #[] #[])
  fields := #[]
  methods := #[]
  instanceTypes := #[]
  staticTypes := #[]
  resolved := Array.replicate 8 none
  statics := none }

/-- the primitive byte -/
def k6 : Class := { plain "byte" none with kind := .primitive 'B', accessFlags := 0x411 }
/-- [B -/
def k7 : Class := { plain "[B" (some 0) with kind := .array 6 .byte, interfaces := #[4, 5], accessFlags := 1041 }

/-- the primitive int -/
def k8 : Class := { plain "int" none with kind := .primitive 'I', accessFlags := 0x411 }
/-- [I -/
def k9 : Class := { plain "[I" (some 0) with kind := .array 8 .int, interfaces := #[4, 5], accessFlags := 1041 }

/-- the primitive long -/
def k10 : Class := { plain "long" none with kind := .primitive 'J', accessFlags := 0x411 }
/-- [J -/
def k11 : Class := { plain "[J" (some 0) with kind := .array 10 .long, interfaces := #[4, 5], accessFlags := 1041 }

def heap : Heap := #[]
def classes : Array Class := #[k0, k1, k2, k3, k4, k5, k6, k7, k8, k9, k10, k11]
def interned : List (Array UInt16 × Addr) := []
def slotsUsed : Nat := 0
def theMethod : MethodId := ⟨1, 1⟩
def args0 : Array Value := #[.long 5, .int 7, .int 3]
def aboutOver (below : List Frame) : State where
  vm := { classes := classes, interned := interned.toArray }
  heap := heap
  slotsUsed := slotsUsed
  threads := #[{ frames := .invoking theMethod args0 :: below }]
def below0 : List Frame := [.native { method := ⟨0, 0⟩, args := #[] }]
def about1 : State := aboutOver below0
def p0 : Program := .bare "" "" ""
def e0 : Env := launch0.env 0 0 0
theorem w_frames : about1.frames = Frame.invoking theMethod args0 :: below0 := rfl
set_option maxRecDepth 65536 in
theorem w_args : argsFit about1.vm theMethod args0 = true := by decide +kernel
set_option maxRecDepth 65536 in
theorem w_heap : heapFits about1 = true := by decide +kernel
set_option maxRecDepth 65536 in
theorem w_runnable : about1.curStatus? = some .runnable := by decide +kernel
set_option maxRecDepth 65536 in
theorem w_alone : about1.alone = true := by decide +kernel
set_option maxRecDepth 65536 in
theorem w_named : about1.methodNamed? x = some theMethod := by decide +kernel
set_option maxRecDepth 65536 in
theorem w_hears : about1.hears theMethod below0 = true := by decide +kernel
set_option maxRecDepth 65536 in
theorem w_ripe : about1.ripe theMethod args0 below0 = true := by decide +kernel
theorem w_running : about1.status = .running := rfl
set_option maxRecDepth 65536 in
theorem w_room : about1.hasRoom e0.platform room_1 = true :=
  launch0.hasRoom_least _ room_1 (by decide +kernel) (by decide +kernel) (by decide +kernel) (by decide +kernel) (by decide +kernel) (by decide +kernel)
theorem allAtoms_all (ts : List Jvm.Cond) (a : Array Jvm.Value) (st : Jvm.State) : (allAtoms ts).before a st = ts.all (fun c => c.before a st) := by
  induction ts with
  | nil => rfl
  | cons c t ih =>
    show (Jvm.Cond.and c (allAtoms t)).before a st = _
    rw [Jvm.Cond.before_and, ih, List.all_cons]
def words1 : List Jvm.Cond := Jvm.Cond.code x code maxLocals ret :: tables_1
/-- a 'code' word, met by the world's own term for the bytes: nothing is compared byte by byte -/
theorem code_word {y : MethodName} {bytes : ByteArray} {mx : Nat} {rt : Option FieldType} {a : Array Value} {s : State} {m : MethodId} {meth : Method} {c : Code} (h1 : s.methodNamed? y = some m) (h2 : s.vm.method? m = some meth) (h3 : meth.code = some c) (h4 : c.code = bytes)
    (h5 : (c.maxLocals == mx && c.exceptionTable.isEmpty && decide (c.maxStack ≤ mostOperands) && decide (meth.sig.returnType = rt) && !meth.locks && decide (parseMethodDescriptor y.desc = some meth.sig)) = true) : (Jvm.Cond.code y bytes mx rt).before a s = true := by
  simp only [Bool.and_eq_true, beq_iff_eq, Bool.not_eq_true', decide_eq_true_eq] at h5
  obtain ⟨⟨⟨⟨⟨g1, g2⟩, g3⟩, g4⟩, g5⟩, g6⟩ := h5
  simp [Cond.before, Cond.holds, Cond.value, h1, h2, h3, h4, g1, g2, g3, g4, g5, g6]
def isCode : Jvm.Cond → Bool
  | .code _ _ _ _ => true
  | _ => false
theorem all_split {L : List Jvm.Cond} {P : Jvm.Cond → Bool} (h1 : L.all (fun c => isCode c || P c) = true) (h2 : ∀ c ∈ L.filter isCode, P c = true) : L.all P = true := by
  refine List.all_eq_true.mpr fun c hc => ?_
  have h := List.all_eq_true.mp h1 c hc
  rcases Bool.eq_false_or_eq_true (isCode c) with hi | hi
  · exact h2 c (List.mem_filter.mpr ⟨hc, hi⟩)
  · simpa [hi] using h
set_option maxRecDepth 65536 in
theorem w_c0 : (Jvm.Cond.code x code maxLocals ret).before args0 about1 = true := code_word (m := ⟨1, 1⟩) (meth := k1m1) (c := k1c1) (by decide +kernel) rfl rfl rfl (by decide +kernel)
set_option maxRecDepth 65536 in
theorem w_c1 : (Jvm.Cond.code ({ cls := "com/example/wirefram/wirefram/sequence/PositionIndexRemovePinLaw", name := "pos", desc := "(JII)J" } : Jvm.MethodName) method_3_code (4 : Nat) (Option.some Jvm.ClassFile.FieldType.long)).before args0 about1 = true := code_word (m := ⟨1, 2⟩) (meth := k1m2) (c := k1c2) (by decide +kernel) rfl rfl rfl (by decide +kernel)
set_option maxRecDepth 65536 in
theorem w_c2 : (Jvm.Cond.code ({ cls := "com/example/wirefram/wirefram/sequence/PositionIndex", name := "<init>", desc := "()V" } : Jvm.MethodName) prog_75_method_1_code (1 : Nat) (Option.none : Option Jvm.ClassFile.FieldType)).before args0 about1 = true := code_word (m := ⟨2, 0⟩) (meth := k2m0) (c := k2c0) (by decide +kernel) rfl rfl rfl (by decide +kernel)
set_option maxRecDepth 65536 in
theorem w_c3 : (Jvm.Cond.code ({ cls := "java/lang/Object", name := "<init>", desc := "()V" } : Jvm.MethodName) object_method_1_code (1 : Nat) (Option.none : Option Jvm.ClassFile.FieldType)).before args0 about1 = true := code_word (m := ⟨0, 0⟩) (meth := k0m0) (c := k0c0) (by decide +kernel) rfl rfl rfl (by decide +kernel)
set_option maxRecDepth 65536 in
theorem w_c4 : (Jvm.Cond.code ({ cls := "com/example/wirefram/wirefram/sequence/PositionIndex", name := "filled", desc := "(I)[I" } : Jvm.MethodName) prog_75_method_7_code (2 : Nat) (Option.some (Jvm.ClassFile.FieldType.array Jvm.ClassFile.FieldType.int))).before args0 about1 = true := code_word (m := ⟨2, 5⟩) (meth := k2m5) (c := k2c5) (by decide +kernel) rfl rfl rfl (by decide +kernel)
set_option maxRecDepth 65536 in
theorem w_c5 : (Jvm.Cond.code ({ cls := "java/util/Arrays", name := "fill", desc := "([II)V" } : Jvm.MethodName) jdk_65_method_103_code (4 : Nat) (Option.none : Option Jvm.ClassFile.FieldType)).before args0 about1 = true := code_word (m := ⟨3, 1⟩) (meth := k3m1) (c := k3c1) (by decide +kernel) rfl rfl rfl (by decide +kernel)
set_option maxRecDepth 65536 in
theorem w_c6 : (Jvm.Cond.code ({ cls := "com/example/wirefram/wirefram/sequence/PositionIndex", name := "put", desc := "(JI)V" } : Jvm.MethodName) prog_75_method_3_code (4 : Nat) (Option.none : Option Jvm.ClassFile.FieldType)).before args0 about1 = true := code_word (m := ⟨2, 2⟩) (meth := k2m2) (c := k2c2) (by decide +kernel) rfl rfl rfl (by decide +kernel)
set_option maxRecDepth 65536 in
theorem w_c7 : (Jvm.Cond.code ({ cls := "com/example/wirefram/wirefram/sequence/PositionIndex", name := "place", desc := "(JI)V" } : Jvm.MethodName) prog_75_method_5_code (6 : Nat) (Option.none : Option Jvm.ClassFile.FieldType)).before args0 about1 = true := code_word (m := ⟨2, 4⟩) (meth := k2m4) (c := k2c4) (by decide +kernel) rfl rfl rfl (by decide +kernel)
set_option maxRecDepth 65536 in
theorem w_c8 : (Jvm.Cond.code ({ cls := "com/example/wirefram/wirefram/sequence/PositionIndex", name := "remove", desc := "(J)V" } : Jvm.MethodName) prog_75_method_4_code (8 : Nat) (Option.none : Option Jvm.ClassFile.FieldType)).before args0 about1 = true := code_word (m := ⟨2, 3⟩) (meth := k2m3) (c := k2c3) (by decide +kernel) rfl rfl rfl (by decide +kernel)
set_option maxRecDepth 65536 in
theorem w_c9 : (Jvm.Cond.code ({ cls := "com/example/wirefram/wirefram/sequence/PositionIndex", name := "get", desc := "(J)I" } : Jvm.MethodName) prog_75_method_2_code (5 : Nat) (Option.some Jvm.ClassFile.FieldType.int)).before args0 about1 = true := code_word (m := ⟨2, 1⟩) (meth := k2m1) (c := k2c1) (by decide +kernel) rfl rfl rfl (by decide +kernel)
set_option maxRecDepth 65536 in
theorem w_c10 : (Jvm.Cond.code ({ cls := "com/example/wirefram/wirefram/sequence/PositionIndexRemovePinLaw", name := "check", desc := "(IIIII)Z" } : Jvm.MethodName) method_4_code (6 : Nat) (Option.some Jvm.ClassFile.FieldType.boolean)).before args0 about1 = true := code_word (m := ⟨1, 3⟩) (meth := k1m3) (c := k1c3) (by decide +kernel) rfl rfl rfl (by decide +kernel)
def codes1 : List Jvm.Cond := [Jvm.Cond.code x code maxLocals ret, Jvm.Cond.code ({ cls := "com/example/wirefram/wirefram/sequence/PositionIndexRemovePinLaw", name := "pos", desc := "(JII)J" } : Jvm.MethodName) method_3_code (4 : Nat) (Option.some Jvm.ClassFile.FieldType.long), Jvm.Cond.code ({ cls := "com/example/wirefram/wirefram/sequence/PositionIndex", name := "<init>", desc := "()V" } : Jvm.MethodName) prog_75_method_1_code (1 : Nat) (Option.none : Option Jvm.ClassFile.FieldType), Jvm.Cond.code ({ cls := "java/lang/Object", name := "<init>", desc := "()V" } : Jvm.MethodName) object_method_1_code (1 : Nat) (Option.none : Option Jvm.ClassFile.FieldType), Jvm.Cond.code ({ cls := "com/example/wirefram/wirefram/sequence/PositionIndex", name := "filled", desc := "(I)[I" } : Jvm.MethodName) prog_75_method_7_code (2 : Nat) (Option.some (Jvm.ClassFile.FieldType.array Jvm.ClassFile.FieldType.int)), Jvm.Cond.code ({ cls := "java/util/Arrays", name := "fill", desc := "([II)V" } : Jvm.MethodName) jdk_65_method_103_code (4 : Nat) (Option.none : Option Jvm.ClassFile.FieldType), Jvm.Cond.code ({ cls := "com/example/wirefram/wirefram/sequence/PositionIndex", name := "put", desc := "(JI)V" } : Jvm.MethodName) prog_75_method_3_code (4 : Nat) (Option.none : Option Jvm.ClassFile.FieldType), Jvm.Cond.code ({ cls := "com/example/wirefram/wirefram/sequence/PositionIndex", name := "place", desc := "(JI)V" } : Jvm.MethodName) prog_75_method_5_code (6 : Nat) (Option.none : Option Jvm.ClassFile.FieldType), Jvm.Cond.code ({ cls := "com/example/wirefram/wirefram/sequence/PositionIndex", name := "remove", desc := "(J)V" } : Jvm.MethodName) prog_75_method_4_code (8 : Nat) (Option.none : Option Jvm.ClassFile.FieldType), Jvm.Cond.code ({ cls := "com/example/wirefram/wirefram/sequence/PositionIndex", name := "get", desc := "(J)I" } : Jvm.MethodName) prog_75_method_2_code (5 : Nat) (Option.some Jvm.ClassFile.FieldType.int), Jvm.Cond.code ({ cls := "com/example/wirefram/wirefram/sequence/PositionIndexRemovePinLaw", name := "check", desc := "(IIIII)Z" } : Jvm.MethodName) method_4_code (6 : Nat) (Option.some Jvm.ClassFile.FieldType.boolean)]
set_option maxRecDepth 65536 in
theorem codes_eq : words1.filter isCode = codes1 := rfl
theorem w_codes : ∀ c ∈ words1.filter isCode, c.before args0 about1 = true := by
  rw [codes_eq]
  intro c hc
  simp only [codes1, List.mem_cons, List.not_mem_nil, or_false] at hc
  rcases hc with rfl | rfl | rfl | rfl | rfl | rfl | rfl | rfl | rfl | rfl | rfl
  · exact w_c0
  · exact w_c1
  · exact w_c2
  · exact w_c3
  · exact w_c4
  · exact w_c5
  · exact w_c6
  · exact w_c7
  · exact w_c8
  · exact w_c9
  · exact w_c10
set_option maxRecDepth 65536 in
theorem w_t1 : (words1.take 24).all (fun c => isCode c || c.before args0 about1) = true := by decide +kernel
set_option maxRecDepth 65536 in
theorem w_t2 : ((words1.drop 24).take 24).all (fun c => isCode c || c.before args0 about1) = true := by decide +kernel
set_option maxRecDepth 65536 in
theorem w_t3 : ((words1.drop 24).drop 24).all (fun c => isCode c || c.before args0 about1) = true := by decide +kernel
theorem w_tables : (allAtoms (Jvm.Cond.code x code maxLocals ret :: tables_1)).before args0 about1 = true := by
  rw [allAtoms_all]
  show words1.all (fun c => c.before args0 about1) = true
  refine all_split ?_ w_codes
  rw [← List.take_append_drop 24 words1, List.all_append, w_t1, ← List.take_append_drop 24 (words1.drop 24), List.all_append, w_t2, w_t3]
  rfl
set_option maxRecDepth 65536 in
theorem w_case : (Jvm.Cond.and given_1 narrow_1).before args0 about1 = true := by decide +kernel
theorem w_applies : (headSpec (Jvm.Cond.code x code maxLocals ret :: tables_1) room_1).applies x e0.platform about1 = true :=
  (Spec.applies_iff w_frames).mpr ⟨w_running, w_runnable, w_alone, w_named, w_hears, w_ripe, w_room, w_tables⟩
theorem atStart : AtStart classFile x code maxLocals ret World_1 tables_1 room_1 Calls_1 rest_1 Pre_1 launch0 p0 e0 about1 theMethod args0 below0 :=
  ⟨lists_1, trivial, launch0.admits_env _ _ _, launch0.least_env, fairChoices_fair.cas, fairChoices_fair.clock, w_frames, w_args, w_heap, w_applies, trivial, trivial, w_case⟩
end start1
theorem witness_1 : WitnessClaimed_1 := ⟨start1.p0, start1.e0, start1.about1, start1.theMethod, start1.args0, start1.below0, start1.atStart⟩
end Jvm.Pilot.@@N@@
