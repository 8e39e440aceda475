import JvmDerived
import JvmDerived.Pilot.@@N@@Statement
import JvmDerived.Pilot.@@N@@Code
set_option linter.unusedVariables false
set_option linter.unusedSimpArgs false
namespace Jvm.Ow
open Sem ClassFile Op Lib Jvm.Stand Jvm.Free Jvm.LawKit Jvm.RoadKit
abbrev jv (x : Int64) : Slot := .val (.long x)
abbrev U0 : Slot := .unset
abbrev S2 : Slot := .second
def ushL (x : Int64) (y : Int32) : Int64 := (x.toUInt64 >>> (y &&& 0x3f).toInt64.toUInt64).toInt64
def On (l : Launch) (Z : State) (n0 : Nat) (own : String) (bytes : ByteArray) (maxL : Nat) (ret : Option FieldType) (R : Room) (p : Program) (e : Env) (s : State) (m : MethodId) (args : Array Value) (below : List Frame) (meth : Method) (c : Code) (T : State) (h : Heap) (k n : Nat) : Prop :=
  ∃ locs, Stand p l e R s m args below meth c T locs k n ∧ Fr n0 locs ∧ T.heap = h ∧ p.tables.exec = Jvm.exec ∧ Z.Warmed39 s.vm ∧ c.code = bytes ∧ c.maxLocals = maxL ∧ s.vm.findClass own = some m.cls ∧ meth.sig.returnType = ret ∧ meth.locks = false ∧ n0 ≤ s.heap.size
def Wp (p : Program) (e : Env) (below : List Frame) (s : State) (n0 ck cs : Nat) (Q : Option Value → Heap → Prop) (U : State) : Prop :=
  ∃ t o, Steps p.tables e below U t ∧ t.status = .running ∧ Ended t below o ∧ ∃ v L, o = .returned v ∧ (Fr n0 L ∧ Q v t.heap) ∧ FrameEnd s o t L ck cs
def Met (l : Launch) (Z : State) (n0 : Nat) (y : MethodName) (bytes : ByteArray) (maxL : Nat) (ret : Option FieldType) (rm : Room) (as : Array Value) (h : Heap) (Q : Option Value → Heap → Prop) : Prop :=
  ∀ ws, MetFree l y (head1 (Cond.code y bytes maxL ret :: ws) rm) (fun a U => a = as ∧ Z.Warmed39 U.vm ∧ U.heap = h) (fun _ _ _ _ _ => True) (fun _ U o U' => ∃ v L, o = .returned v ∧ (Fr n0 L ∧ Q v U'.heap) ∧ FrameEnd U o U' L rm.cells rm.slots)
def AA (Z : State) (h : Heap) (a : Addr) (ty : FieldType) (vs : List Value) : Prop := ∃ c : Cell, Arr Z h a c ty ∧ c.slots = vs.toArray ∧ vs.length < 2147483648
section Kit
variable {l : Launch} {Z : State} {n0 : Nat} {own : String} {bytes : ByteArray} {maxL : Nat} {ret : Option FieldType} {R : Room} {p : Program} {e : Env} {s : State} {m : MethodId} {args : Array Value} {below : List Frame} {meth : Method} {c : Code} {T : State} {h h' : Heap} {k n ck cs : Nat} {Q : Option Value → Heap → Prop} {pc pc' : Nat} {Ls Ls' : Array Slot} {st : List Value} {a0 : Array Value} {a b : Addr} {ty : FieldType} {vs : List Value} {sl : Nat} {v w : Value} {ws : List Addr}
theorem AA.set (F : AA Z h a ty vs) (W : Wr h h' a sl v) : AA Z h' a ty (vs.set sl v) := by
  obtain ⟨c, A, r1, r2⟩ := F
  exact ⟨_, A.same W, by simp [Cell.setSlot, r1], by simpa using r2⟩
theorem AA.cast {vs' : List Value} (F : AA Z h a ty vs) (q : vs = vs') : AA Z h a ty vs' := q ▸ F
theorem Fld.cast {C f d : String} (F : Fld Z h a C f d v) (q : v = w) : Fld Z h a C f d w := q ▸ F
theorem AA.new {cA : ClassId} {z : Int32} {i : Nat} (A : Arr Z h a (newA cA ty z) ty) (hz : z.toInt = (i : Int)) : AA Z h a ty (List.replicate i (defaultValue ty)) := by
  have q : z.toNatClampNeg = i := by show z.toInt.toNat = i; omega
  have := z.toInt_lt
  refine ⟨_, A, ?_, ?_⟩
  · simp [newA, q]
  · simp; omega
theorem On.size(A : On l Z n0 own bytes maxL ret R p e s m args below meth c T h k n) : n0 ≤ h.size := by
  obtain ⟨locs, X, N, eT, hx, hZ, hby, hml, hown, hret, hlk, hsz⟩ := A
  have := X.same.2.1
  subst eT
  exact Nat.le_trans hsz this
theorem Wp.goo {U U' : State} (f : ∀ t, Steps p.tables e below U' t → Steps p.tables e below U t) (K : Wp p e below s n0 ck cs Q U') : Wp p e below s n0 ck cs Q U := by
  obtain ⟨t, o, q, r⟩ := K; exact ⟨t, o, f t q, r⟩
theorem Wp.cast {g g' : JFrame} (q : g = g') (K : Wp p e below s n0 ck cs Q (T.setTop g')) : Wp p e below s n0 ck cs Q (T.setTop g) := q ▸ K
theorem Wp.stk {st' : List Value} (q : st = st') (K : Wp p e below s n0 ck cs Q (T.setTop (mkF m pc Ls st'))) : Wp p e below s n0 ck cs Q (T.setTop (mkF m pc Ls st)) := q ▸ K
theorem Wp.mono {Q' : Option Value → Heap → Prop} {U : State} (K : Wp p e below s n0 ck cs Q U) (q : ∀ v h, Q v h → Q' v h) : Wp p e below s n0 ck cs Q' U := by
  obtain ⟨t, o, h1, h2, h3, v, L, h4, ⟨h5, h6⟩, h7⟩ := K; exact ⟨t, o, h1, h2, h3, v, L, h4, ⟨h5, q _ _ h6⟩, h7⟩
theorem met_intro {y : MethodName} {rm : Room} {as : Array Value} (hpl : plainFor y = true) (ho : y.cls = own) (hsz : n0 ≤ h.size)
    (body : ∀ p e s m below meth c T, On l Z n0 own bytes maxL ret rm p e s m as below meth c T h 0 0 → meth.name = y.name → Wp p e below s n0 rm.cells rm.slots Q (T.setTop (entryFrame m as maxL))) : Met l Z n0 y bytes maxL ret rm as h Q := by
  subst ho
  intro ws
  refine MetFree.of_bodySF hpl hisR ?_
  intro p e s m args below meth c s₁ Bd hml0 hP hK
  obtain ⟨rfl, hZ, hh⟩ := hP
  have X0 : Stand p l e rm s m args below meth c s₁ [] 0 0 := Stand.of_body Bd
  have e0 : s₁.heap = h := by rw [← hh, Bd.state]; rfl
  exact body p e s m below meth c s₁ ⟨[], X0, Fr.nil n0, e0, Bd.exec, hZ, Bd.bytes, hml0, findClass_of_methodNamed Bd.named, Bd.returns, Bd.notSynchronized, by rw [hh]; exact hsz⟩ (name_of_methodNamed Bd.named Bd.method).1
theorem Met.mono {y : MethodName} {rm : Room} {as : Array Value} {Q' : Option Value → Heap → Prop} (M : Met l Z n0 y bytes maxL ret rm as h Q) (q : ∀ v h, Q v h → Q' v h) : Met l Z n0 y bytes maxL ret rm as h Q' := by
  intro ws p e ha hc hk s m args below hf happ hP hK
  obtain ⟨n, o, h1, h2, h3, v, L, h4, ⟨h5, h6⟩, h7⟩ := M ws p e ha hc hk s m args below hf happ hP hK
  exact ⟨n, o, h1, h2, h3, v, L, h4, ⟨h5, q _ _ h6⟩, h7⟩
theorem s_iloadN (A : On l Z n0 own bytes maxL ret R p e s m args below meth c T h k n) {i : Fin 4} {z : Int32} (hd : decode bytes pc = .ok (.iload_n i, 1)) (hp : pc + 1 = pc') (hl : Ls[i.val]? = some (.val (.int z))) (K : Wp p e below s n0 ck cs Q (T.setTop (mkF m pc' Ls (.int z :: st)))) : Wp p e below s n0 ck cs Q (T.setTop (mkF m pc Ls st)) := by
  obtain ⟨locs, X, N, eT, hx, hZ, hby, hml, hown, hret, hlk, hsz⟩ := A
  subst hp
  exact K.goo fun t q => XS.iloadN X.here hx rfl (hb hby hd) hl q
theorem s_lloadN (A : On l Z n0 own bytes maxL ret R p e s m args below meth c T h k n) {i : Fin 4} {z : Int64} (hd : decode bytes pc = .ok (.lload_n i, 1)) (hp : pc + 1 = pc') (hl : Ls[i.val]? = some (.val (.long z))) (K : Wp p e below s n0 ck cs Q (T.setTop (mkF m pc' Ls (.long z :: st)))) : Wp p e below s n0 ck cs Q (T.setTop (mkF m pc Ls st)) := by
  obtain ⟨locs, X, N, eT, hx, hZ, hby, hml, hown, hret, hlk, hsz⟩ := A
  subst hp
  exact K.goo fun t q => XS.lloadN X.here hx rfl (hb hby hd) hl q
theorem s_aloadN (A : On l Z n0 own bytes maxL ret R p e s m args below meth c T h k n) {i : Fin 4} (hd : decode bytes pc = .ok (.aload_n i, 1)) (hp : pc + 1 = pc') (hl : Ls[i.val]? = some (.val v)) (hv : v.isRef = true) (K : Wp p e below s n0 ck cs Q (T.setTop (mkF m pc' Ls (v :: st)))) : Wp p e below s n0 ck cs Q (T.setTop (mkF m pc Ls st)) := by
  obtain ⟨locs, X, N, eT, hx, hZ, hby, hml, hown, hret, hlk, hsz⟩ := A
  subst hp
  exact K.goo fun t q => XS.aloadN X.here hx rfl (hb hby hd) hl hv q
theorem s_iload (A : On l Z n0 own bytes maxL ret R p e s m args below meth c T h k n) {i : Nat} {z : Int32} (hd : decode bytes pc = .ok (.iload i, 2)) (hp : pc + 2 = pc') (hl : Ls[i]? = some (.val (.int z))) (K : Wp p e below s n0 ck cs Q (T.setTop (mkF m pc' Ls (.int z :: st)))) : Wp p e below s n0 ck cs Q (T.setTop (mkF m pc Ls st)) := by
  obtain ⟨locs, X, N, eT, hx, hZ, hby, hml, hown, hret, hlk, hsz⟩ := A
  subst hp
  exact K.goo fun t q => XS.iload X.here hx rfl (hb hby hd) hl q
theorem s_lload (A : On l Z n0 own bytes maxL ret R p e s m args below meth c T h k n) {i : Nat} {z : Int64} (hd : decode bytes pc = .ok (.lload i, 2)) (hp : pc + 2 = pc') (hl : Ls[i]? = some (.val (.long z))) (K : Wp p e below s n0 ck cs Q (T.setTop (mkF m pc' Ls (.long z :: st)))) : Wp p e below s n0 ck cs Q (T.setTop (mkF m pc Ls st)) := by
  obtain ⟨locs, X, N, eT, hx, hZ, hby, hml, hown, hret, hlk, hsz⟩ := A
  subst hp
  exact K.goo fun t q => XS.lload X.here hx rfl (hb hby hd) hl q
theorem s_aload (A : On l Z n0 own bytes maxL ret R p e s m args below meth c T h k n) {i : Nat} (hd : decode bytes pc = .ok (.aload i, 2)) (hp : pc + 2 = pc') (hl : Ls[i]? = some (.val v)) (hv : v.isRef = true) (K : Wp p e below s n0 ck cs Q (T.setTop (mkF m pc' Ls (v :: st)))) : Wp p e below s n0 ck cs Q (T.setTop (mkF m pc Ls st)) := by
  obtain ⟨locs, X, N, eT, hx, hZ, hby, hml, hown, hret, hlk, hsz⟩ := A
  subst hp
  exact K.goo fun t q => XS.aload X.here hx rfl (hb hby hd) hl hv q
theorem s_istore (A : On l Z n0 own bytes maxL ret R p e s m args below meth c T h k n) {i : Nat} {z : Int32} (hd : decode bytes pc = .ok (.istore i, 2)) (hp : pc + 2 = pc') (hl : storeLocals Ls i (.int z) = some Ls') (K : Wp p e below s n0 ck cs Q (T.setTop (mkF m pc' Ls' st))) : Wp p e below s n0 ck cs Q (T.setTop (mkF m pc Ls (.int z :: st))) := by
  obtain ⟨locs, X, N, eT, hx, hZ, hby, hml, hown, hret, hlk, hsz⟩ := A
  subst hp
  exact K.goo fun t q => XS.istore X.here hx rfl (hb hby hd) rfl hl q
theorem s_lstore (A : On l Z n0 own bytes maxL ret R p e s m args below meth c T h k n) {i : Nat} {z : Int64} (hd : decode bytes pc = .ok (.lstore i, 2)) (hp : pc + 2 = pc') (hl : storeLocals Ls i (.long z) = some Ls') (K : Wp p e below s n0 ck cs Q (T.setTop (mkF m pc' Ls' st))) : Wp p e below s n0 ck cs Q (T.setTop (mkF m pc Ls (.long z :: st))) := by
  obtain ⟨locs, X, N, eT, hx, hZ, hby, hml, hown, hret, hlk, hsz⟩ := A
  subst hp
  exact K.goo fun t q => XS.lstore X.here hx rfl (hb hby hd) rfl hl q
theorem s_astore (A : On l Z n0 own bytes maxL ret R p e s m args below meth c T h k n) {i : Nat} (hd : decode bytes pc = .ok (.astore i, 2)) (hp : pc + 2 = pc') (hv : v.isRef = true) (hl : storeLocals Ls i v = some Ls') (K : Wp p e below s n0 ck cs Q (T.setTop (mkF m pc' Ls' st))) : Wp p e below s n0 ck cs Q (T.setTop (mkF m pc Ls (v :: st))) := by
  obtain ⟨locs, X, N, eT, hx, hZ, hby, hml, hown, hret, hlk, hsz⟩ := A
  subst hp
  exact K.goo fun t q => XS.astore X.here hx rfl (hb hby hd) rfl hv hl q
theorem s_iconst (A : On l Z n0 own bytes maxL ret R p e s m args below meth c T h k n) {i : Int} {z : Int32} (hd : decode bytes pc = .ok (.iconst i, 1)) (hp : pc + 1 = pc') (hz : Int32.ofInt i = z) (K : Wp p e below s n0 ck cs Q (T.setTop (mkF m pc' Ls (.int z :: st)))) : Wp p e below s n0 ck cs Q (T.setTop (mkF m pc Ls st)) := by
  obtain ⟨locs, X, N, eT, hx, hZ, hby, hml, hown, hret, hlk, hsz⟩ := A
  subst hp
  subst hz
  exact K.goo fun t q => XS.iconst X.here hx rfl (hb hby hd) q
theorem s_bipush (A : On l Z n0 own bytes maxL ret R p e s m args below meth c T h k n) {i : Int} {z : Int32} (hd : decode bytes pc = .ok (.bipush i, 2)) (hp : pc + 2 = pc') (hz : (Int8.ofInt i).toInt32 = z) (K : Wp p e below s n0 ck cs Q (T.setTop (mkF m pc' Ls (.int z :: st)))) : Wp p e below s n0 ck cs Q (T.setTop (mkF m pc Ls st)) := by
  obtain ⟨locs, X, N, eT, hx, hZ, hby, hml, hown, hret, hlk, hsz⟩ := A
  subst hp
  subst hz
  exact K.goo fun t q => XS.bipush X.here hx rfl (hb hby hd) q
theorem s_sipush (A : On l Z n0 own bytes maxL ret R p e s m args below meth c T h k n) {i : Int} {z : Int32} (hd : decode bytes pc = .ok (.sipush i, 3)) (hp : pc + 3 = pc') (hz : (Int16.ofInt i).toInt32 = z) (K : Wp p e below s n0 ck cs Q (T.setTop (mkF m pc' Ls (.int z :: st)))) : Wp p e below s n0 ck cs Q (T.setTop (mkF m pc Ls st)) := by
  obtain ⟨locs, X, N, eT, hx, hZ, hby, hml, hown, hret, hlk, hsz⟩ := A
  subst hp
  subst hz
  exact K.goo fun t q => XS.sipush X.here hx rfl (hb hby hd) q
theorem s_lconst (A : On l Z n0 own bytes maxL ret R p e s m args below meth c T h k n) {i : Fin 2} {z : Int64} (hd : decode bytes pc = .ok (.lconst i, 1)) (hp : pc + 1 = pc') (hz : Int64.ofNat i = z) (K : Wp p e below s n0 ck cs Q (T.setTop (mkF m pc' Ls (.long z :: st)))) : Wp p e below s n0 ck cs Q (T.setTop (mkF m pc Ls st)) := by
  obtain ⟨locs, X, N, eT, hx, hZ, hby, hml, hown, hret, hlk, hsz⟩ := A
  subst hp
  subst hz
  exact K.goo fun t q => XS.lconst X.here hx rfl (hb hby hd) q
theorem s_iadd (A : On l Z n0 own bytes maxL ret R p e s m args below meth c T h k n) {x y z : Int32} (hd : decode bytes pc = .ok (.iadd, 1)) (hp : pc + 1 = pc') (hz : x + y = z) (K : Wp p e below s n0 ck cs Q (T.setTop (mkF m pc' Ls (.int z :: st)))) : Wp p e below s n0 ck cs Q (T.setTop (mkF m pc Ls (.int y :: .int x :: st))) := by
  obtain ⟨locs, X, N, eT, hx, hZ, hby, hml, hown, hret, hlk, hsz⟩ := A
  subst hp
  subst hz
  exact K.goo fun t q => XS.iadd X.here hx rfl (hb hby hd) rfl q
theorem s_isub (A : On l Z n0 own bytes maxL ret R p e s m args below meth c T h k n) {x y z : Int32} (hd : decode bytes pc = .ok (.isub, 1)) (hp : pc + 1 = pc') (hz : x - y = z) (K : Wp p e below s n0 ck cs Q (T.setTop (mkF m pc' Ls (.int z :: st)))) : Wp p e below s n0 ck cs Q (T.setTop (mkF m pc Ls (.int y :: .int x :: st))) := by
  obtain ⟨locs, X, N, eT, hx, hZ, hby, hml, hown, hret, hlk, hsz⟩ := A
  subst hp
  subst hz
  exact K.goo fun t q => XS.isub X.here hx rfl (hb hby hd) rfl q
theorem s_imul (A : On l Z n0 own bytes maxL ret R p e s m args below meth c T h k n) {x y z : Int32} (hd : decode bytes pc = .ok (.imul, 1)) (hp : pc + 1 = pc') (hz : x * y = z) (K : Wp p e below s n0 ck cs Q (T.setTop (mkF m pc' Ls (.int z :: st)))) : Wp p e below s n0 ck cs Q (T.setTop (mkF m pc Ls (.int y :: .int x :: st))) := by
  obtain ⟨locs, X, N, eT, hx, hZ, hby, hml, hown, hret, hlk, hsz⟩ := A
  subst hp
  subst hz
  exact K.goo fun t q => XS.imul X.here hx rfl (hb hby hd) rfl q
theorem s_iand (A : On l Z n0 own bytes maxL ret R p e s m args below meth c T h k n) {x y z : Int32} (hd : decode bytes pc = .ok (.iand, 1)) (hp : pc + 1 = pc') (hz : x &&& y = z) (K : Wp p e below s n0 ck cs Q (T.setTop (mkF m pc' Ls (.int z :: st)))) : Wp p e below s n0 ck cs Q (T.setTop (mkF m pc Ls (.int y :: .int x :: st))) := by
  obtain ⟨locs, X, N, eT, hx, hZ, hby, hml, hown, hret, hlk, hsz⟩ := A
  subst hp
  subst hz
  exact K.goo fun t q => XS.iand X.here hx rfl (hb hby hd) rfl q
theorem s_land (A : On l Z n0 own bytes maxL ret R p e s m args below meth c T h k n) {x y z : Int64} (hd : decode bytes pc = .ok (.land, 1)) (hp : pc + 1 = pc') (hz : x &&& y = z) (K : Wp p e below s n0 ck cs Q (T.setTop (mkF m pc' Ls (.long z :: st)))) : Wp p e below s n0 ck cs Q (T.setTop (mkF m pc Ls (.long y :: .long x :: st))) := by
  obtain ⟨locs, X, N, eT, hx, hZ, hby, hml, hown, hret, hlk, hsz⟩ := A
  subst hp
  subst hz
  exact K.goo fun t q => XS.land X.here hx rfl (hb hby hd) rfl q
theorem s_idiv (A : On l Z n0 own bytes maxL ret R p e s m args below meth c T h k n) {x y z : Int32} (hd : decode bytes pc = .ok (.idiv, 1)) (hp : pc + 1 = pc') (hy : y ≠ 0) (hz : x / y = z) (K : Wp p e below s n0 ck cs Q (T.setTop (mkF m pc' Ls (.int z :: st)))) : Wp p e below s n0 ck cs Q (T.setTop (mkF m pc Ls (.int y :: .int x :: st))) := by
  obtain ⟨locs, X, N, eT, hx, hZ, hby, hml, hown, hret, hlk, hsz⟩ := A
  subst hp
  subst hz
  exact K.goo fun t q => XS.idiv X.here hx rfl (hb hby hd) rfl hy q
theorem s_irem (A : On l Z n0 own bytes maxL ret R p e s m args below meth c T h k n) {x y z : Int32} (hd : decode bytes pc = .ok (.irem, 1)) (hp : pc + 1 = pc') (hy : y ≠ 0) (hz : x % y = z) (K : Wp p e below s n0 ck cs Q (T.setTop (mkF m pc' Ls (.int z :: st)))) : Wp p e below s n0 ck cs Q (T.setTop (mkF m pc Ls (.int y :: .int x :: st))) := by
  obtain ⟨locs, X, N, eT, hx, hZ, hby, hml, hown, hret, hlk, hsz⟩ := A
  subst hp
  subst hz
  exact K.goo fun t q => iremM X hx rfl (hb hby hd) rfl hy q
theorem s_lshl (A : On l Z n0 own bytes maxL ret R p e s m args below meth c T h k n) {x z : Int64} {y : Int32} (hd : decode bytes pc = .ok (.lshl, 1)) (hp : pc + 1 = pc') (hz : x <<< (y &&& 0x3f).toInt64 = z) (K : Wp p e below s n0 ck cs Q (T.setTop (mkF m pc' Ls (.long z :: st)))) : Wp p e below s n0 ck cs Q (T.setTop (mkF m pc Ls (.int y :: .long x :: st))) := by
  obtain ⟨locs, X, N, eT, hx, hZ, hby, hml, hown, hret, hlk, hsz⟩ := A
  subst hp
  subst hz
  exact K.goo fun t q => XS.lshl X.here hx rfl (hb hby hd) rfl q
theorem s_lushr (A : On l Z n0 own bytes maxL ret R p e s m args below meth c T h k n) {x z : Int64} {y : Int32} (hd : decode bytes pc = .ok (.lushr, 1)) (hp : pc + 1 = pc') (hz : ushL x y = z) (K : Wp p e below s n0 ck cs Q (T.setTop (mkF m pc' Ls (.long z :: st)))) : Wp p e below s n0 ck cs Q (T.setTop (mkF m pc Ls (.int y :: .long x :: st))) := by
  obtain ⟨locs, X, N, eT, hx, hZ, hby, hml, hown, hret, hlk, hsz⟩ := A
  subst hp
  subst hz
  exact K.goo fun t q => XS.lushr X.here hx rfl (hb hby hd) rfl q
theorem s_lcmp (A : On l Z n0 own bytes maxL ret R p e s m args below meth c T h k n) {x y : Int64} (hd : decode bytes pc = .ok (.lcmp, 1)) (hp : pc + 1 = pc') (K : Wp p e below s n0 ck cs Q (T.setTop (mkF m pc' Ls (.int (lcmpW x y) :: st)))) : Wp p e below s n0 ck cs Q (T.setTop (mkF m pc Ls (.long y :: .long x :: st))) := by
  obtain ⟨locs, X, N, eT, hx, hZ, hby, hml, hown, hret, hlk, hsz⟩ := A
  subst hp
  exact K.goo fun t q => XS.lcmp X.here hx rfl (hb hby hd) rfl q
theorem s_dup (A : On l Z n0 own bytes maxL ret R p e s m args below meth c T h k n)  (hd : decode bytes pc = .ok (.dup, 1)) (hp : pc + 1 = pc') (hc : v.category = 1) (K : Wp p e below s n0 ck cs Q (T.setTop (mkF m pc' Ls (v :: v :: st)))) : Wp p e below s n0 ck cs Q (T.setTop (mkF m pc Ls (v :: st))) := by
  obtain ⟨locs, X, N, eT, hx, hZ, hby, hml, hown, hret, hlk, hsz⟩ := A
  subst hp
  exact K.goo fun t q => XS.dup X.here hx rfl (hb hby hd) rfl hc q
theorem s_goto (A : On l Z n0 own bytes maxL ret R p e s m args below meth c T h k n)  {o : Int} (hd : decode bytes pc = .ok (.goto o, 3))  (ho : 0 ≤ (pc : Int) + o) (hp : ((pc : Int) + o).toNat = pc') (K : Wp p e below s n0 ck cs Q (T.setTop (mkF m pc' Ls st))) : Wp p e below s n0 ck cs Q (T.setTop (mkF m pc Ls st)) := by
  obtain ⟨locs, X, N, eT, hx, hZ, hby, hml, hown, hret, hlk, hsz⟩ := A
  exact K.goo fun t q => XS.goto X.here hx rfl (pc0 := pc) rfl (hb hby hd) ho hp q
theorem s_ifY (A : On l Z n0 own bytes maxL ret R p e s m args below meth c T h k n) {cd : ClassFile.Cond} {x : Int32} {o : Int} (hd : decode bytes pc = .ok (.ifCond cd o, 3)) (hc : ifCond.holds cd x = true) (ho : 0 ≤ (pc : Int) + o) (hp : ((pc : Int) + o).toNat = pc') (K : Wp p e below s n0 ck cs Q (T.setTop (mkF m pc' Ls st))) : Wp p e below s n0 ck cs Q (T.setTop (mkF m pc Ls (.int x :: st))) := by
  obtain ⟨locs, X, N, eT, hx, hZ, hby, hml, hown, hret, hlk, hsz⟩ := A
  exact K.goo fun t q => XS.ifYes X.here hx rfl (pc0 := pc) rfl (hb hby hd) rfl hc ho hp q
theorem s_icmpY (A : On l Z n0 own bytes maxL ret R p e s m args below meth c T h k n) {cd : ClassFile.Cond} {x y : Int32} {o : Int} (hd : decode bytes pc = .ok (.if_icmp cd o, 3)) (hc : if_icmp.holds cd x y = true) (ho : 0 ≤ (pc : Int) + o) (hp : ((pc : Int) + o).toNat = pc') (K : Wp p e below s n0 ck cs Q (T.setTop (mkF m pc' Ls st))) : Wp p e below s n0 ck cs Q (T.setTop (mkF m pc Ls (.int y :: .int x :: st))) := by
  obtain ⟨locs, X, N, eT, hx, hZ, hby, hml, hown, hret, hlk, hsz⟩ := A
  exact K.goo fun t q => XS.icmpYes X.here hx rfl (pc0 := pc) rfl (hb hby hd) rfl hc ho hp q
theorem s_ifN (A : On l Z n0 own bytes maxL ret R p e s m args below meth c T h k n) {cd : ClassFile.Cond} {x : Int32} {o : Int} (hd : decode bytes pc = .ok (.ifCond cd o, 3)) (hp : pc + 3 = pc') (hc : ifCond.holds cd x = false) (K : Wp p e below s n0 ck cs Q (T.setTop (mkF m pc' Ls st))) : Wp p e below s n0 ck cs Q (T.setTop (mkF m pc Ls (.int x :: st))) := by
  obtain ⟨locs, X, N, eT, hx, hZ, hby, hml, hown, hret, hlk, hsz⟩ := A
  subst hp
  exact K.goo fun t q => XS.ifNo X.here hx rfl (hb hby hd) rfl hc q
theorem s_icmpN (A : On l Z n0 own bytes maxL ret R p e s m args below meth c T h k n) {cd : ClassFile.Cond} {x y : Int32} {o : Int} (hd : decode bytes pc = .ok (.if_icmp cd o, 3)) (hp : pc + 3 = pc') (hc : if_icmp.holds cd x y = false) (K : Wp p e below s n0 ck cs Q (T.setTop (mkF m pc' Ls st))) : Wp p e below s n0 ck cs Q (T.setTop (mkF m pc Ls (.int y :: .int x :: st))) := by
  obtain ⟨locs, X, N, eT, hx, hZ, hby, hml, hown, hret, hlk, hsz⟩ := A
  subst hp
  exact K.goo fun t q => XS.icmpNo X.here hx rfl (hb hby hd) rfl hc q
theorem s_ldcInt (A : On l Z n0 own bytes maxL ret R p e s m args below meth c T h k n) {i : Nat} {z : Int32} (hd : decode bytes pc = .ok (.ldc i, 2)) (hp : pc + 2 = pc') (w0 : (Cond.constant own i z).before a0 Z = true) (K : Wp p e below s n0 ck cs Q (T.setTop (mkF m pc' Ls (.int z :: st)))) : Wp p e below s n0 ck cs Q (T.setTop (mkF m pc Ls st)) := by
  obtain ⟨locs, X, N, eT, hx, hZ, hby, hml, hown, hret, hlk, hsz⟩ := A
  subst hp
  exact K.goo fun t q => X.ldcInt hx hown (mvT hZ w0) (g := mkF m pc Ls st) rfl (hb hby hd) t q
theorem idx_ok {j : Int32} {i : Nat} (hj : j.toInt = (i : Int)) : j.toNatClampNeg = i := by show j.toInt.toNat = i; omega
theorem idx_in' {j : Int32} {i : Nat} {N : Nat} (hj : j.toInt = (i : Int)) (hi : i < N) : ¬ (j < 0 ∨ N ≤ j.toNatClampNeg) := by
  rw [idx_ok hj, Int32.lt_iff_toInt_lt, hj]
  have : (0 : Int32).toInt = 0 := by decide
  omega
theorem s_newarray (A : On l Z n0 own bytes maxL ret R p e s m args below meth c T h k n) {aty : ArrayType} {dv : Value} {z : Int32} {i cap : Nat} (hty : newarray.typeOf aty = ty) (hdv : defaultValue ty = dv) (wa : (Cond.arrayClass ty).before a0 Z = true) (hz : z.toInt = (i : Int)) (hcap : i ≤ cap) (hbig : cap * 8 ≤ 536870912) (hc : k + 1 ≤ R.cells) (hs : n + cap ≤ R.slots) (hd : decode bytes pc = .ok (.newarray aty, 2)) (hp : pc + 2 = pc') (K : ∀ T' h' b, On l Z n0 own bytes maxL ret R p e s m args below meth c T' h' (k + 1) (n + cap) → h.size = b → n0 ≤ b → Ext h h' → AA Z h' b ty (List.replicate i dv) → Wp p e below s n0 ck cs Q (T'.setTop (mkF m pc' Ls (.ref b :: st)))) : Wp p e below s n0 ck cs Q (T.setTop (mkF m pc Ls (.int z :: st))) := by
  obtain ⟨locs, X, N, eT, hx, hZ, hby, hml, hown, hret, hlk, hsz⟩ := A
  subst hp
  subst hty hdv
  have z0 : ¬ z < 0 := by rw [Int32.lt_iff_toInt_lt, hz]; have : (0 : Int32).toInt = 0 := by decide
                          omega
  obtain ⟨T', h', cA, X', e', E, A', q⟩ := newP X hx hZ wa eT (g := mkF m pc Ls (.int z :: st)) rfl (hb hby hd) rfl z0 (cap := cap) (by rw [idx_ok hz]; exact hcap) hbig hc hs
  have hz' : n0 ≤ h.size := by rw [← eT]; exact Nat.le_trans hsz X.same.2.1
  exact (K T' h' _ ⟨_, X', N, e', hx, hZ, hby, hml, hown, hret, hlk, hsz⟩ rfl hz' E (AA.new A' hz)).goo q
theorem s_lastore (A : On l Z n0 own bytes maxL ret R p e s m args below meth c T h k n) {x : Int64} {j : Int32} {i : Nat} (V : AA Z h a .long vs) (hj : j.toInt = (i : Int)) (hi : i < vs.length) (ha : n0 ≤ a) (hd : decode bytes pc = .ok (.lastore, 1)) (hp : pc + 1 = pc') (K : ∀ T' h', On l Z n0 own bytes maxL ret R p e s m args below meth c T' h' k n → Wr h h' a i (.long x) → AA Z h' a .long (vs.set i (.long x)) → Wp p e below s n0 ck cs Q (T'.setTop (mkF m pc' Ls st))) : Wp p e below s n0 ck cs Q (T.setTop (mkF m pc Ls (.long x :: .int j :: .ref a :: st))) := by
  obtain ⟨locs, X, N, eT, hx, hZ, hby, hml, hown, hret, hlk, hsz⟩ := A
  subst hp
  have V0 := V
  obtain ⟨cl, Ar, r1, r2⟩ := V0
  obtain ⟨T', h', X', e', W, q⟩ := stJ X hx hZ eT Ar (j := j) (idx_in' hj (by rw [r1]; simpa using hi)) (g := mkF m pc Ls (.long x :: .int j :: .ref a :: st)) rfl rfl (hb hby hd)
  have W' := W
  rw [idx_ok hj] at W'
  exact (K T' h' ⟨_, X', Fr.snoc X' N ha, e', hx, hZ, hby, hml, hown, hret, hlk, hsz⟩ W' (V.set W')).goo q
theorem s_laload (A : On l Z n0 own bytes maxL ret R p e s m args below meth c T h k n) {j : Int32} {i : Nat} (V : AA Z h a .long vs) (hj : j.toInt = (i : Int)) (hv : vs[i]? = some v) (hd : decode bytes pc = .ok (.laload, 1)) (hp : pc + 1 = pc') (K : Wp p e below s n0 ck cs Q (T.setTop (mkF m pc' Ls (v :: st)))) : Wp p e below s n0 ck cs Q (T.setTop (mkF m pc Ls (.int j :: .ref a :: st))) := by
  obtain ⟨locs, X, N, eT, hx, hZ, hby, hml, hown, hret, hlk, hsz⟩ := A
  subst hp
  obtain ⟨cl, Ar, r1, r2⟩ := V
  have hi : i < vs.length := (List.getElem?_eq_some_iff.mp hv).1
  exact K.goo fun t q => X.laload hx (j := j) (v := v) (by rw [eT]; exact Ar.1) (State.isArrayOf_alike hZ.alike Ar.2.1) Ar.2.2 (idx_in' hj (by rw [r1]; simpa using hi)) (by rw [idx_ok hj, r1]; simpa using hv) (g := mkF m pc Ls (.int j :: .ref a :: st)) rfl rfl (hb hby hd) t q
theorem s_static (A : On l Z n0 own bytes maxL ret R p e s m args below meth c T h k n) {index : Nat} {y : MethodName} {bytes' : ByteArray} {maxL' : Nat} {ret' : Option FieldType} {rm : Room} {argsL rest : List Value} {Q' : Option Value → Heap → Prop} (M : Met l Z n0 y bytes' maxL' ret' rm argsL.toArray h Q') (wl : (Cond.methodLink own index y).before a0 Z = true) (ws : (Cond.static y).before a0 Z = true) (wz : (Cond.initialized y.cls).before a0 Z = true) (wc : (Cond.code y bytes' maxL' ret').before a0 Z = true) (hy : y.cls ≠ "java/lang/invoke/MethodHandle" ∧ y.cls ≠ "java/lang/invoke/VarHandle") {sig : MethodDescriptor} (hsig : parseMethodDescriptor y.desc = some sig) (hlen : argsL.length = sig.parameters.length) {W : Nat} (hf : rm.frames + 1 ≤ R.frames) (hl : W + (maxL' + 11) + rm.locals ≤ R.locals) (hW : (rest.map fun v => v.category).sum ≤ W) (hc : k + rm.cells ≤ R.cells) (hs : n + rm.slots ≤ R.slots) (hLs : Ls.size = maxL) {stk : List Value} (hst : stk = argsL.reverse ++ rest) (hd : decode bytes pc = .ok (.invokestatic index, 3)) (hp : pc + 3 = pc') (K : ∀ T' h' v, On l Z n0 own bytes maxL ret R p e s m args below meth c T' h' (k + rm.cells) (n + rm.slots) → Q' v h' → Wp p e below s n0 ck cs Q (T'.setTop (mkF m pc' Ls (v.toList ++ rest)))) : Wp p e below s n0 ck cs Q (T.setTop (mkF m pc Ls stk)) := by
  obtain ⟨locs, X, N, eT, hx, hZ, hby, hml, hown, hret, hlk, hsz⟩ := A
  subst hp
  obtain ⟨v, _, ⟨T', L', k', n'⟩, -, X', ⟨Lc, ⟨Nq, hQ⟩, l1, l2, l3⟩, q⟩ := Jvm.LawKit.callS X hx (y := y) hown (mvT hZ wl) (mvT hZ ws) (mvT hZ wz) (mvT hZ wc) hy (backOf (Q := fun v h L => Fr n0 L ∧ Q' v h) (W := W) (M []) hZ wc wz hf hl) (g := mkF m pc Ls stk) rfl (by rw [hml]; exact hLs) (argsL := argsL) (rest := rest) (lenOf hsig hlen) hst (by show 2 * 0 + _ ≤ _; simpa using hW) (hb hby hd) (fun _ _ => ⟨rfl, eT, hc, hs⟩)
  dsimp only [Pt.U, Pt.locs, Pt.cells, Pt.slots] at X' l1 l2 l3 q hQ Nq
  subst l1 l2 l3
  exact (K T' T'.heap v ⟨_, X', Fr.app N Nq, rfl, hx, hZ, hby, hml, hown, hret, hlk, hsz⟩ hQ).goo q
theorem r_val (A : On l Z n0 own bytes maxL ret R p e s m args below meth c T h k n) {i : Instr} {t : FieldType} (hr : ret = some t) (hn0 : narrow t v = v) (hi : (i = .ireturn ∧ (t = .int ∨ t = .boolean ∨ t = .byte ∨ t = .char ∨ t = .short) ∧ ∃ z, v = .int z) ∨ (i = .lreturn ∧ t = .long ∧ ∃ z, v = .long z) ∨ (i = .dreturn ∧ t = .double ∧ ∃ z, v = .double z) ∨ (i = .freturn ∧ t = .float ∧ ∃ z, v = .float z) ∨ (i = .areturn ∧ t.isReference = true ∧ v.isRef = true)) (hd : decode bytes pc = .ok (i, 1)) (hk : k ≤ ck) (hn : n ≤ cs) (q : Q (some v) h) : Wp p e below s n0 ck cs Q (T.setTop (mkF m pc Ls (v :: st))) := by
  obtain ⟨locs, X, N, eT, hx, hZ, hby, hml, hown, hret, hlk, hsz⟩ := A
  have hR : meth.sig.returnType = some t := hret.trans hr
  obtain ⟨fs, h1, hrun, hended, hW, hsame⟩ := X.leave (v := some v) (fun z => by rw [hR] at z; cases z) hlk
  exact ⟨_, _, retOut X hx hR hn0 hi (hb hby hd) h1, hrun, hended, _, _, rfl, ⟨N, by show Q (some v) T.heap; rw [eT]; exact q⟩, ⟨_, rfl⟩, hW, hsame.mono hk hn⟩
theorem r_bool (A : On l Z n0 own bytes maxL ret R p e s m args below meth c T h k n) {z : Int32} (hr : ret = some .boolean) (hz : z = 0 ∨ z = 1) (hd : decode bytes pc = .ok (.ireturn, 1)) (hk : k ≤ ck) (hn : n ≤ cs) (q : Q (some (.int z)) h) : Wp p e below s n0 ck cs Q (T.setTop (mkF m pc Ls (.int z :: st))) := r_val A hr (by rcases hz with rfl | rfl <;> rfl) (Or.inl ⟨rfl, Or.inr (Or.inl rfl), _, rfl⟩) hd hk hn q
theorem r_long (A : On l Z n0 own bytes maxL ret R p e s m args below meth c T h k n) {z : Int64} (hr : ret = some .long) (hd : decode bytes pc = .ok (.lreturn, 1)) (hk : k ≤ ck) (hn : n ≤ cs) (q : Q (some (.long z)) h) : Wp p e below s n0 ck cs Q (T.setTop (mkF m pc Ls (.long z :: st))) := r_val A hr rfl (Or.inr (Or.inl ⟨rfl, rfl, _, rfl⟩)) hd hk hn q
end Kit
end Jvm.Ow
namespace Jvm.Pilot.@@N@@
open Jvm Jvm.ClassFile Sem Op Lib Jvm.Free Jvm.Stand Jvm.LawKit Jvm.RoadKit Jvm.Ow Bundle Jvm.Pilot.@@N@@.Jvm.D
theorem d1_0 : decode method_2_code 0 = .ok (.iload 8, 2) := by decide +kernel
theorem d1_2 : decode method_2_code 2 = .ok (.ifCond .ne 5, 3) := by decide +kernel
theorem d1_5 : decode method_2_code 5 = .ok (.lload_n 0, 1) := by decide +kernel
theorem d1_6 : decode method_2_code 6 = .ok (.lreturn, 1) := by decide +kernel
abbrev y0_pick : MethodName := ⟨"com/example/kithgraph/kithgraph/cluster/BitSetsContainsPinLaw", "pick", "(JJJJI)J"⟩
theorem pn_com_example_kithgraph_kithgraph_cluster_BitSetsContainsPinLaw : plainName "com/example/kithgraph/kithgraph/cluster/BitSetsContainsPinLaw" = true := by first | (simp [plainName, overriddenIn]; done) | decide +kernel
abbrev c0_BitSetsContainsPinLaw : String := "com/example/kithgraph/kithgraph/cluster/BitSetsContainsPinLaw"
theorem d1_7 : decode method_2_code 7 = .ok (.iload 8, 2) := by decide +kernel
theorem d1_9 : decode method_2_code 9 = .ok (.iconst 1, 1) := by decide +kernel
theorem d1_10 : decode method_2_code 10 = .ok (.if_icmp .ne 5, 3) := by decide +kernel
theorem d1_13 : decode method_2_code 13 = .ok (.lload_n 2, 1) := by decide +kernel
theorem d1_14 : decode method_2_code 14 = .ok (.lreturn, 1) := by decide +kernel
theorem d1_15 : decode method_2_code 15 = .ok (.iload 8, 2) := by decide +kernel
theorem d1_17 : decode method_2_code 17 = .ok (.iconst 2, 1) := by decide +kernel
theorem d1_18 : decode method_2_code 18 = .ok (.if_icmp .ne 6, 3) := by decide +kernel
theorem d1_21 : decode method_2_code 21 = .ok (.lload 4, 2) := by decide +kernel
theorem d1_23 : decode method_2_code 23 = .ok (.lreturn, 1) := by decide +kernel
theorem d1_24 : decode method_2_code 24 = .ok (.lload 6, 2) := by decide +kernel
theorem d1_26 : decode method_2_code 26 = .ok (.lreturn, 1) := by decide +kernel
theorem d2_0 : decode prog_6_method_5_code 0 = .ok (.aload_n 0, 1) := by decide +kernel
theorem d2_1 : decode prog_6_method_5_code 1 = .ok (.iload_n 1, 1) := by decide +kernel
theorem d2_2 : decode prog_6_method_5_code 2 = .ok (.iload_n 2, 1) := by decide +kernel
theorem d2_3 : decode prog_6_method_5_code 3 = .ok (.bipush 64, 2) := by decide +kernel
theorem d2_5 : decode prog_6_method_5_code 5 = .ok (.idiv, 1) := by decide +kernel
theorem d2_6 : decode prog_6_method_5_code 6 = .ok (.iadd, 1) := by decide +kernel
theorem d2_7 : decode prog_6_method_5_code 7 = .ok (.laload, 1) := by decide +kernel
theorem d2_8 : decode prog_6_method_5_code 8 = .ok (.lconst 1, 1) := by decide +kernel
theorem d2_9 : decode prog_6_method_5_code 9 = .ok (.iload_n 2, 1) := by decide +kernel
theorem d2_10 : decode prog_6_method_5_code 10 = .ok (.lshl, 1) := by decide +kernel
theorem d2_11 : decode prog_6_method_5_code 11 = .ok (.land, 1) := by decide +kernel
theorem d2_12 : decode prog_6_method_5_code 12 = .ok (.lconst 0, 1) := by decide +kernel
theorem d2_13 : decode prog_6_method_5_code 13 = .ok (.lcmp, 1) := by decide +kernel
theorem d2_14 : decode prog_6_method_5_code 14 = .ok (.ifCond .eq 7, 3) := by decide +kernel
theorem d2_21 : decode prog_6_method_5_code 21 = .ok (.iconst 0, 1) := by decide +kernel
theorem d2_22 : decode prog_6_method_5_code 22 = .ok (.ireturn, 1) := by decide +kernel
theorem d2_17 : decode prog_6_method_5_code 17 = .ok (.iconst 1, 1) := by decide +kernel
theorem d2_18 : decode prog_6_method_5_code 18 = .ok (.goto 4, 3) := by decide +kernel
abbrev y1_contains : MethodName := ⟨"com/example/kithgraph/kithgraph/cluster/BitSets", "contains", "([JII)Z"⟩
theorem pn_com_example_kithgraph_kithgraph_cluster_BitSets : plainName "com/example/kithgraph/kithgraph/cluster/BitSets" = true := by first | (simp [plainName, overriddenIn]; done) | decide +kernel
abbrev c1_BitSets : String := "com/example/kithgraph/kithgraph/cluster/BitSets"
theorem w0 {Z : State} {a0 : Array Value} (hw : ∀ d ∈ tables_1, d.before a0 Z = true) : (Jvm.Cond.arrayClass Jvm.ClassFile.FieldType.long).before a0 Z = true := hw _ (List.mem_of_getElem? (i := 0) rfl)
theorem w1 {Z : State} {a0 : Array Value} (hw : ∀ d ∈ tables_1, d.before a0 Z = true) : (Jvm.Cond.constant "com/example/kithgraph/kithgraph/cluster/BitSetsContainsPinLaw" (7 : Nat) (2147483647 : Int32)).before a0 Z = true := hw _ (List.mem_of_getElem? (i := 1) rfl)
theorem w2 {Z : State} {a0 : Array Value} (hw : ∀ d ∈ tables_1, d.before a0 Z = true) : (Jvm.Cond.methodLink "com/example/kithgraph/kithgraph/cluster/BitSetsContainsPinLaw" (8 : Nat) ({ cls := "com/example/kithgraph/kithgraph/cluster/BitSetsContainsPinLaw", name := "pick", desc := "(JJJJI)J" } : Jvm.MethodName)).before a0 Z = true := hw _ (List.mem_of_getElem? (i := 2) rfl)
theorem pd__JJJJI_J : parseMethodDescriptor "(JJJJI)J" = some ⟨[.long, .long, .long, .long, .int], some .long⟩ := by decide +kernel
theorem w4 {Z : State} {a0 : Array Value} (hw : ∀ d ∈ tables_1, d.before a0 Z = true) : (Jvm.Cond.initialized "com/example/kithgraph/kithgraph/cluster/BitSetsContainsPinLaw").before a0 Z = true := hw _ (List.mem_of_getElem? (i := 4) rfl)
theorem w5 {Z : State} {a0 : Array Value} (hw : ∀ d ∈ tables_1, d.before a0 Z = true) : (Jvm.Cond.code ({ cls := "com/example/kithgraph/kithgraph/cluster/BitSetsContainsPinLaw", name := "pick", desc := "(JJJJI)J" } : Jvm.MethodName) method_2_code (9 : Nat) (Option.some Jvm.ClassFile.FieldType.long)).before a0 Z = true := hw _ (List.mem_of_getElem? (i := 5) rfl)
theorem w3 {Z : State} {a0 : Array Value} (hw : ∀ d ∈ tables_1, d.before a0 Z = true) : (Jvm.Cond.static ({ cls := "com/example/kithgraph/kithgraph/cluster/BitSetsContainsPinLaw", name := "pick", desc := "(JJJJI)J" } : Jvm.MethodName)).before a0 Z = true := hw _ (List.mem_of_getElem? (i := 3) rfl)
theorem w6 {Z : State} {a0 : Array Value} (hw : ∀ d ∈ tables_1, d.before a0 Z = true) : (Jvm.Cond.methodLink "com/example/kithgraph/kithgraph/cluster/BitSetsContainsPinLaw" (14 : Nat) ({ cls := "com/example/kithgraph/kithgraph/cluster/BitSets", name := "contains", desc := "([JII)Z" } : Jvm.MethodName)).before a0 Z = true := hw _ (List.mem_of_getElem? (i := 6) rfl)
theorem pd___JII_Z : parseMethodDescriptor "([JII)Z" = some ⟨[(.array .long), .int, .int], some .boolean⟩ := by decide +kernel
theorem w8 {Z : State} {a0 : Array Value} (hw : ∀ d ∈ tables_1, d.before a0 Z = true) : (Jvm.Cond.initialized "com/example/kithgraph/kithgraph/cluster/BitSets").before a0 Z = true := hw _ (List.mem_of_getElem? (i := 8) rfl)
theorem w9 {Z : State} {a0 : Array Value} (hw : ∀ d ∈ tables_1, d.before a0 Z = true) : (Jvm.Cond.code ({ cls := "com/example/kithgraph/kithgraph/cluster/BitSets", name := "contains", desc := "([JII)Z" } : Jvm.MethodName) prog_6_method_5_code (3 : Nat) (Option.some Jvm.ClassFile.FieldType.boolean)).before a0 Z = true := hw _ (List.mem_of_getElem? (i := 9) rfl)
theorem w7 {Z : State} {a0 : Array Value} (hw : ∀ d ∈ tables_1, d.before a0 Z = true) : (Jvm.Cond.static ({ cls := "com/example/kithgraph/kithgraph/cluster/BitSets", name := "contains", desc := "([JII)Z" } : Jvm.MethodName)).before a0 Z = true := hw _ (List.mem_of_getElem? (i := 7) rfl)
theorem own_bv1 (W : BitVec 64) (n : Nat) : (W >>> n) &&& 1#64 = 1#64 ↔ W.getLsbD n = true := by
  constructor
  · intro h
    have := congrArg (fun z => z.getLsbD 0) h
    simpa using this
  · intro h
    apply BitVec.eq_of_getLsbD_eq
    intro i hi
    by_cases h0 : i = 0
    · subst h0; simp [h]
    · simp [h0]
theorem own_bv2 (W : BitVec 64) (n : Nat) (hn : n < 64) : W &&& (1#64 <<< n) = 0#64 ↔ W.getLsbD n = false := by
  constructor
  · intro h
    have := congrArg (fun z => z.getLsbD n) h
    simpa [hn] using this
  · intro h
    apply BitVec.eq_of_getLsbD_eq
    intro i hi
    by_cases h0 : i = n
    · subst h0; simp [h]
    · simp [hi]
      intro h1 h2
      omega
theorem own_ush_bv (x : Int64) (q : Int32) (k : Nat) (hk : q.toBitVec.toNat % 64 = k) : (ushL x q).toBitVec = x.toBitVec >>> k := by
  show x.toBitVec >>> ((q &&& 0x3f).toInt64.toBitVec % 64) = _
  have h5 := (sm64 q k hk).2
  rw [BitVec.ushiftRight_eq', BitVec.toNat_umod, (sm64 q k hk).1, BitVec.toNat_ofNat]
  congr 1
  show k % 2 ^ 64 % 64 = k
  omega
theorem own_shl_bv (x : Int64) (q : Int32) (k : Nat) (hk : q.toBitVec.toNat % 64 = k) : (x <<< (q &&& 63).toInt64).toBitVec = x.toBitVec <<< k := by
  show x.toBitVec <<< ((q &&& 0x3f).toInt64.toBitVec.smod 64) = _
  rw [BitVec.shiftLeft_eq', (sm64 q k hk).1, smod64 k (sm64 q k hk).2]
theorem own_tn (q : Int32) (h : 0 ≤ q.toInt) : (q.toBitVec.toNat : Int) = q.toInt := by
  have t1 : q.toInt = q.toBitVec.toInt := rfl
  have b1 := q.toBitVec.isLt
  rw [BitVec.toInt_eq_toNat_cond] at t1
  split at t1 <;> omega
def bvf (w : Int64) (bt : Int32) : Int32 := if (w &&& ((1 : Int64) <<< (bt &&& 63).toInt64)) = 0 then 0 else 1
theorem own_bit (w : Int64) (bt rr : Int32) (d : Int) (h0 : 0 ≤ bt.toInt) (h1 : 0 ≤ rr.toInt ∧ rr.toInt < 64) (h2 : rr.toInt = bt.toInt - 64 * d) : ((ushL w rr) &&& (1 : Int64)) = 1 ↔ ¬ (w &&& ((1 : Int64) <<< (bt &&& 63).toInt64)) = 0 := by
  have a1 := own_tn bt h0
  have a2 := own_tn rr h1.1
  obtain ⟨k, hk⟩ : ∃ k : Nat, k = rr.toBitVec.toNat := ⟨_, rfl⟩
  have k1 : rr.toBitVec.toNat % 64 = k := by omega
  have k2 : bt.toBitVec.toNat % 64 = k := by omega
  have k3 : k < 64 := by omega
  rw [← Int64.toBitVec_inj, ← Int64.toBitVec_inj, Int64.toBitVec_and, Int64.toBitVec_and, own_ush_bv w rr k k1, own_shl_bv 1 bt k k2]
  show (w.toBitVec >>> k &&& 1#64 = 1#64) ↔ ¬ (w.toBitVec &&& (1#64 <<< k) = 0#64)
  rw [own_bv1, own_bv2 _ _ k3]
  simp
theorem own_b1 (w : Int64) (bt rr : Int32) (d : Int) (h0 : 0 ≤ bt.toInt) (h1 : 0 ≤ rr.toInt ∧ rr.toInt < 64) (h2 : rr.toInt = bt.toInt - 64 * d) (h : ((ushL w rr) &&& (1 : Int64)) = 1) : bvf w bt = 1 := if_neg ((own_bit w bt rr d h0 h1 h2).1 h)
theorem own_b0 (w : Int64) (bt rr : Int32) (d : Int) (h0 : 0 ≤ bt.toInt) (h1 : 0 ≤ rr.toInt ∧ rr.toInt < 64) (h2 : rr.toInt = bt.toInt - 64 * d) (h : ¬ ((ushL w rr) &&& (1 : Int64)) = 1) : bvf w bt = 0 := if_pos (Classical.byContradiction fun q => h ((own_bit w bt rr d h0 h1 h2).2 q))
theorem own_st (x : Int32) : (x &&& (1 : Int32)) = 0 ∨ (x &&& (1 : Int32)) = 1 := by
  have e := c_mask x (1 : Int32) 1 (by decide) (by decide)
  have q : (x &&& (1 : Int32)).toInt = 0 ∨ (x &&& (1 : Int32)).toInt = 1 := by omega
  rcases q with q | q
  · exact Or.inl (Int32.toInt_inj.mp (q.trans (by decide)))
  · exact Or.inr (Int32.toInt_inj.mp (q.trans (by decide)))
set_option maxRecDepth 65536 in
set_option maxHeartbeats 40000000 in
theorem pick0 (l : Launch) (Z : State) (a0 : Array Value) (hw : ∀ d ∈ tables_1, d.before a0 Z = true) (n0 : Nat) (h0 : Heap) (Z0 : n0 ≤ h0.size) (v0 v1 v2 v3 : Int64)  :
    Met l Z n0 y0_pick method_2_code 9 (Option.some Jvm.ClassFile.FieldType.long) ({ frames := 0, cells := 0, slots := 0, locals := 0 } : Room) #[(.long v0), (.long v1), (.long v2), (.long v3), (.int (0 : Int32))] h0 (fun v h => v = some (.long v0) ∧ h = h0) := by
  refine met_intro (own := c0_BitSetsContainsPinLaw) (plainFor_of_name pn_com_example_kithgraph_kithgraph_cluster_BitSetsContainsPinLaw) rfl Z0 ?_
  intro p e s m below meth c T A hnm
  refine Wp.cast (g' := mkF m 0 #[jv v0, S2, jv v1, S2, jv v2, S2, jv v3, S2, iv 0] []) (by first | (simp [entryFrame, mkF, argsToLocals, Value.category, maxLocals, jv, S2, U0, iv, rv]; done) | rfl) ?_
  refine s_iload (pc' := 2) A d1_0 rfl rfl ?_
  refine s_ifN (pc' := 5) A d1_2 rfl (by decide) ?_
  refine s_lloadN (pc' := 6) A d1_5 rfl rfl ?_
  exact r_long A rfl d1_6 (by decide) (by decide) (⟨rfl, rfl⟩)
set_option maxRecDepth 65536 in
set_option maxHeartbeats 40000000 in
theorem pick1 (l : Launch) (Z : State) (a0 : Array Value) (hw : ∀ d ∈ tables_1, d.before a0 Z = true) (n0 : Nat) (h0 : Heap) (Z0 : n0 ≤ h0.size) (v0 v1 v2 v3 : Int64)  :
    Met l Z n0 y0_pick method_2_code 9 (Option.some Jvm.ClassFile.FieldType.long) ({ frames := 0, cells := 0, slots := 0, locals := 0 } : Room) #[(.long v0), (.long v1), (.long v2), (.long v3), (.int (1 : Int32))] h0 (fun v h => v = some (.long v1) ∧ h = h0) := by
  refine met_intro (own := c0_BitSetsContainsPinLaw) (plainFor_of_name pn_com_example_kithgraph_kithgraph_cluster_BitSetsContainsPinLaw) rfl Z0 ?_
  intro p e s m below meth c T A hnm
  refine Wp.cast (g' := mkF m 0 #[jv v0, S2, jv v1, S2, jv v2, S2, jv v3, S2, iv 1] []) (by first | (simp [entryFrame, mkF, argsToLocals, Value.category, maxLocals, jv, S2, U0, iv, rv]; done) | rfl) ?_
  refine s_iload (pc' := 2) A d1_0 rfl rfl ?_
  refine s_ifY (pc' := 7) A d1_2 (by decide) (by decide) (by decide) ?_
  refine s_iload (pc' := 9) A d1_7 rfl rfl ?_
  refine s_iconst (pc' := 10) (z := (1 : Int32)) A d1_9 rfl (by decide) ?_
  refine s_icmpN (pc' := 13) A d1_10 rfl (by decide) ?_
  refine s_lloadN (pc' := 14) A d1_13 rfl rfl ?_
  exact r_long A rfl d1_14 (by decide) (by decide) (⟨rfl, rfl⟩)
set_option maxRecDepth 65536 in
set_option maxHeartbeats 40000000 in
theorem pick2 (l : Launch) (Z : State) (a0 : Array Value) (hw : ∀ d ∈ tables_1, d.before a0 Z = true) (n0 : Nat) (h0 : Heap) (Z0 : n0 ≤ h0.size) (v0 v1 v2 v3 : Int64)  :
    Met l Z n0 y0_pick method_2_code 9 (Option.some Jvm.ClassFile.FieldType.long) ({ frames := 0, cells := 0, slots := 0, locals := 0 } : Room) #[(.long v0), (.long v1), (.long v2), (.long v3), (.int (2 : Int32))] h0 (fun v h => v = some (.long v2) ∧ h = h0) := by
  refine met_intro (own := c0_BitSetsContainsPinLaw) (plainFor_of_name pn_com_example_kithgraph_kithgraph_cluster_BitSetsContainsPinLaw) rfl Z0 ?_
  intro p e s m below meth c T A hnm
  refine Wp.cast (g' := mkF m 0 #[jv v0, S2, jv v1, S2, jv v2, S2, jv v3, S2, iv 2] []) (by first | (simp [entryFrame, mkF, argsToLocals, Value.category, maxLocals, jv, S2, U0, iv, rv]; done) | rfl) ?_
  refine s_iload (pc' := 2) A d1_0 rfl rfl ?_
  refine s_ifY (pc' := 7) A d1_2 (by decide) (by decide) (by decide) ?_
  refine s_iload (pc' := 9) A d1_7 rfl rfl ?_
  refine s_iconst (pc' := 10) (z := (1 : Int32)) A d1_9 rfl (by decide) ?_
  refine s_icmpY (pc' := 15) A d1_10 (by decide) (by decide) (by decide) ?_
  refine s_iload (pc' := 17) A d1_15 rfl rfl ?_
  refine s_iconst (pc' := 18) (z := (2 : Int32)) A d1_17 rfl (by decide) ?_
  refine s_icmpN (pc' := 21) A d1_18 rfl (by decide) ?_
  refine s_lload (pc' := 23) A d1_21 rfl rfl ?_
  exact r_long A rfl d1_23 (by decide) (by decide) (⟨rfl, rfl⟩)
set_option maxRecDepth 65536 in
set_option maxHeartbeats 40000000 in
theorem pick3 (l : Launch) (Z : State) (a0 : Array Value) (hw : ∀ d ∈ tables_1, d.before a0 Z = true) (n0 : Nat) (h0 : Heap) (Z0 : n0 ≤ h0.size) (v0 v1 v2 v3 : Int64)  :
    Met l Z n0 y0_pick method_2_code 9 (Option.some Jvm.ClassFile.FieldType.long) ({ frames := 0, cells := 0, slots := 0, locals := 0 } : Room) #[(.long v0), (.long v1), (.long v2), (.long v3), (.int (3 : Int32))] h0 (fun v h => v = some (.long v3) ∧ h = h0) := by
  refine met_intro (own := c0_BitSetsContainsPinLaw) (plainFor_of_name pn_com_example_kithgraph_kithgraph_cluster_BitSetsContainsPinLaw) rfl Z0 ?_
  intro p e s m below meth c T A hnm
  refine Wp.cast (g' := mkF m 0 #[jv v0, S2, jv v1, S2, jv v2, S2, jv v3, S2, iv 3] []) (by first | (simp [entryFrame, mkF, argsToLocals, Value.category, maxLocals, jv, S2, U0, iv, rv]; done) | rfl) ?_
  refine s_iload (pc' := 2) A d1_0 rfl rfl ?_
  refine s_ifY (pc' := 7) A d1_2 (by decide) (by decide) (by decide) ?_
  refine s_iload (pc' := 9) A d1_7 rfl rfl ?_
  refine s_iconst (pc' := 10) (z := (1 : Int32)) A d1_9 rfl (by decide) ?_
  refine s_icmpY (pc' := 15) A d1_10 (by decide) (by decide) (by decide) ?_
  refine s_iload (pc' := 17) A d1_15 rfl rfl ?_
  refine s_iconst (pc' := 18) (z := (2 : Int32)) A d1_17 rfl (by decide) ?_
  refine s_icmpY (pc' := 24) A d1_18 (by decide) (by decide) (by decide) ?_
  refine s_lload (pc' := 26) A d1_24 rfl rfl ?_
  exact r_long A rfl d1_26 (by decide) (by decide) (⟨rfl, rfl⟩)
set_option maxRecDepth 65536 in
set_option maxHeartbeats 40000000 in
theorem con00 (l : Launch) (Z : State) (a0 : Array Value) (hw : ∀ d ∈ tables_1, d.before a0 Z = true) (n0 : Nat) (h0 : Heap) (Z0 : n0 ≤ h0.size) (r : Addr) (v0 v1 v2 v3 : Int64) (bt : Int32) (V : AA Z h0 r .long [.long v0, .long v1, .long v2, .long v3]) (hq : bt / (64 : Int32) = (0 : Int32)) :
    Met l Z n0 y1_contains prog_6_method_5_code 3 (Option.some Jvm.ClassFile.FieldType.boolean) ({ frames := 0, cells := 0, slots := 0, locals := 0 } : Room) #[(.ref r), (.int (0 : Int32)), (.int bt)] h0 (fun v h => v = some (.int (bvf v0 bt)) ∧ h = h0) := by
  refine met_intro (own := c1_BitSets) (plainFor_of_name pn_com_example_kithgraph_kithgraph_cluster_BitSets) rfl Z0 ?_
  intro p e s m below meth c T A hnm
  refine Wp.cast (g' := mkF m 0 #[rv r, iv 0, iv bt] []) (by first | (simp [entryFrame, mkF, argsToLocals, Value.category, maxLocals, jv, S2, U0, iv, rv]; done) | rfl) ?_
  refine s_aloadN (pc' := 1) A d2_0 rfl rfl rfl ?_
  refine s_iloadN (pc' := 2) A d2_1 rfl rfl ?_
  refine s_iloadN (pc' := 3) A d2_2 rfl rfl ?_
  refine s_bipush (pc' := 5) (z := (64 : Int32)) A d2_3 rfl (by decide) ?_
  refine s_idiv (pc' := 6) (z := (0 : Int32)) A d2_5 rfl (by decide) hq ?_
  refine s_iadd (pc' := 7) (z := (0 : Int32)) A d2_6 rfl (by decide) ?_
  refine s_laload (pc' := 8) (i := 0) (v := (.long v0)) A V (by decide) rfl d2_7 rfl ?_
  refine s_lconst (pc' := 9) (z := (1 : Int64)) A d2_8 rfl (by decide) ?_
  refine s_iloadN (pc' := 10) A d2_9 rfl rfl ?_
  refine s_lshl (pc' := 11) (z := ((1 : Int64) <<< (bt &&& 63).toInt64)) A d2_10 rfl rfl ?_
  refine s_land (pc' := 12) (z := (v0 &&& ((1 : Int64) <<< (bt &&& 63).toInt64))) A d2_11 rfl rfl ?_
  refine s_lconst (pc' := 13) (z := (0 : Int64)) A d2_12 rfl (by decide) ?_
  refine s_lcmp (pc' := 14) A d2_13 rfl ?_
  by_cases hc14_1 : (v0 &&& ((1 : Int64) <<< (bt &&& 63).toInt64)) = (0 : Int64)
  ·
   refine s_ifY (pc' := 21) A d2_14 ((if0 _ _).trans (teq ((lw_eq (v0 &&& ((1 : Int64) <<< (bt &&& 63).toInt64)) (0 : Int64)).2 hc14_1)).1) (by decide) (by decide) ?_
   refine s_iconst (pc' := 22) (z := (0 : Int32)) A d2_21 rfl (by decide) ?_
   exact r_bool A rfl (by decide) d2_22 (by decide) (by decide) (⟨by unfold bvf; rw [if_pos hc14_1], rfl⟩)
  ·
   refine s_ifN (pc' := 17) A d2_14 rfl ((if0 _ _).trans (feq (fun q => hc14_1 ((lw_eq (v0 &&& ((1 : Int64) <<< (bt &&& 63).toInt64)) (0 : Int64)).1 q))).1) ?_
   refine s_iconst (pc' := 18) (z := (1 : Int32)) A d2_17 rfl (by decide) ?_
   refine s_goto (pc' := 22) A d2_18 (by decide) (by decide) ?_
   exact r_bool A rfl (by decide) d2_22 (by decide) (by decide) (⟨by unfold bvf; rw [if_neg hc14_1], rfl⟩)
set_option maxRecDepth 65536 in
set_option maxHeartbeats 40000000 in
theorem con01 (l : Launch) (Z : State) (a0 : Array Value) (hw : ∀ d ∈ tables_1, d.before a0 Z = true) (n0 : Nat) (h0 : Heap) (Z0 : n0 ≤ h0.size) (r : Addr) (v0 v1 v2 v3 : Int64) (bt : Int32) (V : AA Z h0 r .long [.long v0, .long v1, .long v2, .long v3]) (hq : bt / (64 : Int32) = (1 : Int32)) :
    Met l Z n0 y1_contains prog_6_method_5_code 3 (Option.some Jvm.ClassFile.FieldType.boolean) ({ frames := 0, cells := 0, slots := 0, locals := 0 } : Room) #[(.ref r), (.int (0 : Int32)), (.int bt)] h0 (fun v h => v = some (.int (bvf v1 bt)) ∧ h = h0) := by
  refine met_intro (own := c1_BitSets) (plainFor_of_name pn_com_example_kithgraph_kithgraph_cluster_BitSets) rfl Z0 ?_
  intro p e s m below meth c T A hnm
  refine Wp.cast (g' := mkF m 0 #[rv r, iv 0, iv bt] []) (by first | (simp [entryFrame, mkF, argsToLocals, Value.category, maxLocals, jv, S2, U0, iv, rv]; done) | rfl) ?_
  refine s_aloadN (pc' := 1) A d2_0 rfl rfl rfl ?_
  refine s_iloadN (pc' := 2) A d2_1 rfl rfl ?_
  refine s_iloadN (pc' := 3) A d2_2 rfl rfl ?_
  refine s_bipush (pc' := 5) (z := (64 : Int32)) A d2_3 rfl (by decide) ?_
  refine s_idiv (pc' := 6) (z := (1 : Int32)) A d2_5 rfl (by decide) hq ?_
  refine s_iadd (pc' := 7) (z := (1 : Int32)) A d2_6 rfl (by decide) ?_
  refine s_laload (pc' := 8) (i := 1) (v := (.long v1)) A V (by decide) rfl d2_7 rfl ?_
  refine s_lconst (pc' := 9) (z := (1 : Int64)) A d2_8 rfl (by decide) ?_
  refine s_iloadN (pc' := 10) A d2_9 rfl rfl ?_
  refine s_lshl (pc' := 11) (z := ((1 : Int64) <<< (bt &&& 63).toInt64)) A d2_10 rfl rfl ?_
  refine s_land (pc' := 12) (z := (v1 &&& ((1 : Int64) <<< (bt &&& 63).toInt64))) A d2_11 rfl rfl ?_
  refine s_lconst (pc' := 13) (z := (0 : Int64)) A d2_12 rfl (by decide) ?_
  refine s_lcmp (pc' := 14) A d2_13 rfl ?_
  by_cases hc14_1 : (v1 &&& ((1 : Int64) <<< (bt &&& 63).toInt64)) = (0 : Int64)
  ·
   refine s_ifY (pc' := 21) A d2_14 ((if0 _ _).trans (teq ((lw_eq (v1 &&& ((1 : Int64) <<< (bt &&& 63).toInt64)) (0 : Int64)).2 hc14_1)).1) (by decide) (by decide) ?_
   refine s_iconst (pc' := 22) (z := (0 : Int32)) A d2_21 rfl (by decide) ?_
   exact r_bool A rfl (by decide) d2_22 (by decide) (by decide) (⟨by unfold bvf; rw [if_pos hc14_1], rfl⟩)
  ·
   refine s_ifN (pc' := 17) A d2_14 rfl ((if0 _ _).trans (feq (fun q => hc14_1 ((lw_eq (v1 &&& ((1 : Int64) <<< (bt &&& 63).toInt64)) (0 : Int64)).1 q))).1) ?_
   refine s_iconst (pc' := 18) (z := (1 : Int32)) A d2_17 rfl (by decide) ?_
   refine s_goto (pc' := 22) A d2_18 (by decide) (by decide) ?_
   exact r_bool A rfl (by decide) d2_22 (by decide) (by decide) (⟨by unfold bvf; rw [if_neg hc14_1], rfl⟩)
set_option maxRecDepth 65536 in
set_option maxHeartbeats 40000000 in
theorem con02 (l : Launch) (Z : State) (a0 : Array Value) (hw : ∀ d ∈ tables_1, d.before a0 Z = true) (n0 : Nat) (h0 : Heap) (Z0 : n0 ≤ h0.size) (r : Addr) (v0 v1 v2 v3 : Int64) (bt : Int32) (V : AA Z h0 r .long [.long v0, .long v1, .long v2, .long v3]) (hq : bt / (64 : Int32) = (2 : Int32)) :
    Met l Z n0 y1_contains prog_6_method_5_code 3 (Option.some Jvm.ClassFile.FieldType.boolean) ({ frames := 0, cells := 0, slots := 0, locals := 0 } : Room) #[(.ref r), (.int (0 : Int32)), (.int bt)] h0 (fun v h => v = some (.int (bvf v2 bt)) ∧ h = h0) := by
  refine met_intro (own := c1_BitSets) (plainFor_of_name pn_com_example_kithgraph_kithgraph_cluster_BitSets) rfl Z0 ?_
  intro p e s m below meth c T A hnm
  refine Wp.cast (g' := mkF m 0 #[rv r, iv 0, iv bt] []) (by first | (simp [entryFrame, mkF, argsToLocals, Value.category, maxLocals, jv, S2, U0, iv, rv]; done) | rfl) ?_
  refine s_aloadN (pc' := 1) A d2_0 rfl rfl rfl ?_
  refine s_iloadN (pc' := 2) A d2_1 rfl rfl ?_
  refine s_iloadN (pc' := 3) A d2_2 rfl rfl ?_
  refine s_bipush (pc' := 5) (z := (64 : Int32)) A d2_3 rfl (by decide) ?_
  refine s_idiv (pc' := 6) (z := (2 : Int32)) A d2_5 rfl (by decide) hq ?_
  refine s_iadd (pc' := 7) (z := (2 : Int32)) A d2_6 rfl (by decide) ?_
  refine s_laload (pc' := 8) (i := 2) (v := (.long v2)) A V (by decide) rfl d2_7 rfl ?_
  refine s_lconst (pc' := 9) (z := (1 : Int64)) A d2_8 rfl (by decide) ?_
  refine s_iloadN (pc' := 10) A d2_9 rfl rfl ?_
  refine s_lshl (pc' := 11) (z := ((1 : Int64) <<< (bt &&& 63).toInt64)) A d2_10 rfl rfl ?_
  refine s_land (pc' := 12) (z := (v2 &&& ((1 : Int64) <<< (bt &&& 63).toInt64))) A d2_11 rfl rfl ?_
  refine s_lconst (pc' := 13) (z := (0 : Int64)) A d2_12 rfl (by decide) ?_
  refine s_lcmp (pc' := 14) A d2_13 rfl ?_
  by_cases hc14_1 : (v2 &&& ((1 : Int64) <<< (bt &&& 63).toInt64)) = (0 : Int64)
  ·
   refine s_ifY (pc' := 21) A d2_14 ((if0 _ _).trans (teq ((lw_eq (v2 &&& ((1 : Int64) <<< (bt &&& 63).toInt64)) (0 : Int64)).2 hc14_1)).1) (by decide) (by decide) ?_
   refine s_iconst (pc' := 22) (z := (0 : Int32)) A d2_21 rfl (by decide) ?_
   exact r_bool A rfl (by decide) d2_22 (by decide) (by decide) (⟨by unfold bvf; rw [if_pos hc14_1], rfl⟩)
  ·
   refine s_ifN (pc' := 17) A d2_14 rfl ((if0 _ _).trans (feq (fun q => hc14_1 ((lw_eq (v2 &&& ((1 : Int64) <<< (bt &&& 63).toInt64)) (0 : Int64)).1 q))).1) ?_
   refine s_iconst (pc' := 18) (z := (1 : Int32)) A d2_17 rfl (by decide) ?_
   refine s_goto (pc' := 22) A d2_18 (by decide) (by decide) ?_
   exact r_bool A rfl (by decide) d2_22 (by decide) (by decide) (⟨by unfold bvf; rw [if_neg hc14_1], rfl⟩)
set_option maxRecDepth 65536 in
set_option maxHeartbeats 40000000 in
theorem con10 (l : Launch) (Z : State) (a0 : Array Value) (hw : ∀ d ∈ tables_1, d.before a0 Z = true) (n0 : Nat) (h0 : Heap) (Z0 : n0 ≤ h0.size) (r : Addr) (v0 v1 v2 v3 : Int64) (bt : Int32) (V : AA Z h0 r .long [.long v0, .long v1, .long v2, .long v3]) (hq : bt / (64 : Int32) = (0 : Int32)) :
    Met l Z n0 y1_contains prog_6_method_5_code 3 (Option.some Jvm.ClassFile.FieldType.boolean) ({ frames := 0, cells := 0, slots := 0, locals := 0 } : Room) #[(.ref r), (.int (1 : Int32)), (.int bt)] h0 (fun v h => v = some (.int (bvf v1 bt)) ∧ h = h0) := by
  refine met_intro (own := c1_BitSets) (plainFor_of_name pn_com_example_kithgraph_kithgraph_cluster_BitSets) rfl Z0 ?_
  intro p e s m below meth c T A hnm
  refine Wp.cast (g' := mkF m 0 #[rv r, iv 1, iv bt] []) (by first | (simp [entryFrame, mkF, argsToLocals, Value.category, maxLocals, jv, S2, U0, iv, rv]; done) | rfl) ?_
  refine s_aloadN (pc' := 1) A d2_0 rfl rfl rfl ?_
  refine s_iloadN (pc' := 2) A d2_1 rfl rfl ?_
  refine s_iloadN (pc' := 3) A d2_2 rfl rfl ?_
  refine s_bipush (pc' := 5) (z := (64 : Int32)) A d2_3 rfl (by decide) ?_
  refine s_idiv (pc' := 6) (z := (0 : Int32)) A d2_5 rfl (by decide) hq ?_
  refine s_iadd (pc' := 7) (z := (1 : Int32)) A d2_6 rfl (by decide) ?_
  refine s_laload (pc' := 8) (i := 1) (v := (.long v1)) A V (by decide) rfl d2_7 rfl ?_
  refine s_lconst (pc' := 9) (z := (1 : Int64)) A d2_8 rfl (by decide) ?_
  refine s_iloadN (pc' := 10) A d2_9 rfl rfl ?_
  refine s_lshl (pc' := 11) (z := ((1 : Int64) <<< (bt &&& 63).toInt64)) A d2_10 rfl rfl ?_
  refine s_land (pc' := 12) (z := (v1 &&& ((1 : Int64) <<< (bt &&& 63).toInt64))) A d2_11 rfl rfl ?_
  refine s_lconst (pc' := 13) (z := (0 : Int64)) A d2_12 rfl (by decide) ?_
  refine s_lcmp (pc' := 14) A d2_13 rfl ?_
  by_cases hc14_1 : (v1 &&& ((1 : Int64) <<< (bt &&& 63).toInt64)) = (0 : Int64)
  ·
   refine s_ifY (pc' := 21) A d2_14 ((if0 _ _).trans (teq ((lw_eq (v1 &&& ((1 : Int64) <<< (bt &&& 63).toInt64)) (0 : Int64)).2 hc14_1)).1) (by decide) (by decide) ?_
   refine s_iconst (pc' := 22) (z := (0 : Int32)) A d2_21 rfl (by decide) ?_
   exact r_bool A rfl (by decide) d2_22 (by decide) (by decide) (⟨by unfold bvf; rw [if_pos hc14_1], rfl⟩)
  ·
   refine s_ifN (pc' := 17) A d2_14 rfl ((if0 _ _).trans (feq (fun q => hc14_1 ((lw_eq (v1 &&& ((1 : Int64) <<< (bt &&& 63).toInt64)) (0 : Int64)).1 q))).1) ?_
   refine s_iconst (pc' := 18) (z := (1 : Int32)) A d2_17 rfl (by decide) ?_
   refine s_goto (pc' := 22) A d2_18 (by decide) (by decide) ?_
   exact r_bool A rfl (by decide) d2_22 (by decide) (by decide) (⟨by unfold bvf; rw [if_neg hc14_1], rfl⟩)
set_option maxRecDepth 65536 in
set_option maxHeartbeats 40000000 in
theorem con11 (l : Launch) (Z : State) (a0 : Array Value) (hw : ∀ d ∈ tables_1, d.before a0 Z = true) (n0 : Nat) (h0 : Heap) (Z0 : n0 ≤ h0.size) (r : Addr) (v0 v1 v2 v3 : Int64) (bt : Int32) (V : AA Z h0 r .long [.long v0, .long v1, .long v2, .long v3]) (hq : bt / (64 : Int32) = (1 : Int32)) :
    Met l Z n0 y1_contains prog_6_method_5_code 3 (Option.some Jvm.ClassFile.FieldType.boolean) ({ frames := 0, cells := 0, slots := 0, locals := 0 } : Room) #[(.ref r), (.int (1 : Int32)), (.int bt)] h0 (fun v h => v = some (.int (bvf v2 bt)) ∧ h = h0) := by
  refine met_intro (own := c1_BitSets) (plainFor_of_name pn_com_example_kithgraph_kithgraph_cluster_BitSets) rfl Z0 ?_
  intro p e s m below meth c T A hnm
  refine Wp.cast (g' := mkF m 0 #[rv r, iv 1, iv bt] []) (by first | (simp [entryFrame, mkF, argsToLocals, Value.category, maxLocals, jv, S2, U0, iv, rv]; done) | rfl) ?_
  refine s_aloadN (pc' := 1) A d2_0 rfl rfl rfl ?_
  refine s_iloadN (pc' := 2) A d2_1 rfl rfl ?_
  refine s_iloadN (pc' := 3) A d2_2 rfl rfl ?_
  refine s_bipush (pc' := 5) (z := (64 : Int32)) A d2_3 rfl (by decide) ?_
  refine s_idiv (pc' := 6) (z := (1 : Int32)) A d2_5 rfl (by decide) hq ?_
  refine s_iadd (pc' := 7) (z := (2 : Int32)) A d2_6 rfl (by decide) ?_
  refine s_laload (pc' := 8) (i := 2) (v := (.long v2)) A V (by decide) rfl d2_7 rfl ?_
  refine s_lconst (pc' := 9) (z := (1 : Int64)) A d2_8 rfl (by decide) ?_
  refine s_iloadN (pc' := 10) A d2_9 rfl rfl ?_
  refine s_lshl (pc' := 11) (z := ((1 : Int64) <<< (bt &&& 63).toInt64)) A d2_10 rfl rfl ?_
  refine s_land (pc' := 12) (z := (v2 &&& ((1 : Int64) <<< (bt &&& 63).toInt64))) A d2_11 rfl rfl ?_
  refine s_lconst (pc' := 13) (z := (0 : Int64)) A d2_12 rfl (by decide) ?_
  refine s_lcmp (pc' := 14) A d2_13 rfl ?_
  by_cases hc14_1 : (v2 &&& ((1 : Int64) <<< (bt &&& 63).toInt64)) = (0 : Int64)
  ·
   refine s_ifY (pc' := 21) A d2_14 ((if0 _ _).trans (teq ((lw_eq (v2 &&& ((1 : Int64) <<< (bt &&& 63).toInt64)) (0 : Int64)).2 hc14_1)).1) (by decide) (by decide) ?_
   refine s_iconst (pc' := 22) (z := (0 : Int32)) A d2_21 rfl (by decide) ?_
   exact r_bool A rfl (by decide) d2_22 (by decide) (by decide) (⟨by unfold bvf; rw [if_pos hc14_1], rfl⟩)
  ·
   refine s_ifN (pc' := 17) A d2_14 rfl ((if0 _ _).trans (feq (fun q => hc14_1 ((lw_eq (v2 &&& ((1 : Int64) <<< (bt &&& 63).toInt64)) (0 : Int64)).1 q))).1) ?_
   refine s_iconst (pc' := 18) (z := (1 : Int32)) A d2_17 rfl (by decide) ?_
   refine s_goto (pc' := 22) A d2_18 (by decide) (by decide) ?_
   exact r_bool A rfl (by decide) d2_22 (by decide) (by decide) (⟨by unfold bvf; rw [if_neg hc14_1], rfl⟩)
set_option maxRecDepth 65536 in
set_option maxHeartbeats 40000000 in
theorem con12 (l : Launch) (Z : State) (a0 : Array Value) (hw : ∀ d ∈ tables_1, d.before a0 Z = true) (n0 : Nat) (h0 : Heap) (Z0 : n0 ≤ h0.size) (r : Addr) (v0 v1 v2 v3 : Int64) (bt : Int32) (V : AA Z h0 r .long [.long v0, .long v1, .long v2, .long v3]) (hq : bt / (64 : Int32) = (2 : Int32)) :
    Met l Z n0 y1_contains prog_6_method_5_code 3 (Option.some Jvm.ClassFile.FieldType.boolean) ({ frames := 0, cells := 0, slots := 0, locals := 0 } : Room) #[(.ref r), (.int (1 : Int32)), (.int bt)] h0 (fun v h => v = some (.int (bvf v3 bt)) ∧ h = h0) := by
  refine met_intro (own := c1_BitSets) (plainFor_of_name pn_com_example_kithgraph_kithgraph_cluster_BitSets) rfl Z0 ?_
  intro p e s m below meth c T A hnm
  refine Wp.cast (g' := mkF m 0 #[rv r, iv 1, iv bt] []) (by first | (simp [entryFrame, mkF, argsToLocals, Value.category, maxLocals, jv, S2, U0, iv, rv]; done) | rfl) ?_
  refine s_aloadN (pc' := 1) A d2_0 rfl rfl rfl ?_
  refine s_iloadN (pc' := 2) A d2_1 rfl rfl ?_
  refine s_iloadN (pc' := 3) A d2_2 rfl rfl ?_
  refine s_bipush (pc' := 5) (z := (64 : Int32)) A d2_3 rfl (by decide) ?_
  refine s_idiv (pc' := 6) (z := (2 : Int32)) A d2_5 rfl (by decide) hq ?_
  refine s_iadd (pc' := 7) (z := (3 : Int32)) A d2_6 rfl (by decide) ?_
  refine s_laload (pc' := 8) (i := 3) (v := (.long v3)) A V (by decide) rfl d2_7 rfl ?_
  refine s_lconst (pc' := 9) (z := (1 : Int64)) A d2_8 rfl (by decide) ?_
  refine s_iloadN (pc' := 10) A d2_9 rfl rfl ?_
  refine s_lshl (pc' := 11) (z := ((1 : Int64) <<< (bt &&& 63).toInt64)) A d2_10 rfl rfl ?_
  refine s_land (pc' := 12) (z := (v3 &&& ((1 : Int64) <<< (bt &&& 63).toInt64))) A d2_11 rfl rfl ?_
  refine s_lconst (pc' := 13) (z := (0 : Int64)) A d2_12 rfl (by decide) ?_
  refine s_lcmp (pc' := 14) A d2_13 rfl ?_
  by_cases hc14_1 : (v3 &&& ((1 : Int64) <<< (bt &&& 63).toInt64)) = (0 : Int64)
  ·
   refine s_ifY (pc' := 21) A d2_14 ((if0 _ _).trans (teq ((lw_eq (v3 &&& ((1 : Int64) <<< (bt &&& 63).toInt64)) (0 : Int64)).2 hc14_1)).1) (by decide) (by decide) ?_
   refine s_iconst (pc' := 22) (z := (0 : Int32)) A d2_21 rfl (by decide) ?_
   exact r_bool A rfl (by decide) d2_22 (by decide) (by decide) (⟨by unfold bvf; rw [if_pos hc14_1], rfl⟩)
  ·
   refine s_ifN (pc' := 17) A d2_14 rfl ((if0 _ _).trans (feq (fun q => hc14_1 ((lw_eq (v3 &&& ((1 : Int64) <<< (bt &&& 63).toInt64)) (0 : Int64)).1 q))).1) ?_
   refine s_iconst (pc' := 18) (z := (1 : Int32)) A d2_17 rfl (by decide) ?_
   refine s_goto (pc' := 22) A d2_18 (by decide) (by decide) ?_
   exact r_bool A rfl (by decide) d2_22 (by decide) (by decide) (⟨by unfold bvf; rw [if_neg hc14_1], rfl⟩)
set_option maxRecDepth 65536 in
set_option maxHeartbeats 40000000 in
theorem rm0 (l : Launch) (Z : State) (a0 : Array Value) (hw : ∀ d ∈ tables_1, d.before a0 Z = true) (n0 : Nat) (h0 : Heap) (Z0 : n0 ≤ h0.size) (q0 q1 q2 q3 : Int64) (q4 q5 : Int32)  :
    Met l Z n0 x code maxLocals ret room_1 #[(.long q0), (.long q1), (.long q2), (.long q3), (.int q4), (.int q5)] h0 (fun v h => v = some (.int 1)) := by
  refine met_intro (own := c0_BitSetsContainsPinLaw) (plainFor_of_name pn_com_example_kithgraph_kithgraph_cluster_BitSetsContainsPinLaw) rfl Z0 ?_
  intro p e s m below meth c T A hnm
  refine Wp.cast (g' := mkF m 0 #[jv q0, S2, jv q1, S2, jv q2, S2, jv q3, S2, iv q4, iv q5, U0, U0, U0, U0, U0, U0, U0, U0, U0] []) (by first | (simp [entryFrame, mkF, argsToLocals, Value.category, maxLocals, jv, S2, U0, iv, rv]; done) | rfl) ?_
  refine s_iconst (pc' := 1) (z := (4 : Int32)) A at_0 rfl (by decide) ?_
  refine s_newarray (pc' := 3) (aty := .long) (ty := .long) (dv := (.long (0 : Int64))) (i := 4) (cap := 4) A rfl rfl (w0 hw) (by decide) (by decide) (by decide) (by decide) (by decide) at_1 rfl fun T h1 b2 A g3 ge4 X5 V6 => ?_
  have V6 : AA Z h1 b2 .long [.long (0 : Int64), .long (0 : Int64), .long (0 : Int64), .long (0 : Int64)] := V6
  refine s_dup (pc' := 4) A at_3 rfl rfl ?_
  refine s_iconst (pc' := 5) (z := (0 : Int32)) A at_4 rfl (by decide) ?_
  refine s_lloadN (pc' := 6) A at_5 rfl rfl ?_
  refine s_lastore (pc' := 7) (i := 0) A V6 (by decide) (Nat.le_of_ble_eq_true rfl) ge4 at_6 rfl fun T h7 A W8 V9 => ?_
  have V9 : AA Z h7 b2 .long [.long q0, .long (0 : Int64), .long (0 : Int64), .long (0 : Int64)] := V9
  refine s_dup (pc' := 8) A at_7 rfl rfl ?_
  refine s_iconst (pc' := 9) (z := (1 : Int32)) A at_8 rfl (by decide) ?_
  refine s_lloadN (pc' := 10) A at_9 rfl rfl ?_
  refine s_lastore (pc' := 11) (i := 1) A V9 (by decide) (Nat.le_of_ble_eq_true rfl) ge4 at_10 rfl fun T h10 A W11 V12 => ?_
  have V12 : AA Z h10 b2 .long [.long q0, .long q1, .long (0 : Int64), .long (0 : Int64)] := V12
  refine s_dup (pc' := 12) A at_11 rfl rfl ?_
  refine s_iconst (pc' := 13) (z := (2 : Int32)) A at_12 rfl (by decide) ?_
  refine s_lload (pc' := 15) A at_13 rfl rfl ?_
  refine s_lastore (pc' := 16) (i := 2) A V12 (by decide) (Nat.le_of_ble_eq_true rfl) ge4 at_15 rfl fun T h13 A W14 V15 => ?_
  have V15 : AA Z h13 b2 .long [.long q0, .long q1, .long q2, .long (0 : Int64)] := V15
  refine s_dup (pc' := 17) A at_16 rfl rfl ?_
  refine s_iconst (pc' := 18) (z := (3 : Int32)) A at_17 rfl (by decide) ?_
  refine s_lload (pc' := 20) A at_18 rfl rfl ?_
  refine s_lastore (pc' := 21) (i := 3) A V15 (by decide) (Nat.le_of_ble_eq_true rfl) ge4 at_20 rfl fun T h16 A W17 V18 => ?_
  have V18 : AA Z h16 b2 .long [.long q0, .long q1, .long q2, .long q3] := V18
  refine s_astore (pc' := 23) (Ls' := #[jv q0, S2, jv q1, S2, jv q2, S2, jv q3, S2, iv q4, iv q5, rv b2, U0, U0, U0, U0, U0, U0, U0, U0]) A at_21 rfl rfl rfl ?_
  refine s_iload (pc' := 25) A at_23 rfl rfl ?_
  refine s_iconst (pc' := 26) (z := (1 : Int32)) A at_25 rfl (by decide) ?_
  obtain ⟨ss, hss⟩ : ∃ z, z = (q4 &&& (1 : Int32)) := ⟨_, rfl⟩
  have cs := own_st q4
  rw [← hss] at cs
  rcases cs with rfl | rfl
  ·
   refine s_iand (pc' := 27) (z := (0 : Int32)) A at_26 rfl hss.symm ?_
   refine s_istore (pc' := 29) (Ls' := #[jv q0, S2, jv q1, S2, jv q2, S2, jv q3, S2, iv q4, iv q5, rv b2, iv 0, U0, U0, U0, U0, U0, U0, U0]) A at_27 rfl rfl ?_
   refine s_iload (pc' := 31) A at_29 rfl rfl ?_
   refine s_ldcInt (pc' := 33) A at_31 rfl (w1 hw) ?_
   refine s_iand (pc' := 34) (z := (q5 &&& (2147483647 : Int32))) A at_33 rfl rfl ?_
   refine s_sipush (pc' := 37) (z := (192 : Int32)) A at_34 rfl (by decide) ?_
   obtain ⟨bt, ebt⟩ : ∃ z, z = ((q5 &&& (2147483647 : Int32)) % (192 : Int32)) := ⟨_, rfl⟩
   have fbt : 0 ≤ bt.toInt ∧ bt.toInt < 192 := by rw [ebt]; have _ := rng32 q5; have _ : (2147483647 : Int32).toInt = 2147483647 := (by decide); have _ := rng32 (q5 &&& (2147483647 : Int32)); have _ : (q5 &&& (2147483647 : Int32)).toInt = q5.toInt % 2147483648 := c_mask q5 (2147483647 : Int32) 31 (by decide) (by decide); have _ : (192 : Int32).toInt = 192 := (by decide); have _ := rng32 ((q5 &&& (2147483647 : Int32)) % (192 : Int32)); have _ := c_irem (q5 &&& (2147483647 : Int32)) (192 : Int32) 192 (by decide); omega
   refine s_irem (pc' := 38) (z := bt) A at_37 rfl (by decide) ebt.symm ?_
   refine s_istore (pc' := 40) (Ls' := #[jv q0, S2, jv q1, S2, jv q2, S2, jv q3, S2, iv q4, iv q5, rv b2, iv 0, iv bt, U0, U0, U0, U0, U0, U0]) A at_38 rfl rfl ?_
   refine s_iload (pc' := 42) A at_40 rfl rfl ?_
   refine s_bipush (pc' := 44) (z := (64 : Int32)) A at_42 rfl (by decide) ?_
   by_cases hc44_1 : bt < (64 : Int32)
   ·
    refine s_icmpN (pc' := 47) A at_44 rfl (tlt hc44_1).2.1 ?_
    refine s_iconst (pc' := 48) (z := (0 : Int32)) A at_47 rfl (by decide) ?_
    refine s_istore (pc' := 50) (Ls' := #[jv q0, S2, jv q1, S2, jv q2, S2, jv q3, S2, iv q4, iv q5, rv b2, iv 0, iv bt, iv 0, U0, U0, U0, U0, U0]) A at_48 rfl rfl ?_
    refine s_goto (pc' := 70) A at_50 (by decide) (by decide) ?_
    refine s_iload (pc' := 72) A at_70 rfl rfl ?_
    refine s_bipush (pc' := 74) (z := (64 : Int32)) A at_72 rfl (by decide) ?_
    refine s_iload (pc' := 76) A at_74 rfl rfl ?_
    refine s_imul (pc' := 77) (z := (0 : Int32)) A at_76 rfl (by decide) ?_
    obtain ⟨rr, err⟩ : ∃ z, z = (bt - (0 : Int32)) := ⟨_, rfl⟩
    have frr : rr.toInt = bt.toInt - 64 * 0 := by rw [err]; have _ := rng32 bt; have _ : (0 : Int32).toInt = 0 := (by decide); have _ := rng32 (bt - (0 : Int32)); have _ := c_isub bt (0 : Int32); omega
    have hr : 0 ≤ rr.toInt ∧ rr.toInt < 64 := by have _ := rng32 bt; have _ : (64 : Int32).toInt = 64 := (by decide); have _ : bt.toInt < (64 : Int32).toInt := (by rw [← Int32.lt_iff_toInt_lt]; exact hc44_1); omega
    have hq : bt / (64 : Int32) = (0 : Int32) := (by have _ := rng32 bt; have _ : (64 : Int32).toInt = 64 := (by decide); have _ := rng32 (bt / (64 : Int32)); have _ := c_idiv bt (64 : Int32) 64 (by decide) (by decide); have _ : (0 : Int32).toInt = 0 := (by decide); have _ : bt.toInt < (64 : Int32).toInt := (by rw [← Int32.lt_iff_toInt_lt]; exact hc44_1); have _ := fbt; apply Int32.toInt_inj.mp; omega)
    refine s_isub (pc' := 78) (z := rr) A at_77 rfl err.symm ?_
    refine s_istore (pc' := 80) (Ls' := #[jv q0, S2, jv q1, S2, jv q2, S2, jv q3, S2, iv q4, iv q5, rv b2, iv 0, iv bt, iv 0, iv rr, U0, U0, U0, U0]) A at_78 rfl rfl ?_
    refine s_lloadN (pc' := 81) A at_80 rfl rfl ?_
    refine s_lloadN (pc' := 82) A at_81 rfl rfl ?_
    refine s_lload (pc' := 84) A at_82 rfl rfl ?_
    refine s_lload (pc' := 86) A at_84 rfl rfl ?_
    refine s_iload (pc' := 88) A at_86 rfl rfl ?_
    refine s_iload (pc' := 90) A at_88 rfl rfl ?_
    refine s_iadd (pc' := 91) (z := (0 : Int32)) A at_90 rfl (by decide) ?_
    refine s_static (pc' := 94) (y := y0_pick) (argsL := [(.long q0), (.long q1), (.long q2), (.long q3), (.int (0 : Int32))]) (rest := []) A (pick0 l Z a0 hw n0 h16 A.size q0 q1 q2 q3) (w2 hw) (w3 hw) (w4 hw) (w5 hw) (by decide) pd__JJJJI_J rfl (W := 0) (by decide) (by decide) (Nat.le_of_eq rfl) (by decide) (by decide) rfl rfl at_91 rfl fun T h19 v20 A Q21 => ?_
    obtain ⟨rfl, eh⟩ := Q21
    rw [eh] at A
    refine Wp.stk (st' := [(.long q0)]) rfl ?_
    refine s_lstore (pc' := 96) (Ls' := #[jv q0, S2, jv q1, S2, jv q2, S2, jv q3, S2, iv q4, iv q5, rv b2, iv 0, iv bt, iv 0, iv rr, jv q0, S2, U0, U0]) A at_94 rfl rfl ?_
    refine s_lload (pc' := 98) A at_96 rfl rfl ?_
    refine s_iload (pc' := 100) A at_98 rfl rfl ?_
    refine s_lushr (pc' := 101) (z := (ushL q0 rr)) A at_100 rfl rfl ?_
    refine s_lconst (pc' := 102) (z := (1 : Int64)) A at_101 rfl (by decide) ?_
    refine s_land (pc' := 103) (z := ((ushL q0 rr) &&& (1 : Int64))) A at_102 rfl rfl ?_
    refine s_lconst (pc' := 104) (z := (1 : Int64)) A at_103 rfl (by decide) ?_
    refine s_lcmp (pc' := 105) A at_104 rfl ?_
    by_cases hc105_1 : ((ushL q0 rr) &&& (1 : Int64)) = (1 : Int64)
    ·
     refine s_ifN (pc' := 108) A at_105 rfl ((if0 _ _).trans (teq ((lw_eq ((ushL q0 rr) &&& (1 : Int64)) (1 : Int64)).2 hc105_1)).2) ?_
     refine s_iconst (pc' := 109) (z := (1 : Int32)) A at_108 rfl (by decide) ?_
     refine s_goto (pc' := 113) A at_109 (by decide) (by decide) ?_
     refine s_istore (pc' := 115) (Ls' := #[jv q0, S2, jv q1, S2, jv q2, S2, jv q3, S2, iv q4, iv q5, rv b2, iv 0, iv bt, iv 0, iv rr, jv q0, S2, iv 1, U0]) A at_113 rfl rfl ?_
     refine s_aload (pc' := 117) A at_115 rfl rfl rfl ?_
     refine s_iload (pc' := 119) A at_117 rfl rfl ?_
     refine s_iload (pc' := 121) A at_119 rfl rfl ?_
     refine s_static (pc' := 124) (y := y1_contains) (argsL := [(.ref b2), (.int (0 : Int32)), (.int bt)]) (rest := []) A (con00 l Z a0 hw n0 h16 A.size b2 q0 q1 q2 q3 bt V18 hq) (w6 hw) (w7 hw) (w8 hw) (w9 hw) (by decide) pd___JII_Z rfl (W := 0) (by decide) (by decide) (Nat.le_of_eq rfl) (by decide) (by decide) rfl rfl at_121 rfl fun T h22 v23 A Q24 => ?_
     obtain ⟨rfl, eh⟩ := Q24
     rw [eh] at A
     refine Wp.stk (st' := [(.int (bvf q0 bt))]) rfl ?_
     refine s_istore (pc' := 126) (Ls' := #[jv q0, S2, jv q1, S2, jv q2, S2, jv q3, S2, iv q4, iv q5, rv b2, iv 0, iv bt, iv 0, iv rr, jv q0, S2, iv 1, iv (bvf q0 bt)]) A at_124 rfl rfl ?_
     refine s_iload (pc' := 128) A at_126 rfl rfl ?_
     refine s_iload (pc' := 130) A at_128 rfl rfl ?_
     refine s_icmpN (pc' := 133) A at_130 rfl (teq (own_b1 q0 bt rr 0 fbt.1 hr frr hc105_1)).2 ?_
     refine s_iconst (pc' := 134) (z := (1 : Int32)) A at_133 rfl (by decide) ?_
     refine s_goto (pc' := 138) A at_134 (by decide) (by decide) ?_
     exact r_bool A rfl (by decide) at_138 (by decide) (by decide) (rfl)
    ·
     refine s_ifY (pc' := 112) A at_105 ((if0 _ _).trans (feq (fun q => hc105_1 ((lw_eq ((ushL q0 rr) &&& (1 : Int64)) (1 : Int64)).1 q))).2) (by decide) (by decide) ?_
     refine s_iconst (pc' := 113) (z := (0 : Int32)) A at_112 rfl (by decide) ?_
     refine s_istore (pc' := 115) (Ls' := #[jv q0, S2, jv q1, S2, jv q2, S2, jv q3, S2, iv q4, iv q5, rv b2, iv 0, iv bt, iv 0, iv rr, jv q0, S2, iv 0, U0]) A at_113 rfl rfl ?_
     refine s_aload (pc' := 117) A at_115 rfl rfl rfl ?_
     refine s_iload (pc' := 119) A at_117 rfl rfl ?_
     refine s_iload (pc' := 121) A at_119 rfl rfl ?_
     refine s_static (pc' := 124) (y := y1_contains) (argsL := [(.ref b2), (.int (0 : Int32)), (.int bt)]) (rest := []) A (con00 l Z a0 hw n0 h16 A.size b2 q0 q1 q2 q3 bt V18 hq) (w6 hw) (w7 hw) (w8 hw) (w9 hw) (by decide) pd___JII_Z rfl (W := 0) (by decide) (by decide) (Nat.le_of_eq rfl) (by decide) (by decide) rfl rfl at_121 rfl fun T h25 v26 A Q27 => ?_
     obtain ⟨rfl, eh⟩ := Q27
     rw [eh] at A
     refine Wp.stk (st' := [(.int (bvf q0 bt))]) rfl ?_
     refine s_istore (pc' := 126) (Ls' := #[jv q0, S2, jv q1, S2, jv q2, S2, jv q3, S2, iv q4, iv q5, rv b2, iv 0, iv bt, iv 0, iv rr, jv q0, S2, iv 0, iv (bvf q0 bt)]) A at_124 rfl rfl ?_
     refine s_iload (pc' := 128) A at_126 rfl rfl ?_
     refine s_iload (pc' := 130) A at_128 rfl rfl ?_
     refine s_icmpN (pc' := 133) A at_130 rfl (teq (own_b0 q0 bt rr 0 fbt.1 hr frr hc105_1)).2 ?_
     refine s_iconst (pc' := 134) (z := (1 : Int32)) A at_133 rfl (by decide) ?_
     refine s_goto (pc' := 138) A at_134 (by decide) (by decide) ?_
     exact r_bool A rfl (by decide) at_138 (by decide) (by decide) (rfl)
   ·
    refine s_icmpY (pc' := 53) A at_44 (flt hc44_1).2.1 (by decide) (by decide) ?_
    refine s_iload (pc' := 55) A at_53 rfl rfl ?_
    refine s_sipush (pc' := 58) (z := (128 : Int32)) A at_55 rfl (by decide) ?_
    by_cases hc58_1 : bt < (128 : Int32)
    ·
     refine s_icmpN (pc' := 61) A at_58 rfl (tlt hc58_1).2.1 ?_
     refine s_iconst (pc' := 62) (z := (1 : Int32)) A at_61 rfl (by decide) ?_
     refine s_istore (pc' := 64) (Ls' := #[jv q0, S2, jv q1, S2, jv q2, S2, jv q3, S2, iv q4, iv q5, rv b2, iv 0, iv bt, iv 1, U0, U0, U0, U0, U0]) A at_62 rfl rfl ?_
     refine s_goto (pc' := 70) A at_64 (by decide) (by decide) ?_
     refine s_iload (pc' := 72) A at_70 rfl rfl ?_
     refine s_bipush (pc' := 74) (z := (64 : Int32)) A at_72 rfl (by decide) ?_
     refine s_iload (pc' := 76) A at_74 rfl rfl ?_
     refine s_imul (pc' := 77) (z := (64 : Int32)) A at_76 rfl (by decide) ?_
     obtain ⟨rr, err⟩ : ∃ z, z = (bt - (64 : Int32)) := ⟨_, rfl⟩
     have frr : rr.toInt = bt.toInt - 64 * 1 := by rw [err]; have _ := rng32 bt; have _ : (64 : Int32).toInt = 64 := (by decide); have _ := rng32 (bt - (64 : Int32)); have _ := c_isub bt (64 : Int32); omega
     have hr : 0 ≤ rr.toInt ∧ rr.toInt < 64 := by have _ := rng32 bt; have _ : (64 : Int32).toInt = 64 := (by decide); have _ : (128 : Int32).toInt = 128 := (by decide); have _ : ¬ bt.toInt < (64 : Int32).toInt := (by rw [← Int32.lt_iff_toInt_lt]; exact hc44_1); have _ : bt.toInt < (128 : Int32).toInt := (by rw [← Int32.lt_iff_toInt_lt]; exact hc58_1); omega
     have hq : bt / (64 : Int32) = (1 : Int32) := (by have _ := rng32 bt; have _ : (64 : Int32).toInt = 64 := (by decide); have _ := rng32 (bt / (64 : Int32)); have _ := c_idiv bt (64 : Int32) 64 (by decide) (by decide); have _ : (1 : Int32).toInt = 1 := (by decide); have _ : (128 : Int32).toInt = 128 := (by decide); have _ : ¬ bt.toInt < (64 : Int32).toInt := (by rw [← Int32.lt_iff_toInt_lt]; exact hc44_1); have _ : bt.toInt < (128 : Int32).toInt := (by rw [← Int32.lt_iff_toInt_lt]; exact hc58_1); have _ := fbt; apply Int32.toInt_inj.mp; omega)
     refine s_isub (pc' := 78) (z := rr) A at_77 rfl err.symm ?_
     refine s_istore (pc' := 80) (Ls' := #[jv q0, S2, jv q1, S2, jv q2, S2, jv q3, S2, iv q4, iv q5, rv b2, iv 0, iv bt, iv 1, iv rr, U0, U0, U0, U0]) A at_78 rfl rfl ?_
     refine s_lloadN (pc' := 81) A at_80 rfl rfl ?_
     refine s_lloadN (pc' := 82) A at_81 rfl rfl ?_
     refine s_lload (pc' := 84) A at_82 rfl rfl ?_
     refine s_lload (pc' := 86) A at_84 rfl rfl ?_
     refine s_iload (pc' := 88) A at_86 rfl rfl ?_
     refine s_iload (pc' := 90) A at_88 rfl rfl ?_
     refine s_iadd (pc' := 91) (z := (1 : Int32)) A at_90 rfl (by decide) ?_
     refine s_static (pc' := 94) (y := y0_pick) (argsL := [(.long q0), (.long q1), (.long q2), (.long q3), (.int (1 : Int32))]) (rest := []) A (pick1 l Z a0 hw n0 h16 A.size q0 q1 q2 q3) (w2 hw) (w3 hw) (w4 hw) (w5 hw) (by decide) pd__JJJJI_J rfl (W := 0) (by decide) (by decide) (Nat.le_of_eq rfl) (by decide) (by decide) rfl rfl at_91 rfl fun T h28 v29 A Q30 => ?_
     obtain ⟨rfl, eh⟩ := Q30
     rw [eh] at A
     refine Wp.stk (st' := [(.long q1)]) rfl ?_
     refine s_lstore (pc' := 96) (Ls' := #[jv q0, S2, jv q1, S2, jv q2, S2, jv q3, S2, iv q4, iv q5, rv b2, iv 0, iv bt, iv 1, iv rr, jv q1, S2, U0, U0]) A at_94 rfl rfl ?_
     refine s_lload (pc' := 98) A at_96 rfl rfl ?_
     refine s_iload (pc' := 100) A at_98 rfl rfl ?_
     refine s_lushr (pc' := 101) (z := (ushL q1 rr)) A at_100 rfl rfl ?_
     refine s_lconst (pc' := 102) (z := (1 : Int64)) A at_101 rfl (by decide) ?_
     refine s_land (pc' := 103) (z := ((ushL q1 rr) &&& (1 : Int64))) A at_102 rfl rfl ?_
     refine s_lconst (pc' := 104) (z := (1 : Int64)) A at_103 rfl (by decide) ?_
     refine s_lcmp (pc' := 105) A at_104 rfl ?_
     by_cases hc105_1 : ((ushL q1 rr) &&& (1 : Int64)) = (1 : Int64)
     ·
      refine s_ifN (pc' := 108) A at_105 rfl ((if0 _ _).trans (teq ((lw_eq ((ushL q1 rr) &&& (1 : Int64)) (1 : Int64)).2 hc105_1)).2) ?_
      refine s_iconst (pc' := 109) (z := (1 : Int32)) A at_108 rfl (by decide) ?_
      refine s_goto (pc' := 113) A at_109 (by decide) (by decide) ?_
      refine s_istore (pc' := 115) (Ls' := #[jv q0, S2, jv q1, S2, jv q2, S2, jv q3, S2, iv q4, iv q5, rv b2, iv 0, iv bt, iv 1, iv rr, jv q1, S2, iv 1, U0]) A at_113 rfl rfl ?_
      refine s_aload (pc' := 117) A at_115 rfl rfl rfl ?_
      refine s_iload (pc' := 119) A at_117 rfl rfl ?_
      refine s_iload (pc' := 121) A at_119 rfl rfl ?_
      refine s_static (pc' := 124) (y := y1_contains) (argsL := [(.ref b2), (.int (0 : Int32)), (.int bt)]) (rest := []) A (con01 l Z a0 hw n0 h16 A.size b2 q0 q1 q2 q3 bt V18 hq) (w6 hw) (w7 hw) (w8 hw) (w9 hw) (by decide) pd___JII_Z rfl (W := 0) (by decide) (by decide) (Nat.le_of_eq rfl) (by decide) (by decide) rfl rfl at_121 rfl fun T h31 v32 A Q33 => ?_
      obtain ⟨rfl, eh⟩ := Q33
      rw [eh] at A
      refine Wp.stk (st' := [(.int (bvf q1 bt))]) rfl ?_
      refine s_istore (pc' := 126) (Ls' := #[jv q0, S2, jv q1, S2, jv q2, S2, jv q3, S2, iv q4, iv q5, rv b2, iv 0, iv bt, iv 1, iv rr, jv q1, S2, iv 1, iv (bvf q1 bt)]) A at_124 rfl rfl ?_
      refine s_iload (pc' := 128) A at_126 rfl rfl ?_
      refine s_iload (pc' := 130) A at_128 rfl rfl ?_
      refine s_icmpN (pc' := 133) A at_130 rfl (teq (own_b1 q1 bt rr 1 fbt.1 hr frr hc105_1)).2 ?_
      refine s_iconst (pc' := 134) (z := (1 : Int32)) A at_133 rfl (by decide) ?_
      refine s_goto (pc' := 138) A at_134 (by decide) (by decide) ?_
      exact r_bool A rfl (by decide) at_138 (by decide) (by decide) (rfl)
     ·
      refine s_ifY (pc' := 112) A at_105 ((if0 _ _).trans (feq (fun q => hc105_1 ((lw_eq ((ushL q1 rr) &&& (1 : Int64)) (1 : Int64)).1 q))).2) (by decide) (by decide) ?_
      refine s_iconst (pc' := 113) (z := (0 : Int32)) A at_112 rfl (by decide) ?_
      refine s_istore (pc' := 115) (Ls' := #[jv q0, S2, jv q1, S2, jv q2, S2, jv q3, S2, iv q4, iv q5, rv b2, iv 0, iv bt, iv 1, iv rr, jv q1, S2, iv 0, U0]) A at_113 rfl rfl ?_
      refine s_aload (pc' := 117) A at_115 rfl rfl rfl ?_
      refine s_iload (pc' := 119) A at_117 rfl rfl ?_
      refine s_iload (pc' := 121) A at_119 rfl rfl ?_
      refine s_static (pc' := 124) (y := y1_contains) (argsL := [(.ref b2), (.int (0 : Int32)), (.int bt)]) (rest := []) A (con01 l Z a0 hw n0 h16 A.size b2 q0 q1 q2 q3 bt V18 hq) (w6 hw) (w7 hw) (w8 hw) (w9 hw) (by decide) pd___JII_Z rfl (W := 0) (by decide) (by decide) (Nat.le_of_eq rfl) (by decide) (by decide) rfl rfl at_121 rfl fun T h34 v35 A Q36 => ?_
      obtain ⟨rfl, eh⟩ := Q36
      rw [eh] at A
      refine Wp.stk (st' := [(.int (bvf q1 bt))]) rfl ?_
      refine s_istore (pc' := 126) (Ls' := #[jv q0, S2, jv q1, S2, jv q2, S2, jv q3, S2, iv q4, iv q5, rv b2, iv 0, iv bt, iv 1, iv rr, jv q1, S2, iv 0, iv (bvf q1 bt)]) A at_124 rfl rfl ?_
      refine s_iload (pc' := 128) A at_126 rfl rfl ?_
      refine s_iload (pc' := 130) A at_128 rfl rfl ?_
      refine s_icmpN (pc' := 133) A at_130 rfl (teq (own_b0 q1 bt rr 1 fbt.1 hr frr hc105_1)).2 ?_
      refine s_iconst (pc' := 134) (z := (1 : Int32)) A at_133 rfl (by decide) ?_
      refine s_goto (pc' := 138) A at_134 (by decide) (by decide) ?_
      exact r_bool A rfl (by decide) at_138 (by decide) (by decide) (rfl)
    ·
     refine s_icmpY (pc' := 67) A at_58 (flt hc58_1).2.1 (by decide) (by decide) ?_
     refine s_iconst (pc' := 68) (z := (2 : Int32)) A at_67 rfl (by decide) ?_
     refine s_istore (pc' := 70) (Ls' := #[jv q0, S2, jv q1, S2, jv q2, S2, jv q3, S2, iv q4, iv q5, rv b2, iv 0, iv bt, iv 2, U0, U0, U0, U0, U0]) A at_68 rfl rfl ?_
     refine s_iload (pc' := 72) A at_70 rfl rfl ?_
     refine s_bipush (pc' := 74) (z := (64 : Int32)) A at_72 rfl (by decide) ?_
     refine s_iload (pc' := 76) A at_74 rfl rfl ?_
     refine s_imul (pc' := 77) (z := (128 : Int32)) A at_76 rfl (by decide) ?_
     obtain ⟨rr, err⟩ : ∃ z, z = (bt - (128 : Int32)) := ⟨_, rfl⟩
     have frr : rr.toInt = bt.toInt - 64 * 2 := by rw [err]; have _ := rng32 bt; have _ : (128 : Int32).toInt = 128 := (by decide); have _ := rng32 (bt - (128 : Int32)); have _ := c_isub bt (128 : Int32); omega
     have hr : 0 ≤ rr.toInt ∧ rr.toInt < 64 := by have _ := rng32 bt; have _ : (64 : Int32).toInt = 64 := (by decide); have _ : (128 : Int32).toInt = 128 := (by decide); have _ : ¬ bt.toInt < (64 : Int32).toInt := (by rw [← Int32.lt_iff_toInt_lt]; exact hc44_1); have _ : ¬ bt.toInt < (128 : Int32).toInt := (by rw [← Int32.lt_iff_toInt_lt]; exact hc58_1); omega
     have hq : bt / (64 : Int32) = (2 : Int32) := (by have _ := rng32 bt; have _ : (64 : Int32).toInt = 64 := (by decide); have _ := rng32 (bt / (64 : Int32)); have _ := c_idiv bt (64 : Int32) 64 (by decide) (by decide); have _ : (2 : Int32).toInt = 2 := (by decide); have _ : (128 : Int32).toInt = 128 := (by decide); have _ : ¬ bt.toInt < (64 : Int32).toInt := (by rw [← Int32.lt_iff_toInt_lt]; exact hc44_1); have _ : ¬ bt.toInt < (128 : Int32).toInt := (by rw [← Int32.lt_iff_toInt_lt]; exact hc58_1); have _ := fbt; apply Int32.toInt_inj.mp; omega)
     refine s_isub (pc' := 78) (z := rr) A at_77 rfl err.symm ?_
     refine s_istore (pc' := 80) (Ls' := #[jv q0, S2, jv q1, S2, jv q2, S2, jv q3, S2, iv q4, iv q5, rv b2, iv 0, iv bt, iv 2, iv rr, U0, U0, U0, U0]) A at_78 rfl rfl ?_
     refine s_lloadN (pc' := 81) A at_80 rfl rfl ?_
     refine s_lloadN (pc' := 82) A at_81 rfl rfl ?_
     refine s_lload (pc' := 84) A at_82 rfl rfl ?_
     refine s_lload (pc' := 86) A at_84 rfl rfl ?_
     refine s_iload (pc' := 88) A at_86 rfl rfl ?_
     refine s_iload (pc' := 90) A at_88 rfl rfl ?_
     refine s_iadd (pc' := 91) (z := (2 : Int32)) A at_90 rfl (by decide) ?_
     refine s_static (pc' := 94) (y := y0_pick) (argsL := [(.long q0), (.long q1), (.long q2), (.long q3), (.int (2 : Int32))]) (rest := []) A (pick2 l Z a0 hw n0 h16 A.size q0 q1 q2 q3) (w2 hw) (w3 hw) (w4 hw) (w5 hw) (by decide) pd__JJJJI_J rfl (W := 0) (by decide) (by decide) (Nat.le_of_eq rfl) (by decide) (by decide) rfl rfl at_91 rfl fun T h37 v38 A Q39 => ?_
     obtain ⟨rfl, eh⟩ := Q39
     rw [eh] at A
     refine Wp.stk (st' := [(.long q2)]) rfl ?_
     refine s_lstore (pc' := 96) (Ls' := #[jv q0, S2, jv q1, S2, jv q2, S2, jv q3, S2, iv q4, iv q5, rv b2, iv 0, iv bt, iv 2, iv rr, jv q2, S2, U0, U0]) A at_94 rfl rfl ?_
     refine s_lload (pc' := 98) A at_96 rfl rfl ?_
     refine s_iload (pc' := 100) A at_98 rfl rfl ?_
     refine s_lushr (pc' := 101) (z := (ushL q2 rr)) A at_100 rfl rfl ?_
     refine s_lconst (pc' := 102) (z := (1 : Int64)) A at_101 rfl (by decide) ?_
     refine s_land (pc' := 103) (z := ((ushL q2 rr) &&& (1 : Int64))) A at_102 rfl rfl ?_
     refine s_lconst (pc' := 104) (z := (1 : Int64)) A at_103 rfl (by decide) ?_
     refine s_lcmp (pc' := 105) A at_104 rfl ?_
     by_cases hc105_1 : ((ushL q2 rr) &&& (1 : Int64)) = (1 : Int64)
     ·
      refine s_ifN (pc' := 108) A at_105 rfl ((if0 _ _).trans (teq ((lw_eq ((ushL q2 rr) &&& (1 : Int64)) (1 : Int64)).2 hc105_1)).2) ?_
      refine s_iconst (pc' := 109) (z := (1 : Int32)) A at_108 rfl (by decide) ?_
      refine s_goto (pc' := 113) A at_109 (by decide) (by decide) ?_
      refine s_istore (pc' := 115) (Ls' := #[jv q0, S2, jv q1, S2, jv q2, S2, jv q3, S2, iv q4, iv q5, rv b2, iv 0, iv bt, iv 2, iv rr, jv q2, S2, iv 1, U0]) A at_113 rfl rfl ?_
      refine s_aload (pc' := 117) A at_115 rfl rfl rfl ?_
      refine s_iload (pc' := 119) A at_117 rfl rfl ?_
      refine s_iload (pc' := 121) A at_119 rfl rfl ?_
      refine s_static (pc' := 124) (y := y1_contains) (argsL := [(.ref b2), (.int (0 : Int32)), (.int bt)]) (rest := []) A (con02 l Z a0 hw n0 h16 A.size b2 q0 q1 q2 q3 bt V18 hq) (w6 hw) (w7 hw) (w8 hw) (w9 hw) (by decide) pd___JII_Z rfl (W := 0) (by decide) (by decide) (Nat.le_of_eq rfl) (by decide) (by decide) rfl rfl at_121 rfl fun T h40 v41 A Q42 => ?_
      obtain ⟨rfl, eh⟩ := Q42
      rw [eh] at A
      refine Wp.stk (st' := [(.int (bvf q2 bt))]) rfl ?_
      refine s_istore (pc' := 126) (Ls' := #[jv q0, S2, jv q1, S2, jv q2, S2, jv q3, S2, iv q4, iv q5, rv b2, iv 0, iv bt, iv 2, iv rr, jv q2, S2, iv 1, iv (bvf q2 bt)]) A at_124 rfl rfl ?_
      refine s_iload (pc' := 128) A at_126 rfl rfl ?_
      refine s_iload (pc' := 130) A at_128 rfl rfl ?_
      refine s_icmpN (pc' := 133) A at_130 rfl (teq (own_b1 q2 bt rr 2 fbt.1 hr frr hc105_1)).2 ?_
      refine s_iconst (pc' := 134) (z := (1 : Int32)) A at_133 rfl (by decide) ?_
      refine s_goto (pc' := 138) A at_134 (by decide) (by decide) ?_
      exact r_bool A rfl (by decide) at_138 (by decide) (by decide) (rfl)
     ·
      refine s_ifY (pc' := 112) A at_105 ((if0 _ _).trans (feq (fun q => hc105_1 ((lw_eq ((ushL q2 rr) &&& (1 : Int64)) (1 : Int64)).1 q))).2) (by decide) (by decide) ?_
      refine s_iconst (pc' := 113) (z := (0 : Int32)) A at_112 rfl (by decide) ?_
      refine s_istore (pc' := 115) (Ls' := #[jv q0, S2, jv q1, S2, jv q2, S2, jv q3, S2, iv q4, iv q5, rv b2, iv 0, iv bt, iv 2, iv rr, jv q2, S2, iv 0, U0]) A at_113 rfl rfl ?_
      refine s_aload (pc' := 117) A at_115 rfl rfl rfl ?_
      refine s_iload (pc' := 119) A at_117 rfl rfl ?_
      refine s_iload (pc' := 121) A at_119 rfl rfl ?_
      refine s_static (pc' := 124) (y := y1_contains) (argsL := [(.ref b2), (.int (0 : Int32)), (.int bt)]) (rest := []) A (con02 l Z a0 hw n0 h16 A.size b2 q0 q1 q2 q3 bt V18 hq) (w6 hw) (w7 hw) (w8 hw) (w9 hw) (by decide) pd___JII_Z rfl (W := 0) (by decide) (by decide) (Nat.le_of_eq rfl) (by decide) (by decide) rfl rfl at_121 rfl fun T h43 v44 A Q45 => ?_
      obtain ⟨rfl, eh⟩ := Q45
      rw [eh] at A
      refine Wp.stk (st' := [(.int (bvf q2 bt))]) rfl ?_
      refine s_istore (pc' := 126) (Ls' := #[jv q0, S2, jv q1, S2, jv q2, S2, jv q3, S2, iv q4, iv q5, rv b2, iv 0, iv bt, iv 2, iv rr, jv q2, S2, iv 0, iv (bvf q2 bt)]) A at_124 rfl rfl ?_
      refine s_iload (pc' := 128) A at_126 rfl rfl ?_
      refine s_iload (pc' := 130) A at_128 rfl rfl ?_
      refine s_icmpN (pc' := 133) A at_130 rfl (teq (own_b0 q2 bt rr 2 fbt.1 hr frr hc105_1)).2 ?_
      refine s_iconst (pc' := 134) (z := (1 : Int32)) A at_133 rfl (by decide) ?_
      refine s_goto (pc' := 138) A at_134 (by decide) (by decide) ?_
      exact r_bool A rfl (by decide) at_138 (by decide) (by decide) (rfl)
  ·
   refine s_iand (pc' := 27) (z := (1 : Int32)) A at_26 rfl hss.symm ?_
   refine s_istore (pc' := 29) (Ls' := #[jv q0, S2, jv q1, S2, jv q2, S2, jv q3, S2, iv q4, iv q5, rv b2, iv 1, U0, U0, U0, U0, U0, U0, U0]) A at_27 rfl rfl ?_
   refine s_iload (pc' := 31) A at_29 rfl rfl ?_
   refine s_ldcInt (pc' := 33) A at_31 rfl (w1 hw) ?_
   refine s_iand (pc' := 34) (z := (q5 &&& (2147483647 : Int32))) A at_33 rfl rfl ?_
   refine s_sipush (pc' := 37) (z := (192 : Int32)) A at_34 rfl (by decide) ?_
   obtain ⟨bt, ebt⟩ : ∃ z, z = ((q5 &&& (2147483647 : Int32)) % (192 : Int32)) := ⟨_, rfl⟩
   have fbt : 0 ≤ bt.toInt ∧ bt.toInt < 192 := by rw [ebt]; have _ := rng32 q5; have _ : (2147483647 : Int32).toInt = 2147483647 := (by decide); have _ := rng32 (q5 &&& (2147483647 : Int32)); have _ : (q5 &&& (2147483647 : Int32)).toInt = q5.toInt % 2147483648 := c_mask q5 (2147483647 : Int32) 31 (by decide) (by decide); have _ : (192 : Int32).toInt = 192 := (by decide); have _ := rng32 ((q5 &&& (2147483647 : Int32)) % (192 : Int32)); have _ := c_irem (q5 &&& (2147483647 : Int32)) (192 : Int32) 192 (by decide); omega
   refine s_irem (pc' := 38) (z := bt) A at_37 rfl (by decide) ebt.symm ?_
   refine s_istore (pc' := 40) (Ls' := #[jv q0, S2, jv q1, S2, jv q2, S2, jv q3, S2, iv q4, iv q5, rv b2, iv 1, iv bt, U0, U0, U0, U0, U0, U0]) A at_38 rfl rfl ?_
   refine s_iload (pc' := 42) A at_40 rfl rfl ?_
   refine s_bipush (pc' := 44) (z := (64 : Int32)) A at_42 rfl (by decide) ?_
   by_cases hc44_1 : bt < (64 : Int32)
   ·
    refine s_icmpN (pc' := 47) A at_44 rfl (tlt hc44_1).2.1 ?_
    refine s_iconst (pc' := 48) (z := (0 : Int32)) A at_47 rfl (by decide) ?_
    refine s_istore (pc' := 50) (Ls' := #[jv q0, S2, jv q1, S2, jv q2, S2, jv q3, S2, iv q4, iv q5, rv b2, iv 1, iv bt, iv 0, U0, U0, U0, U0, U0]) A at_48 rfl rfl ?_
    refine s_goto (pc' := 70) A at_50 (by decide) (by decide) ?_
    refine s_iload (pc' := 72) A at_70 rfl rfl ?_
    refine s_bipush (pc' := 74) (z := (64 : Int32)) A at_72 rfl (by decide) ?_
    refine s_iload (pc' := 76) A at_74 rfl rfl ?_
    refine s_imul (pc' := 77) (z := (0 : Int32)) A at_76 rfl (by decide) ?_
    obtain ⟨rr, err⟩ : ∃ z, z = (bt - (0 : Int32)) := ⟨_, rfl⟩
    have frr : rr.toInt = bt.toInt - 64 * 0 := by rw [err]; have _ := rng32 bt; have _ : (0 : Int32).toInt = 0 := (by decide); have _ := rng32 (bt - (0 : Int32)); have _ := c_isub bt (0 : Int32); omega
    have hr : 0 ≤ rr.toInt ∧ rr.toInt < 64 := by have _ := rng32 bt; have _ : (64 : Int32).toInt = 64 := (by decide); have _ : bt.toInt < (64 : Int32).toInt := (by rw [← Int32.lt_iff_toInt_lt]; exact hc44_1); omega
    have hq : bt / (64 : Int32) = (0 : Int32) := (by have _ := rng32 bt; have _ : (64 : Int32).toInt = 64 := (by decide); have _ := rng32 (bt / (64 : Int32)); have _ := c_idiv bt (64 : Int32) 64 (by decide) (by decide); have _ : (0 : Int32).toInt = 0 := (by decide); have _ : bt.toInt < (64 : Int32).toInt := (by rw [← Int32.lt_iff_toInt_lt]; exact hc44_1); have _ := fbt; apply Int32.toInt_inj.mp; omega)
    refine s_isub (pc' := 78) (z := rr) A at_77 rfl err.symm ?_
    refine s_istore (pc' := 80) (Ls' := #[jv q0, S2, jv q1, S2, jv q2, S2, jv q3, S2, iv q4, iv q5, rv b2, iv 1, iv bt, iv 0, iv rr, U0, U0, U0, U0]) A at_78 rfl rfl ?_
    refine s_lloadN (pc' := 81) A at_80 rfl rfl ?_
    refine s_lloadN (pc' := 82) A at_81 rfl rfl ?_
    refine s_lload (pc' := 84) A at_82 rfl rfl ?_
    refine s_lload (pc' := 86) A at_84 rfl rfl ?_
    refine s_iload (pc' := 88) A at_86 rfl rfl ?_
    refine s_iload (pc' := 90) A at_88 rfl rfl ?_
    refine s_iadd (pc' := 91) (z := (1 : Int32)) A at_90 rfl (by decide) ?_
    refine s_static (pc' := 94) (y := y0_pick) (argsL := [(.long q0), (.long q1), (.long q2), (.long q3), (.int (1 : Int32))]) (rest := []) A (pick1 l Z a0 hw n0 h16 A.size q0 q1 q2 q3) (w2 hw) (w3 hw) (w4 hw) (w5 hw) (by decide) pd__JJJJI_J rfl (W := 0) (by decide) (by decide) (Nat.le_of_eq rfl) (by decide) (by decide) rfl rfl at_91 rfl fun T h46 v47 A Q48 => ?_
    obtain ⟨rfl, eh⟩ := Q48
    rw [eh] at A
    refine Wp.stk (st' := [(.long q1)]) rfl ?_
    refine s_lstore (pc' := 96) (Ls' := #[jv q0, S2, jv q1, S2, jv q2, S2, jv q3, S2, iv q4, iv q5, rv b2, iv 1, iv bt, iv 0, iv rr, jv q1, S2, U0, U0]) A at_94 rfl rfl ?_
    refine s_lload (pc' := 98) A at_96 rfl rfl ?_
    refine s_iload (pc' := 100) A at_98 rfl rfl ?_
    refine s_lushr (pc' := 101) (z := (ushL q1 rr)) A at_100 rfl rfl ?_
    refine s_lconst (pc' := 102) (z := (1 : Int64)) A at_101 rfl (by decide) ?_
    refine s_land (pc' := 103) (z := ((ushL q1 rr) &&& (1 : Int64))) A at_102 rfl rfl ?_
    refine s_lconst (pc' := 104) (z := (1 : Int64)) A at_103 rfl (by decide) ?_
    refine s_lcmp (pc' := 105) A at_104 rfl ?_
    by_cases hc105_1 : ((ushL q1 rr) &&& (1 : Int64)) = (1 : Int64)
    ·
     refine s_ifN (pc' := 108) A at_105 rfl ((if0 _ _).trans (teq ((lw_eq ((ushL q1 rr) &&& (1 : Int64)) (1 : Int64)).2 hc105_1)).2) ?_
     refine s_iconst (pc' := 109) (z := (1 : Int32)) A at_108 rfl (by decide) ?_
     refine s_goto (pc' := 113) A at_109 (by decide) (by decide) ?_
     refine s_istore (pc' := 115) (Ls' := #[jv q0, S2, jv q1, S2, jv q2, S2, jv q3, S2, iv q4, iv q5, rv b2, iv 1, iv bt, iv 0, iv rr, jv q1, S2, iv 1, U0]) A at_113 rfl rfl ?_
     refine s_aload (pc' := 117) A at_115 rfl rfl rfl ?_
     refine s_iload (pc' := 119) A at_117 rfl rfl ?_
     refine s_iload (pc' := 121) A at_119 rfl rfl ?_
     refine s_static (pc' := 124) (y := y1_contains) (argsL := [(.ref b2), (.int (1 : Int32)), (.int bt)]) (rest := []) A (con10 l Z a0 hw n0 h16 A.size b2 q0 q1 q2 q3 bt V18 hq) (w6 hw) (w7 hw) (w8 hw) (w9 hw) (by decide) pd___JII_Z rfl (W := 0) (by decide) (by decide) (Nat.le_of_eq rfl) (by decide) (by decide) rfl rfl at_121 rfl fun T h49 v50 A Q51 => ?_
     obtain ⟨rfl, eh⟩ := Q51
     rw [eh] at A
     refine Wp.stk (st' := [(.int (bvf q1 bt))]) rfl ?_
     refine s_istore (pc' := 126) (Ls' := #[jv q0, S2, jv q1, S2, jv q2, S2, jv q3, S2, iv q4, iv q5, rv b2, iv 1, iv bt, iv 0, iv rr, jv q1, S2, iv 1, iv (bvf q1 bt)]) A at_124 rfl rfl ?_
     refine s_iload (pc' := 128) A at_126 rfl rfl ?_
     refine s_iload (pc' := 130) A at_128 rfl rfl ?_
     refine s_icmpN (pc' := 133) A at_130 rfl (teq (own_b1 q1 bt rr 0 fbt.1 hr frr hc105_1)).2 ?_
     refine s_iconst (pc' := 134) (z := (1 : Int32)) A at_133 rfl (by decide) ?_
     refine s_goto (pc' := 138) A at_134 (by decide) (by decide) ?_
     exact r_bool A rfl (by decide) at_138 (by decide) (by decide) (rfl)
    ·
     refine s_ifY (pc' := 112) A at_105 ((if0 _ _).trans (feq (fun q => hc105_1 ((lw_eq ((ushL q1 rr) &&& (1 : Int64)) (1 : Int64)).1 q))).2) (by decide) (by decide) ?_
     refine s_iconst (pc' := 113) (z := (0 : Int32)) A at_112 rfl (by decide) ?_
     refine s_istore (pc' := 115) (Ls' := #[jv q0, S2, jv q1, S2, jv q2, S2, jv q3, S2, iv q4, iv q5, rv b2, iv 1, iv bt, iv 0, iv rr, jv q1, S2, iv 0, U0]) A at_113 rfl rfl ?_
     refine s_aload (pc' := 117) A at_115 rfl rfl rfl ?_
     refine s_iload (pc' := 119) A at_117 rfl rfl ?_
     refine s_iload (pc' := 121) A at_119 rfl rfl ?_
     refine s_static (pc' := 124) (y := y1_contains) (argsL := [(.ref b2), (.int (1 : Int32)), (.int bt)]) (rest := []) A (con10 l Z a0 hw n0 h16 A.size b2 q0 q1 q2 q3 bt V18 hq) (w6 hw) (w7 hw) (w8 hw) (w9 hw) (by decide) pd___JII_Z rfl (W := 0) (by decide) (by decide) (Nat.le_of_eq rfl) (by decide) (by decide) rfl rfl at_121 rfl fun T h52 v53 A Q54 => ?_
     obtain ⟨rfl, eh⟩ := Q54
     rw [eh] at A
     refine Wp.stk (st' := [(.int (bvf q1 bt))]) rfl ?_
     refine s_istore (pc' := 126) (Ls' := #[jv q0, S2, jv q1, S2, jv q2, S2, jv q3, S2, iv q4, iv q5, rv b2, iv 1, iv bt, iv 0, iv rr, jv q1, S2, iv 0, iv (bvf q1 bt)]) A at_124 rfl rfl ?_
     refine s_iload (pc' := 128) A at_126 rfl rfl ?_
     refine s_iload (pc' := 130) A at_128 rfl rfl ?_
     refine s_icmpN (pc' := 133) A at_130 rfl (teq (own_b0 q1 bt rr 0 fbt.1 hr frr hc105_1)).2 ?_
     refine s_iconst (pc' := 134) (z := (1 : Int32)) A at_133 rfl (by decide) ?_
     refine s_goto (pc' := 138) A at_134 (by decide) (by decide) ?_
     exact r_bool A rfl (by decide) at_138 (by decide) (by decide) (rfl)
   ·
    refine s_icmpY (pc' := 53) A at_44 (flt hc44_1).2.1 (by decide) (by decide) ?_
    refine s_iload (pc' := 55) A at_53 rfl rfl ?_
    refine s_sipush (pc' := 58) (z := (128 : Int32)) A at_55 rfl (by decide) ?_
    by_cases hc58_1 : bt < (128 : Int32)
    ·
     refine s_icmpN (pc' := 61) A at_58 rfl (tlt hc58_1).2.1 ?_
     refine s_iconst (pc' := 62) (z := (1 : Int32)) A at_61 rfl (by decide) ?_
     refine s_istore (pc' := 64) (Ls' := #[jv q0, S2, jv q1, S2, jv q2, S2, jv q3, S2, iv q4, iv q5, rv b2, iv 1, iv bt, iv 1, U0, U0, U0, U0, U0]) A at_62 rfl rfl ?_
     refine s_goto (pc' := 70) A at_64 (by decide) (by decide) ?_
     refine s_iload (pc' := 72) A at_70 rfl rfl ?_
     refine s_bipush (pc' := 74) (z := (64 : Int32)) A at_72 rfl (by decide) ?_
     refine s_iload (pc' := 76) A at_74 rfl rfl ?_
     refine s_imul (pc' := 77) (z := (64 : Int32)) A at_76 rfl (by decide) ?_
     obtain ⟨rr, err⟩ : ∃ z, z = (bt - (64 : Int32)) := ⟨_, rfl⟩
     have frr : rr.toInt = bt.toInt - 64 * 1 := by rw [err]; have _ := rng32 bt; have _ : (64 : Int32).toInt = 64 := (by decide); have _ := rng32 (bt - (64 : Int32)); have _ := c_isub bt (64 : Int32); omega
     have hr : 0 ≤ rr.toInt ∧ rr.toInt < 64 := by have _ := rng32 bt; have _ : (64 : Int32).toInt = 64 := (by decide); have _ : (128 : Int32).toInt = 128 := (by decide); have _ : ¬ bt.toInt < (64 : Int32).toInt := (by rw [← Int32.lt_iff_toInt_lt]; exact hc44_1); have _ : bt.toInt < (128 : Int32).toInt := (by rw [← Int32.lt_iff_toInt_lt]; exact hc58_1); omega
     have hq : bt / (64 : Int32) = (1 : Int32) := (by have _ := rng32 bt; have _ : (64 : Int32).toInt = 64 := (by decide); have _ := rng32 (bt / (64 : Int32)); have _ := c_idiv bt (64 : Int32) 64 (by decide) (by decide); have _ : (1 : Int32).toInt = 1 := (by decide); have _ : (128 : Int32).toInt = 128 := (by decide); have _ : ¬ bt.toInt < (64 : Int32).toInt := (by rw [← Int32.lt_iff_toInt_lt]; exact hc44_1); have _ : bt.toInt < (128 : Int32).toInt := (by rw [← Int32.lt_iff_toInt_lt]; exact hc58_1); have _ := fbt; apply Int32.toInt_inj.mp; omega)
     refine s_isub (pc' := 78) (z := rr) A at_77 rfl err.symm ?_
     refine s_istore (pc' := 80) (Ls' := #[jv q0, S2, jv q1, S2, jv q2, S2, jv q3, S2, iv q4, iv q5, rv b2, iv 1, iv bt, iv 1, iv rr, U0, U0, U0, U0]) A at_78 rfl rfl ?_
     refine s_lloadN (pc' := 81) A at_80 rfl rfl ?_
     refine s_lloadN (pc' := 82) A at_81 rfl rfl ?_
     refine s_lload (pc' := 84) A at_82 rfl rfl ?_
     refine s_lload (pc' := 86) A at_84 rfl rfl ?_
     refine s_iload (pc' := 88) A at_86 rfl rfl ?_
     refine s_iload (pc' := 90) A at_88 rfl rfl ?_
     refine s_iadd (pc' := 91) (z := (2 : Int32)) A at_90 rfl (by decide) ?_
     refine s_static (pc' := 94) (y := y0_pick) (argsL := [(.long q0), (.long q1), (.long q2), (.long q3), (.int (2 : Int32))]) (rest := []) A (pick2 l Z a0 hw n0 h16 A.size q0 q1 q2 q3) (w2 hw) (w3 hw) (w4 hw) (w5 hw) (by decide) pd__JJJJI_J rfl (W := 0) (by decide) (by decide) (Nat.le_of_eq rfl) (by decide) (by decide) rfl rfl at_91 rfl fun T h55 v56 A Q57 => ?_
     obtain ⟨rfl, eh⟩ := Q57
     rw [eh] at A
     refine Wp.stk (st' := [(.long q2)]) rfl ?_
     refine s_lstore (pc' := 96) (Ls' := #[jv q0, S2, jv q1, S2, jv q2, S2, jv q3, S2, iv q4, iv q5, rv b2, iv 1, iv bt, iv 1, iv rr, jv q2, S2, U0, U0]) A at_94 rfl rfl ?_
     refine s_lload (pc' := 98) A at_96 rfl rfl ?_
     refine s_iload (pc' := 100) A at_98 rfl rfl ?_
     refine s_lushr (pc' := 101) (z := (ushL q2 rr)) A at_100 rfl rfl ?_
     refine s_lconst (pc' := 102) (z := (1 : Int64)) A at_101 rfl (by decide) ?_
     refine s_land (pc' := 103) (z := ((ushL q2 rr) &&& (1 : Int64))) A at_102 rfl rfl ?_
     refine s_lconst (pc' := 104) (z := (1 : Int64)) A at_103 rfl (by decide) ?_
     refine s_lcmp (pc' := 105) A at_104 rfl ?_
     by_cases hc105_1 : ((ushL q2 rr) &&& (1 : Int64)) = (1 : Int64)
     ·
      refine s_ifN (pc' := 108) A at_105 rfl ((if0 _ _).trans (teq ((lw_eq ((ushL q2 rr) &&& (1 : Int64)) (1 : Int64)).2 hc105_1)).2) ?_
      refine s_iconst (pc' := 109) (z := (1 : Int32)) A at_108 rfl (by decide) ?_
      refine s_goto (pc' := 113) A at_109 (by decide) (by decide) ?_
      refine s_istore (pc' := 115) (Ls' := #[jv q0, S2, jv q1, S2, jv q2, S2, jv q3, S2, iv q4, iv q5, rv b2, iv 1, iv bt, iv 1, iv rr, jv q2, S2, iv 1, U0]) A at_113 rfl rfl ?_
      refine s_aload (pc' := 117) A at_115 rfl rfl rfl ?_
      refine s_iload (pc' := 119) A at_117 rfl rfl ?_
      refine s_iload (pc' := 121) A at_119 rfl rfl ?_
      refine s_static (pc' := 124) (y := y1_contains) (argsL := [(.ref b2), (.int (1 : Int32)), (.int bt)]) (rest := []) A (con11 l Z a0 hw n0 h16 A.size b2 q0 q1 q2 q3 bt V18 hq) (w6 hw) (w7 hw) (w8 hw) (w9 hw) (by decide) pd___JII_Z rfl (W := 0) (by decide) (by decide) (Nat.le_of_eq rfl) (by decide) (by decide) rfl rfl at_121 rfl fun T h58 v59 A Q60 => ?_
      obtain ⟨rfl, eh⟩ := Q60
      rw [eh] at A
      refine Wp.stk (st' := [(.int (bvf q2 bt))]) rfl ?_
      refine s_istore (pc' := 126) (Ls' := #[jv q0, S2, jv q1, S2, jv q2, S2, jv q3, S2, iv q4, iv q5, rv b2, iv 1, iv bt, iv 1, iv rr, jv q2, S2, iv 1, iv (bvf q2 bt)]) A at_124 rfl rfl ?_
      refine s_iload (pc' := 128) A at_126 rfl rfl ?_
      refine s_iload (pc' := 130) A at_128 rfl rfl ?_
      refine s_icmpN (pc' := 133) A at_130 rfl (teq (own_b1 q2 bt rr 1 fbt.1 hr frr hc105_1)).2 ?_
      refine s_iconst (pc' := 134) (z := (1 : Int32)) A at_133 rfl (by decide) ?_
      refine s_goto (pc' := 138) A at_134 (by decide) (by decide) ?_
      exact r_bool A rfl (by decide) at_138 (by decide) (by decide) (rfl)
     ·
      refine s_ifY (pc' := 112) A at_105 ((if0 _ _).trans (feq (fun q => hc105_1 ((lw_eq ((ushL q2 rr) &&& (1 : Int64)) (1 : Int64)).1 q))).2) (by decide) (by decide) ?_
      refine s_iconst (pc' := 113) (z := (0 : Int32)) A at_112 rfl (by decide) ?_
      refine s_istore (pc' := 115) (Ls' := #[jv q0, S2, jv q1, S2, jv q2, S2, jv q3, S2, iv q4, iv q5, rv b2, iv 1, iv bt, iv 1, iv rr, jv q2, S2, iv 0, U0]) A at_113 rfl rfl ?_
      refine s_aload (pc' := 117) A at_115 rfl rfl rfl ?_
      refine s_iload (pc' := 119) A at_117 rfl rfl ?_
      refine s_iload (pc' := 121) A at_119 rfl rfl ?_
      refine s_static (pc' := 124) (y := y1_contains) (argsL := [(.ref b2), (.int (1 : Int32)), (.int bt)]) (rest := []) A (con11 l Z a0 hw n0 h16 A.size b2 q0 q1 q2 q3 bt V18 hq) (w6 hw) (w7 hw) (w8 hw) (w9 hw) (by decide) pd___JII_Z rfl (W := 0) (by decide) (by decide) (Nat.le_of_eq rfl) (by decide) (by decide) rfl rfl at_121 rfl fun T h61 v62 A Q63 => ?_
      obtain ⟨rfl, eh⟩ := Q63
      rw [eh] at A
      refine Wp.stk (st' := [(.int (bvf q2 bt))]) rfl ?_
      refine s_istore (pc' := 126) (Ls' := #[jv q0, S2, jv q1, S2, jv q2, S2, jv q3, S2, iv q4, iv q5, rv b2, iv 1, iv bt, iv 1, iv rr, jv q2, S2, iv 0, iv (bvf q2 bt)]) A at_124 rfl rfl ?_
      refine s_iload (pc' := 128) A at_126 rfl rfl ?_
      refine s_iload (pc' := 130) A at_128 rfl rfl ?_
      refine s_icmpN (pc' := 133) A at_130 rfl (teq (own_b0 q2 bt rr 1 fbt.1 hr frr hc105_1)).2 ?_
      refine s_iconst (pc' := 134) (z := (1 : Int32)) A at_133 rfl (by decide) ?_
      refine s_goto (pc' := 138) A at_134 (by decide) (by decide) ?_
      exact r_bool A rfl (by decide) at_138 (by decide) (by decide) (rfl)
    ·
     refine s_icmpY (pc' := 67) A at_58 (flt hc58_1).2.1 (by decide) (by decide) ?_
     refine s_iconst (pc' := 68) (z := (2 : Int32)) A at_67 rfl (by decide) ?_
     refine s_istore (pc' := 70) (Ls' := #[jv q0, S2, jv q1, S2, jv q2, S2, jv q3, S2, iv q4, iv q5, rv b2, iv 1, iv bt, iv 2, U0, U0, U0, U0, U0]) A at_68 rfl rfl ?_
     refine s_iload (pc' := 72) A at_70 rfl rfl ?_
     refine s_bipush (pc' := 74) (z := (64 : Int32)) A at_72 rfl (by decide) ?_
     refine s_iload (pc' := 76) A at_74 rfl rfl ?_
     refine s_imul (pc' := 77) (z := (128 : Int32)) A at_76 rfl (by decide) ?_
     obtain ⟨rr, err⟩ : ∃ z, z = (bt - (128 : Int32)) := ⟨_, rfl⟩
     have frr : rr.toInt = bt.toInt - 64 * 2 := by rw [err]; have _ := rng32 bt; have _ : (128 : Int32).toInt = 128 := (by decide); have _ := rng32 (bt - (128 : Int32)); have _ := c_isub bt (128 : Int32); omega
     have hr : 0 ≤ rr.toInt ∧ rr.toInt < 64 := by have _ := rng32 bt; have _ : (64 : Int32).toInt = 64 := (by decide); have _ : (128 : Int32).toInt = 128 := (by decide); have _ : ¬ bt.toInt < (64 : Int32).toInt := (by rw [← Int32.lt_iff_toInt_lt]; exact hc44_1); have _ : ¬ bt.toInt < (128 : Int32).toInt := (by rw [← Int32.lt_iff_toInt_lt]; exact hc58_1); omega
     have hq : bt / (64 : Int32) = (2 : Int32) := (by have _ := rng32 bt; have _ : (64 : Int32).toInt = 64 := (by decide); have _ := rng32 (bt / (64 : Int32)); have _ := c_idiv bt (64 : Int32) 64 (by decide) (by decide); have _ : (2 : Int32).toInt = 2 := (by decide); have _ : (128 : Int32).toInt = 128 := (by decide); have _ : ¬ bt.toInt < (64 : Int32).toInt := (by rw [← Int32.lt_iff_toInt_lt]; exact hc44_1); have _ : ¬ bt.toInt < (128 : Int32).toInt := (by rw [← Int32.lt_iff_toInt_lt]; exact hc58_1); have _ := fbt; apply Int32.toInt_inj.mp; omega)
     refine s_isub (pc' := 78) (z := rr) A at_77 rfl err.symm ?_
     refine s_istore (pc' := 80) (Ls' := #[jv q0, S2, jv q1, S2, jv q2, S2, jv q3, S2, iv q4, iv q5, rv b2, iv 1, iv bt, iv 2, iv rr, U0, U0, U0, U0]) A at_78 rfl rfl ?_
     refine s_lloadN (pc' := 81) A at_80 rfl rfl ?_
     refine s_lloadN (pc' := 82) A at_81 rfl rfl ?_
     refine s_lload (pc' := 84) A at_82 rfl rfl ?_
     refine s_lload (pc' := 86) A at_84 rfl rfl ?_
     refine s_iload (pc' := 88) A at_86 rfl rfl ?_
     refine s_iload (pc' := 90) A at_88 rfl rfl ?_
     refine s_iadd (pc' := 91) (z := (3 : Int32)) A at_90 rfl (by decide) ?_
     refine s_static (pc' := 94) (y := y0_pick) (argsL := [(.long q0), (.long q1), (.long q2), (.long q3), (.int (3 : Int32))]) (rest := []) A (pick3 l Z a0 hw n0 h16 A.size q0 q1 q2 q3) (w2 hw) (w3 hw) (w4 hw) (w5 hw) (by decide) pd__JJJJI_J rfl (W := 0) (by decide) (by decide) (Nat.le_of_eq rfl) (by decide) (by decide) rfl rfl at_91 rfl fun T h64 v65 A Q66 => ?_
     obtain ⟨rfl, eh⟩ := Q66
     rw [eh] at A
     refine Wp.stk (st' := [(.long q3)]) rfl ?_
     refine s_lstore (pc' := 96) (Ls' := #[jv q0, S2, jv q1, S2, jv q2, S2, jv q3, S2, iv q4, iv q5, rv b2, iv 1, iv bt, iv 2, iv rr, jv q3, S2, U0, U0]) A at_94 rfl rfl ?_
     refine s_lload (pc' := 98) A at_96 rfl rfl ?_
     refine s_iload (pc' := 100) A at_98 rfl rfl ?_
     refine s_lushr (pc' := 101) (z := (ushL q3 rr)) A at_100 rfl rfl ?_
     refine s_lconst (pc' := 102) (z := (1 : Int64)) A at_101 rfl (by decide) ?_
     refine s_land (pc' := 103) (z := ((ushL q3 rr) &&& (1 : Int64))) A at_102 rfl rfl ?_
     refine s_lconst (pc' := 104) (z := (1 : Int64)) A at_103 rfl (by decide) ?_
     refine s_lcmp (pc' := 105) A at_104 rfl ?_
     by_cases hc105_1 : ((ushL q3 rr) &&& (1 : Int64)) = (1 : Int64)
     ·
      refine s_ifN (pc' := 108) A at_105 rfl ((if0 _ _).trans (teq ((lw_eq ((ushL q3 rr) &&& (1 : Int64)) (1 : Int64)).2 hc105_1)).2) ?_
      refine s_iconst (pc' := 109) (z := (1 : Int32)) A at_108 rfl (by decide) ?_
      refine s_goto (pc' := 113) A at_109 (by decide) (by decide) ?_
      refine s_istore (pc' := 115) (Ls' := #[jv q0, S2, jv q1, S2, jv q2, S2, jv q3, S2, iv q4, iv q5, rv b2, iv 1, iv bt, iv 2, iv rr, jv q3, S2, iv 1, U0]) A at_113 rfl rfl ?_
      refine s_aload (pc' := 117) A at_115 rfl rfl rfl ?_
      refine s_iload (pc' := 119) A at_117 rfl rfl ?_
      refine s_iload (pc' := 121) A at_119 rfl rfl ?_
      refine s_static (pc' := 124) (y := y1_contains) (argsL := [(.ref b2), (.int (1 : Int32)), (.int bt)]) (rest := []) A (con12 l Z a0 hw n0 h16 A.size b2 q0 q1 q2 q3 bt V18 hq) (w6 hw) (w7 hw) (w8 hw) (w9 hw) (by decide) pd___JII_Z rfl (W := 0) (by decide) (by decide) (Nat.le_of_eq rfl) (by decide) (by decide) rfl rfl at_121 rfl fun T h67 v68 A Q69 => ?_
      obtain ⟨rfl, eh⟩ := Q69
      rw [eh] at A
      refine Wp.stk (st' := [(.int (bvf q3 bt))]) rfl ?_
      refine s_istore (pc' := 126) (Ls' := #[jv q0, S2, jv q1, S2, jv q2, S2, jv q3, S2, iv q4, iv q5, rv b2, iv 1, iv bt, iv 2, iv rr, jv q3, S2, iv 1, iv (bvf q3 bt)]) A at_124 rfl rfl ?_
      refine s_iload (pc' := 128) A at_126 rfl rfl ?_
      refine s_iload (pc' := 130) A at_128 rfl rfl ?_
      refine s_icmpN (pc' := 133) A at_130 rfl (teq (own_b1 q3 bt rr 2 fbt.1 hr frr hc105_1)).2 ?_
      refine s_iconst (pc' := 134) (z := (1 : Int32)) A at_133 rfl (by decide) ?_
      refine s_goto (pc' := 138) A at_134 (by decide) (by decide) ?_
      exact r_bool A rfl (by decide) at_138 (by decide) (by decide) (rfl)
     ·
      refine s_ifY (pc' := 112) A at_105 ((if0 _ _).trans (feq (fun q => hc105_1 ((lw_eq ((ushL q3 rr) &&& (1 : Int64)) (1 : Int64)).1 q))).2) (by decide) (by decide) ?_
      refine s_iconst (pc' := 113) (z := (0 : Int32)) A at_112 rfl (by decide) ?_
      refine s_istore (pc' := 115) (Ls' := #[jv q0, S2, jv q1, S2, jv q2, S2, jv q3, S2, iv q4, iv q5, rv b2, iv 1, iv bt, iv 2, iv rr, jv q3, S2, iv 0, U0]) A at_113 rfl rfl ?_
      refine s_aload (pc' := 117) A at_115 rfl rfl rfl ?_
      refine s_iload (pc' := 119) A at_117 rfl rfl ?_
      refine s_iload (pc' := 121) A at_119 rfl rfl ?_
      refine s_static (pc' := 124) (y := y1_contains) (argsL := [(.ref b2), (.int (1 : Int32)), (.int bt)]) (rest := []) A (con12 l Z a0 hw n0 h16 A.size b2 q0 q1 q2 q3 bt V18 hq) (w6 hw) (w7 hw) (w8 hw) (w9 hw) (by decide) pd___JII_Z rfl (W := 0) (by decide) (by decide) (Nat.le_of_eq rfl) (by decide) (by decide) rfl rfl at_121 rfl fun T h70 v71 A Q72 => ?_
      obtain ⟨rfl, eh⟩ := Q72
      rw [eh] at A
      refine Wp.stk (st' := [(.int (bvf q3 bt))]) rfl ?_
      refine s_istore (pc' := 126) (Ls' := #[jv q0, S2, jv q1, S2, jv q2, S2, jv q3, S2, iv q4, iv q5, rv b2, iv 1, iv bt, iv 2, iv rr, jv q3, S2, iv 0, iv (bvf q3 bt)]) A at_124 rfl rfl ?_
      refine s_iload (pc' := 128) A at_126 rfl rfl ?_
      refine s_iload (pc' := 130) A at_128 rfl rfl ?_
      refine s_icmpN (pc' := 133) A at_130 rfl (teq (own_b0 q3 bt rr 2 fbt.1 hr frr hc105_1)).2 ?_
      refine s_iconst (pc' := 134) (z := (1 : Int32)) A at_133 rfl (by decide) ?_
      refine s_goto (pc' := 138) A at_134 (by decide) (by decide) ?_
      exact r_bool A rfl (by decide) at_138 (by decide) (by decide) (rfl)
set_option maxRecDepth 65536 in
set_option maxHeartbeats 40000000 in
theorem comes_1 {Post : Tables → Env → Array Value → State → Outcome → State → Prop} (hpost : ∀ tb e args s v u, (limb_1_1.after args s (.returned v) u = true ∧ limb_1_2.after args s (.returned v) u = true ∧ True) → FrameEnd s (.returned v) u (Jvm.fieldLocs frame_1_writes args s ++ Jvm.arrayLocs frame_1_arrays args s ++ Jvm.staticLocs frame_1_statics s) 16 128 → Post tb e args s (.returned v) u) :
    ArmFor flags0 classFile x code maxLocals ret World_1 tables_1 room_1 Calls_1 rest_1 Pre_1 Post := by
  intro l hfl _ _ p e ha hc hk s m args below hf hA hF happ hP
  obtain ⟨hcalls, hrest, hpre⟩ := hP
  obtain ⟨-, -, -, hnamed, -, -, -, hat⟩ := (Spec.applies_iff hf).mp happ
  obtain ⟨hg, hn⟩ := and_e (Cond.before_iff.mp (show (Jvm.Cond.and given_1 narrow_1).before args s = true from hpre))
  obtain ⟨hcnt, hg⟩ := and_e hg
  obtain ⟨w0, w1, w2, w3, w4, w5, rfl⟩ : ∃ w0 w1 w2 w3 w4 w5 : Value, args = #[w0, w1, w2, w3, w4, w5] := by
    have hs : args.size = 6 := by simpa [Cond.value, given_1] using hcnt
    obtain ⟨L⟩ := args
    match L, hs with
    | [w0, w1, w2, w3, w4, w5], _ => exact ⟨w0, w1, w2, w3, w4, w5, rfl⟩
  have hw := fun d (hd : d ∈ tables_1) => atoms_spec (ws := Jvm.Cond.code x code maxLocals ret :: tables_1) hat d (List.mem_cons_of_mem _ hd)
  have hfit : Fit s := fun {y c} hc i hi => by
    obtain ⟨ha, rfl⟩ := Array.getElem?_eq_some_iff.mp hc
    have q := List.all_eq_true.mp ((Array.all_eq_true_iff_forall_mem.mp hF) _ (Array.getElem_mem ha)) i (List.mem_range.mpr hi)
    simpa [Array.getElem?_eq_getElem hi] using q
  obtain ⟨g0, hg⟩ := and_e hg
  obtain ⟨x0, e0⟩ := isL_v g0
  obtain rfl : w0 = (.long x0) := Option.some.inj e0
  obtain ⟨g1, hg⟩ := and_e hg
  obtain ⟨x1, e1⟩ := isL_v g1
  obtain rfl : w1 = (.long x1) := Option.some.inj e1
  obtain ⟨g2, hg⟩ := and_e hg
  obtain ⟨x2, e2⟩ := isL_v g2
  obtain rfl : w2 = (.long x2) := Option.some.inj e2
  obtain ⟨g3, hg⟩ := and_e hg
  obtain ⟨x3, e3⟩ := isL_v g3
  obtain rfl : w3 = (.long x3) := Option.some.inj e3
  obtain ⟨g4, hg⟩ := and_e hg
  obtain ⟨x4, e4⟩ := is_v g4
  obtain rfl : w4 = (.int x4) := Option.some.inj e4
  obtain ⟨x5, e5⟩ := is_v hg
  obtain rfl : w5 = (.int x5) := Option.some.inj e5
  obtain ⟨n, o, h1, h2, h3, _, L, rfl, ⟨N, rfl⟩, hq⟩ := rm0 l s _ hw s.heap.size s.heap (Nat.le_refl _) x0 x1 x2 x3 x4 x5 tables_1 p e ha hc hk s m _ below hf ((Spec.applies_iff_loose hf).mp happ).1 ⟨rfl, State.Warmed39.refl s, rfl⟩ trivial
  refine ⟨n, _, h1, h2, h3, hpost _ _ _ _ _ _ ⟨Cond.after_iff.mpr rfl, Cond.after_iff.mpr (eq_i res_at (Term.int_eval (1)) rfl), trivial⟩ ⟨hq.1, hq.2.1, (hq.2.2.sift fun y hy => Or.inr (N y hy)).mono (by decide) (by decide)⟩⟩
theorem main_1_1 : Claimed_1_1 := comes_1 fun _ _ _ _ _ _ h hF => ⟨h.1, hF⟩
theorem main_1_2 : Claimed_1_2 := comes_1 fun _ _ _ _ _ _ h hF => ⟨h.2.1, hF⟩
end Jvm.Pilot.@@N@@
namespace Jvm.Pilot.@@N@@
open Jvm Jvm.ClassFile Sem Op Lib Jvm.Free Jvm.Stand Jvm.Pilot.@@N@@.Jvm.D
/-! MADE BY PROGRAM (witnessworld.py) out of the Statement's table words and the real class files: 11 classes; the members and pool entries that the words name. The judged class is class 1, her method 2. -/
namespace start1
open Jvm.ClassFile
def u (s : String) : CpInfo := .utf8 (stringToUtf16 s)
/-- a pool by its gaps: so many unusable entries, then the entry; so many at the end -/
def gap : Nat → List CpInfo → List CpInfo
  | 0, r => r
  | n + 1, r => .unusable :: gap n r
def poolList (es : List (Nat × CpInfo)) (last : Nat) : List CpInfo := es.foldr (fun e r => gap e.1 (e.2 :: r)) (gap last [])
def pool (es : List (Nat × CpInfo)) (last : Nat) : Array CpInfo := ⟨poolList es last⟩
def fileOf (pool : Array CpInfo) (this : Nat) (attrs : Array Attribute := #[]) (ms : Array MethodInfo := #[]) (fl : Nat := 33) (sup : Nat := 0) (ifs : Array Nat := #[]) (fds : Array FieldInfo := #[]) : ClassFile where
  minorVersion := 0
  majorVersion := 65
  constantPool := pool
  accessFlags := fl
  thisClass := this
  superClass := sup
  interfaces := ifs
  fields := fds
  methods := ms
  attributes := attrs
def plain (name : String) (sup : Option ClassId) : Class where
  name := name
  kind := .ordinary
  loader := none
  accessFlags := 33
  super := sup
  interfaces := #[]
  cf := none
  fields := #[]
  methods := #[]
  instanceTypes := #[]
  staticTypes := #[]
  resolved := #[]
  callSites := []
  init := .initialized
  statics := none
  mirror := none

def pool0 : Array CpInfo := pool [(5, u "<init>"), (0, u "()V"), (1, .class_ 10), (1, u "java/lang/Object")] 113

def k0m0 : Method := { name := "<init>", desc := "()V", sig := { parameters := [], returnType := none }, accessFlags := 1, code := none }
/-- java/lang/Object -/
def k0 : Class := { plain "java/lang/Object" none with
  accessFlags := 33
  interfaces := #[]
  cf := some (fileOf pool0 8 #[] #[{ accessFlags := 1, nameIndex := 5, descriptorIndex := 6, attributes := #[] }] 33 0 #[] #[])
  fields := #[]
  methods := #[k0m0]
  instanceTypes := #[]
  staticTypes := #[]
  resolved := Array.replicate 124 none
  statics := none }

def pool1 : Array CpInfo := pool [(2, .class_ 4), (1, u "java/lang/Object"), (0, u "<init>"), (0, u "()V"), (0, .integer 2147483647), (0, .methodref 9 10), (0, .class_ 11), (0, .nameAndType 12 13), (0, u "com/example/kithgraph/kithgraph/cluster/BitSetsContainsPinLaw"), (0, u "pick"), (0, u "(JJJJI)J"), (0, .methodref 15 16), (0, .class_ 17), (0, .nameAndType 18 19), (0, u "com/example/kithgraph/kithgraph/cluster/BitSets"), (0, u "contains"), (0, u "([JII)Z"), (3, u "law"), (0, u "(JJJJII)Z")] 4

def k1m0 : Method := { name := "<init>", desc := "()V", sig := { parameters := [], returnType := none }, accessFlags := 2, code := none }
def k1c1 : Code := { maxStack := 2, maxLocals := 9, code := method_2_code, exceptionTable := #[], attributes := #[] }
def k1m1 : Method := { name := "pick", desc := "(JJJJI)J", sig := { parameters := [.long, .long, .long, .long, .int], returnType := some .long }, accessFlags := 10, code := some k1c1 }
def k1c2 : Code := { maxStack := 10, maxLocals := 19, code := code, exceptionTable := #[], attributes := #[] }
def k1m2 : Method := { name := "law", desc := "(JJJJII)Z", sig := { parameters := [.long, .long, .long, .long, .int, .int], returnType := some .boolean }, accessFlags := 9, code := some k1c2 }
/-- com/example/kithgraph/kithgraph/cluster/BitSetsContainsPinLaw -/
def k1 : Class := { plain "com/example/kithgraph/kithgraph/cluster/BitSetsContainsPinLaw" (some 0) with
  accessFlags := 49
  interfaces := #[]
  cf := some (fileOf pool1 9 #[] #[{ accessFlags := 2, nameIndex := 5, descriptorIndex := 6, attributes := #[] }, { accessFlags := 10, nameIndex := 12, descriptorIndex := 13, attributes := #[] }, { accessFlags := 9, nameIndex := 23, descriptorIndex := 24, attributes := #[] }] 49 2 #[] #[])
  fields := #[]
  methods := #[k1m0, k1m1, k1m2]
  instanceTypes := #[]
  staticTypes := #[]
  resolved := Array.replicate 29 none
  statics := none }

def pool2 : Array CpInfo := pool [(2, .class_ 4), (1, u "java/lang/Object"), (0, u "<init>"), (0, u "()V"), (18, .class_ 27), (1, u "com/example/kithgraph/kithgraph/cluster/BitSets"), (12, u "contains"), (0, u "([JII)Z")] 9

def k2m0 : Method := { name := "<init>", desc := "()V", sig := { parameters := [], returnType := none }, accessFlags := 2, code := none }
def k2c1 : Code := { maxStack := 5, maxLocals := 3, code := prog_6_method_5_code, exceptionTable := #[], attributes := #[] }
def k2m1 : Method := { name := "contains", desc := "([JII)Z", sig := { parameters := [(.array .long), .int, .int], returnType := some .boolean }, accessFlags := 8, code := some k2c1 }
/-- com/example/kithgraph/kithgraph/cluster/BitSets -/
def k2 : Class := { plain "com/example/kithgraph/kithgraph/cluster/BitSets" (some 0) with
  accessFlags := 48
  interfaces := #[]
  cf := some (fileOf pool2 25 #[] #[{ accessFlags := 2, nameIndex := 5, descriptorIndex := 6, attributes := #[] }, { accessFlags := 8, nameIndex := 40, descriptorIndex := 41, attributes := #[] }] 48 2 #[] #[])
  fields := #[]
  methods := #[k2m0, k2m1]
  instanceTypes := #[]
  staticTypes := #[]
  resolved := Array.replicate 51 none
  statics := none }

def pool3 : Array CpInfo := pool [(1, u "java/lang/Cloneable"), (0, .class_ 1), (0, u "java/lang/Object"), (0, .class_ 3)] 3

/-- java/lang/Cloneable -/
def k3 : Class := { plain "java/lang/Cloneable" (some 0) with
  accessFlags := 1537
  interfaces := #[]
  cf := some (fileOf pool3 2 #[] #[] 1537 4 #[] #[])
  fields := #[]
  methods := #[]
  instanceTypes := #[]
  staticTypes := #[]
  resolved := Array.replicate 8 none
  statics := none }

def pool4 : Array CpInfo := pool [(1, u "java/io/Serializable"), (0, .class_ 1), (0, u "java/lang/Object"), (0, .class_ 3)] 3

/-- java/io/Serializable -/
def k4 : Class := { plain "java/io/Serializable" (some 0) with
  accessFlags := 1537
  interfaces := #[]
  cf := some (fileOf pool4 2 #[] #[] 1537 4 #[] #[])
  fields := #[]
  methods := #[]
  instanceTypes := #[]
  staticTypes := #[]
  resolved := Array.replicate 8 none
  statics := none }

/-- the primitive byte -/
def k5 : Class := { plain "byte" none with kind := .primitive 'B', accessFlags := 0x411 }
/-- [B -/
def k6 : Class := { plain "[B" (some 0) with kind := .array 5 .byte, interfaces := #[3, 4], accessFlags := 1041 }

/-- the primitive int -/
def k7 : Class := { plain "int" none with kind := .primitive 'I', accessFlags := 0x411 }
/-- [I -/
def k8 : Class := { plain "[I" (some 0) with kind := .array 7 .int, interfaces := #[3, 4], accessFlags := 1041 }

/-- the primitive long -/
def k9 : Class := { plain "long" none with kind := .primitive 'J', accessFlags := 0x411 }
/-- [J -/
def k10 : Class := { plain "[J" (some 0) with kind := .array 9 .long, interfaces := #[3, 4], accessFlags := 1041 }

def heap : Heap := #[]
def classes : Array Class := #[k0, k1, k2, k3, k4, k5, k6, k7, k8, k9, k10]
def interned : List (Array UInt16 × Addr) := []
def slotsUsed : Nat := 0
def theMethod : MethodId := ⟨1, 2⟩
def args0 : Array Value := #[.long 1, .long 2, .long 3, .long 4, .int 1, .int 70]
def aboutOver (below : List Frame) : State where
  vm := { classes := classes, interned := interned.toArray }
  heap := heap
  slotsUsed := slotsUsed
  threads := #[{ frames := .invoking theMethod args0 :: below }]
def below0 : List Frame := [.native { method := ⟨0, 0⟩, args := #[] }]
def about1 : State := aboutOver below0
def p0 : Program := .bare "" "" ""
def e0 : Env := launch0.env 0 0 0
theorem w_frames : about1.frames = Frame.invoking theMethod args0 :: below0 := rfl
set_option maxRecDepth 65536 in
theorem w_args : argsFit about1.vm theMethod args0 = true := by decide +kernel
set_option maxRecDepth 65536 in
theorem w_heap : heapFits about1 = true := by decide +kernel
set_option maxRecDepth 65536 in
theorem w_runnable : about1.curStatus? = some .runnable := by decide +kernel
set_option maxRecDepth 65536 in
theorem w_alone : about1.alone = true := by decide +kernel
set_option maxRecDepth 65536 in
theorem w_named : about1.methodNamed? x = some theMethod := by decide +kernel
set_option maxRecDepth 65536 in
theorem w_hears : about1.hears theMethod below0 = true := by decide +kernel
set_option maxRecDepth 65536 in
theorem w_ripe : about1.ripe theMethod args0 below0 = true := by decide +kernel
theorem w_running : about1.status = .running := rfl
set_option maxRecDepth 65536 in
theorem w_room : about1.hasRoom e0.platform room_1 = true :=
  launch0.hasRoom_least _ room_1 (by decide +kernel) (by decide +kernel) (by decide +kernel) (by decide +kernel) (by decide +kernel) (by decide +kernel)
theorem allAtoms_all (ts : List Jvm.Cond) (a : Array Jvm.Value) (st : Jvm.State) : (allAtoms ts).before a st = ts.all (fun c => c.before a st) := by
  induction ts with
  | nil => rfl
  | cons c t ih =>
    show (Jvm.Cond.and c (allAtoms t)).before a st = _
    rw [Jvm.Cond.before_and, ih, List.all_cons]
def words1 : List Jvm.Cond := Jvm.Cond.code x code maxLocals ret :: tables_1
/-- a 'code' word, met by the world's own term for the bytes: nothing is compared byte by byte -/
theorem code_word {y : MethodName} {bytes : ByteArray} {mx : Nat} {rt : Option FieldType} {a : Array Value} {s : State} {m : MethodId} {meth : Method} {c : Code} (h1 : s.methodNamed? y = some m) (h2 : s.vm.method? m = some meth) (h3 : meth.code = some c) (h4 : c.code = bytes)
    (h5 : (c.maxLocals == mx && c.exceptionTable.isEmpty && decide (c.maxStack ≤ mostOperands) && decide (meth.sig.returnType = rt) && !meth.locks && decide (parseMethodDescriptor y.desc = some meth.sig)) = true) : (Jvm.Cond.code y bytes mx rt).before a s = true := by
  simp only [Bool.and_eq_true, beq_iff_eq, Bool.not_eq_true', decide_eq_true_eq] at h5
  obtain ⟨⟨⟨⟨⟨g1, g2⟩, g3⟩, g4⟩, g5⟩, g6⟩ := h5
  simp [Cond.before, Cond.holds, Cond.value, h1, h2, h3, h4, g1, g2, g3, g4, g5, g6]
def isCode : Jvm.Cond → Bool
  | .code _ _ _ _ => true
  | _ => false
theorem all_split {L : List Jvm.Cond} {P : Jvm.Cond → Bool} (h1 : L.all (fun c => isCode c || P c) = true) (h2 : ∀ c ∈ L.filter isCode, P c = true) : L.all P = true := by
  refine List.all_eq_true.mpr fun c hc => ?_
  have h := List.all_eq_true.mp h1 c hc
  rcases Bool.eq_false_or_eq_true (isCode c) with hi | hi
  · exact h2 c (List.mem_filter.mpr ⟨hc, hi⟩)
  · simpa [hi] using h
set_option maxRecDepth 65536 in
theorem w_c0 : (Jvm.Cond.code x code maxLocals ret).before args0 about1 = true := code_word (m := ⟨1, 2⟩) (meth := k1m2) (c := k1c2) (by decide +kernel) rfl rfl rfl (by decide +kernel)
set_option maxRecDepth 65536 in
theorem w_c1 : (Jvm.Cond.code ({ cls := "com/example/kithgraph/kithgraph/cluster/BitSetsContainsPinLaw", name := "pick", desc := "(JJJJI)J" } : Jvm.MethodName) method_2_code (9 : Nat) (Option.some Jvm.ClassFile.FieldType.long)).before args0 about1 = true := code_word (m := ⟨1, 1⟩) (meth := k1m1) (c := k1c1) (by decide +kernel) rfl rfl rfl (by decide +kernel)
set_option maxRecDepth 65536 in
theorem w_c2 : (Jvm.Cond.code ({ cls := "com/example/kithgraph/kithgraph/cluster/BitSets", name := "contains", desc := "([JII)Z" } : Jvm.MethodName) prog_6_method_5_code (3 : Nat) (Option.some Jvm.ClassFile.FieldType.boolean)).before args0 about1 = true := code_word (m := ⟨2, 1⟩) (meth := k2m1) (c := k2c1) (by decide +kernel) rfl rfl rfl (by decide +kernel)
def codes1 : List Jvm.Cond := [Jvm.Cond.code x code maxLocals ret, Jvm.Cond.code ({ cls := "com/example/kithgraph/kithgraph/cluster/BitSetsContainsPinLaw", name := "pick", desc := "(JJJJI)J" } : Jvm.MethodName) method_2_code (9 : Nat) (Option.some Jvm.ClassFile.FieldType.long), Jvm.Cond.code ({ cls := "com/example/kithgraph/kithgraph/cluster/BitSets", name := "contains", desc := "([JII)Z" } : Jvm.MethodName) prog_6_method_5_code (3 : Nat) (Option.some Jvm.ClassFile.FieldType.boolean)]
set_option maxRecDepth 65536 in
theorem codes_eq : words1.filter isCode = codes1 := rfl
theorem w_codes : ∀ c ∈ words1.filter isCode, c.before args0 about1 = true := by
  rw [codes_eq]
  intro c hc
  simp only [codes1, List.mem_cons, List.not_mem_nil, or_false] at hc
  rcases hc with rfl | rfl | rfl
  · exact w_c0
  · exact w_c1
  · exact w_c2
set_option maxRecDepth 65536 in
theorem w_t1 : words1.all (fun c => isCode c || c.before args0 about1) = true := by decide +kernel
theorem w_tables : (allAtoms (Jvm.Cond.code x code maxLocals ret :: tables_1)).before args0 about1 = true := by
  rw [allAtoms_all]
  show words1.all (fun c => c.before args0 about1) = true
  refine all_split ?_ w_codes
  rw [w_t1]
set_option maxRecDepth 65536 in
theorem w_case : (Jvm.Cond.and given_1 narrow_1).before args0 about1 = true := by decide +kernel
theorem w_applies : (headSpec (Jvm.Cond.code x code maxLocals ret :: tables_1) room_1).applies x e0.platform about1 = true :=
  (Spec.applies_iff w_frames).mpr ⟨w_running, w_runnable, w_alone, w_named, w_hears, w_ripe, w_room, w_tables⟩
theorem atStart : AtStart classFile x code maxLocals ret World_1 tables_1 room_1 Calls_1 rest_1 Pre_1 launch0 p0 e0 about1 theMethod args0 below0 :=
  ⟨lists_1, trivial, launch0.admits_env _ _ _, launch0.least_env, fairChoices_fair.cas, fairChoices_fair.clock, w_frames, w_args, w_heap, w_applies, trivial, trivial, w_case⟩
end start1
theorem witness_1 : WitnessClaimed_1 := ⟨start1.p0, start1.e0, start1.about1, start1.theMethod, start1.args0, start1.below0, start1.atStart⟩
end Jvm.Pilot.@@N@@
