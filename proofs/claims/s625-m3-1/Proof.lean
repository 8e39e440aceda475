import JvmDerived
import JvmDerived.Pilot.@@N@@Statement
import JvmDerived.Pilot.@@N@@Code
set_option linter.unusedVariables false
set_option linter.unusedSimpArgs false
namespace Jvm.Ow
open Sem ClassFile Op Lib Jvm.Stand Jvm.Free Jvm.LawKit Jvm.RoadKit
abbrev jv (x : Int64) : Slot := .val (.long x)
abbrev U0 : Slot := .unset
abbrev S2 : Slot := .second
def ushL (x : Int64) (y : Int32) : Int64 := (x.toUInt64 >>> (y &&& 0x3f).toInt64.toUInt64).toInt64
def On (l : Launch) (Z : State) (n0 : Nat) (own : String) (bytes : ByteArray) (maxL : Nat) (ret : Option FieldType) (R : Room) (p : Program) (e : Env) (s : State) (m : MethodId) (args : Array Value) (below : List Frame) (meth : Method) (c : Code) (T : State) (h : Heap) (k n : Nat) : Prop :=
  ∃ locs, Stand p l e R s m args below meth c T locs k n ∧ Fr n0 locs ∧ T.heap = h ∧ p.tables.exec = Jvm.exec ∧ Z.Warmed39 s.vm ∧ c.code = bytes ∧ c.maxLocals = maxL ∧ s.vm.findClass own = some m.cls ∧ meth.sig.returnType = ret ∧ meth.locks = false ∧ n0 ≤ s.heap.size
def Wp (p : Program) (e : Env) (below : List Frame) (s : State) (n0 ck cs : Nat) (Q : Option Value → Heap → Prop) (U : State) : Prop :=
  ∃ t o, Steps p.tables e below U t ∧ t.status = .running ∧ Ended t below o ∧ ∃ v L, o = .returned v ∧ (Fr n0 L ∧ Q v t.heap) ∧ FrameEnd s o t L ck cs
def Met (l : Launch) (Z : State) (n0 : Nat) (y : MethodName) (bytes : ByteArray) (maxL : Nat) (ret : Option FieldType) (rm : Room) (as : Array Value) (h : Heap) (Q : Option Value → Heap → Prop) : Prop :=
  ∀ ws, MetFree l y (head1 (Cond.code y bytes maxL ret :: ws) rm) (fun a U => a = as ∧ Z.Warmed39 U.vm ∧ U.heap = h) (fun _ _ _ _ _ => True) (fun _ U o U' => ∃ v L, o = .returned v ∧ (Fr n0 L ∧ Q v U'.heap) ∧ FrameEnd U o U' L rm.cells rm.slots)
def AA (Z : State) (h : Heap) (a : Addr) (ty : FieldType) (vs : List Value) : Prop := ∃ c : Cell, Arr Z h a c ty ∧ c.slots = vs.toArray ∧ vs.length < 2147483648
section Kit
variable {l : Launch} {Z : State} {n0 : Nat} {own : String} {bytes : ByteArray} {maxL : Nat} {ret : Option FieldType} {R : Room} {p : Program} {e : Env} {s : State} {m : MethodId} {args : Array Value} {below : List Frame} {meth : Method} {c : Code} {T : State} {h h' : Heap} {k n ck cs : Nat} {Q : Option Value → Heap → Prop} {pc pc' : Nat} {Ls Ls' : Array Slot} {st : List Value} {a0 : Array Value} {a b : Addr} {ty : FieldType} {vs : List Value} {sl : Nat} {v w : Value} {ws : List Addr}
theorem AA.set (F : AA Z h a ty vs) (W : Wr h h' a sl v) : AA Z h' a ty (vs.set sl v) := by
  obtain ⟨c, A, r1, r2⟩ := F
  exact ⟨_, A.same W, by simp [Cell.setSlot, r1], by simpa using r2⟩
theorem AA.cast {vs' : List Value} (F : AA Z h a ty vs) (q : vs = vs') : AA Z h a ty vs' := q ▸ F
theorem Fld.cast {C f d : String} (F : Fld Z h a C f d v) (q : v = w) : Fld Z h a C f d w := q ▸ F
theorem AA.new {cA : ClassId} {z : Int32} {i : Nat} (A : Arr Z h a (newA cA ty z) ty) (hz : z.toInt = (i : Int)) : AA Z h a ty (List.replicate i (defaultValue ty)) := by
  have q : z.toNatClampNeg = i := by show z.toInt.toNat = i; omega
  have := z.toInt_lt
  refine ⟨_, A, ?_, ?_⟩
  · simp [newA, q]
  · simp; omega
theorem On.size(A : On l Z n0 own bytes maxL ret R p e s m args below meth c T h k n) : n0 ≤ h.size := by
  obtain ⟨locs, X, N, eT, hx, hZ, hby, hml, hown, hret, hlk, hsz⟩ := A
  have := X.same.2.1
  subst eT
  exact Nat.le_trans hsz this
theorem Wp.goo {U U' : State} (f : ∀ t, Steps p.tables e below U' t → Steps p.tables e below U t) (K : Wp p e below s n0 ck cs Q U') : Wp p e below s n0 ck cs Q U := by
  obtain ⟨t, o, q, r⟩ := K; exact ⟨t, o, f t q, r⟩
theorem Wp.cast {g g' : JFrame} (q : g = g') (K : Wp p e below s n0 ck cs Q (T.setTop g')) : Wp p e below s n0 ck cs Q (T.setTop g) := q ▸ K
theorem Wp.stk {st' : List Value} (q : st = st') (K : Wp p e below s n0 ck cs Q (T.setTop (mkF m pc Ls st'))) : Wp p e below s n0 ck cs Q (T.setTop (mkF m pc Ls st)) := q ▸ K
theorem Wp.mono {Q' : Option Value → Heap → Prop} {U : State} (K : Wp p e below s n0 ck cs Q U) (q : ∀ v h, Q v h → Q' v h) : Wp p e below s n0 ck cs Q' U := by
  obtain ⟨t, o, h1, h2, h3, v, L, h4, ⟨h5, h6⟩, h7⟩ := K; exact ⟨t, o, h1, h2, h3, v, L, h4, ⟨h5, q _ _ h6⟩, h7⟩
theorem met_intro {y : MethodName} {rm : Room} {as : Array Value} (hpl : plainFor y = true) (ho : y.cls = own) (hsz : n0 ≤ h.size)
    (body : ∀ p e s m below meth c T, On l Z n0 own bytes maxL ret rm p e s m as below meth c T h 0 0 → meth.name = y.name → Wp p e below s n0 rm.cells rm.slots Q (T.setTop (entryFrame m as maxL))) : Met l Z n0 y bytes maxL ret rm as h Q := by
  subst ho
  intro ws
  refine MetFree.of_bodySF hpl hisR ?_
  intro p e s m args below meth c s₁ Bd hml0 hP hK
  obtain ⟨rfl, hZ, hh⟩ := hP
  have X0 : Stand p l e rm s m args below meth c s₁ [] 0 0 := Stand.of_body Bd
  have e0 : s₁.heap = h := by rw [← hh, Bd.state]; rfl
  exact body p e s m below meth c s₁ ⟨[], X0, Fr.nil n0, e0, Bd.exec, hZ, Bd.bytes, hml0, findClass_of_methodNamed Bd.named, Bd.returns, Bd.notSynchronized, by rw [hh]; exact hsz⟩ (name_of_methodNamed Bd.named Bd.method).1
theorem Met.mono {y : MethodName} {rm : Room} {as : Array Value} {Q' : Option Value → Heap → Prop} (M : Met l Z n0 y bytes maxL ret rm as h Q) (q : ∀ v h, Q v h → Q' v h) : Met l Z n0 y bytes maxL ret rm as h Q' := by
  intro ws p e ha hc hk s m args below hf happ hP hK
  obtain ⟨n, o, h1, h2, h3, v, L, h4, ⟨h5, h6⟩, h7⟩ := M ws p e ha hc hk s m args below hf happ hP hK
  exact ⟨n, o, h1, h2, h3, v, L, h4, ⟨h5, q _ _ h6⟩, h7⟩
theorem s_iloadN (A : On l Z n0 own bytes maxL ret R p e s m args below meth c T h k n) {i : Fin 4} {z : Int32} (hd : decode bytes pc = .ok (.iload_n i, 1)) (hp : pc + 1 = pc') (hl : Ls[i.val]? = some (.val (.int z))) (K : Wp p e below s n0 ck cs Q (T.setTop (mkF m pc' Ls (.int z :: st)))) : Wp p e below s n0 ck cs Q (T.setTop (mkF m pc Ls st)) := by
  obtain ⟨locs, X, N, eT, hx, hZ, hby, hml, hown, hret, hlk, hsz⟩ := A
  subst hp
  exact K.goo fun t q => XS.iloadN X.here hx rfl (hb hby hd) hl q
theorem s_lloadN (A : On l Z n0 own bytes maxL ret R p e s m args below meth c T h k n) {i : Fin 4} {z : Int64} (hd : decode bytes pc = .ok (.lload_n i, 1)) (hp : pc + 1 = pc') (hl : Ls[i.val]? = some (.val (.long z))) (K : Wp p e below s n0 ck cs Q (T.setTop (mkF m pc' Ls (.long z :: st)))) : Wp p e below s n0 ck cs Q (T.setTop (mkF m pc Ls st)) := by
  obtain ⟨locs, X, N, eT, hx, hZ, hby, hml, hown, hret, hlk, hsz⟩ := A
  subst hp
  exact K.goo fun t q => XS.lloadN X.here hx rfl (hb hby hd) hl q
theorem s_aloadN (A : On l Z n0 own bytes maxL ret R p e s m args below meth c T h k n) {i : Fin 4} (hd : decode bytes pc = .ok (.aload_n i, 1)) (hp : pc + 1 = pc') (hl : Ls[i.val]? = some (.val v)) (hv : v.isRef = true) (K : Wp p e below s n0 ck cs Q (T.setTop (mkF m pc' Ls (v :: st)))) : Wp p e below s n0 ck cs Q (T.setTop (mkF m pc Ls st)) := by
  obtain ⟨locs, X, N, eT, hx, hZ, hby, hml, hown, hret, hlk, hsz⟩ := A
  subst hp
  exact K.goo fun t q => XS.aloadN X.here hx rfl (hb hby hd) hl hv q
theorem s_lstoreN (A : On l Z n0 own bytes maxL ret R p e s m args below meth c T h k n) {i : Fin 4} {z : Int64} (hd : decode bytes pc = .ok (.lstore_n i, 1)) (hp : pc + 1 = pc') (hl : storeLocals Ls i.val (.long z) = some Ls') (K : Wp p e below s n0 ck cs Q (T.setTop (mkF m pc' Ls' st))) : Wp p e below s n0 ck cs Q (T.setTop (mkF m pc Ls (.long z :: st))) := by
  obtain ⟨locs, X, N, eT, hx, hZ, hby, hml, hown, hret, hlk, hsz⟩ := A
  subst hp
  exact K.goo fun t q => XS.lstoreN X.here hx rfl (hb hby hd) rfl hl q
theorem s_astoreN (A : On l Z n0 own bytes maxL ret R p e s m args below meth c T h k n) {i : Fin 4} (hd : decode bytes pc = .ok (.astore_n i, 1)) (hp : pc + 1 = pc') (hv : v.isRef = true) (hl : storeLocals Ls i.val v = some Ls') (K : Wp p e below s n0 ck cs Q (T.setTop (mkF m pc' Ls' st))) : Wp p e below s n0 ck cs Q (T.setTop (mkF m pc Ls (v :: st))) := by
  obtain ⟨locs, X, N, eT, hx, hZ, hby, hml, hown, hret, hlk, hsz⟩ := A
  subst hp
  exact K.goo fun t q => XS.astoreN X.here hx rfl (hb hby hd) rfl hv hl q
theorem s_iload (A : On l Z n0 own bytes maxL ret R p e s m args below meth c T h k n) {i : Nat} {z : Int32} (hd : decode bytes pc = .ok (.iload i, 2)) (hp : pc + 2 = pc') (hl : Ls[i]? = some (.val (.int z))) (K : Wp p e below s n0 ck cs Q (T.setTop (mkF m pc' Ls (.int z :: st)))) : Wp p e below s n0 ck cs Q (T.setTop (mkF m pc Ls st)) := by
  obtain ⟨locs, X, N, eT, hx, hZ, hby, hml, hown, hret, hlk, hsz⟩ := A
  subst hp
  exact K.goo fun t q => XS.iload X.here hx rfl (hb hby hd) hl q
theorem s_lload (A : On l Z n0 own bytes maxL ret R p e s m args below meth c T h k n) {i : Nat} {z : Int64} (hd : decode bytes pc = .ok (.lload i, 2)) (hp : pc + 2 = pc') (hl : Ls[i]? = some (.val (.long z))) (K : Wp p e below s n0 ck cs Q (T.setTop (mkF m pc' Ls (.long z :: st)))) : Wp p e below s n0 ck cs Q (T.setTop (mkF m pc Ls st)) := by
  obtain ⟨locs, X, N, eT, hx, hZ, hby, hml, hown, hret, hlk, hsz⟩ := A
  subst hp
  exact K.goo fun t q => XS.lload X.here hx rfl (hb hby hd) hl q
theorem s_aload (A : On l Z n0 own bytes maxL ret R p e s m args below meth c T h k n) {i : Nat} (hd : decode bytes pc = .ok (.aload i, 2)) (hp : pc + 2 = pc') (hl : Ls[i]? = some (.val v)) (hv : v.isRef = true) (K : Wp p e below s n0 ck cs Q (T.setTop (mkF m pc' Ls (v :: st)))) : Wp p e below s n0 ck cs Q (T.setTop (mkF m pc Ls st)) := by
  obtain ⟨locs, X, N, eT, hx, hZ, hby, hml, hown, hret, hlk, hsz⟩ := A
  subst hp
  exact K.goo fun t q => XS.aload X.here hx rfl (hb hby hd) hl hv q
theorem s_istore (A : On l Z n0 own bytes maxL ret R p e s m args below meth c T h k n) {i : Nat} {z : Int32} (hd : decode bytes pc = .ok (.istore i, 2)) (hp : pc + 2 = pc') (hl : storeLocals Ls i (.int z) = some Ls') (K : Wp p e below s n0 ck cs Q (T.setTop (mkF m pc' Ls' st))) : Wp p e below s n0 ck cs Q (T.setTop (mkF m pc Ls (.int z :: st))) := by
  obtain ⟨locs, X, N, eT, hx, hZ, hby, hml, hown, hret, hlk, hsz⟩ := A
  subst hp
  exact K.goo fun t q => XS.istore X.here hx rfl (hb hby hd) rfl hl q
theorem s_lstore (A : On l Z n0 own bytes maxL ret R p e s m args below meth c T h k n) {i : Nat} {z : Int64} (hd : decode bytes pc = .ok (.lstore i, 2)) (hp : pc + 2 = pc') (hl : storeLocals Ls i (.long z) = some Ls') (K : Wp p e below s n0 ck cs Q (T.setTop (mkF m pc' Ls' st))) : Wp p e below s n0 ck cs Q (T.setTop (mkF m pc Ls (.long z :: st))) := by
  obtain ⟨locs, X, N, eT, hx, hZ, hby, hml, hown, hret, hlk, hsz⟩ := A
  subst hp
  exact K.goo fun t q => XS.lstore X.here hx rfl (hb hby hd) rfl hl q
theorem s_astore (A : On l Z n0 own bytes maxL ret R p e s m args below meth c T h k n) {i : Nat} (hd : decode bytes pc = .ok (.astore i, 2)) (hp : pc + 2 = pc') (hv : v.isRef = true) (hl : storeLocals Ls i v = some Ls') (K : Wp p e below s n0 ck cs Q (T.setTop (mkF m pc' Ls' st))) : Wp p e below s n0 ck cs Q (T.setTop (mkF m pc Ls (v :: st))) := by
  obtain ⟨locs, X, N, eT, hx, hZ, hby, hml, hown, hret, hlk, hsz⟩ := A
  subst hp
  exact K.goo fun t q => XS.astore X.here hx rfl (hb hby hd) rfl hv hl q
theorem s_iconst (A : On l Z n0 own bytes maxL ret R p e s m args below meth c T h k n) {i : Int} {z : Int32} (hd : decode bytes pc = .ok (.iconst i, 1)) (hp : pc + 1 = pc') (hz : Int32.ofInt i = z) (K : Wp p e below s n0 ck cs Q (T.setTop (mkF m pc' Ls (.int z :: st)))) : Wp p e below s n0 ck cs Q (T.setTop (mkF m pc Ls st)) := by
  obtain ⟨locs, X, N, eT, hx, hZ, hby, hml, hown, hret, hlk, hsz⟩ := A
  subst hp
  subst hz
  exact K.goo fun t q => XS.iconst X.here hx rfl (hb hby hd) q
theorem s_bipush (A : On l Z n0 own bytes maxL ret R p e s m args below meth c T h k n) {i : Int} {z : Int32} (hd : decode bytes pc = .ok (.bipush i, 2)) (hp : pc + 2 = pc') (hz : (Int8.ofInt i).toInt32 = z) (K : Wp p e below s n0 ck cs Q (T.setTop (mkF m pc' Ls (.int z :: st)))) : Wp p e below s n0 ck cs Q (T.setTop (mkF m pc Ls st)) := by
  obtain ⟨locs, X, N, eT, hx, hZ, hby, hml, hown, hret, hlk, hsz⟩ := A
  subst hp
  subst hz
  exact K.goo fun t q => XS.bipush X.here hx rfl (hb hby hd) q
theorem s_lconst (A : On l Z n0 own bytes maxL ret R p e s m args below meth c T h k n) {i : Fin 2} {z : Int64} (hd : decode bytes pc = .ok (.lconst i, 1)) (hp : pc + 1 = pc') (hz : Int64.ofNat i = z) (K : Wp p e below s n0 ck cs Q (T.setTop (mkF m pc' Ls (.long z :: st)))) : Wp p e below s n0 ck cs Q (T.setTop (mkF m pc Ls st)) := by
  obtain ⟨locs, X, N, eT, hx, hZ, hby, hml, hown, hret, hlk, hsz⟩ := A
  subst hp
  subst hz
  exact K.goo fun t q => XS.lconst X.here hx rfl (hb hby hd) q
theorem s_ladd (A : On l Z n0 own bytes maxL ret R p e s m args below meth c T h k n) {x y z : Int64} (hd : decode bytes pc = .ok (.ladd, 1)) (hp : pc + 1 = pc') (hz : x + y = z) (K : Wp p e below s n0 ck cs Q (T.setTop (mkF m pc' Ls (.long z :: st)))) : Wp p e below s n0 ck cs Q (T.setTop (mkF m pc Ls (.long y :: .long x :: st))) := by
  obtain ⟨locs, X, N, eT, hx, hZ, hby, hml, hown, hret, hlk, hsz⟩ := A
  subst hp
  subst hz
  exact K.goo fun t q => XS.ladd X.here hx rfl (hb hby hd) rfl q
theorem s_lmul (A : On l Z n0 own bytes maxL ret R p e s m args below meth c T h k n) {x y z : Int64} (hd : decode bytes pc = .ok (.lmul, 1)) (hp : pc + 1 = pc') (hz : x * y = z) (K : Wp p e below s n0 ck cs Q (T.setTop (mkF m pc' Ls (.long z :: st)))) : Wp p e below s n0 ck cs Q (T.setTop (mkF m pc Ls (.long y :: .long x :: st))) := by
  obtain ⟨locs, X, N, eT, hx, hZ, hby, hml, hown, hret, hlk, hsz⟩ := A
  subst hp
  subst hz
  exact K.goo fun t q => XS.lmul X.here hx rfl (hb hby hd) rfl q
theorem s_iand (A : On l Z n0 own bytes maxL ret R p e s m args below meth c T h k n) {x y z : Int32} (hd : decode bytes pc = .ok (.iand, 1)) (hp : pc + 1 = pc') (hz : x &&& y = z) (K : Wp p e below s n0 ck cs Q (T.setTop (mkF m pc' Ls (.int z :: st)))) : Wp p e below s n0 ck cs Q (T.setTop (mkF m pc Ls (.int y :: .int x :: st))) := by
  obtain ⟨locs, X, N, eT, hx, hZ, hby, hml, hown, hret, hlk, hsz⟩ := A
  subst hp
  subst hz
  exact K.goo fun t q => XS.iand X.here hx rfl (hb hby hd) rfl q
theorem s_lxor (A : On l Z n0 own bytes maxL ret R p e s m args below meth c T h k n) {x y z : Int64} (hd : decode bytes pc = .ok (.lxor, 1)) (hp : pc + 1 = pc') (hz : x ^^^ y = z) (K : Wp p e below s n0 ck cs Q (T.setTop (mkF m pc' Ls (.long z :: st)))) : Wp p e below s n0 ck cs Q (T.setTop (mkF m pc Ls (.long y :: .long x :: st))) := by
  obtain ⟨locs, X, N, eT, hx, hZ, hby, hml, hown, hret, hlk, hsz⟩ := A
  subst hp
  subst hz
  exact K.goo fun t q => XS.lxor X.here hx rfl (hb hby hd) rfl q
theorem s_irem (A : On l Z n0 own bytes maxL ret R p e s m args below meth c T h k n) {x y z : Int32} (hd : decode bytes pc = .ok (.irem, 1)) (hp : pc + 1 = pc') (hy : y ≠ 0) (hz : x % y = z) (K : Wp p e below s n0 ck cs Q (T.setTop (mkF m pc' Ls (.int z :: st)))) : Wp p e below s n0 ck cs Q (T.setTop (mkF m pc Ls (.int y :: .int x :: st))) := by
  obtain ⟨locs, X, N, eT, hx, hZ, hby, hml, hown, hret, hlk, hsz⟩ := A
  subst hp
  subst hz
  exact K.goo fun t q => iremM X hx rfl (hb hby hd) rfl hy q
theorem s_lushr (A : On l Z n0 own bytes maxL ret R p e s m args below meth c T h k n) {x z : Int64} {y : Int32} (hd : decode bytes pc = .ok (.lushr, 1)) (hp : pc + 1 = pc') (hz : ushL x y = z) (K : Wp p e below s n0 ck cs Q (T.setTop (mkF m pc' Ls (.long z :: st)))) : Wp p e below s n0 ck cs Q (T.setTop (mkF m pc Ls (.int y :: .long x :: st))) := by
  obtain ⟨locs, X, N, eT, hx, hZ, hby, hml, hown, hret, hlk, hsz⟩ := A
  subst hp
  subst hz
  exact K.goo fun t q => XS.lushr X.here hx rfl (hb hby hd) rfl q
theorem s_lcmp (A : On l Z n0 own bytes maxL ret R p e s m args below meth c T h k n) {x y : Int64} (hd : decode bytes pc = .ok (.lcmp, 1)) (hp : pc + 1 = pc') (K : Wp p e below s n0 ck cs Q (T.setTop (mkF m pc' Ls (.int (lcmpW x y) :: st)))) : Wp p e below s n0 ck cs Q (T.setTop (mkF m pc Ls (.long y :: .long x :: st))) := by
  obtain ⟨locs, X, N, eT, hx, hZ, hby, hml, hown, hret, hlk, hsz⟩ := A
  subst hp
  exact K.goo fun t q => XS.lcmp X.here hx rfl (hb hby hd) rfl q
theorem s_i2l (A : On l Z n0 own bytes maxL ret R p e s m args below meth c T h k n) {x : Int32} {z : Int64} (hd : decode bytes pc = .ok (.i2l, 1)) (hp : pc + 1 = pc') (hz : x.toInt64 = z) (K : Wp p e below s n0 ck cs Q (T.setTop (mkF m pc' Ls (.long z :: st)))) : Wp p e below s n0 ck cs Q (T.setTop (mkF m pc Ls (.int x :: st))) := by
  obtain ⟨locs, X, N, eT, hx, hZ, hby, hml, hown, hret, hlk, hsz⟩ := A
  subst hp
  subst hz
  exact K.goo fun t q => XS.i2l X.here hx rfl (hb hby hd) rfl q
theorem s_iinc (A : On l Z n0 own bytes maxL ret R p e s m args below meth c T h k n) {i : Nat} {j : Int} {x z : Int32} (hd : decode bytes pc = .ok (.iinc i j, 3)) (hp : pc + 3 = pc') (hl : Ls[i]? = some (.val (.int x))) (hz : x + Int32.ofInt j = z) (hs : storeLocals Ls i (.int z) = some Ls') (K : Wp p e below s n0 ck cs Q (T.setTop (mkF m pc' Ls' st))) : Wp p e below s n0 ck cs Q (T.setTop (mkF m pc Ls st)) := by
  obtain ⟨locs, X, N, eT, hx, hZ, hby, hml, hown, hret, hlk, hsz⟩ := A
  subst hp
  subst hz
  exact K.goo fun t q => XS.iinc X.here hx rfl (hb hby hd) hl hs q
theorem s_goto (A : On l Z n0 own bytes maxL ret R p e s m args below meth c T h k n)  {o : Int} (hd : decode bytes pc = .ok (.goto o, 3))  (ho : 0 ≤ (pc : Int) + o) (hp : ((pc : Int) + o).toNat = pc') (K : Wp p e below s n0 ck cs Q (T.setTop (mkF m pc' Ls st))) : Wp p e below s n0 ck cs Q (T.setTop (mkF m pc Ls st)) := by
  obtain ⟨locs, X, N, eT, hx, hZ, hby, hml, hown, hret, hlk, hsz⟩ := A
  exact K.goo fun t q => XS.goto X.here hx rfl (pc0 := pc) rfl (hb hby hd) ho hp q
theorem s_ifY (A : On l Z n0 own bytes maxL ret R p e s m args below meth c T h k n) {cd : ClassFile.Cond} {x : Int32} {o : Int} (hd : decode bytes pc = .ok (.ifCond cd o, 3)) (hc : ifCond.holds cd x = true) (ho : 0 ≤ (pc : Int) + o) (hp : ((pc : Int) + o).toNat = pc') (K : Wp p e below s n0 ck cs Q (T.setTop (mkF m pc' Ls st))) : Wp p e below s n0 ck cs Q (T.setTop (mkF m pc Ls (.int x :: st))) := by
  obtain ⟨locs, X, N, eT, hx, hZ, hby, hml, hown, hret, hlk, hsz⟩ := A
  exact K.goo fun t q => XS.ifYes X.here hx rfl (pc0 := pc) rfl (hb hby hd) rfl hc ho hp q
theorem s_icmpY (A : On l Z n0 own bytes maxL ret R p e s m args below meth c T h k n) {cd : ClassFile.Cond} {x y : Int32} {o : Int} (hd : decode bytes pc = .ok (.if_icmp cd o, 3)) (hc : if_icmp.holds cd x y = true) (ho : 0 ≤ (pc : Int) + o) (hp : ((pc : Int) + o).toNat = pc') (K : Wp p e below s n0 ck cs Q (T.setTop (mkF m pc' Ls st))) : Wp p e below s n0 ck cs Q (T.setTop (mkF m pc Ls (.int y :: .int x :: st))) := by
  obtain ⟨locs, X, N, eT, hx, hZ, hby, hml, hown, hret, hlk, hsz⟩ := A
  exact K.goo fun t q => XS.icmpYes X.here hx rfl (pc0 := pc) rfl (hb hby hd) rfl hc ho hp q
theorem s_ifN (A : On l Z n0 own bytes maxL ret R p e s m args below meth c T h k n) {cd : ClassFile.Cond} {x : Int32} {o : Int} (hd : decode bytes pc = .ok (.ifCond cd o, 3)) (hp : pc + 3 = pc') (hc : ifCond.holds cd x = false) (K : Wp p e below s n0 ck cs Q (T.setTop (mkF m pc' Ls st))) : Wp p e below s n0 ck cs Q (T.setTop (mkF m pc Ls (.int x :: st))) := by
  obtain ⟨locs, X, N, eT, hx, hZ, hby, hml, hown, hret, hlk, hsz⟩ := A
  subst hp
  exact K.goo fun t q => XS.ifNo X.here hx rfl (hb hby hd) rfl hc q
theorem s_icmpN (A : On l Z n0 own bytes maxL ret R p e s m args below meth c T h k n) {cd : ClassFile.Cond} {x y : Int32} {o : Int} (hd : decode bytes pc = .ok (.if_icmp cd o, 3)) (hp : pc + 3 = pc') (hc : if_icmp.holds cd x y = false) (K : Wp p e below s n0 ck cs Q (T.setTop (mkF m pc' Ls st))) : Wp p e below s n0 ck cs Q (T.setTop (mkF m pc Ls (.int y :: .int x :: st))) := by
  obtain ⟨locs, X, N, eT, hx, hZ, hby, hml, hown, hret, hlk, hsz⟩ := A
  subst hp
  exact K.goo fun t q => XS.icmpNo X.here hx rfl (hb hby hd) rfl hc q
theorem s_ldcInt (A : On l Z n0 own bytes maxL ret R p e s m args below meth c T h k n) {i : Nat} {z : Int32} (hd : decode bytes pc = .ok (.ldc i, 2)) (hp : pc + 2 = pc') (w0 : (Cond.constant own i z).before a0 Z = true) (K : Wp p e below s n0 ck cs Q (T.setTop (mkF m pc' Ls (.int z :: st)))) : Wp p e below s n0 ck cs Q (T.setTop (mkF m pc Ls st)) := by
  obtain ⟨locs, X, N, eT, hx, hZ, hby, hml, hown, hret, hlk, hsz⟩ := A
  subst hp
  exact K.goo fun t q => X.ldcInt hx hown (mvT hZ w0) (g := mkF m pc Ls st) rfl (hb hby hd) t q
theorem s_ldc2Long (A : On l Z n0 own bytes maxL ret R p e s m args below meth c T h k n) {i : Nat} {z : Int64} (hd : decode bytes pc = .ok (.ldc2_w i, 3)) (hp : pc + 3 = pc') (w0 : (Cond.constantLong own i z).before a0 Z = true) (K : Wp p e below s n0 ck cs Q (T.setTop (mkF m pc' Ls (.long z :: st)))) : Wp p e below s n0 ck cs Q (T.setTop (mkF m pc Ls st)) := by
  obtain ⟨locs, X, N, eT, hx, hZ, hby, hml, hown, hret, hlk, hsz⟩ := A
  subst hp
  exact K.goo fun t q => X.ldc2Long hx hown (mvT hZ w0) (g := mkF m pc Ls st) rfl (hb hby hd) t q
theorem idx_ok {j : Int32} {i : Nat} (hj : j.toInt = (i : Int)) : j.toNatClampNeg = i := by show j.toInt.toNat = i; omega
theorem idx_in' {j : Int32} {i : Nat} {N : Nat} (hj : j.toInt = (i : Int)) (hi : i < N) : ¬ (j < 0 ∨ N ≤ j.toNatClampNeg) := by
  rw [idx_ok hj, Int32.lt_iff_toInt_lt, hj]
  have : (0 : Int32).toInt = 0 := by decide
  omega
theorem s_newarray (A : On l Z n0 own bytes maxL ret R p e s m args below meth c T h k n) {aty : ArrayType} {dv : Value} {z : Int32} {i cap : Nat} (hty : newarray.typeOf aty = ty) (hdv : defaultValue ty = dv) (wa : (Cond.arrayClass ty).before a0 Z = true) (hz : z.toInt = (i : Int)) (hcap : i ≤ cap) (hbig : cap * 8 ≤ 536870912) (hc : k + 1 ≤ R.cells) (hs : n + cap ≤ R.slots) (hd : decode bytes pc = .ok (.newarray aty, 2)) (hp : pc + 2 = pc') (K : ∀ T' h' b, On l Z n0 own bytes maxL ret R p e s m args below meth c T' h' (k + 1) (n + cap) → h.size = b → n0 ≤ b → Ext h h' → AA Z h' b ty (List.replicate i dv) → Wp p e below s n0 ck cs Q (T'.setTop (mkF m pc' Ls (.ref b :: st)))) : Wp p e below s n0 ck cs Q (T.setTop (mkF m pc Ls (.int z :: st))) := by
  obtain ⟨locs, X, N, eT, hx, hZ, hby, hml, hown, hret, hlk, hsz⟩ := A
  subst hp
  subst hty hdv
  have z0 : ¬ z < 0 := by rw [Int32.lt_iff_toInt_lt, hz]; have : (0 : Int32).toInt = 0 := by decide
                          omega
  obtain ⟨T', h', cA, X', e', E, A', q⟩ := newP X hx hZ wa eT (g := mkF m pc Ls (.int z :: st)) rfl (hb hby hd) rfl z0 (cap := cap) (by rw [idx_ok hz]; exact hcap) hbig hc hs
  have hz' : n0 ≤ h.size := by rw [← eT]; exact Nat.le_trans hsz X.same.2.1
  exact (K T' h' _ ⟨_, X', N, e', hx, hZ, hby, hml, hown, hret, hlk, hsz⟩ rfl hz' E (AA.new A' hz)).goo q
theorem s_lastore (A : On l Z n0 own bytes maxL ret R p e s m args below meth c T h k n) {x : Int64} {j : Int32} {i : Nat} (V : AA Z h a .long vs) (hj : j.toInt = (i : Int)) (hi : i < vs.length) (ha : n0 ≤ a) (hd : decode bytes pc = .ok (.lastore, 1)) (hp : pc + 1 = pc') (K : ∀ T' h', On l Z n0 own bytes maxL ret R p e s m args below meth c T' h' k n → Wr h h' a i (.long x) → AA Z h' a .long (vs.set i (.long x)) → Wp p e below s n0 ck cs Q (T'.setTop (mkF m pc' Ls st))) : Wp p e below s n0 ck cs Q (T.setTop (mkF m pc Ls (.long x :: .int j :: .ref a :: st))) := by
  obtain ⟨locs, X, N, eT, hx, hZ, hby, hml, hown, hret, hlk, hsz⟩ := A
  subst hp
  have V0 := V
  obtain ⟨cl, Ar, r1, r2⟩ := V0
  obtain ⟨T', h', X', e', W, q⟩ := stJ X hx hZ eT Ar (j := j) (idx_in' hj (by rw [r1]; simpa using hi)) (g := mkF m pc Ls (.long x :: .int j :: .ref a :: st)) rfl rfl (hb hby hd)
  have W' := W
  rw [idx_ok hj] at W'
  exact (K T' h' ⟨_, X', Fr.snoc X' N ha, e', hx, hZ, hby, hml, hown, hret, hlk, hsz⟩ W' (V.set W')).goo q
theorem s_laload (A : On l Z n0 own bytes maxL ret R p e s m args below meth c T h k n) {j : Int32} {i : Nat} (V : AA Z h a .long vs) (hj : j.toInt = (i : Int)) (hv : vs[i]? = some v) (hd : decode bytes pc = .ok (.laload, 1)) (hp : pc + 1 = pc') (K : Wp p e below s n0 ck cs Q (T.setTop (mkF m pc' Ls (v :: st)))) : Wp p e below s n0 ck cs Q (T.setTop (mkF m pc Ls (.int j :: .ref a :: st))) := by
  obtain ⟨locs, X, N, eT, hx, hZ, hby, hml, hown, hret, hlk, hsz⟩ := A
  subst hp
  obtain ⟨cl, Ar, r1, r2⟩ := V
  have hi : i < vs.length := (List.getElem?_eq_some_iff.mp hv).1
  exact K.goo fun t q => X.laload hx (j := j) (v := v) (by rw [eT]; exact Ar.1) (State.isArrayOf_alike hZ.alike Ar.2.1) Ar.2.2 (idx_in' hj (by rw [r1]; simpa using hi)) (by rw [idx_ok hj, r1]; simpa using hv) (g := mkF m pc Ls (.int j :: .ref a :: st)) rfl rfl (hb hby hd) t q
theorem s_arraylength (A : On l Z n0 own bytes maxL ret R p e s m args below meth c T h k n) {z : Int32} (V : AA Z h a ty vs) (hz : z.toInt = (vs.length : Int)) (hd : decode bytes pc = .ok (.arraylength, 1)) (hp : pc + 1 = pc') (K : Wp p e below s n0 ck cs Q (T.setTop (mkF m pc' Ls (.int z :: st)))) : Wp p e below s n0 ck cs Q (T.setTop (mkF m pc Ls (.ref a :: st))) := by
  obtain ⟨locs, X, N, eT, hx, hZ, hby, hml, hown, hret, hlk, hsz⟩ := A
  subst hp
  obtain ⟨cl, Ar, r1, r2⟩ := V
  have q0 : cl.slots.size.toInt32 = z := by
    rw [r1]; apply Int32.toInt_inj.mp; rw [len_toInt (by simpa using r2), hz]; simp
  exact K.goo fun t q => X.arraylength hx (by rw [eT]; exact Ar.1) (State.isArrayOf_alike hZ.alike Ar.2.1) (g := mkF m pc Ls (.ref a :: st)) rfl rfl (hb hby hd) t (by rw [q0]; exact q)
theorem s_static (A : On l Z n0 own bytes maxL ret R p e s m args below meth c T h k n) {index : Nat} {y : MethodName} {bytes' : ByteArray} {maxL' : Nat} {ret' : Option FieldType} {rm : Room} {argsL rest : List Value} {Q' : Option Value → Heap → Prop} (M : Met l Z n0 y bytes' maxL' ret' rm argsL.toArray h Q') (wl : (Cond.methodLink own index y).before a0 Z = true) (ws : (Cond.static y).before a0 Z = true) (wz : (Cond.initialized y.cls).before a0 Z = true) (wc : (Cond.code y bytes' maxL' ret').before a0 Z = true) (hy : y.cls ≠ "java/lang/invoke/MethodHandle" ∧ y.cls ≠ "java/lang/invoke/VarHandle") {sig : MethodDescriptor} (hsig : parseMethodDescriptor y.desc = some sig) (hlen : argsL.length = sig.parameters.length) {W : Nat} (hf : rm.frames + 1 ≤ R.frames) (hl : W + (maxL' + 11) + rm.locals ≤ R.locals) (hW : (rest.map fun v => v.category).sum ≤ W) (hc : k + rm.cells ≤ R.cells) (hs : n + rm.slots ≤ R.slots) (hLs : Ls.size = maxL) {stk : List Value} (hst : stk = argsL.reverse ++ rest) (hd : decode bytes pc = .ok (.invokestatic index, 3)) (hp : pc + 3 = pc') (K : ∀ T' h' v, On l Z n0 own bytes maxL ret R p e s m args below meth c T' h' (k + rm.cells) (n + rm.slots) → Q' v h' → Wp p e below s n0 ck cs Q (T'.setTop (mkF m pc' Ls (v.toList ++ rest)))) : Wp p e below s n0 ck cs Q (T.setTop (mkF m pc Ls stk)) := by
  obtain ⟨locs, X, N, eT, hx, hZ, hby, hml, hown, hret, hlk, hsz⟩ := A
  subst hp
  obtain ⟨v, _, ⟨T', L', k', n'⟩, -, X', ⟨Lc, ⟨Nq, hQ⟩, l1, l2, l3⟩, q⟩ := Jvm.LawKit.callS X hx (y := y) hown (mvT hZ wl) (mvT hZ ws) (mvT hZ wz) (mvT hZ wc) hy (backOf (Q := fun v h L => Fr n0 L ∧ Q' v h) (W := W) (M []) hZ wc wz hf hl) (g := mkF m pc Ls stk) rfl (by rw [hml]; exact hLs) (argsL := argsL) (rest := rest) (lenOf hsig hlen) hst (by show 2 * 0 + _ ≤ _; simpa using hW) (hb hby hd) (fun _ _ => ⟨rfl, eT, hc, hs⟩)
  dsimp only [Pt.U, Pt.locs, Pt.cells, Pt.slots] at X' l1 l2 l3 q hQ Nq
  subst l1 l2 l3
  exact (K T' T'.heap v ⟨_, X', Fr.app N Nq, rfl, hx, hZ, hby, hml, hown, hret, hlk, hsz⟩ hQ).goo q
theorem r_val (A : On l Z n0 own bytes maxL ret R p e s m args below meth c T h k n) {i : Instr} {t : FieldType} (hr : ret = some t) (hn0 : narrow t v = v) (hi : (i = .ireturn ∧ (t = .int ∨ t = .boolean ∨ t = .byte ∨ t = .char ∨ t = .short) ∧ ∃ z, v = .int z) ∨ (i = .lreturn ∧ t = .long ∧ ∃ z, v = .long z) ∨ (i = .dreturn ∧ t = .double ∧ ∃ z, v = .double z) ∨ (i = .freturn ∧ t = .float ∧ ∃ z, v = .float z) ∨ (i = .areturn ∧ t.isReference = true ∧ v.isRef = true)) (hd : decode bytes pc = .ok (i, 1)) (hk : k ≤ ck) (hn : n ≤ cs) (q : Q (some v) h) : Wp p e below s n0 ck cs Q (T.setTop (mkF m pc Ls (v :: st))) := by
  obtain ⟨locs, X, N, eT, hx, hZ, hby, hml, hown, hret, hlk, hsz⟩ := A
  have hR : meth.sig.returnType = some t := hret.trans hr
  obtain ⟨fs, h1, hrun, hended, hW, hsame⟩ := X.leave (v := some v) (fun z => by rw [hR] at z; cases z) hlk
  exact ⟨_, _, retOut X hx hR hn0 hi (hb hby hd) h1, hrun, hended, _, _, rfl, ⟨N, by show Q (some v) T.heap; rw [eT]; exact q⟩, ⟨_, rfl⟩, hW, hsame.mono hk hn⟩
theorem r_bool (A : On l Z n0 own bytes maxL ret R p e s m args below meth c T h k n) {z : Int32} (hr : ret = some .boolean) (hz : z = 0 ∨ z = 1) (hd : decode bytes pc = .ok (.ireturn, 1)) (hk : k ≤ ck) (hn : n ≤ cs) (q : Q (some (.int z)) h) : Wp p e below s n0 ck cs Q (T.setTop (mkF m pc Ls (.int z :: st))) := r_val A hr (by rcases hz with rfl | rfl <;> rfl) (Or.inl ⟨rfl, Or.inr (Or.inl rfl), _, rfl⟩) hd hk hn q
theorem r_long (A : On l Z n0 own bytes maxL ret R p e s m args below meth c T h k n) {z : Int64} (hr : ret = some .long) (hd : decode bytes pc = .ok (.lreturn, 1)) (hk : k ≤ ck) (hn : n ≤ cs) (q : Q (some (.long z)) h) : Wp p e below s n0 ck cs Q (T.setTop (mkF m pc Ls (.long z :: st))) := r_val A hr rfl (Or.inr (Or.inl ⟨rfl, rfl, _, rfl⟩)) hd hk hn q
theorem r_ref (A : On l Z n0 own bytes maxL ret R p e s m args below meth c T h k n) {t : FieldType} (hr : ret = some t) (ht : t.isReference = true) (hv : v.isRef = true) (hd : decode bytes pc = .ok (.areturn, 1)) (hk : k ≤ ck) (hn : n ≤ cs) (q : Q (some v) h) : Wp p e below s n0 ck cs Q (T.setTop (mkF m pc Ls (v :: st))) := r_val A hr (by cases t <;> first | rfl | cases ht) (Or.inr (Or.inr (Or.inr (Or.inr ⟨rfl, ht, hv⟩)))) hd hk hn q
end Kit
end Jvm.Ow
namespace Jvm.Pilot.@@N@@
open Jvm Jvm.ClassFile Sem Op Lib Jvm.Free Jvm.Stand Jvm.LawKit Jvm.RoadKit Jvm.Ow Bundle Jvm.Pilot.@@N@@.Jvm.D
theorem d2_0 : decode prog_3_method_9_code 0 = .ok (.lload_n 0, 1) := by decide +kernel
theorem d2_1 : decode prog_3_method_9_code 1 = .ok (.lload_n 0, 1) := by decide +kernel
theorem d2_2 : decode prog_3_method_9_code 2 = .ok (.bipush 30, 2) := by decide +kernel
theorem d2_4 : decode prog_3_method_9_code 4 = .ok (.lushr, 1) := by decide +kernel
theorem d2_5 : decode prog_3_method_9_code 5 = .ok (.lxor, 1) := by decide +kernel
theorem d2_6 : decode prog_3_method_9_code 6 = .ok (.ldc2_w 67, 3) := by decide +kernel
theorem w9 {Z : State} {a0 : Array Value} (hw : ∀ d ∈ tables_1, d.before a0 Z = true) : (Jvm.Cond.constantLong "com/example/stream_tally/streamtally/ItemHash" (67 : Nat) (-4658895280553007687 : Int64)).before a0 Z = true := hw _ (List.mem_of_getElem? (i := 9) rfl)
theorem d2_9 : decode prog_3_method_9_code 9 = .ok (.lmul, 1) := by decide +kernel
theorem d2_10 : decode prog_3_method_9_code 10 = .ok (.lstore_n 2, 1) := by decide +kernel
theorem d2_11 : decode prog_3_method_9_code 11 = .ok (.lload_n 2, 1) := by decide +kernel
theorem d2_12 : decode prog_3_method_9_code 12 = .ok (.lload_n 2, 1) := by decide +kernel
theorem d2_13 : decode prog_3_method_9_code 13 = .ok (.bipush 27, 2) := by decide +kernel
theorem d2_15 : decode prog_3_method_9_code 15 = .ok (.lushr, 1) := by decide +kernel
theorem d2_16 : decode prog_3_method_9_code 16 = .ok (.lxor, 1) := by decide +kernel
theorem d2_17 : decode prog_3_method_9_code 17 = .ok (.ldc2_w 69, 3) := by decide +kernel
theorem w10 {Z : State} {a0 : Array Value} (hw : ∀ d ∈ tables_1, d.before a0 Z = true) : (Jvm.Cond.constantLong "com/example/stream_tally/streamtally/ItemHash" (69 : Nat) (-7723592293110705685 : Int64)).before a0 Z = true := hw _ (List.mem_of_getElem? (i := 10) rfl)
theorem d2_20 : decode prog_3_method_9_code 20 = .ok (.lmul, 1) := by decide +kernel
theorem d2_21 : decode prog_3_method_9_code 21 = .ok (.lstore_n 2, 1) := by decide +kernel
theorem d2_22 : decode prog_3_method_9_code 22 = .ok (.lload_n 2, 1) := by decide +kernel
theorem d2_23 : decode prog_3_method_9_code 23 = .ok (.lload_n 2, 1) := by decide +kernel
theorem d2_24 : decode prog_3_method_9_code 24 = .ok (.bipush 31, 2) := by decide +kernel
theorem d2_26 : decode prog_3_method_9_code 26 = .ok (.lushr, 1) := by decide +kernel
theorem d2_27 : decode prog_3_method_9_code 27 = .ok (.lxor, 1) := by decide +kernel
theorem d2_28 : decode prog_3_method_9_code 28 = .ok (.lreturn, 1) := by decide +kernel
abbrev y0_mix : MethodName := ⟨"com/example/stream_tally/streamtally/ItemHash", "mix", "(J)J"⟩
theorem pn_com_example_stream_tally_streamtally_ItemHash : plainName "com/example/stream_tally/streamtally/ItemHash" = true := by first | (simp [plainName, overriddenIn]; done) | decide +kernel
abbrev c0_ItemHash : String := "com/example/stream_tally/streamtally/ItemHash"
theorem d3_0 : decode prog_3_method_5_code 0 = .ok (.lload_n 0, 1) := by decide +kernel
theorem d3_1 : decode prog_3_method_5_code 1 = .ok (.invokestatic 39, 3) := by decide +kernel
theorem w6 {Z : State} {a0 : Array Value} (hw : ∀ d ∈ tables_1, d.before a0 Z = true) : (Jvm.Cond.methodLink "com/example/stream_tally/streamtally/ItemHash" (39 : Nat) ({ cls := "com/example/stream_tally/streamtally/ItemHash", name := "mix", desc := "(J)J" } : Jvm.MethodName)).before a0 Z = true := hw _ (List.mem_of_getElem? (i := 6) rfl)
theorem pd__J_J : parseMethodDescriptor "(J)J" = some ⟨[.long], some .long⟩ := by decide +kernel
theorem w2 {Z : State} {a0 : Array Value} (hw : ∀ d ∈ tables_1, d.before a0 Z = true) : (Jvm.Cond.initialized "com/example/stream_tally/streamtally/ItemHash").before a0 Z = true := hw _ (List.mem_of_getElem? (i := 2) rfl)
theorem w8 {Z : State} {a0 : Array Value} (hw : ∀ d ∈ tables_1, d.before a0 Z = true) : (Jvm.Cond.code ({ cls := "com/example/stream_tally/streamtally/ItemHash", name := "mix", desc := "(J)J" } : Jvm.MethodName) prog_3_method_9_code (4 : Nat) (Option.some Jvm.ClassFile.FieldType.long)).before a0 Z = true := hw _ (List.mem_of_getElem? (i := 8) rfl)
theorem w7 {Z : State} {a0 : Array Value} (hw : ∀ d ∈ tables_1, d.before a0 Z = true) : (Jvm.Cond.static ({ cls := "com/example/stream_tally/streamtally/ItemHash", name := "mix", desc := "(J)J" } : Jvm.MethodName)).before a0 Z = true := hw _ (List.mem_of_getElem? (i := 7) rfl)
theorem d3_4 : decode prog_3_method_5_code 4 = .ok (.lreturn, 1) := by decide +kernel
abbrev y1_pageSalt : MethodName := ⟨"com/example/stream_tally/streamtally/ItemHash", "pageSalt", "(J)J"⟩
theorem d1_7 : decode prog_3_method_4_code 7 = .ok (.iload 4, 2) := by decide +kernel
theorem d1_9 : decode prog_3_method_4_code 9 = .ok (.iload_n 2, 1) := by decide +kernel
theorem d1_10 : decode prog_3_method_4_code 10 = .ok (.if_icmp .ge 27, 3) := by decide +kernel
theorem d1_37 : decode prog_3_method_4_code 37 = .ok (.aload_n 3, 1) := by decide +kernel
theorem d1_38 : decode prog_3_method_4_code 38 = .ok (.areturn, 1) := by decide +kernel
theorem d1_13 : decode prog_3_method_4_code 13 = .ok (.aload_n 3, 1) := by decide +kernel
theorem d1_14 : decode prog_3_method_4_code 14 = .ok (.iload 4, 2) := by decide +kernel
theorem d1_16 : decode prog_3_method_4_code 16 = .ok (.lload_n 0, 1) := by decide +kernel
theorem d1_17 : decode prog_3_method_4_code 17 = .ok (.iload 4, 2) := by decide +kernel
theorem d1_19 : decode prog_3_method_4_code 19 = .ok (.i2l, 1) := by decide +kernel
theorem d1_20 : decode prog_3_method_4_code 20 = .ok (.lconst 1, 1) := by decide +kernel
theorem d1_21 : decode prog_3_method_4_code 21 = .ok (.ladd, 1) := by decide +kernel
theorem d1_22 : decode prog_3_method_4_code 22 = .ok (.ldc2_w 25, 3) := by decide +kernel
theorem w5 {Z : State} {a0 : Array Value} (hw : ∀ d ∈ tables_1, d.before a0 Z = true) : (Jvm.Cond.constantLong "com/example/stream_tally/streamtally/ItemHash" (25 : Nat) (-7046029254386353131 : Int64)).before a0 Z = true := hw _ (List.mem_of_getElem? (i := 5) rfl)
theorem d1_25 : decode prog_3_method_4_code 25 = .ok (.lmul, 1) := by decide +kernel
theorem d1_26 : decode prog_3_method_4_code 26 = .ok (.ladd, 1) := by decide +kernel
theorem d1_27 : decode prog_3_method_4_code 27 = .ok (.invokestatic 39, 3) := by decide +kernel
theorem d1_30 : decode prog_3_method_4_code 30 = .ok (.lastore, 1) := by decide +kernel
theorem d1_31 : decode prog_3_method_4_code 31 = .ok (.iinc 4 1, 3) := by decide +kernel
theorem d1_34 : decode prog_3_method_4_code 34 = .ok (.goto (-27), 3) := by decide +kernel
theorem d1_0 : decode prog_3_method_4_code 0 = .ok (.iload_n 2, 1) := by decide +kernel
theorem d1_1 : decode prog_3_method_4_code 1 = .ok (.newarray .long, 2) := by decide +kernel
theorem w4 {Z : State} {a0 : Array Value} (hw : ∀ d ∈ tables_1, d.before a0 Z = true) : (Jvm.Cond.arrayClass Jvm.ClassFile.FieldType.long).before a0 Z = true := hw _ (List.mem_of_getElem? (i := 4) rfl)
theorem d1_3 : decode prog_3_method_4_code 3 = .ok (.astore_n 3, 1) := by decide +kernel
theorem d1_4 : decode prog_3_method_4_code 4 = .ok (.iconst 0, 1) := by decide +kernel
theorem d1_5 : decode prog_3_method_4_code 5 = .ok (.istore 4, 2) := by decide +kernel
abbrev y2_rowSalts : MethodName := ⟨"com/example/stream_tally/streamtally/ItemHash", "rowSalts", "(JI)[J"⟩
theorem w0 {Z : State} {a0 : Array Value} (hw : ∀ d ∈ tables_1, d.before a0 Z = true) : (Jvm.Cond.methodLink "com/example/stream_tally/streamtally/ItemHashRowSaltsPinLaw" (7 : Nat) ({ cls := "com/example/stream_tally/streamtally/ItemHash", name := "rowSalts", desc := "(JI)[J" } : Jvm.MethodName)).before a0 Z = true := hw _ (List.mem_of_getElem? (i := 0) rfl)
theorem pd__JI__J : parseMethodDescriptor "(JI)[J" = some ⟨[.long, .int], some (.array .long)⟩ := by decide +kernel
theorem w3 {Z : State} {a0 : Array Value} (hw : ∀ d ∈ tables_1, d.before a0 Z = true) : (Jvm.Cond.code ({ cls := "com/example/stream_tally/streamtally/ItemHash", name := "rowSalts", desc := "(JI)[J" } : Jvm.MethodName) prog_3_method_4_code (5 : Nat) (Option.some (Jvm.ClassFile.FieldType.array Jvm.ClassFile.FieldType.long))).before a0 Z = true := hw _ (List.mem_of_getElem? (i := 3) rfl)
theorem w1 {Z : State} {a0 : Array Value} (hw : ∀ d ∈ tables_1, d.before a0 Z = true) : (Jvm.Cond.static ({ cls := "com/example/stream_tally/streamtally/ItemHash", name := "rowSalts", desc := "(JI)[J" } : Jvm.MethodName)).before a0 Z = true := hw _ (List.mem_of_getElem? (i := 1) rfl)
theorem w11 {Z : State} {a0 : Array Value} (hw : ∀ d ∈ tables_1, d.before a0 Z = true) : (Jvm.Cond.constant "com/example/stream_tally/streamtally/ItemHashRowSaltsPinLaw" (13 : Nat) (2147483647 : Int32)).before a0 Z = true := hw _ (List.mem_of_getElem? (i := 11) rfl)
theorem w12 {Z : State} {a0 : Array Value} (hw : ∀ d ∈ tables_1, d.before a0 Z = true) : (Jvm.Cond.constantLong "com/example/stream_tally/streamtally/ItemHashRowSaltsPinLaw" (14 : Nat) (-7046029254386353131 : Int64)).before a0 Z = true := hw _ (List.mem_of_getElem? (i := 12) rfl)
theorem w13 {Z : State} {a0 : Array Value} (hw : ∀ d ∈ tables_1, d.before a0 Z = true) : (Jvm.Cond.methodLink "com/example/stream_tally/streamtally/ItemHashRowSaltsPinLaw" (16 : Nat) ({ cls := "com/example/stream_tally/streamtally/ItemHash", name := "pageSalt", desc := "(J)J" } : Jvm.MethodName)).before a0 Z = true := hw _ (List.mem_of_getElem? (i := 13) rfl)
theorem w15 {Z : State} {a0 : Array Value} (hw : ∀ d ∈ tables_1, d.before a0 Z = true) : (Jvm.Cond.code ({ cls := "com/example/stream_tally/streamtally/ItemHash", name := "pageSalt", desc := "(J)J" } : Jvm.MethodName) prog_3_method_5_code (2 : Nat) (Option.some Jvm.ClassFile.FieldType.long)).before a0 Z = true := hw _ (List.mem_of_getElem? (i := 15) rfl)
theorem w14 {Z : State} {a0 : Array Value} (hw : ∀ d ∈ tables_1, d.before a0 Z = true) : (Jvm.Cond.static ({ cls := "com/example/stream_tally/streamtally/ItemHash", name := "pageSalt", desc := "(J)J" } : Jvm.MethodName)).before a0 Z = true := hw _ (List.mem_of_getElem? (i := 14) rfl)
theorem pn_com_example_stream_tally_streamtally_ItemHashRowSaltsPinLaw : plainName "com/example/stream_tally/streamtally/ItemHashRowSaltsPinLaw" = true := by first | (simp [plainName, overriddenIn]; done) | decide +kernel
abbrev c1_ItemHashRowSaltsPinLaw : String := "com/example/stream_tally/streamtally/ItemHashRowSaltsPinLaw"
theorem own_ushk (x : Int64) (q : Int32) (k : Nat) (hk : q.toBitVec.toNat % 64 = k) : (ushL x q).toBitVec = x.toBitVec >>> k := by
  show x.toBitVec >>> ((q &&& 0x3f).toInt64.toBitVec % 64) = _
  have h5 := (sm64 q k hk).2
  rw [BitVec.ushiftRight_eq', BitVec.toNat_umod, (sm64 q k hk).1, BitVec.toNat_ofNat]
  congr 1
  show k % 2 ^ 64 % 64 = k
  omega
theorem own_xs (x y : BitVec 64) (k : Nat) (hk : 0 < k) (h : x ^^^ (x >>> k) = y ^^^ (y >>> k)) : x = y := by
  have h1 : (x ^^^ y) = (x ^^^ y) >>> k := by
    rw [BitVec.ushiftRight_xor_distrib]
    have e : x ^^^ y ^^^ (x >>> k ^^^ y >>> k) = 0#64 := by
      have : x ^^^ y ^^^ (x >>> k ^^^ y >>> k) = (x ^^^ x >>> k) ^^^ (y ^^^ y >>> k) := by ac_rfl
      rw [this, h, BitVec.xor_self]
    exact BitVec.xor_eq_zero_iff.mp e
  have h2 := congrArg BitVec.toNat h1
  rw [BitVec.toNat_ushiftRight, Nat.shiftRight_eq_div_pow] at h2
  have h3 : 2 ≤ 2 ^ k := by have := Nat.pow_le_pow_right (show 0 < 2 by decide) hk; simpa using this
  have h4 : (x ^^^ y).toNat = 0 := by
    rcases Nat.eq_zero_or_pos (x ^^^ y).toNat with q | q
    · exact q
    · have := Nat.div_lt_self q h3; omega
  exact BitVec.xor_eq_zero_iff.mp (BitVec.eq_of_toNat_eq (by simpa using h4))
theorem own_xsL (x y : Int64) (q : Int32) (k : Nat) (hq : q.toBitVec.toNat % 64 = k) (hk : 0 < k) (h : x ^^^ (ushL x q) = y ^^^ (ushL y q)) : x = y := by
  have := congrArg Int64.toBitVec h
  rw [Int64.toBitVec_xor, Int64.toBitVec_xor, own_ushk x q k hq, own_ushk y q k hq] at this
  exact Int64.toBitVec_inj.mp (own_xs _ _ k hk this)
theorem own_mul (x y m n : Int64) (hm : m * n = 1) (h : x * m = y * m) : x = y := by
  have := congrArg (· * n) h
  simp only [Int64.mul_assoc, hm, Int64.mul_one] at this
  exact this
def mixf (x : Int64) : Int64 := ((((x ^^^ (ushL x (30 : Int32))) * (-4658895280553007687 : Int64)) ^^^ (ushL ((x ^^^ (ushL x (30 : Int32))) * (-4658895280553007687 : Int64)) (27 : Int32))) * (-7723592293110705685 : Int64)) ^^^ (ushL ((((x ^^^ (ushL x (30 : Int32))) * (-4658895280553007687 : Int64)) ^^^ (ushL ((x ^^^ (ushL x (30 : Int32))) * (-4658895280553007687 : Int64)) (27 : Int32))) * (-7723592293110705685 : Int64)) (31 : Int32))
theorem own_mix (x y : Int64) (h : mixf x = mixf y) : x = y := by
  unfold mixf at h
  have h1 := own_xsL _ _ 31 31 (by decide) (by decide) h
  have h2 := own_mul _ _ (-7723592293110705685 : Int64) (3573116690164977347 : Int64) (by decide) h1
  have h3 := own_xsL _ _ 27 27 (by decide) (by decide) h2
  have h4 := own_mul _ _ (-4658895280553007687 : Int64) (-7575587736534282103 : Int64) (by decide) h3
  exact own_xsL _ _ 30 30 (by decide) (by decide) h4
def salt (seed : Int64) (r : Int32) : Int64 := mixf (seed + (r.toInt64 + 1) * (-7046029254386353131 : Int64))
theorem own_cancel (x y z : Int64) (h : x + y = x + z) : y = z := by
  have := congrArg (fun q => -x + q) h
  simpa [← Int64.add_assoc, Int64.add_left_neg] using this
theorem own_small {n : Nat} (h : n < 15) : (Int32.ofNat n).toInt = (n : Int) := by
  rw [Int32.toInt_ofNat_of_lt (by omega)]
theorem own_of (r : Int32) (n : Nat) (h : r.toInt = (n : Int)) (hn : n < 15) : r = Int32.ofNat n := Int32.toInt_inj.mp (h.trans (own_small hn).symm)
theorem own_g0 : ∀ n : Fin 15, ((Int32.ofNat n.val).toInt64 + 1) * (-7046029254386353131 : Int64) ≠ 0 := by decide +kernel
theorem own_g1 : ∀ n m : Fin 15, ((Int32.ofNat n.val).toInt64 + 1) * (-7046029254386353131 : Int64) = ((Int32.ofNat m.val).toInt64 + 1) * (-7046029254386353131 : Int64) → n = m := by decide +kernel
theorem own_page (seed : Int64) (r : Int32) (n : Nat) (h : r.toInt = (n : Int)) (hn : n < 15) : ¬ salt seed r = mixf seed := by
  intro q
  have := own_mix _ _ q
  have e := own_cancel seed _ 0 (by rw [this, Int64.add_zero])
  rw [own_of r n h hn] at e
  exact own_g0 ⟨n, hn⟩ e
theorem own_ne (seed : Int64) (r q : Int32) (n k : Nat) (h : r.toInt = (n : Int)) (hn : n < 15) (h' : q.toInt = (k : Int)) (hk : k < 15) (hne : ¬ q = r) : ¬ salt seed q = salt seed r := by
  intro z
  have e := own_cancel seed _ _ (own_mix _ _ z)
  rw [own_of r n h hn, own_of q k h' hk] at e
  have := own_g1 ⟨k, hk⟩ ⟨n, hn⟩ e
  apply hne
  rw [own_of r n h hn, own_of q k h' hk, Fin.mk.inj this]
def SV (seed : Int64) (N i : Nat) : List Value := (List.range i).map (fun j => Value.long (salt seed (Int32.ofNat j))) ++ List.replicate (N - i) (Value.long 0)
theorem own_sv0 (seed : Int64) (N : Nat) : SV seed N 0 = List.replicate N (Value.long 0) := by simp [SV]
theorem own_svl (seed : Int64) (N i : Nat) (h : i ≤ N) : (SV seed N i).length = N := by simp [SV]; omega
theorem own_svs (seed : Int64) (N i : Nat) (h : i < N) : (SV seed N i).set i (.long (salt seed (Int32.ofNat i))) = SV seed N (i + 1) := by
  unfold SV
  obtain ⟨k, hk⟩ : ∃ k, N - i = k + 1 := ⟨N - i - 1, by omega⟩
  have hk' : N - (i + 1) = k := by omega
  rw [hk, hk', List.replicate_succ, List.range_succ, List.map_append, List.append_assoc]
  rw [List.set_append_right _ _ (by simp)]
  simp
theorem own_svg (seed : Int64) (N j : Nat) (h : j < N) : (SV seed N N)[j]? = some (.long (salt seed (Int32.ofNat j))) := by
  unfold SV
  rw [List.getElem?_append_left (by simpa using h)]
  simp [h]
set_option maxRecDepth 65536 in
set_option maxHeartbeats 40000000 in
theorem mix (l : Launch) (Z : State) (a0 : Array Value) (hw : ∀ d ∈ tables_1, d.before a0 Z = true) (n0 : Nat) (h0 : Heap) (Z0 : n0 ≤ h0.size) (x : Int64)  :
    Met l Z n0 y0_mix prog_3_method_9_code 4 (Option.some Jvm.ClassFile.FieldType.long) ({ frames := 0, cells := 0, slots := 0, locals := 0 } : Room) #[(.long x)] h0 (fun v h => v = some (.long (mixf x)) ∧ h = h0) := by
  refine met_intro (own := c0_ItemHash) (plainFor_of_name pn_com_example_stream_tally_streamtally_ItemHash) rfl Z0 ?_
  intro p e s m below meth c T A hnm
  refine Wp.cast (g' := mkF m 0 #[jv x, S2, U0, U0] []) (by first | (simp [entryFrame, mkF, argsToLocals, Value.category, maxLocals, jv, S2, U0, iv, rv]; done) | rfl) ?_
  refine s_lloadN (pc' := 1) A d2_0 rfl rfl ?_
  refine s_lloadN (pc' := 2) A d2_1 rfl rfl ?_
  refine s_bipush (pc' := 4) (z := (30 : Int32)) A d2_2 rfl (by decide) ?_
  refine s_lushr (pc' := 5) (z := (ushL x (30 : Int32))) A d2_4 rfl rfl ?_
  refine s_lxor (pc' := 6) (z := (x ^^^ (ushL x (30 : Int32)))) A d2_5 rfl rfl ?_
  refine s_ldc2Long (pc' := 9) A d2_6 rfl (w9 hw) ?_
  refine s_lmul (pc' := 10) (z := ((x ^^^ (ushL x (30 : Int32))) * (-4658895280553007687 : Int64))) A d2_9 rfl rfl ?_
  refine s_lstoreN (pc' := 11) (Ls' := #[jv x, S2, jv ((x ^^^ (ushL x (30 : Int32))) * (-4658895280553007687 : Int64)), S2]) A d2_10 rfl rfl ?_
  refine s_lloadN (pc' := 12) A d2_11 rfl rfl ?_
  refine s_lloadN (pc' := 13) A d2_12 rfl rfl ?_
  refine s_bipush (pc' := 15) (z := (27 : Int32)) A d2_13 rfl (by decide) ?_
  refine s_lushr (pc' := 16) (z := (ushL ((x ^^^ (ushL x (30 : Int32))) * (-4658895280553007687 : Int64)) (27 : Int32))) A d2_15 rfl rfl ?_
  refine s_lxor (pc' := 17) (z := (((x ^^^ (ushL x (30 : Int32))) * (-4658895280553007687 : Int64)) ^^^ (ushL ((x ^^^ (ushL x (30 : Int32))) * (-4658895280553007687 : Int64)) (27 : Int32)))) A d2_16 rfl rfl ?_
  refine s_ldc2Long (pc' := 20) A d2_17 rfl (w10 hw) ?_
  refine s_lmul (pc' := 21) (z := ((((x ^^^ (ushL x (30 : Int32))) * (-4658895280553007687 : Int64)) ^^^ (ushL ((x ^^^ (ushL x (30 : Int32))) * (-4658895280553007687 : Int64)) (27 : Int32))) * (-7723592293110705685 : Int64))) A d2_20 rfl rfl ?_
  refine s_lstoreN (pc' := 22) (Ls' := #[jv x, S2, jv ((((x ^^^ (ushL x (30 : Int32))) * (-4658895280553007687 : Int64)) ^^^ (ushL ((x ^^^ (ushL x (30 : Int32))) * (-4658895280553007687 : Int64)) (27 : Int32))) * (-7723592293110705685 : Int64)), S2]) A d2_21 rfl rfl ?_
  refine s_lloadN (pc' := 23) A d2_22 rfl rfl ?_
  refine s_lloadN (pc' := 24) A d2_23 rfl rfl ?_
  refine s_bipush (pc' := 26) (z := (31 : Int32)) A d2_24 rfl (by decide) ?_
  refine s_lushr (pc' := 27) (z := (ushL ((((x ^^^ (ushL x (30 : Int32))) * (-4658895280553007687 : Int64)) ^^^ (ushL ((x ^^^ (ushL x (30 : Int32))) * (-4658895280553007687 : Int64)) (27 : Int32))) * (-7723592293110705685 : Int64)) (31 : Int32))) A d2_26 rfl rfl ?_
  refine s_lxor (pc' := 28) (z := (((((x ^^^ (ushL x (30 : Int32))) * (-4658895280553007687 : Int64)) ^^^ (ushL ((x ^^^ (ushL x (30 : Int32))) * (-4658895280553007687 : Int64)) (27 : Int32))) * (-7723592293110705685 : Int64)) ^^^ (ushL ((((x ^^^ (ushL x (30 : Int32))) * (-4658895280553007687 : Int64)) ^^^ (ushL ((x ^^^ (ushL x (30 : Int32))) * (-4658895280553007687 : Int64)) (27 : Int32))) * (-7723592293110705685 : Int64)) (31 : Int32)))) A d2_27 rfl rfl ?_
  exact r_long A rfl d2_28 (by decide) (by decide) (⟨rfl, rfl⟩)
set_option maxRecDepth 65536 in
set_option maxHeartbeats 40000000 in
theorem page (l : Launch) (Z : State) (a0 : Array Value) (hw : ∀ d ∈ tables_1, d.before a0 Z = true) (n0 : Nat) (h0 : Heap) (Z0 : n0 ≤ h0.size) (x : Int64)  :
    Met l Z n0 y1_pageSalt prog_3_method_5_code 2 (Option.some Jvm.ClassFile.FieldType.long) ({ frames := 1, cells := 0, slots := 0, locals := 15 } : Room) #[(.long x)] h0 (fun v h => v = some (.long (mixf x)) ∧ h = h0) := by
  refine met_intro (own := c0_ItemHash) (plainFor_of_name pn_com_example_stream_tally_streamtally_ItemHash) rfl Z0 ?_
  intro p e s m below meth c T A hnm
  refine Wp.cast (g' := mkF m 0 #[jv x, S2] []) (by first | (simp [entryFrame, mkF, argsToLocals, Value.category, maxLocals, jv, S2, U0, iv, rv]; done) | rfl) ?_
  refine s_lloadN (pc' := 1) A d3_0 rfl rfl ?_
  refine s_static (pc' := 4) (y := y0_mix) (argsL := [(.long x)]) (rest := []) A (mix l Z a0 hw n0 h0 A.size x) (w6 hw) (w7 hw) (w2 hw) (w8 hw) (by decide) pd__J_J rfl (W := 0) (by decide) (by decide) (Nat.le_of_eq rfl) (by decide) (by decide) rfl rfl d3_1 rfl fun T h1 v2 A Q3 => ?_
  obtain ⟨rfl, eh⟩ := Q3
  rw [eh] at A
  refine Wp.stk (st' := [(.long (mixf x))]) rfl ?_
  exact r_long A rfl d3_4 (by decide) (by decide) (⟨rfl, rfl⟩)
theorem own_small15 {n : Nat} (h : n ≤ 15) : (Int32.ofNat n).toInt = (n : Int) := by
  rw [Int32.toInt_ofNat_of_lt (by omega)]
theorem own_succ (i : Nat) (h : i < 15) : Int32.ofNat i + 1 = Int32.ofNat (i + 1) := Int32.toInt_inj.mp (by
  have h1 := c_iadd (Int32.ofNat i) 1
  have h2 := rng32 (Int32.ofNat i + 1)
  rw [own_small15 (show i + 1 ≤ 15 by omega)]
  rw [own_small15 (show i ≤ 15 by omega), show (1 : Int32).toInt = 1 from by decide] at h1
  omega)
set_option maxRecDepth 65536 in
set_option maxHeartbeats 40000000 in
theorem loop (l : Launch) (Z : State) (a0 : Array Value) (hw : ∀ d ∈ tables_1, d.before a0 Z = true) (n0 : Nat) (p : Program) (e : Env) (s : State) (m : MethodId) (args : Array Value) (below : List Frame) (meth : Method) (c : Code) (seed : Int64) (nn : Int32) (N : Nat) (hN : nn.toInt = (N : Int)) (hN15 : N ≤ 15) (b : Addr) (gb : n0 ≤ b) :
    ∀ k i, i + k = N → ∀ T h, On l Z n0 c0_ItemHash prog_3_method_4_code 5 (Option.some (Jvm.ClassFile.FieldType.array Jvm.ClassFile.FieldType.long)) ({ frames := 1, cells := 1, slots := 15, locals := 17 } : Room) p e s m args below meth c T h 1 15 → AA Z h b .long (SV seed N i) →
      Wp p e below s n0 ({ frames := 1, cells := 1, slots := 15, locals := 17 } : Room).cells ({ frames := 1, cells := 1, slots := 15, locals := 17 } : Room).slots (fun v h => ∃ b, v = some (.ref b) ∧ AA Z h b .long (SV seed N N) ∧ n0 ≤ b) (T.setTop (mkF m 7 #[jv seed, S2, iv nn, rv b, iv (Int32.ofNat i)] [])) := by
  intro k
  induction k with
  | zero =>
   intro i hi T h A V
   obtain rfl : i = N := by omega
   refine s_iload (pc' := 9) A d1_7 rfl rfl ?_
   refine s_iloadN (pc' := 10) A d1_9 rfl rfl ?_
   refine s_icmpY (pc' := 37) A d1_10 (flt (fun q => by rw [Int32.lt_iff_toInt_lt, own_small15 (by omega), hN] at q; omega)).2.1 (by decide) (by decide) ?_
   refine s_aloadN (pc' := 38) A d1_37 rfl rfl rfl ?_
   exact r_ref A rfl rfl rfl d1_38 (by decide) (by decide) (⟨b, rfl, V, gb⟩)
  | succ k ih =>
   intro i hi T h A V
   refine s_iload (pc' := 9) A d1_7 rfl rfl ?_
   refine s_iloadN (pc' := 10) A d1_9 rfl rfl ?_
   refine s_icmpN (pc' := 13) A d1_10 rfl (tlt (by rw [Int32.lt_iff_toInt_lt, own_small15 (by omega), hN]; omega)).2.1 ?_
   refine s_aloadN (pc' := 14) A d1_13 rfl rfl rfl ?_
   refine s_iload (pc' := 16) A d1_14 rfl rfl ?_
   refine s_lloadN (pc' := 17) A d1_16 rfl rfl ?_
   refine s_iload (pc' := 19) A d1_17 rfl rfl ?_
   refine s_i2l (pc' := 20) (z := ((Int32.ofNat i)).toInt64) A d1_19 rfl rfl ?_
   refine s_lconst (pc' := 21) (z := (1 : Int64)) A d1_20 rfl (by decide) ?_
   refine s_ladd (pc' := 22) (z := (((Int32.ofNat i)).toInt64 + (1 : Int64))) A d1_21 rfl rfl ?_
   refine s_ldc2Long (pc' := 25) A d1_22 rfl (w5 hw) ?_
   refine s_lmul (pc' := 26) (z := ((((Int32.ofNat i)).toInt64 + (1 : Int64)) * (-7046029254386353131 : Int64))) A d1_25 rfl rfl ?_
   refine s_ladd (pc' := 27) (z := (seed + ((((Int32.ofNat i)).toInt64 + (1 : Int64)) * (-7046029254386353131 : Int64)))) A d1_26 rfl rfl ?_
   refine s_static (pc' := 30) (y := y0_mix) (argsL := [(.long (seed + ((((Int32.ofNat i)).toInt64 + (1 : Int64)) * (-7046029254386353131 : Int64))))]) (rest := [(.int (Int32.ofNat i)), (.ref b)]) A (mix l Z a0 hw n0 h A.size (seed + ((((Int32.ofNat i)).toInt64 + (1 : Int64)) * (-7046029254386353131 : Int64)))) (w6 hw) (w7 hw) (w2 hw) (w8 hw) (by decide) pd__J_J rfl (W := 2) (by decide) (by decide) (Nat.le_of_eq rfl) (by decide) (by decide) rfl rfl d1_27 rfl fun T h1 v2 A Q3 => ?_
   obtain ⟨rfl, eh⟩ := Q3
   rw [eh] at A
   refine Wp.stk (st' := [(.long (mixf (seed + ((((Int32.ofNat i)).toInt64 + (1 : Int64)) * (-7046029254386353131 : Int64))))), (.int (Int32.ofNat i)), (.ref b)]) rfl ?_
   refine s_lastore (pc' := 31) (i := i) A V (own_small15 (by omega)) (by rw [own_svl seed N i (by omega)]; omega) gb d1_30 rfl fun T h4 A W5 V6 => ?_
   have V6 : AA Z h4 b .long (SV seed N (i + 1)) := (AA.cast V6 (own_svs seed N i (by omega)))
   refine s_iinc (pc' := 34) (z := (Int32.ofNat (i + 1))) (Ls' := #[jv seed, S2, iv nn, rv b, iv (Int32.ofNat (i + 1))]) A d1_31 rfl rfl (own_succ i (by omega)) rfl ?_
   refine s_goto (pc' := 7) A d1_34 (by decide) (by decide) ?_
   exact ih (i + 1) (by omega) T h4 A V6
set_option maxRecDepth 65536 in
set_option maxHeartbeats 40000000 in
theorem rows (l : Launch) (Z : State) (a0 : Array Value) (hw : ∀ d ∈ tables_1, d.before a0 Z = true) (n0 : Nat) (h0 : Heap) (Z0 : n0 ≤ h0.size) (seed : Int64) (nn : Int32) (N : Nat) (hN : nn.toInt = (N : Int)) (hN15 : N ≤ 15) :
    Met l Z n0 y2_rowSalts prog_3_method_4_code 5 (Option.some (Jvm.ClassFile.FieldType.array Jvm.ClassFile.FieldType.long)) ({ frames := 1, cells := 1, slots := 15, locals := 17 } : Room) #[(.long seed), (.int nn)] h0 (fun v h => ∃ b, v = some (.ref b) ∧ AA Z h b .long (SV seed N N) ∧ n0 ≤ b) := by
  refine met_intro (own := c0_ItemHash) (plainFor_of_name pn_com_example_stream_tally_streamtally_ItemHash) rfl Z0 ?_
  intro p e s m below meth c T A hnm
  refine Wp.cast (g' := mkF m 0 #[jv seed, S2, iv nn, U0, U0] []) (by first | (simp [entryFrame, mkF, argsToLocals, Value.category, maxLocals, jv, S2, U0, iv, rv]; done) | rfl) ?_
  refine s_iloadN (pc' := 1) A d1_0 rfl rfl ?_
  refine s_newarray (pc' := 3) (aty := .long) (ty := .long) (dv := (.long (0 : Int64))) (i := N) (cap := 15) A rfl rfl (w4 hw) hN hN15 (by decide) (by decide) (by decide) d1_1 rfl fun T h1 b2 A g3 ge4 X5 V6 => ?_
  have V6 : AA Z h1 b2 .long (List.replicate N (.long (0 : Int64))) := V6
  refine s_astoreN (pc' := 4) (Ls' := #[jv seed, S2, iv nn, rv b2, U0]) A d1_3 rfl rfl rfl ?_
  refine s_iconst (pc' := 5) (z := (0 : Int32)) A d1_4 rfl (by decide) ?_
  refine s_istore (pc' := 7) (Ls' := #[jv seed, S2, iv nn, rv b2, iv 0]) A d1_5 rfl rfl ?_
  exact loop l Z a0 hw n0 p e s m _ below meth c seed nn N hN hN15 b2 ge4 N 0 (by omega) T h1 A (AA.cast V6 (own_sv0 seed N).symm)
set_option maxRecDepth 65536 in
set_option maxHeartbeats 40000000 in
theorem rm0 (l : Launch) (Z : State) (a0 : Array Value) (hw : ∀ d ∈ tables_1, d.before a0 Z = true) (n0 : Nat) (h0 : Heap) (Z0 : n0 ≤ h0.size) (q0 : Int64) (q1 q2 q3 : Int32)  :
    Met l Z n0 x code maxLocals ret room_1 #[(.long q0), (.int q1), (.int q2), (.int q3)] h0 (fun v h => v = some (.int 1)) := by
  refine met_intro (own := c1_ItemHashRowSaltsPinLaw) (plainFor_of_name pn_com_example_stream_tally_streamtally_ItemHashRowSaltsPinLaw) rfl Z0 ?_
  intro p e s m below meth c T A hnm
  refine Wp.cast (g' := mkF m 0 #[jv q0, S2, iv q1, iv q2, iv q3, U0, U0, U0, U0, U0, U0] []) (by first | (simp [entryFrame, mkF, argsToLocals, Value.category, maxLocals, jv, S2, U0, iv, rv]; done) | rfl) ?_
  refine s_iloadN (pc' := 1) A at_0 rfl rfl ?_
  refine s_bipush (pc' := 3) (z := (15 : Int32)) A at_1 rfl (by decide) ?_
  obtain ⟨dd, ed⟩ : ∃ z, z = (q1 &&& (15 : Int32)) := ⟨_, rfl⟩
  obtain ⟨N, hN, hN15⟩ : ∃ i : Nat, dd.toInt = (i : Int) ∧ i ≤ 15 := ⟨dd.toInt.toNat, by rw [ed]; have _ := rng32 q1; have _ : (15 : Int32).toInt = 15 := (by decide); have _ := rng32 (q1 &&& (15 : Int32)); have _ : (q1 &&& (15 : Int32)).toInt = q1.toInt % 16 := c_mask q1 (15 : Int32) 4 (by decide) (by decide); omega, by rw [ed]; have _ := rng32 q1; have _ : (15 : Int32).toInt = 15 := (by decide); have _ := rng32 (q1 &&& (15 : Int32)); have _ : (q1 &&& (15 : Int32)).toInt = q1.toInt % 16 := c_mask q1 (15 : Int32) 4 (by decide) (by decide); omega⟩
  refine s_iand (pc' := 4) (z := dd) A at_3 rfl ed.symm ?_
  refine s_istore (pc' := 6) (Ls' := #[jv q0, S2, iv q1, iv q2, iv q3, iv dd, U0, U0, U0, U0, U0]) A at_4 rfl rfl ?_
  refine s_lloadN (pc' := 7) A at_6 rfl rfl ?_
  refine s_iload (pc' := 9) A at_7 rfl rfl ?_
  refine s_static (pc' := 12) (y := y2_rowSalts) (argsL := [(.long q0), (.int dd)]) (rest := []) A (rows l Z a0 hw n0 h0 A.size q0 dd N hN hN15) (w0 hw) (w1 hw) (w2 hw) (w3 hw) (by decide) pd__JI__J rfl (W := 0) (by decide) (by decide) (Nat.le_of_eq rfl) (by decide) (by decide) rfl rfl at_9 rfl fun T h4 v5 A Q6 => ?_
  obtain ⟨b1, rfl, V2, ge3⟩ := Q6
  refine Wp.stk (st' := [(.ref b1)]) rfl ?_
  refine s_astore (pc' := 14) (Ls' := #[jv q0, S2, iv q1, iv q2, iv q3, iv dd, rv b1, U0, U0, U0, U0]) A at_12 rfl rfl rfl ?_
  refine s_aload (pc' := 16) A at_14 rfl rfl rfl ?_
  refine s_arraylength (pc' := 17) (z := dd) A V2 (by rw [own_svl _ _ _ (Nat.le_refl N)]; exact hN) at_16 rfl ?_
  refine s_iload (pc' := 19) A at_17 rfl rfl ?_
  refine s_icmpY (pc' := 24) A at_19 (teq (rfl : dd = dd)).1 (by decide) (by decide) ?_
  refine s_iload (pc' := 26) A at_24 rfl rfl ?_
  by_cases hc26_1 : dd = (0 : Int32)
  ·
   refine s_ifN (pc' := 29) A at_26 rfl ((if0 _ _).trans (teq hc26_1).2) ?_
   refine s_iconst (pc' := 30) (z := (1 : Int32)) A at_29 rfl (by decide) ?_
   exact r_bool A rfl (by decide) at_30 (by decide) (by decide) (rfl)
  ·
   refine s_ifY (pc' := 31) A at_26 ((if0 _ _).trans (feq hc26_1).2) (by decide) (by decide) ?_
   refine s_iloadN (pc' := 32) A at_31 rfl rfl ?_
   refine s_ldcInt (pc' := 34) A at_32 rfl (w11 hw) ?_
   refine s_iand (pc' := 35) (z := (q2 &&& (2147483647 : Int32))) A at_34 rfl rfl ?_
   refine s_iload (pc' := 37) A at_35 rfl rfl ?_
   obtain ⟨rr, err⟩ : ∃ z, z = ((q2 &&& (2147483647 : Int32)) % dd) := ⟨_, rfl⟩
   obtain ⟨jrr, hrr, lrr⟩ : ∃ i : Nat, rr.toInt = (i : Int) ∧ i < N := by
     have q1 := (c_iremV ((q2 &&& (2147483647 : Int32))) dd).1
     rw [← err] at q1
     have q2 : 0 ≤ ((q2 &&& (2147483647 : Int32))).toInt := by have _ := rng32 q2; have _ : (2147483647 : Int32).toInt = 2147483647 := (by decide); have _ := rng32 (q2 &&& (2147483647 : Int32)); have _ : (q2 &&& (2147483647 : Int32)).toInt = q2.toInt % 2147483648 := c_mask q2 (2147483647 : Int32) 31 (by decide) (by decide); omega
     have q3 : ¬ dd.toInt = 0 := fun q => hc26_1 (Int32.toInt_inj.mp (q.trans (by decide : (0 : Int) = (0 : Int32).toInt)))
     have q4 := q1 q2 (by omega)
     exact ⟨rr.toInt.toNat, by omega, by omega⟩
   refine s_irem (pc' := 38) (z := rr) A at_37 rfl hc26_1 err.symm ?_
   refine s_istore (pc' := 40) (Ls' := #[jv q0, S2, iv q1, iv q2, iv q3, iv dd, rv b1, iv rr, U0, U0, U0]) A at_38 rfl rfl ?_
   refine s_iload (pc' := 42) A at_40 rfl rfl ?_
   refine s_ldcInt (pc' := 44) A at_42 rfl (w11 hw) ?_
   refine s_iand (pc' := 45) (z := (q3 &&& (2147483647 : Int32))) A at_44 rfl rfl ?_
   refine s_iload (pc' := 47) A at_45 rfl rfl ?_
   obtain ⟨qq, eqq⟩ : ∃ z, z = ((q3 &&& (2147483647 : Int32)) % dd) := ⟨_, rfl⟩
   obtain ⟨jqq, hqq, lqq⟩ : ∃ i : Nat, qq.toInt = (i : Int) ∧ i < N := by
     have q1 := (c_iremV ((q3 &&& (2147483647 : Int32))) dd).1
     rw [← eqq] at q1
     have q2 : 0 ≤ ((q3 &&& (2147483647 : Int32))).toInt := by have _ := rng32 q3; have _ : (2147483647 : Int32).toInt = 2147483647 := (by decide); have _ := rng32 (q3 &&& (2147483647 : Int32)); have _ : (q3 &&& (2147483647 : Int32)).toInt = q3.toInt % 2147483648 := c_mask q3 (2147483647 : Int32) 31 (by decide) (by decide); omega
     have q3 : ¬ dd.toInt = 0 := fun q => hc26_1 (Int32.toInt_inj.mp (q.trans (by decide : (0 : Int) = (0 : Int32).toInt)))
     have q4 := q1 q2 (by omega)
     exact ⟨qq.toInt.toNat, by omega, by omega⟩
   refine s_irem (pc' := 48) (z := qq) A at_47 rfl hc26_1 eqq.symm ?_
   refine s_istore (pc' := 50) (Ls' := #[jv q0, S2, iv q1, iv q2, iv q3, iv dd, rv b1, iv rr, iv qq, U0, U0]) A at_48 rfl rfl ?_
   refine s_ldc2Long (pc' := 53) A at_50 rfl (w12 hw) ?_
   refine s_lstore (pc' := 55) (Ls' := #[jv q0, S2, iv q1, iv q2, iv q3, iv dd, rv b1, iv rr, iv qq, jv (-7046029254386353131), S2]) A at_53 rfl rfl ?_
   refine s_aload (pc' := 57) A at_55 rfl rfl rfl ?_
   refine s_iload (pc' := 59) A at_57 rfl rfl ?_
   refine s_laload (pc' := 60) (i := jrr) (v := (.long (salt q0 rr))) A V2 hrr ((own_svg q0 N jrr lrr).trans (by rw [← own_of rr jrr hrr (by omega)])) at_59 rfl ?_
   refine s_lloadN (pc' := 61) A at_60 rfl rfl ?_
   refine s_iload (pc' := 63) A at_61 rfl rfl ?_
   refine s_i2l (pc' := 64) (z := (rr).toInt64) A at_63 rfl rfl ?_
   refine s_lconst (pc' := 65) (z := (1 : Int64)) A at_64 rfl (by decide) ?_
   refine s_ladd (pc' := 66) (z := ((rr).toInt64 + (1 : Int64))) A at_65 rfl rfl ?_
   refine s_lload (pc' := 68) A at_66 rfl rfl ?_
   refine s_lmul (pc' := 69) (z := (((rr).toInt64 + (1 : Int64)) * (-7046029254386353131 : Int64))) A at_68 rfl rfl ?_
   refine s_ladd (pc' := 70) (z := (q0 + (((rr).toInt64 + (1 : Int64)) * (-7046029254386353131 : Int64)))) A at_69 rfl rfl ?_
   refine s_static (pc' := 73) (y := y1_pageSalt) (argsL := [(.long (q0 + (((rr).toInt64 + (1 : Int64)) * (-7046029254386353131 : Int64))))]) (rest := [(.long (salt q0 rr))]) A (page l Z a0 hw n0 h4 A.size (q0 + (((rr).toInt64 + (1 : Int64)) * (-7046029254386353131 : Int64)))) (w13 hw) (w14 hw) (w2 hw) (w15 hw) (by decide) pd__J_J rfl (W := 2) (by decide) (by decide) (Nat.le_of_eq rfl) (by decide) (by decide) rfl rfl at_70 rfl fun T h7 v8 A Q9 => ?_
   obtain ⟨rfl, eh⟩ := Q9
   rw [eh] at A
   refine Wp.stk (st' := [(.long (mixf (q0 + (((rr).toInt64 + (1 : Int64)) * (-7046029254386353131 : Int64))))), (.long (salt q0 rr))]) rfl ?_
   refine s_lcmp (pc' := 74) A at_73 rfl ?_
   refine s_ifY (pc' := 79) A at_74 ((if0 _ _).trans (teq ((lw_eq (salt q0 rr) (mixf (q0 + (((rr).toInt64 + (1 : Int64)) * (-7046029254386353131 : Int64))))).2 (rfl : (salt q0 rr) = (mixf (q0 + (((rr).toInt64 + (1 : Int64)) * (-7046029254386353131 : Int64))))))).1) (by decide) (by decide) ?_
   refine s_aload (pc' := 81) A at_79 rfl rfl rfl ?_
   refine s_iload (pc' := 83) A at_81 rfl rfl ?_
   refine s_laload (pc' := 84) (i := jrr) (v := (.long (salt q0 rr))) A V2 hrr ((own_svg q0 N jrr lrr).trans (by rw [← own_of rr jrr hrr (by omega)])) at_83 rfl ?_
   refine s_lloadN (pc' := 85) A at_84 rfl rfl ?_
   refine s_static (pc' := 88) (y := y1_pageSalt) (argsL := [(.long q0)]) (rest := [(.long (salt q0 rr))]) A (page l Z a0 hw n0 h4 A.size q0) (w13 hw) (w14 hw) (w2 hw) (w15 hw) (by decide) pd__J_J rfl (W := 2) (by decide) (by decide) (Nat.le_of_eq rfl) (by decide) (by decide) rfl rfl at_85 rfl fun T h10 v11 A Q12 => ?_
   obtain ⟨rfl, eh⟩ := Q12
   rw [eh] at A
   refine Wp.stk (st' := [(.long (mixf q0)), (.long (salt q0 rr))]) rfl ?_
   refine s_lcmp (pc' := 89) A at_88 rfl ?_
   refine s_ifY (pc' := 94) A at_89 ((if0 _ _).trans (feq (fun q => (own_page q0 rr jrr hrr (by omega)) ((lw_eq (salt q0 rr) (mixf q0)).1 q))).2) (by decide) (by decide) ?_
   refine s_iload (pc' := 96) A at_94 rfl rfl ?_
   refine s_iload (pc' := 98) A at_96 rfl rfl ?_
   by_cases hc98_1 : qq = rr
   ·
    refine s_icmpY (pc' := 105) A at_98 (teq hc98_1).1 (by decide) (by decide) ?_
    refine s_iconst (pc' := 106) (z := (0 : Int32)) A at_105 rfl (by decide) ?_
    refine s_aload (pc' := 108) A at_106 rfl rfl rfl ?_
    refine s_iload (pc' := 110) A at_108 rfl rfl ?_
    refine s_laload (pc' := 111) (i := jqq) (v := (.long (salt q0 qq))) A V2 hqq ((own_svg q0 N jqq lqq).trans (by rw [← own_of qq jqq hqq (by omega)])) at_110 rfl ?_
    refine s_aload (pc' := 113) A at_111 rfl rfl rfl ?_
    refine s_iload (pc' := 115) A at_113 rfl rfl ?_
    refine s_laload (pc' := 116) (i := jrr) (v := (.long (salt q0 rr))) A V2 hrr ((own_svg q0 N jrr lrr).trans (by rw [← own_of rr jrr hrr (by omega)])) at_115 rfl ?_
    refine s_lcmp (pc' := 117) A at_116 rfl ?_
    refine s_ifY (pc' := 124) A at_117 ((if0 _ _).trans (teq ((lw_eq (salt q0 qq) (salt q0 rr)).2 (by rw [hc98_1]))).1) (by decide) (by decide) ?_
    refine s_iconst (pc' := 125) (z := (0 : Int32)) A at_124 rfl (by decide) ?_
    refine s_icmpY (pc' := 130) A at_125 (by decide) (by decide) (by decide) ?_
    refine s_iconst (pc' := 131) (z := (1 : Int32)) A at_130 rfl (by decide) ?_
    exact r_bool A rfl (by decide) at_131 (by decide) (by decide) (rfl)
   ·
    refine s_icmpN (pc' := 101) A at_98 rfl (feq hc98_1).1 ?_
    refine s_iconst (pc' := 102) (z := (1 : Int32)) A at_101 rfl (by decide) ?_
    refine s_goto (pc' := 106) A at_102 (by decide) (by decide) ?_
    refine s_aload (pc' := 108) A at_106 rfl rfl rfl ?_
    refine s_iload (pc' := 110) A at_108 rfl rfl ?_
    refine s_laload (pc' := 111) (i := jqq) (v := (.long (salt q0 qq))) A V2 hqq ((own_svg q0 N jqq lqq).trans (by rw [← own_of qq jqq hqq (by omega)])) at_110 rfl ?_
    refine s_aload (pc' := 113) A at_111 rfl rfl rfl ?_
    refine s_iload (pc' := 115) A at_113 rfl rfl ?_
    refine s_laload (pc' := 116) (i := jrr) (v := (.long (salt q0 rr))) A V2 hrr ((own_svg q0 N jrr lrr).trans (by rw [← own_of rr jrr hrr (by omega)])) at_115 rfl ?_
    refine s_lcmp (pc' := 117) A at_116 rfl ?_
    refine s_ifN (pc' := 120) A at_117 rfl ((if0 _ _).trans (feq (fun q => (own_ne q0 rr qq jrr jqq hrr (by omega) hqq (by omega) hc98_1) ((lw_eq (salt q0 qq) (salt q0 rr)).1 q))).1) ?_
    refine s_iconst (pc' := 121) (z := (1 : Int32)) A at_120 rfl (by decide) ?_
    refine s_goto (pc' := 125) A at_121 (by decide) (by decide) ?_
    refine s_icmpY (pc' := 130) A at_125 (by decide) (by decide) (by decide) ?_
    refine s_iconst (pc' := 131) (z := (1 : Int32)) A at_130 rfl (by decide) ?_
    exact r_bool A rfl (by decide) at_131 (by decide) (by decide) (rfl)
set_option maxRecDepth 65536 in
set_option maxHeartbeats 40000000 in
theorem comes_1 {Post : Tables → Env → Array Value → State → Outcome → State → Prop} (hpost : ∀ tb e args s v u, (limb_1_1.after args s (.returned v) u = true ∧ limb_1_2.after args s (.returned v) u = true ∧ True) → FrameEnd s (.returned v) u (Jvm.fieldLocs frame_1_writes args s ++ Jvm.arrayLocs frame_1_arrays args s ++ Jvm.staticLocs frame_1_statics s) 16 128 → Post tb e args s (.returned v) u) :
    ArmFor flags0 classFile x code maxLocals ret World_1 tables_1 room_1 Calls_1 rest_1 Pre_1 Post := by
  intro l hfl _ _ p e ha hc hk s m args below hf hA hF happ hP
  obtain ⟨hcalls, hrest, hpre⟩ := hP
  obtain ⟨-, -, -, hnamed, -, -, -, hat⟩ := (Spec.applies_iff hf).mp happ
  obtain ⟨hg, hn⟩ := and_e (Cond.before_iff.mp (show (Jvm.Cond.and given_1 narrow_1).before args s = true from hpre))
  obtain ⟨hcnt, hg⟩ := and_e hg
  obtain ⟨w0, w1, w2, w3, rfl⟩ : ∃ w0 w1 w2 w3 : Value, args = #[w0, w1, w2, w3] := by
    have hs : args.size = 4 := by simpa [Cond.value, given_1] using hcnt
    obtain ⟨L⟩ := args
    match L, hs with
    | [w0, w1, w2, w3], _ => exact ⟨w0, w1, w2, w3, rfl⟩
  have hw := fun d (hd : d ∈ tables_1) => atoms_spec (ws := Jvm.Cond.code x code maxLocals ret :: tables_1) hat d (List.mem_cons_of_mem _ hd)
  have hfit : Fit s := fun {y c} hc i hi => by
    obtain ⟨ha, rfl⟩ := Array.getElem?_eq_some_iff.mp hc
    have q := List.all_eq_true.mp ((Array.all_eq_true_iff_forall_mem.mp hF) _ (Array.getElem_mem ha)) i (List.mem_range.mpr hi)
    simpa [Array.getElem?_eq_getElem hi] using q
  obtain ⟨g0, hg⟩ := and_e hg
  obtain ⟨x0, e0⟩ := isL_v g0
  obtain rfl : w0 = (.long x0) := Option.some.inj e0
  obtain ⟨g1, hg⟩ := and_e hg
  obtain ⟨x1, e1⟩ := is_v g1
  obtain rfl : w1 = (.int x1) := Option.some.inj e1
  obtain ⟨g2, hg⟩ := and_e hg
  obtain ⟨x2, e2⟩ := is_v g2
  obtain rfl : w2 = (.int x2) := Option.some.inj e2
  obtain ⟨x3, e3⟩ := is_v hg
  obtain rfl : w3 = (.int x3) := Option.some.inj e3
  obtain ⟨n, o, h1, h2, h3, _, L, rfl, ⟨N, rfl⟩, hq⟩ := rm0 l s _ hw s.heap.size s.heap (Nat.le_refl _) x0 x1 x2 x3 tables_1 p e ha hc hk s m _ below hf ((Spec.applies_iff_loose hf).mp happ).1 ⟨rfl, State.Warmed39.refl s, rfl⟩ trivial
  refine ⟨n, _, h1, h2, h3, hpost _ _ _ _ _ _ ⟨Cond.after_iff.mpr rfl, Cond.after_iff.mpr (eq_i res_at (Term.int_eval (1)) rfl), trivial⟩ ⟨hq.1, hq.2.1, (hq.2.2.sift fun y hy => Or.inr (N y hy)).mono (by decide) (by decide)⟩⟩
theorem main_1_1 : Claimed_1_1 := comes_1 fun _ _ _ _ _ _ h hF => ⟨h.1, hF⟩
theorem main_1_2 : Claimed_1_2 := comes_1 fun _ _ _ _ _ _ h hF => ⟨h.2.1, hF⟩
end Jvm.Pilot.@@N@@
namespace Jvm.Pilot.@@N@@
open Jvm Jvm.ClassFile Sem Op Lib Jvm.Free Jvm.Stand Jvm.Pilot.@@N@@.Jvm.D
/-! MADE BY PROGRAM (witnessworld.py) out of the Statement's table words and the real class files: 11 classes; the members and pool entries that the words name. The judged class is class 1, her method 1. -/
namespace start1
open Jvm.ClassFile
def u (s : String) : CpInfo := .utf8 (stringToUtf16 s)
/-- a pool by its gaps: so many unusable entries, then the entry; so many at the end -/
def gap : Nat → List CpInfo → List CpInfo
  | 0, r => r
  | n + 1, r => .unusable :: gap n r
def poolList (es : List (Nat × CpInfo)) (last : Nat) : List CpInfo := es.foldr (fun e r => gap e.1 (e.2 :: r)) (gap last [])
def pool (es : List (Nat × CpInfo)) (last : Nat) : Array CpInfo := ⟨poolList es last⟩
def fileOf (pool : Array CpInfo) (this : Nat) (attrs : Array Attribute := #[]) (ms : Array MethodInfo := #[]) (fl : Nat := 33) (sup : Nat := 0) (ifs : Array Nat := #[]) (fds : Array FieldInfo := #[]) : ClassFile where
  minorVersion := 0
  majorVersion := 65
  constantPool := pool
  accessFlags := fl
  thisClass := this
  superClass := sup
  interfaces := ifs
  fields := fds
  methods := ms
  attributes := attrs
def plain (name : String) (sup : Option ClassId) : Class where
  name := name
  kind := .ordinary
  loader := none
  accessFlags := 33
  super := sup
  interfaces := #[]
  cf := none
  fields := #[]
  methods := #[]
  instanceTypes := #[]
  staticTypes := #[]
  resolved := #[]
  callSites := []
  init := .initialized
  statics := none
  mirror := none

def pool0 : Array CpInfo := pool [(5, u "<init>"), (0, u "()V"), (1, .class_ 10), (1, u "java/lang/Object")] 113

def k0m0 : Method := { name := "<init>", desc := "()V", sig := { parameters := [], returnType := none }, accessFlags := 1, code := none }
/-- java/lang/Object -/
def k0 : Class := { plain "java/lang/Object" none with
  accessFlags := 33
  interfaces := #[]
  cf := some (fileOf pool0 8 #[] #[{ accessFlags := 1, nameIndex := 5, descriptorIndex := 6, attributes := #[] }] 33 0 #[] #[])
  fields := #[]
  methods := #[k0m0]
  instanceTypes := #[]
  staticTypes := #[]
  resolved := Array.replicate 124 none
  statics := none }

def pool1 : Array CpInfo := pool [(2, .class_ 4), (1, u "java/lang/Object"), (0, u "<init>"), (0, u "()V"), (0, .methodref 8 9), (0, .class_ 10), (0, .nameAndType 11 12), (0, u "com/example/stream_tally/streamtally/ItemHash"), (0, u "rowSalts"), (0, u "(JI)[J"), (0, .integer 2147483647), (0, .long 11400714819323198485), (1, .methodref 8 17), (0, .nameAndType 18 19), (0, u "pageSalt"), (0, u "(J)J"), (0, .class_ 21), (0, u "com/example/stream_tally/streamtally/ItemHashRowSaltsPinLaw"), (2, u "law"), (0, u "(JIII)Z")] 5

def k1m0 : Method := { name := "<init>", desc := "()V", sig := { parameters := [], returnType := none }, accessFlags := 2, code := none }
def k1c1 : Code := { maxStack := 8, maxLocals := 11, code := code, exceptionTable := #[], attributes := #[] }
def k1m1 : Method := { name := "law", desc := "(JIII)Z", sig := { parameters := [.long, .int, .int, .int], returnType := some .boolean }, accessFlags := 9, code := some k1c1 }
/-- com/example/stream_tally/streamtally/ItemHashRowSaltsPinLaw -/
def k1 : Class := { plain "com/example/stream_tally/streamtally/ItemHashRowSaltsPinLaw" (some 0) with
  accessFlags := 49
  interfaces := #[]
  cf := some (fileOf pool1 20 #[] #[{ accessFlags := 2, nameIndex := 5, descriptorIndex := 6, attributes := #[] }, { accessFlags := 9, nameIndex := 24, descriptorIndex := 25, attributes := #[] }] 49 2 #[] #[])
  fields := #[]
  methods := #[k1m0, k1m1]
  instanceTypes := #[]
  staticTypes := #[]
  resolved := Array.replicate 31 none
  statics := none }

def pool2 : Array CpInfo := pool [(2, .class_ 4), (1, u "java/lang/Object"), (0, u "<init>"), (0, u "()V"), (16, .class_ 24), (0, u "com/example/stream_tally/streamtally/ItemHash"), (0, .long 11400714819323198485), (13, .methodref 23 40), (0, .nameAndType 41 42), (0, u "mix"), (0, u "(J)J"), (24, .long 13787848793156543929), (1, .long 10723151780598845931), (1, u "GOLDEN_GAMMA"), (0, u "J"), (1, u "WORD_MULTIPLIER"), (0, u "STATE_MULTIPLIER"), (7, u "rowSalts"), (0, u "(JI)[J"), (2, u "pageSalt")] 4

def k2m0 : Method := { name := "<init>", desc := "()V", sig := { parameters := [], returnType := none }, accessFlags := 2, code := none }
def k2c1 : Code := { maxStack := 8, maxLocals := 5, code := prog_3_method_4_code, exceptionTable := #[], attributes := #[] }
def k2m1 : Method := { name := "rowSalts", desc := "(JI)[J", sig := { parameters := [.long, .int], returnType := some (.array .long) }, accessFlags := 8, code := some k2c1 }
def k2c2 : Code := { maxStack := 2, maxLocals := 2, code := prog_3_method_5_code, exceptionTable := #[], attributes := #[] }
def k2m2 : Method := { name := "pageSalt", desc := "(J)J", sig := { parameters := [.long], returnType := some .long }, accessFlags := 8, code := some k2c2 }
def k2c3 : Code := { maxStack := 5, maxLocals := 4, code := prog_3_method_9_code, exceptionTable := #[], attributes := #[] }
def k2m3 : Method := { name := "mix", desc := "(J)J", sig := { parameters := [.long], returnType := some .long }, accessFlags := 10, code := some k2c3 }
/-- com/example/stream_tally/streamtally/ItemHash -/
def k2 : Class := { plain "com/example/stream_tally/streamtally/ItemHash" (some 0) with
  accessFlags := 48
  interfaces := #[]
  cf := some (fileOf pool2 23 #[] #[{ accessFlags := 2, nameIndex := 5, descriptorIndex := 6, attributes := #[] }, { accessFlags := 8, nameIndex := 83, descriptorIndex := 84, attributes := #[] }, { accessFlags := 8, nameIndex := 87, descriptorIndex := 42, attributes := #[] }, { accessFlags := 10, nameIndex := 41, descriptorIndex := 42, attributes := #[] }] 48 2 #[] #[{ accessFlags := 26, nameIndex := 71, descriptorIndex := 72, attributes := #[] }, { accessFlags := 26, nameIndex := 74, descriptorIndex := 72, attributes := #[] }, { accessFlags := 26, nameIndex := 75, descriptorIndex := 72, attributes := #[] }])
  fields := #[{ name := "GOLDEN_GAMMA", type := .long, accessFlags := 26, slot := 0, constantValue := 0 }, { name := "WORD_MULTIPLIER", type := .long, accessFlags := 26, slot := 1, constantValue := 0 }, { name := "STATE_MULTIPLIER", type := .long, accessFlags := 26, slot := 2, constantValue := 0 }]
  methods := #[k2m0, k2m1, k2m2, k2m3]
  instanceTypes := #[]
  staticTypes := #[.long, .long, .long]
  resolved := Array.replicate 92 none
  statics := none }

def pool3 : Array CpInfo := pool [(1, u "java/lang/Cloneable"), (0, .class_ 1), (0, u "java/lang/Object"), (0, .class_ 3)] 3

/-- java/lang/Cloneable -/
def k3 : Class := { plain "java/lang/Cloneable" (some 0) with
  accessFlags := 1537
  interfaces := #[]
  cf := some (fileOf pool3 2 #[] #[] 1537 4 #[] #[])
  fields := #[]
  methods := #[]
  instanceTypes := #[]
  staticTypes := #[]
  resolved := Array.replicate 8 none
  statics := none }

def pool4 : Array CpInfo := pool [(1, u "java/io/Serializable"), (0, .class_ 1), (0, u "java/lang/Object"), (0, .class_ 3)] 3

/-- java/io/Serializable -/
def k4 : Class := { plain "java/io/Serializable" (some 0) with
  accessFlags := 1537
  interfaces := #[]
  cf := some (fileOf pool4 2 #[] #[] 1537 4 #[] #[])
  fields := #[]
  methods := #[]
  instanceTypes := #[]
  staticTypes := #[]
  resolved := Array.replicate 8 none
  statics := none }

/-- the primitive byte -/
def k5 : Class := { plain "byte" none with kind := .primitive 'B', accessFlags := 0x411 }
/-- [B -/
def k6 : Class := { plain "[B" (some 0) with kind := .array 5 .byte, interfaces := #[3, 4], accessFlags := 1041 }

/-- the primitive int -/
def k7 : Class := { plain "int" none with kind := .primitive 'I', accessFlags := 0x411 }
/-- [I -/
def k8 : Class := { plain "[I" (some 0) with kind := .array 7 .int, interfaces := #[3, 4], accessFlags := 1041 }

/-- the primitive long -/
def k9 : Class := { plain "long" none with kind := .primitive 'J', accessFlags := 0x411 }
/-- [J -/
def k10 : Class := { plain "[J" (some 0) with kind := .array 9 .long, interfaces := #[3, 4], accessFlags := 1041 }

def heap : Heap := #[]
def classes : Array Class := #[k0, k1, k2, k3, k4, k5, k6, k7, k8, k9, k10]
def interned : List (Array UInt16 × Addr) := []
def slotsUsed : Nat := 0
def theMethod : MethodId := ⟨1, 1⟩
def args0 : Array Value := #[.long 5, .int 7, .int 3, .int 4]
def aboutOver (below : List Frame) : State where
  vm := { classes := classes, interned := interned.toArray }
  heap := heap
  slotsUsed := slotsUsed
  threads := #[{ frames := .invoking theMethod args0 :: below }]
def below0 : List Frame := [.native { method := ⟨0, 0⟩, args := #[] }]
def about1 : State := aboutOver below0
def p0 : Program := .bare "" "" ""
def e0 : Env := launch0.env 0 0 0
theorem w_frames : about1.frames = Frame.invoking theMethod args0 :: below0 := rfl
set_option maxRecDepth 65536 in
theorem w_args : argsFit about1.vm theMethod args0 = true := by decide +kernel
set_option maxRecDepth 65536 in
theorem w_heap : heapFits about1 = true := by decide +kernel
set_option maxRecDepth 65536 in
theorem w_runnable : about1.curStatus? = some .runnable := by decide +kernel
set_option maxRecDepth 65536 in
theorem w_alone : about1.alone = true := by decide +kernel
set_option maxRecDepth 65536 in
theorem w_named : about1.methodNamed? x = some theMethod := by decide +kernel
set_option maxRecDepth 65536 in
theorem w_hears : about1.hears theMethod below0 = true := by decide +kernel
set_option maxRecDepth 65536 in
theorem w_ripe : about1.ripe theMethod args0 below0 = true := by decide +kernel
theorem w_running : about1.status = .running := rfl
set_option maxRecDepth 65536 in
theorem w_room : about1.hasRoom e0.platform room_1 = true :=
  launch0.hasRoom_least _ room_1 (by decide +kernel) (by decide +kernel) (by decide +kernel) (by decide +kernel) (by decide +kernel) (by decide +kernel)
theorem allAtoms_all (ts : List Jvm.Cond) (a : Array Jvm.Value) (st : Jvm.State) : (allAtoms ts).before a st = ts.all (fun c => c.before a st) := by
  induction ts with
  | nil => rfl
  | cons c t ih =>
    show (Jvm.Cond.and c (allAtoms t)).before a st = _
    rw [Jvm.Cond.before_and, ih, List.all_cons]
def words1 : List Jvm.Cond := Jvm.Cond.code x code maxLocals ret :: tables_1
/-- a 'code' word, met by the world's own term for the bytes: nothing is compared byte by byte -/
theorem code_word {y : MethodName} {bytes : ByteArray} {mx : Nat} {rt : Option FieldType} {a : Array Value} {s : State} {m : MethodId} {meth : Method} {c : Code} (h1 : s.methodNamed? y = some m) (h2 : s.vm.method? m = some meth) (h3 : meth.code = some c) (h4 : c.code = bytes)
    (h5 : (c.maxLocals == mx && c.exceptionTable.isEmpty && decide (c.maxStack ≤ mostOperands) && decide (meth.sig.returnType = rt) && !meth.locks && decide (parseMethodDescriptor y.desc = some meth.sig)) = true) : (Jvm.Cond.code y bytes mx rt).before a s = true := by
  simp only [Bool.and_eq_true, beq_iff_eq, Bool.not_eq_true', decide_eq_true_eq] at h5
  obtain ⟨⟨⟨⟨⟨g1, g2⟩, g3⟩, g4⟩, g5⟩, g6⟩ := h5
  simp [Cond.before, Cond.holds, Cond.value, h1, h2, h3, h4, g1, g2, g3, g4, g5, g6]
def isCode : Jvm.Cond → Bool
  | .code _ _ _ _ => true
  | _ => false
theorem all_split {L : List Jvm.Cond} {P : Jvm.Cond → Bool} (h1 : L.all (fun c => isCode c || P c) = true) (h2 : ∀ c ∈ L.filter isCode, P c = true) : L.all P = true := by
  refine List.all_eq_true.mpr fun c hc => ?_
  have h := List.all_eq_true.mp h1 c hc
  rcases Bool.eq_false_or_eq_true (isCode c) with hi | hi
  · exact h2 c (List.mem_filter.mpr ⟨hc, hi⟩)
  · simpa [hi] using h
set_option maxRecDepth 65536 in
theorem w_c0 : (Jvm.Cond.code x code maxLocals ret).before args0 about1 = true := code_word (m := ⟨1, 1⟩) (meth := k1m1) (c := k1c1) (by decide +kernel) rfl rfl rfl (by decide +kernel)
set_option maxRecDepth 65536 in
theorem w_c1 : (Jvm.Cond.code ({ cls := "com/example/stream_tally/streamtally/ItemHash", name := "rowSalts", desc := "(JI)[J" } : Jvm.MethodName) prog_3_method_4_code (5 : Nat) (Option.some (Jvm.ClassFile.FieldType.array Jvm.ClassFile.FieldType.long))).before args0 about1 = true := code_word (m := ⟨2, 1⟩) (meth := k2m1) (c := k2c1) (by decide +kernel) rfl rfl rfl (by decide +kernel)
set_option maxRecDepth 65536 in
theorem w_c2 : (Jvm.Cond.code ({ cls := "com/example/stream_tally/streamtally/ItemHash", name := "mix", desc := "(J)J" } : Jvm.MethodName) prog_3_method_9_code (4 : Nat) (Option.some Jvm.ClassFile.FieldType.long)).before args0 about1 = true := code_word (m := ⟨2, 3⟩) (meth := k2m3) (c := k2c3) (by decide +kernel) rfl rfl rfl (by decide +kernel)
set_option maxRecDepth 65536 in
theorem w_c3 : (Jvm.Cond.code ({ cls := "com/example/stream_tally/streamtally/ItemHash", name := "pageSalt", desc := "(J)J" } : Jvm.MethodName) prog_3_method_5_code (2 : Nat) (Option.some Jvm.ClassFile.FieldType.long)).before args0 about1 = true := code_word (m := ⟨2, 2⟩) (meth := k2m2) (c := k2c2) (by decide +kernel) rfl rfl rfl (by decide +kernel)
def codes1 : List Jvm.Cond := [Jvm.Cond.code x code maxLocals ret, Jvm.Cond.code ({ cls := "com/example/stream_tally/streamtally/ItemHash", name := "rowSalts", desc := "(JI)[J" } : Jvm.MethodName) prog_3_method_4_code (5 : Nat) (Option.some (Jvm.ClassFile.FieldType.array Jvm.ClassFile.FieldType.long)), Jvm.Cond.code ({ cls := "com/example/stream_tally/streamtally/ItemHash", name := "mix", desc := "(J)J" } : Jvm.MethodName) prog_3_method_9_code (4 : Nat) (Option.some Jvm.ClassFile.FieldType.long), Jvm.Cond.code ({ cls := "com/example/stream_tally/streamtally/ItemHash", name := "pageSalt", desc := "(J)J" } : Jvm.MethodName) prog_3_method_5_code (2 : Nat) (Option.some Jvm.ClassFile.FieldType.long)]
set_option maxRecDepth 65536 in
theorem codes_eq : words1.filter isCode = codes1 := rfl
theorem w_codes : ∀ c ∈ words1.filter isCode, c.before args0 about1 = true := by
  rw [codes_eq]
  intro c hc
  simp only [codes1, List.mem_cons, List.not_mem_nil, or_false] at hc
  rcases hc with rfl | rfl | rfl | rfl
  · exact w_c0
  · exact w_c1
  · exact w_c2
  · exact w_c3
set_option maxRecDepth 65536 in
theorem w_t1 : words1.all (fun c => isCode c || c.before args0 about1) = true := by decide +kernel
theorem w_tables : (allAtoms (Jvm.Cond.code x code maxLocals ret :: tables_1)).before args0 about1 = true := by
  rw [allAtoms_all]
  show words1.all (fun c => c.before args0 about1) = true
  refine all_split ?_ w_codes
  rw [w_t1]
set_option maxRecDepth 65536 in
theorem w_case : (Jvm.Cond.and given_1 narrow_1).before args0 about1 = true := by decide +kernel
theorem w_applies : (headSpec (Jvm.Cond.code x code maxLocals ret :: tables_1) room_1).applies x e0.platform about1 = true :=
  (Spec.applies_iff w_frames).mpr ⟨w_running, w_runnable, w_alone, w_named, w_hears, w_ripe, w_room, w_tables⟩
theorem atStart : AtStart classFile x code maxLocals ret World_1 tables_1 room_1 Calls_1 rest_1 Pre_1 launch0 p0 e0 about1 theMethod args0 below0 :=
  ⟨lists_1, trivial, launch0.admits_env _ _ _, launch0.least_env, fairChoices_fair.cas, fairChoices_fair.clock, w_frames, w_args, w_heap, w_applies, trivial, trivial, w_case⟩
end start1
theorem witness_1 : WitnessClaimed_1 := ⟨start1.p0, start1.e0, start1.about1, start1.theMethod, start1.args0, start1.below0, start1.atStart⟩
end Jvm.Pilot.@@N@@
