import JvmDerived
import JvmDerived.Pilot.@@N@@Statement
import JvmDerived.Pilot.@@N@@Code
set_option linter.unusedVariables false
set_option linter.unusedSimpArgs false
namespace Jvm.Ow
open Sem ClassFile Op Lib Jvm.Stand Jvm.Free Jvm.LawKit Jvm.RoadKit
abbrev jv (x : Int64) : Slot := .val (.long x)
abbrev U0 : Slot := .unset
abbrev S2 : Slot := .second
def On (l : Launch) (Z : State) (n0 : Nat) (own : String) (bytes : ByteArray) (maxL : Nat) (ret : Option FieldType) (R : Room) (p : Program) (e : Env) (s : State) (m : MethodId) (args : Array Value) (below : List Frame) (meth : Method) (c : Code) (T : State) (h : Heap) (k n : Nat) : Prop :=
  ∃ locs, Stand p l e R s m args below meth c T locs k n ∧ Fr n0 locs ∧ T.heap = h ∧ p.tables.exec = Jvm.exec ∧ Z.Warmed39 s.vm ∧ c.code = bytes ∧ c.maxLocals = maxL ∧ s.vm.findClass own = some m.cls ∧ meth.sig.returnType = ret ∧ meth.locks = false ∧ n0 ≤ s.heap.size
def Wp (p : Program) (e : Env) (below : List Frame) (s : State) (n0 ck cs : Nat) (Q : Option Value → Heap → Prop) (U : State) : Prop :=
  ∃ t o, Steps p.tables e below U t ∧ t.status = .running ∧ Ended t below o ∧ ∃ v L, o = .returned v ∧ (Fr n0 L ∧ Q v t.heap) ∧ FrameEnd s o t L ck cs
def Met (l : Launch) (Z : State) (n0 : Nat) (y : MethodName) (bytes : ByteArray) (maxL : Nat) (ret : Option FieldType) (rm : Room) (as : Array Value) (h : Heap) (Q : Option Value → Heap → Prop) : Prop :=
  ∀ ws, MetFree l y (head1 (Cond.code y bytes maxL ret :: ws) rm) (fun a U => a = as ∧ Z.Warmed39 U.vm ∧ U.heap = h) (fun _ _ _ _ _ => True) (fun _ U o U' => ∃ v L, o = .returned v ∧ (Fr n0 L ∧ Q v U'.heap) ∧ FrameEnd U o U' L rm.cells rm.slots)
def AA (Z : State) (h : Heap) (a : Addr) (ty : FieldType) (vs : List Value) : Prop := ∃ c : Cell, Arr Z h a c ty ∧ c.slots = vs.toArray ∧ vs.length < 2147483648
section Kit
variable {l : Launch} {Z : State} {n0 : Nat} {own : String} {bytes : ByteArray} {maxL : Nat} {ret : Option FieldType} {R : Room} {p : Program} {e : Env} {s : State} {m : MethodId} {args : Array Value} {below : List Frame} {meth : Method} {c : Code} {T : State} {h h' : Heap} {k n ck cs : Nat} {Q : Option Value → Heap → Prop} {pc pc' : Nat} {Ls Ls' : Array Slot} {st : List Value} {a0 : Array Value} {a b : Addr} {ty : FieldType} {vs : List Value} {sl : Nat} {v w : Value} {ws : List Addr}
theorem AA.ext (F : AA Z h a ty vs) (E : Ext h h') : AA Z h' a ty vs := by obtain ⟨c, A, r⟩ := F; exact ⟨c, A.ext E, r⟩
theorem AA.lt (F : AA Z h a ty vs) : a < h.size := by obtain ⟨c, A, -⟩ := F; exact A.lt
theorem AA.cast {vs' : List Value} (F : AA Z h a ty vs) (q : vs = vs') : AA Z h a ty vs' := q ▸ F
theorem Fld.cast {C f d : String} (F : Fld Z h a C f d v) (q : v = w) : Fld Z h a C f d w := q ▸ F
theorem On.size(A : On l Z n0 own bytes maxL ret R p e s m args below meth c T h k n) : n0 ≤ h.size := by
  obtain ⟨locs, X, N, eT, hx, hZ, hby, hml, hown, hret, hlk, hsz⟩ := A
  have := X.same.2.1
  subst eT
  exact Nat.le_trans hsz this
theorem Wp.goo {U U' : State} (f : ∀ t, Steps p.tables e below U' t → Steps p.tables e below U t) (K : Wp p e below s n0 ck cs Q U') : Wp p e below s n0 ck cs Q U := by
  obtain ⟨t, o, q, r⟩ := K; exact ⟨t, o, f t q, r⟩
theorem Wp.cast {g g' : JFrame} (q : g = g') (K : Wp p e below s n0 ck cs Q (T.setTop g')) : Wp p e below s n0 ck cs Q (T.setTop g) := q ▸ K
theorem Wp.stk {st' : List Value} (q : st = st') (K : Wp p e below s n0 ck cs Q (T.setTop (mkF m pc Ls st'))) : Wp p e below s n0 ck cs Q (T.setTop (mkF m pc Ls st)) := q ▸ K
theorem Wp.mono {Q' : Option Value → Heap → Prop} {U : State} (K : Wp p e below s n0 ck cs Q U) (q : ∀ v h, Q v h → Q' v h) : Wp p e below s n0 ck cs Q' U := by
  obtain ⟨t, o, h1, h2, h3, v, L, h4, ⟨h5, h6⟩, h7⟩ := K; exact ⟨t, o, h1, h2, h3, v, L, h4, ⟨h5, q _ _ h6⟩, h7⟩
theorem met_intro {y : MethodName} {rm : Room} {as : Array Value} (hpl : plainFor y = true) (ho : y.cls = own) (hsz : n0 ≤ h.size)
    (body : ∀ p e s m below meth c T, On l Z n0 own bytes maxL ret rm p e s m as below meth c T h 0 0 → meth.name = y.name → Wp p e below s n0 rm.cells rm.slots Q (T.setTop (entryFrame m as maxL))) : Met l Z n0 y bytes maxL ret rm as h Q := by
  subst ho
  intro ws
  refine MetFree.of_bodySF hpl hisR ?_
  intro p e s m args below meth c s₁ Bd hml0 hP hK
  obtain ⟨rfl, hZ, hh⟩ := hP
  have X0 : Stand p l e rm s m args below meth c s₁ [] 0 0 := Stand.of_body Bd
  have e0 : s₁.heap = h := by rw [← hh, Bd.state]; rfl
  exact body p e s m below meth c s₁ ⟨[], X0, Fr.nil n0, e0, Bd.exec, hZ, Bd.bytes, hml0, findClass_of_methodNamed Bd.named, Bd.returns, Bd.notSynchronized, by rw [hh]; exact hsz⟩ (name_of_methodNamed Bd.named Bd.method).1
theorem Met.mono {y : MethodName} {rm : Room} {as : Array Value} {Q' : Option Value → Heap → Prop} (M : Met l Z n0 y bytes maxL ret rm as h Q) (q : ∀ v h, Q v h → Q' v h) : Met l Z n0 y bytes maxL ret rm as h Q' := by
  intro ws p e ha hc hk s m args below hf happ hP hK
  obtain ⟨n, o, h1, h2, h3, v, L, h4, ⟨h5, h6⟩, h7⟩ := M ws p e ha hc hk s m args below hf happ hP hK
  exact ⟨n, o, h1, h2, h3, v, L, h4, ⟨h5, q _ _ h6⟩, h7⟩
theorem s_iloadN (A : On l Z n0 own bytes maxL ret R p e s m args below meth c T h k n) {i : Fin 4} {z : Int32} (hd : decode bytes pc = .ok (.iload_n i, 1)) (hp : pc + 1 = pc') (hl : Ls[i.val]? = some (.val (.int z))) (K : Wp p e below s n0 ck cs Q (T.setTop (mkF m pc' Ls (.int z :: st)))) : Wp p e below s n0 ck cs Q (T.setTop (mkF m pc Ls st)) := by
  obtain ⟨locs, X, N, eT, hx, hZ, hby, hml, hown, hret, hlk, hsz⟩ := A
  subst hp
  exact K.goo fun t q => XS.iloadN X.here hx rfl (hb hby hd) hl q
theorem s_aloadN (A : On l Z n0 own bytes maxL ret R p e s m args below meth c T h k n) {i : Fin 4} (hd : decode bytes pc = .ok (.aload_n i, 1)) (hp : pc + 1 = pc') (hl : Ls[i.val]? = some (.val v)) (hv : v.isRef = true) (K : Wp p e below s n0 ck cs Q (T.setTop (mkF m pc' Ls (v :: st)))) : Wp p e below s n0 ck cs Q (T.setTop (mkF m pc Ls st)) := by
  obtain ⟨locs, X, N, eT, hx, hZ, hby, hml, hown, hret, hlk, hsz⟩ := A
  subst hp
  exact K.goo fun t q => XS.aloadN X.here hx rfl (hb hby hd) hl hv q
theorem s_istoreN (A : On l Z n0 own bytes maxL ret R p e s m args below meth c T h k n) {i : Fin 4} {z : Int32} (hd : decode bytes pc = .ok (.istore_n i, 1)) (hp : pc + 1 = pc') (hl : storeLocals Ls i.val (.int z) = some Ls') (K : Wp p e below s n0 ck cs Q (T.setTop (mkF m pc' Ls' st))) : Wp p e below s n0 ck cs Q (T.setTop (mkF m pc Ls (.int z :: st))) := by
  obtain ⟨locs, X, N, eT, hx, hZ, hby, hml, hown, hret, hlk, hsz⟩ := A
  subst hp
  exact K.goo fun t q => XS.istoreN X.here hx rfl (hb hby hd) rfl hl q
theorem s_astoreN (A : On l Z n0 own bytes maxL ret R p e s m args below meth c T h k n) {i : Fin 4} (hd : decode bytes pc = .ok (.astore_n i, 1)) (hp : pc + 1 = pc') (hv : v.isRef = true) (hl : storeLocals Ls i.val v = some Ls') (K : Wp p e below s n0 ck cs Q (T.setTop (mkF m pc' Ls' st))) : Wp p e below s n0 ck cs Q (T.setTop (mkF m pc Ls (v :: st))) := by
  obtain ⟨locs, X, N, eT, hx, hZ, hby, hml, hown, hret, hlk, hsz⟩ := A
  subst hp
  exact K.goo fun t q => XS.astoreN X.here hx rfl (hb hby hd) rfl hv hl q
theorem s_iload (A : On l Z n0 own bytes maxL ret R p e s m args below meth c T h k n) {i : Nat} {z : Int32} (hd : decode bytes pc = .ok (.iload i, 2)) (hp : pc + 2 = pc') (hl : Ls[i]? = some (.val (.int z))) (K : Wp p e below s n0 ck cs Q (T.setTop (mkF m pc' Ls (.int z :: st)))) : Wp p e below s n0 ck cs Q (T.setTop (mkF m pc Ls st)) := by
  obtain ⟨locs, X, N, eT, hx, hZ, hby, hml, hown, hret, hlk, hsz⟩ := A
  subst hp
  exact K.goo fun t q => XS.iload X.here hx rfl (hb hby hd) hl q
theorem s_istore (A : On l Z n0 own bytes maxL ret R p e s m args below meth c T h k n) {i : Nat} {z : Int32} (hd : decode bytes pc = .ok (.istore i, 2)) (hp : pc + 2 = pc') (hl : storeLocals Ls i (.int z) = some Ls') (K : Wp p e below s n0 ck cs Q (T.setTop (mkF m pc' Ls' st))) : Wp p e below s n0 ck cs Q (T.setTop (mkF m pc Ls (.int z :: st))) := by
  obtain ⟨locs, X, N, eT, hx, hZ, hby, hml, hown, hret, hlk, hsz⟩ := A
  subst hp
  exact K.goo fun t q => XS.istore X.here hx rfl (hb hby hd) rfl hl q
theorem s_iconst (A : On l Z n0 own bytes maxL ret R p e s m args below meth c T h k n) {i : Int} {z : Int32} (hd : decode bytes pc = .ok (.iconst i, 1)) (hp : pc + 1 = pc') (hz : Int32.ofInt i = z) (K : Wp p e below s n0 ck cs Q (T.setTop (mkF m pc' Ls (.int z :: st)))) : Wp p e below s n0 ck cs Q (T.setTop (mkF m pc Ls st)) := by
  obtain ⟨locs, X, N, eT, hx, hZ, hby, hml, hown, hret, hlk, hsz⟩ := A
  subst hp
  subst hz
  exact K.goo fun t q => XS.iconst X.here hx rfl (hb hby hd) q
theorem s_bipush (A : On l Z n0 own bytes maxL ret R p e s m args below meth c T h k n) {i : Int} {z : Int32} (hd : decode bytes pc = .ok (.bipush i, 2)) (hp : pc + 2 = pc') (hz : (Int8.ofInt i).toInt32 = z) (K : Wp p e below s n0 ck cs Q (T.setTop (mkF m pc' Ls (.int z :: st)))) : Wp p e below s n0 ck cs Q (T.setTop (mkF m pc Ls st)) := by
  obtain ⟨locs, X, N, eT, hx, hZ, hby, hml, hown, hret, hlk, hsz⟩ := A
  subst hp
  subst hz
  exact K.goo fun t q => XS.bipush X.here hx rfl (hb hby hd) q
theorem s_sipush (A : On l Z n0 own bytes maxL ret R p e s m args below meth c T h k n) {i : Int} {z : Int32} (hd : decode bytes pc = .ok (.sipush i, 3)) (hp : pc + 3 = pc') (hz : (Int16.ofInt i).toInt32 = z) (K : Wp p e below s n0 ck cs Q (T.setTop (mkF m pc' Ls (.int z :: st)))) : Wp p e below s n0 ck cs Q (T.setTop (mkF m pc Ls st)) := by
  obtain ⟨locs, X, N, eT, hx, hZ, hby, hml, hown, hret, hlk, hsz⟩ := A
  subst hp
  subst hz
  exact K.goo fun t q => XS.sipush X.here hx rfl (hb hby hd) q
theorem s_iand (A : On l Z n0 own bytes maxL ret R p e s m args below meth c T h k n) {x y z : Int32} (hd : decode bytes pc = .ok (.iand, 1)) (hp : pc + 1 = pc') (hz : x &&& y = z) (K : Wp p e below s n0 ck cs Q (T.setTop (mkF m pc' Ls (.int z :: st)))) : Wp p e below s n0 ck cs Q (T.setTop (mkF m pc Ls (.int y :: .int x :: st))) := by
  obtain ⟨locs, X, N, eT, hx, hZ, hby, hml, hown, hret, hlk, hsz⟩ := A
  subst hp
  subst hz
  exact K.goo fun t q => XS.iand X.here hx rfl (hb hby hd) rfl q
theorem s_irem (A : On l Z n0 own bytes maxL ret R p e s m args below meth c T h k n) {x y z : Int32} (hd : decode bytes pc = .ok (.irem, 1)) (hp : pc + 1 = pc') (hy : y ≠ 0) (hz : x % y = z) (K : Wp p e below s n0 ck cs Q (T.setTop (mkF m pc' Ls (.int z :: st)))) : Wp p e below s n0 ck cs Q (T.setTop (mkF m pc Ls (.int y :: .int x :: st))) := by
  obtain ⟨locs, X, N, eT, hx, hZ, hby, hml, hown, hret, hlk, hsz⟩ := A
  subst hp
  subst hz
  exact K.goo fun t q => iremM X hx rfl (hb hby hd) rfl hy q
theorem s_ishr (A : On l Z n0 own bytes maxL ret R p e s m args below meth c T h k n) {x y z : Int32} (hd : decode bytes pc = .ok (.ishr, 1)) (hp : pc + 1 = pc') (hz : x >>> (y &&& 31) = z) (K : Wp p e below s n0 ck cs Q (T.setTop (mkF m pc' Ls (.int z :: st)))) : Wp p e below s n0 ck cs Q (T.setTop (mkF m pc Ls (.int y :: .int x :: st))) := by
  obtain ⟨locs, X, N, eT, hx, hZ, hby, hml, hown, hret, hlk, hsz⟩ := A
  subst hp
  subst hz
  exact K.goo fun t q => XS.ishr X.here hx rfl (hb hby hd) rfl q
theorem s_i2c (A : On l Z n0 own bytes maxL ret R p e s m args below meth c T h k n) {x z : Int32} (hd : decode bytes pc = .ok (.i2c, 1)) (hp : pc + 1 = pc') (hz : x.toUInt32.toUInt16.toUInt32.toInt32 = z) (K : Wp p e below s n0 ck cs Q (T.setTop (mkF m pc' Ls (.int z :: st)))) : Wp p e below s n0 ck cs Q (T.setTop (mkF m pc Ls (.int x :: st))) := by
  obtain ⟨locs, X, N, eT, hx, hZ, hby, hml, hown, hret, hlk, hsz⟩ := A
  subst hp
  subst hz
  exact K.goo fun t q => XS.i2c X.here hx rfl (hb hby hd) rfl q
theorem s_pop (A : On l Z n0 own bytes maxL ret R p e s m args below meth c T h k n)  (hd : decode bytes pc = .ok (.pop, 1)) (hp : pc + 1 = pc') (hc : v.category = 1) (K : Wp p e below s n0 ck cs Q (T.setTop (mkF m pc' Ls st))) : Wp p e below s n0 ck cs Q (T.setTop (mkF m pc Ls (v :: st))) := by
  obtain ⟨locs, X, N, eT, hx, hZ, hby, hml, hown, hret, hlk, hsz⟩ := A
  subst hp
  exact K.goo fun t q => XS.pop X.here hx rfl (hb hby hd) rfl hc q
theorem s_goto (A : On l Z n0 own bytes maxL ret R p e s m args below meth c T h k n)  {o : Int} (hd : decode bytes pc = .ok (.goto o, 3))  (ho : 0 ≤ (pc : Int) + o) (hp : ((pc : Int) + o).toNat = pc') (K : Wp p e below s n0 ck cs Q (T.setTop (mkF m pc' Ls st))) : Wp p e below s n0 ck cs Q (T.setTop (mkF m pc Ls st)) := by
  obtain ⟨locs, X, N, eT, hx, hZ, hby, hml, hown, hret, hlk, hsz⟩ := A
  exact K.goo fun t q => XS.goto X.here hx rfl (pc0 := pc) rfl (hb hby hd) ho hp q
theorem s_ifY (A : On l Z n0 own bytes maxL ret R p e s m args below meth c T h k n) {cd : ClassFile.Cond} {x : Int32} {o : Int} (hd : decode bytes pc = .ok (.ifCond cd o, 3)) (hc : ifCond.holds cd x = true) (ho : 0 ≤ (pc : Int) + o) (hp : ((pc : Int) + o).toNat = pc') (K : Wp p e below s n0 ck cs Q (T.setTop (mkF m pc' Ls st))) : Wp p e below s n0 ck cs Q (T.setTop (mkF m pc Ls (.int x :: st))) := by
  obtain ⟨locs, X, N, eT, hx, hZ, hby, hml, hown, hret, hlk, hsz⟩ := A
  exact K.goo fun t q => XS.ifYes X.here hx rfl (pc0 := pc) rfl (hb hby hd) rfl hc ho hp q
theorem s_icmpY (A : On l Z n0 own bytes maxL ret R p e s m args below meth c T h k n) {cd : ClassFile.Cond} {x y : Int32} {o : Int} (hd : decode bytes pc = .ok (.if_icmp cd o, 3)) (hc : if_icmp.holds cd x y = true) (ho : 0 ≤ (pc : Int) + o) (hp : ((pc : Int) + o).toNat = pc') (K : Wp p e below s n0 ck cs Q (T.setTop (mkF m pc' Ls st))) : Wp p e below s n0 ck cs Q (T.setTop (mkF m pc Ls (.int y :: .int x :: st))) := by
  obtain ⟨locs, X, N, eT, hx, hZ, hby, hml, hown, hret, hlk, hsz⟩ := A
  exact K.goo fun t q => XS.icmpYes X.here hx rfl (pc0 := pc) rfl (hb hby hd) rfl hc ho hp q
theorem s_acmpY (A : On l Z n0 own bytes maxL ret R p e s m args below meth c T h k n) {cd : ACond} {o : Int} (hd : decode bytes pc = .ok (.if_acmp cd o, 3)) (hv : v.isRef = true) (hw : w.isRef = true) (hc : XT.acmp cd v w = true) (ho : 0 ≤ (pc : Int) + o) (hp : ((pc : Int) + o).toNat = pc') (K : Wp p e below s n0 ck cs Q (T.setTop (mkF m pc' Ls st))) : Wp p e below s n0 ck cs Q (T.setTop (mkF m pc Ls (w :: v :: st))) := by
  obtain ⟨locs, X, N, eT, hx, hZ, hby, hml, hown, hret, hlk, hsz⟩ := A
  exact K.goo fun t q => XT.acmpYes X.here hx rfl (pc0 := pc) rfl (hb hby hd) rfl hv hw hc ho hp q
theorem s_ifN (A : On l Z n0 own bytes maxL ret R p e s m args below meth c T h k n) {cd : ClassFile.Cond} {x : Int32} {o : Int} (hd : decode bytes pc = .ok (.ifCond cd o, 3)) (hp : pc + 3 = pc') (hc : ifCond.holds cd x = false) (K : Wp p e below s n0 ck cs Q (T.setTop (mkF m pc' Ls st))) : Wp p e below s n0 ck cs Q (T.setTop (mkF m pc Ls (.int x :: st))) := by
  obtain ⟨locs, X, N, eT, hx, hZ, hby, hml, hown, hret, hlk, hsz⟩ := A
  subst hp
  exact K.goo fun t q => XS.ifNo X.here hx rfl (hb hby hd) rfl hc q
theorem s_icmpN (A : On l Z n0 own bytes maxL ret R p e s m args below meth c T h k n) {cd : ClassFile.Cond} {x y : Int32} {o : Int} (hd : decode bytes pc = .ok (.if_icmp cd o, 3)) (hp : pc + 3 = pc') (hc : if_icmp.holds cd x y = false) (K : Wp p e below s n0 ck cs Q (T.setTop (mkF m pc' Ls st))) : Wp p e below s n0 ck cs Q (T.setTop (mkF m pc Ls (.int y :: .int x :: st))) := by
  obtain ⟨locs, X, N, eT, hx, hZ, hby, hml, hown, hret, hlk, hsz⟩ := A
  subst hp
  exact K.goo fun t q => XS.icmpNo X.here hx rfl (hb hby hd) rfl hc q
theorem s_acmpN (A : On l Z n0 own bytes maxL ret R p e s m args below meth c T h k n) {cd : ACond} {o : Int} (hd : decode bytes pc = .ok (.if_acmp cd o, 3)) (hp : pc + 3 = pc') (hv : v.isRef = true) (hw : w.isRef = true) (hc : XT.acmp cd v w = false) (K : Wp p e below s n0 ck cs Q (T.setTop (mkF m pc' Ls st))) : Wp p e below s n0 ck cs Q (T.setTop (mkF m pc Ls (w :: v :: st))) := by
  obtain ⟨locs, X, N, eT, hx, hZ, hby, hml, hown, hret, hlk, hsz⟩ := A
  subst hp
  exact K.goo fun t q => XT.acmpNo X.here hx rfl (hb hby hd) rfl hv hw hc q
theorem s_ldcInt (A : On l Z n0 own bytes maxL ret R p e s m args below meth c T h k n) {i : Nat} {z : Int32} (hd : decode bytes pc = .ok (.ldc i, 2)) (hp : pc + 2 = pc') (w0 : (Cond.constant own i z).before a0 Z = true) (K : Wp p e below s n0 ck cs Q (T.setTop (mkF m pc' Ls (.int z :: st)))) : Wp p e below s n0 ck cs Q (T.setTop (mkF m pc Ls st)) := by
  obtain ⟨locs, X, N, eT, hx, hZ, hby, hml, hown, hret, hlk, hsz⟩ := A
  subst hp
  exact K.goo fun t q => X.ldcInt hx hown (mvT hZ w0) (g := mkF m pc Ls st) rfl (hb hby hd) t q
theorem idx_ok {j : Int32} {i : Nat} (hj : j.toInt = (i : Int)) : j.toNatClampNeg = i := by show j.toInt.toNat = i; omega
theorem idx_in' {j : Int32} {i : Nat} {N : Nat} (hj : j.toInt = (i : Int)) (hi : i < N) : ¬ (j < 0 ∨ N ≤ j.toNatClampNeg) := by
  rw [idx_ok hj, Int32.lt_iff_toInt_lt, hj]
  have : (0 : Int32).toInt = 0 := by decide
  omega
theorem s_getfield (A : On l Z n0 own bytes maxL ret R p e s m args below meth c T h k n) {index : Nat} {R0 O f d host : String} (w0 : (Cond.fieldLink own index R0 f d).before a0 Z = true ∨ (Cond.fieldLinkNest own index R0 f d host).before a0 Z = true) (via : Via Z R0 O f d) (F : Fld Z h a O f d v) (hd : decode bytes pc = .ok (.getfield index, 3)) (hp : pc + 3 = pc') (K : ∀ T' , On l Z n0 own bytes maxL ret R p e s m args below meth c T' h k n → Wp p e below s n0 ck cs Q (T'.setTop (mkF m pc' Ls (v :: st)))) : Wp p e below s n0 ck cs Q (T.setTop (mkF m pc Ls (.ref a :: st))) := by
  obtain ⟨locs, X, N, eT, hx, hZ, hby, hml, hown, hret, hlk, hsz⟩ := A
  subst hp
  obtain ⟨T', X', e', q⟩ := getF X hx hZ hown w0 via eT F (g := mkF m pc Ls (.ref a :: st)) rfl rfl (hb hby hd)
  exact (K T' ⟨_, X', N, e', hx, hZ, hby, hml, hown, hret, hlk, hsz⟩).goo q
theorem s_getstatic (A : On l Z n0 own bytes maxL ret R p e s m args below meth c T h k n) {index : Nat} {R0 O f d host : String} (w0 : (Cond.fieldLink own index R0 f d).before a0 Z = true ∨ (Cond.fieldLinkNest own index R0 f d host).before a0 Z = true) (via : Via Z R0 O f d) (F : Sta Z h O f d v) (hd : decode bytes pc = .ok (.getstatic index, 3)) (hp : pc + 3 = pc') (K : ∀ T' , On l Z n0 own bytes maxL ret R p e s m args below meth c T' h k n → Wp p e below s n0 ck cs Q (T'.setTop (mkF m pc' Ls (v :: st)))) : Wp p e below s n0 ck cs Q (T.setTop (mkF m pc Ls st)) := by
  obtain ⟨locs, X, N, eT, hx, hZ, hby, hml, hown, hret, hlk, hsz⟩ := A
  subst hp
  obtain ⟨T', X', e', q⟩ := getS2 X hx hZ hown w0 via eT F (g := mkF m pc Ls st) rfl (hb hby hd)
  exact (K T' ⟨_, X', N, e', hx, hZ, hby, hml, hown, hret, hlk, hsz⟩).goo q
theorem s_baload (A : On l Z n0 own bytes maxL ret R p e s m args below meth c T h k n) {j : Int32} {i : Nat} (V : AA Z h a .byte vs) (hj : j.toInt = (i : Int)) (hv : vs[i]? = some v) (hd : decode bytes pc = .ok (.baload, 1)) (hp : pc + 1 = pc') (K : Wp p e below s n0 ck cs Q (T.setTop (mkF m pc' Ls (v :: st)))) : Wp p e below s n0 ck cs Q (T.setTop (mkF m pc Ls (.int j :: .ref a :: st))) := by
  obtain ⟨locs, X, N, eT, hx, hZ, hby, hml, hown, hret, hlk, hsz⟩ := A
  subst hp
  obtain ⟨cl, Ar, r1, r2⟩ := V
  have hi : i < vs.length := (List.getElem?_eq_some_iff.mp hv).1
  exact K.goo fun t q => X.baloadBytes hx (j := j) (v := v) (by rw [eT]; exact Ar.1) (State.isArrayOf_alike hZ.alike Ar.2.1) Ar.2.2 (idx_in' hj (by rw [r1]; simpa using hi)) (by rw [idx_ok hj, r1]; simpa using hv) (g := mkF m pc Ls (.int j :: .ref a :: st)) rfl rfl (hb hby hd) t q
theorem s_arraylength (A : On l Z n0 own bytes maxL ret R p e s m args below meth c T h k n) {z : Int32} (V : AA Z h a ty vs) (hz : z.toInt = (vs.length : Int)) (hd : decode bytes pc = .ok (.arraylength, 1)) (hp : pc + 1 = pc') (K : Wp p e below s n0 ck cs Q (T.setTop (mkF m pc' Ls (.int z :: st)))) : Wp p e below s n0 ck cs Q (T.setTop (mkF m pc Ls (.ref a :: st))) := by
  obtain ⟨locs, X, N, eT, hx, hZ, hby, hml, hown, hret, hlk, hsz⟩ := A
  subst hp
  obtain ⟨cl, Ar, r1, r2⟩ := V
  have q0 : cl.slots.size.toInt32 = z := by
    rw [r1]; apply Int32.toInt_inj.mp; rw [len_toInt (by simpa using r2), hz]; simp
  exact K.goo fun t q => X.arraylength hx (by rw [eT]; exact Ar.1) (State.isArrayOf_alike hZ.alike Ar.2.1) (g := mkF m pc Ls (.ref a :: st)) rfl rfl (hb hby hd) t (by rw [q0]; exact q)
theorem s_static (A : On l Z n0 own bytes maxL ret R p e s m args below meth c T h k n) {index : Nat} {y : MethodName} {bytes' : ByteArray} {maxL' : Nat} {ret' : Option FieldType} {rm : Room} {argsL rest : List Value} {Q' : Option Value → Heap → Prop} (M : Met l Z n0 y bytes' maxL' ret' rm argsL.toArray h Q') (wl : (Cond.methodLink own index y).before a0 Z = true) (ws : (Cond.static y).before a0 Z = true) (wz : (Cond.initialized y.cls).before a0 Z = true) (wc : (Cond.code y bytes' maxL' ret').before a0 Z = true) (hy : y.cls ≠ "java/lang/invoke/MethodHandle" ∧ y.cls ≠ "java/lang/invoke/VarHandle") {sig : MethodDescriptor} (hsig : parseMethodDescriptor y.desc = some sig) (hlen : argsL.length = sig.parameters.length) {W : Nat} (hf : rm.frames + 1 ≤ R.frames) (hl : W + (maxL' + 11) + rm.locals ≤ R.locals) (hW : (rest.map fun v => v.category).sum ≤ W) (hc : k + rm.cells ≤ R.cells) (hs : n + rm.slots ≤ R.slots) (hLs : Ls.size = maxL) {stk : List Value} (hst : stk = argsL.reverse ++ rest) (hd : decode bytes pc = .ok (.invokestatic index, 3)) (hp : pc + 3 = pc') (K : ∀ T' h' v, On l Z n0 own bytes maxL ret R p e s m args below meth c T' h' (k + rm.cells) (n + rm.slots) → Q' v h' → Wp p e below s n0 ck cs Q (T'.setTop (mkF m pc' Ls (v.toList ++ rest)))) : Wp p e below s n0 ck cs Q (T.setTop (mkF m pc Ls stk)) := by
  obtain ⟨locs, X, N, eT, hx, hZ, hby, hml, hown, hret, hlk, hsz⟩ := A
  subst hp
  obtain ⟨v, _, ⟨T', L', k', n'⟩, -, X', ⟨Lc, ⟨Nq, hQ⟩, l1, l2, l3⟩, q⟩ := Jvm.LawKit.callS X hx (y := y) hown (mvT hZ wl) (mvT hZ ws) (mvT hZ wz) (mvT hZ wc) hy (backOf (Q := fun v h L => Fr n0 L ∧ Q' v h) (W := W) (M []) hZ wc wz hf hl) (g := mkF m pc Ls stk) rfl (by rw [hml]; exact hLs) (argsL := argsL) (rest := rest) (lenOf hsig hlen) hst (by show 2 * 0 + _ ≤ _; simpa using hW) (hb hby hd) (fun _ _ => ⟨rfl, eT, hc, hs⟩)
  dsimp only [Pt.U, Pt.locs, Pt.cells, Pt.slots] at X' l1 l2 l3 q hQ Nq
  subst l1 l2 l3
  exact (K T' T'.heap v ⟨_, X', Fr.app N Nq, rfl, hx, hZ, hby, hml, hown, hret, hlk, hsz⟩ hQ).goo q
theorem s_virtual (A : On l Z n0 own bytes maxL ret R p e s m args below meth c T h k n) {index : Nat} {y : MethodName} {bytes' : ByteArray} {maxL' : Nat} {ret' : Option FieldType} {rm : Room} {argsL rest : List Value} {Q' : Option Value → Heap → Prop} {C : String} {z : MethodName} (E : Exa Z h b C) (M : Met l Z n0 z bytes' maxL' ret' rm (.ref b :: argsL).toArray h Q') (wl : (Cond.methodLink own index y).before a0 Z = true) (wd : (Cond.declares y).before a0 Z = true) (wn : ∀ (args : Array Value) (s : State), Z.Warmed39 s.vm → NotFace s y) (wsel : (Cond.selects C y z).before a0 Z = true) (wim : (Cond.instanceMethod z).before a0 Z = true) (wz : (Cond.initialized z.cls).before a0 Z = true) (wc : (Cond.code z bytes' maxL' ret').before a0 Z = true) (hy : y.cls ≠ "java/lang/invoke/MethodHandle" ∧ y.cls ≠ "java/lang/invoke/VarHandle") {sig : MethodDescriptor} (hsig : parseMethodDescriptor y.desc = some sig) (hlen : argsL.length = sig.parameters.length) {W : Nat} (hf : rm.frames + 1 ≤ R.frames) (hl : W + (maxL' + 11) + rm.locals ≤ R.locals) (hW : (rest.map fun v => v.category).sum ≤ W) (hc : k + rm.cells ≤ R.cells) (hs : n + rm.slots ≤ R.slots) (hLs : Ls.size = maxL) {stk : List Value} (hst : stk = argsL.reverse ++ .ref b :: rest) (hd : decode bytes pc = .ok (.invokevirtual index, 3)) (hp : pc + 3 = pc') (K : ∀ T' h' v, On l Z n0 own bytes maxL ret R p e s m args below meth c T' h' (k + rm.cells) (n + rm.slots) → Q' v h' → Wp p e below s n0 ck cs Q (T'.setTop (mkF m pc' Ls (v.toList ++ rest)))) : Wp p e below s n0 ck cs Q (T.setTop (mkF m pc Ls stk)) := by
  obtain ⟨locs, X, N, eT, hx, hZ, hby, hml, hown, hret, hlk, hsz⟩ := A
  subst hp
  obtain ⟨cq, kq, qa, qb, qc⟩ := isOf hZ eT E
  obtain ⟨v, _, ⟨T', L', k', n'⟩, -, X', ⟨Lc, ⟨Nq, hQ⟩, l1, l2, l3⟩, q⟩ := X.virtualBack hx (y := y) (z := z) hown (mvT hZ wl) (mvT hZ wd) (wn #[] s hZ) (mvT hZ wsel) (mvT hZ wim) hy (backOf (Q := fun v h L => Fr n0 L ∧ Q' v h) (W := W) (M []) hZ wc wz hf hl) qa qc (g := mkF m pc Ls stk) rfl (by rw [hml]; exact hLs) (Steps.refl _) (argsL := argsL) (rest := rest) (lenOf hsig hlen) hst (by show 2 * 0 + _ ≤ _; simpa using hW) (hb hby hd) (fun _ _ => ⟨rfl, eT, hc, hs⟩)
  dsimp only [Pt.U, Pt.locs, Pt.cells, Pt.slots] at X' l1 l2 l3 q hQ Nq
  subst l1 l2 l3
  exact (K T' T'.heap v ⟨_, X', Fr.app N Nq, rfl, hx, hZ, hby, hml, hown, hret, hlk, hsz⟩ hQ).goo (fun t r => q.trans r)
theorem nf_same {y : MethodName} {C : String} (wsel : (Cond.selects y.cls y y).before a0 Z = true) : ∀ (args : Array Value) (s : State), Z.Warmed39 s.vm → NotFace s y := fun args s hZ => notFace_of_selects (args := #[]) (mvT hZ wsel)
theorem aa_of_arv {kc : ClassId} {z : Int32} {dv : Value} (F : Arv Z h a kc ty z vs dv) (hl : z.toInt = (vs.length : Int)) : AA Z h a ty vs := by
  obtain ⟨c, A, q, S, N, H, G⟩ := F
  rw [idx_ok hl] at S
  refine ⟨c, A, ?_, ?_⟩
  · apply Array.ext
    · simp [S]
    · intro i h1 h2
      have := H i h1
      rw [Array.getElem?_eq_getElem h1] at this
      have h3 : i < vs.length := by simpa using h2
      simpa [List.getD_eq_getElem?_getD, h3] using this
  · have := z.toInt_lt; omega
theorem r_void (A : On l Z n0 own bytes maxL ret R p e s m args below meth c T h k n) (hr : ret = none) (hd : decode bytes pc = .ok (.return_, 1)) (hk : k ≤ ck) (hn : n ≤ cs) (q : Q none h) : Wp p e below s n0 ck cs Q (T.setTop (mkF m pc Ls [])) := by
  obtain ⟨locs, X, N, eT, hx, hZ, hby, hml, hown, hret, hlk, hsz⟩ := A
  have hR : meth.sig.returnType = none := hret.trans hr
  obtain ⟨fs, h1, hrun, hended, hW, hsame⟩ := X.leave (v := none) (fun _ => rfl) hlk
  exact ⟨_, _, X.returnOut hx hR (hb hby hd) h1, hrun, hended, _, _, rfl, ⟨N, by show Q none T.heap; rw [eT]; exact q⟩, ⟨_, rfl⟩, hW, hsame.mono hk hn⟩
theorem r_val (A : On l Z n0 own bytes maxL ret R p e s m args below meth c T h k n) {i : Instr} {t : FieldType} (hr : ret = some t) (hn0 : narrow t v = v) (hi : (i = .ireturn ∧ (t = .int ∨ t = .boolean ∨ t = .byte ∨ t = .char ∨ t = .short) ∧ ∃ z, v = .int z) ∨ (i = .lreturn ∧ t = .long ∧ ∃ z, v = .long z) ∨ (i = .dreturn ∧ t = .double ∧ ∃ z, v = .double z) ∨ (i = .freturn ∧ t = .float ∧ ∃ z, v = .float z) ∨ (i = .areturn ∧ t.isReference = true ∧ v.isRef = true)) (hd : decode bytes pc = .ok (i, 1)) (hk : k ≤ ck) (hn : n ≤ cs) (q : Q (some v) h) : Wp p e below s n0 ck cs Q (T.setTop (mkF m pc Ls (v :: st))) := by
  obtain ⟨locs, X, N, eT, hx, hZ, hby, hml, hown, hret, hlk, hsz⟩ := A
  have hR : meth.sig.returnType = some t := hret.trans hr
  obtain ⟨fs, h1, hrun, hended, hW, hsame⟩ := X.leave (v := some v) (fun z => by rw [hR] at z; cases z) hlk
  exact ⟨_, _, retOut X hx hR hn0 hi (hb hby hd) h1, hrun, hended, _, _, rfl, ⟨N, by show Q (some v) T.heap; rw [eT]; exact q⟩, ⟨_, rfl⟩, hW, hsame.mono hk hn⟩
theorem r_int (A : On l Z n0 own bytes maxL ret R p e s m args below meth c T h k n) {z : Int32} (hr : ret = some .int) (hd : decode bytes pc = .ok (.ireturn, 1)) (hk : k ≤ ck) (hn : n ≤ cs) (q : Q (some (.int z)) h) : Wp p e below s n0 ck cs Q (T.setTop (mkF m pc Ls (.int z :: st))) := r_val A hr rfl (Or.inl ⟨rfl, Or.inl rfl, _, rfl⟩) hd hk hn q
theorem r_bool (A : On l Z n0 own bytes maxL ret R p e s m args below meth c T h k n) {z : Int32} (hr : ret = some .boolean) (hz : z = 0 ∨ z = 1) (hd : decode bytes pc = .ok (.ireturn, 1)) (hk : k ≤ ck) (hn : n ≤ cs) (q : Q (some (.int z)) h) : Wp p e below s n0 ck cs Q (T.setTop (mkF m pc Ls (.int z :: st))) := r_val A hr (by rcases hz with rfl | rfl <;> rfl) (Or.inl ⟨rfl, Or.inr (Or.inl rfl), _, rfl⟩) hd hk hn q
theorem r_ref (A : On l Z n0 own bytes maxL ret R p e s m args below meth c T h k n) {t : FieldType} (hr : ret = some t) (ht : t.isReference = true) (hv : v.isRef = true) (hd : decode bytes pc = .ok (.areturn, 1)) (hk : k ≤ ck) (hn : n ≤ cs) (q : Q (some v) h) : Wp p e below s n0 ck cs Q (T.setTop (mkF m pc Ls (v :: st))) := r_val A hr (by cases t <;> first | rfl | cases ht) (Or.inr (Or.inr (Or.inr (Or.inr ⟨rfl, ht, hv⟩)))) hd hk hn q
theorem r_small (A : On l Z n0 own bytes maxL ret R p e s m args below meth c T h k n) {z : Int32} {t : FieldType} (hr : ret = some t) (ht : t = .byte ∨ t = .char ∨ t = .short) (hz : narrow t (.int z) = .int z) (hd : decode bytes pc = .ok (.ireturn, 1)) (hk : k ≤ ck) (hn : n ≤ cs) (q : Q (some (.int z)) h) : Wp p e below s n0 ck cs Q (T.setTop (mkF m pc Ls (.int z :: st))) := r_val A hr hz (Or.inl ⟨rfl, Or.inr (Or.inr (by rcases ht with h | h | h <;> simp [h])), _, rfl⟩) hd hk hn q
end Kit
end Jvm.Ow
namespace Jvm.Pilot.@@N@@
open Jvm Jvm.ClassFile Sem Op Lib Jvm.Free Jvm.Stand Jvm.LawKit Jvm.RoadKit Jvm.Ow Bundle Jvm.Pilot.@@N@@.Jvm.D
theorem w6 {Z : State} {a0 : Array Value} (hw : ∀ d ∈ tables_1, d.before a0 Z = true) : (Jvm.Cond.initialized "com/example/proctor/proctor/policy/Constraint$Operator").before a0 Z = true := hw _ (List.mem_of_getElem? (i := 6) rfl)
theorem w7 {Z : State} {a0 : Array Value} (hw : ∀ d ∈ tables_1, d.before a0 Z = true) : (Jvm.Cond.laysStatic "com/example/proctor/proctor/policy/Constraint$Operator" "EQUAL" "Lcom/example/proctor/proctor/policy/Constraint$Operator;").before a0 Z = true := hw _ (List.mem_of_getElem? (i := 7) rfl)
theorem w55 {Z : State} {a0 : Array Value} (hw : ∀ d ∈ tables_1, d.before a0 Z = true) : (Jvm.Cond.laysStatic "com/example/proctor/proctor/policy/Constraint$Operator" "AT_MOST" "Lcom/example/proctor/proctor/policy/Constraint$Operator;").before a0 Z = true := hw _ (List.mem_of_getElem? (i := 55) rfl)
theorem w57 {Z : State} {a0 : Array Value} (hw : ∀ d ∈ tables_1, d.before a0 Z = true) : (Jvm.Cond.laysStatic "com/example/proctor/proctor/policy/Constraint$Operator" "NOT_EQUAL" "Lcom/example/proctor/proctor/policy/Constraint$Operator;").before a0 Z = true := hw _ (List.mem_of_getElem? (i := 57) rfl)
theorem w59 {Z : State} {a0 : Array Value} (hw : ∀ d ∈ tables_1, d.before a0 Z = true) : (Jvm.Cond.laysStatic "com/example/proctor/proctor/policy/Constraint$Operator" "LESS" "Lcom/example/proctor/proctor/policy/Constraint$Operator;").before a0 Z = true := hw _ (List.mem_of_getElem? (i := 59) rfl)
theorem w62 {Z : State} {a0 : Array Value} (hw : ∀ d ∈ tables_1, d.before a0 Z = true) : (Jvm.Cond.laysStatic "com/example/proctor/proctor/policy/Constraint$Operator" "AT_LEAST" "Lcom/example/proctor/proctor/policy/Constraint$Operator;").before a0 Z = true := hw _ (List.mem_of_getElem? (i := 62) rfl)
theorem w64 {Z : State} {a0 : Array Value} (hw : ∀ d ∈ tables_1, d.before a0 Z = true) : (Jvm.Cond.laysStatic "com/example/proctor/proctor/policy/Constraint$Operator" "GREATER" "Lcom/example/proctor/proctor/policy/Constraint$Operator;").before a0 Z = true := hw _ (List.mem_of_getElem? (i := 64) rfl)
theorem d1_0 : decode method_2_code 0 = .ok (.iload_n 0, 1) := by decide +kernel
theorem d1_1 : decode method_2_code 1 = .ok (.ifCond .ne 7, 3) := by decide +kernel
theorem d1_4 : decode method_2_code 4 = .ok (.getstatic 7, 3) := by decide +kernel
theorem w5 {Z : State} {a0 : Array Value} (hw : ∀ d ∈ tables_1, d.before a0 Z = true) : (Jvm.Cond.fieldLink "com/example/proctor/proctor/policy/OperatorOrdersPinLaw" (7 : Nat) "com/example/proctor/proctor/policy/Constraint$Operator" "EQUAL" "Lcom/example/proctor/proctor/policy/Constraint$Operator;").before a0 Z = true := hw _ (List.mem_of_getElem? (i := 5) rfl)
theorem d1_7 : decode method_2_code 7 = .ok (.areturn, 1) := by decide +kernel
abbrev y0_pick : MethodName := ⟨"com/example/proctor/proctor/policy/OperatorOrdersPinLaw", "pick", "(I)Lcom/example/proctor/proctor/policy/Constraint$Operator;"⟩
theorem pn_com_example_proctor_proctor_policy_OperatorOrdersPinLaw : plainName "com/example/proctor/proctor/policy/OperatorOrdersPinLaw" = true := by first | (simp [plainName, overriddenIn]; done) | decide +kernel
abbrev c0_OperatorOrdersPinLaw : String := "com/example/proctor/proctor/policy/OperatorOrdersPinLaw"
theorem d1_8 : decode method_2_code 8 = .ok (.iload_n 0, 1) := by decide +kernel
theorem d1_9 : decode method_2_code 9 = .ok (.iconst 1, 1) := by decide +kernel
theorem d1_10 : decode method_2_code 10 = .ok (.if_icmp .ne 7, 3) := by decide +kernel
theorem d1_13 : decode method_2_code 13 = .ok (.getstatic 13, 3) := by decide +kernel
theorem w60 {Z : State} {a0 : Array Value} (hw : ∀ d ∈ tables_1, d.before a0 Z = true) : (Jvm.Cond.fieldLink "com/example/proctor/proctor/policy/OperatorOrdersPinLaw" (13 : Nat) "com/example/proctor/proctor/policy/Constraint$Operator" "NOT_EQUAL" "Lcom/example/proctor/proctor/policy/Constraint$Operator;").before a0 Z = true := hw _ (List.mem_of_getElem? (i := 60) rfl)
theorem d1_16 : decode method_2_code 16 = .ok (.areturn, 1) := by decide +kernel
theorem d1_17 : decode method_2_code 17 = .ok (.iload_n 0, 1) := by decide +kernel
theorem d1_18 : decode method_2_code 18 = .ok (.iconst 2, 1) := by decide +kernel
theorem d1_19 : decode method_2_code 19 = .ok (.if_icmp .ne 7, 3) := by decide +kernel
theorem d1_22 : decode method_2_code 22 = .ok (.getstatic 16, 3) := by decide +kernel
theorem w58 {Z : State} {a0 : Array Value} (hw : ∀ d ∈ tables_1, d.before a0 Z = true) : (Jvm.Cond.fieldLink "com/example/proctor/proctor/policy/OperatorOrdersPinLaw" (16 : Nat) "com/example/proctor/proctor/policy/Constraint$Operator" "LESS" "Lcom/example/proctor/proctor/policy/Constraint$Operator;").before a0 Z = true := hw _ (List.mem_of_getElem? (i := 58) rfl)
theorem d1_25 : decode method_2_code 25 = .ok (.areturn, 1) := by decide +kernel
theorem d1_26 : decode method_2_code 26 = .ok (.iload_n 0, 1) := by decide +kernel
theorem d1_27 : decode method_2_code 27 = .ok (.iconst 3, 1) := by decide +kernel
theorem d1_28 : decode method_2_code 28 = .ok (.if_icmp .ne 7, 3) := by decide +kernel
theorem d1_31 : decode method_2_code 31 = .ok (.getstatic 19, 3) := by decide +kernel
theorem w54 {Z : State} {a0 : Array Value} (hw : ∀ d ∈ tables_1, d.before a0 Z = true) : (Jvm.Cond.fieldLink "com/example/proctor/proctor/policy/OperatorOrdersPinLaw" (19 : Nat) "com/example/proctor/proctor/policy/Constraint$Operator" "AT_MOST" "Lcom/example/proctor/proctor/policy/Constraint$Operator;").before a0 Z = true := hw _ (List.mem_of_getElem? (i := 54) rfl)
theorem d1_34 : decode method_2_code 34 = .ok (.areturn, 1) := by decide +kernel
theorem d1_35 : decode method_2_code 35 = .ok (.iload_n 0, 1) := by decide +kernel
theorem d1_36 : decode method_2_code 36 = .ok (.iconst 4, 1) := by decide +kernel
theorem d1_37 : decode method_2_code 37 = .ok (.if_icmp .ne 7, 3) := by decide +kernel
theorem d1_40 : decode method_2_code 40 = .ok (.getstatic 22, 3) := by decide +kernel
theorem w63 {Z : State} {a0 : Array Value} (hw : ∀ d ∈ tables_1, d.before a0 Z = true) : (Jvm.Cond.fieldLink "com/example/proctor/proctor/policy/OperatorOrdersPinLaw" (22 : Nat) "com/example/proctor/proctor/policy/Constraint$Operator" "GREATER" "Lcom/example/proctor/proctor/policy/Constraint$Operator;").before a0 Z = true := hw _ (List.mem_of_getElem? (i := 63) rfl)
theorem d1_43 : decode method_2_code 43 = .ok (.areturn, 1) := by decide +kernel
theorem d1_44 : decode method_2_code 44 = .ok (.getstatic 25, 3) := by decide +kernel
theorem w61 {Z : State} {a0 : Array Value} (hw : ∀ d ∈ tables_1, d.before a0 Z = true) : (Jvm.Cond.fieldLink "com/example/proctor/proctor/policy/OperatorOrdersPinLaw" (25 : Nat) "com/example/proctor/proctor/policy/Constraint$Operator" "AT_LEAST" "Lcom/example/proctor/proctor/policy/Constraint$Operator;").before a0 Z = true := hw _ (List.mem_of_getElem? (i := 61) rfl)
theorem d1_47 : decode method_2_code 47 = .ok (.areturn, 1) := by decide +kernel
theorem d3_0 : decode jdk_42_method_152_code 0 = .ok (.getstatic 38, 3) := by decide +kernel
theorem w23 {Z : State} {a0 : Array Value} (hw : ∀ d ∈ tables_1, d.before a0 Z = true) : (Jvm.Cond.fieldLink "java/lang/String" (38 : Nat) "java/lang/String" "COMPACT_STRINGS" "Z").before a0 Z = true := hw _ (List.mem_of_getElem? (i := 23) rfl)
theorem d3_3 : decode jdk_42_method_152_code 3 = .ok (.ifCond .eq 10, 3) := by decide +kernel
theorem d3_6 : decode jdk_42_method_152_code 6 = .ok (.aload_n 0, 1) := by decide +kernel
theorem d3_7 : decode jdk_42_method_152_code 7 = .ok (.getfield 15, 3) := by decide +kernel
theorem w24 {Z : State} {a0 : Array Value} (hw : ∀ d ∈ tables_1, d.before a0 Z = true) : (Jvm.Cond.fieldLink "java/lang/String" (15 : Nat) "java/lang/String" "coder" "B").before a0 Z = true := hw _ (List.mem_of_getElem? (i := 24) rfl)
theorem d3_10 : decode jdk_42_method_152_code 10 = .ok (.goto 4, 3) := by decide +kernel
theorem d3_14 : decode jdk_42_method_152_code 14 = .ok (.ireturn, 1) := by decide +kernel
abbrev y1_coder : MethodName := ⟨"java/lang/String", "coder", "()B"⟩
theorem pn_java_lang_String : plainName "java/lang/String" = true := by first | (simp [plainName, overriddenIn]; done) | decide +kernel
abbrev c1_String : String := "java/lang/String"
theorem d5_0 : decode jdk_42_method_154_code 0 = .ok (.getstatic 38, 3) := by decide +kernel
theorem d5_3 : decode jdk_42_method_154_code 3 = .ok (.ifCond .eq 14, 3) := by decide +kernel
theorem d5_6 : decode jdk_42_method_154_code 6 = .ok (.aload_n 0, 1) := by decide +kernel
theorem d5_7 : decode jdk_42_method_154_code 7 = .ok (.getfield 15, 3) := by decide +kernel
theorem d5_10 : decode jdk_42_method_154_code 10 = .ok (.ifCond .ne 7, 3) := by decide +kernel
theorem d5_13 : decode jdk_42_method_154_code 13 = .ok (.iconst 1, 1) := by decide +kernel
theorem d5_14 : decode jdk_42_method_154_code 14 = .ok (.goto 4, 3) := by decide +kernel
theorem d5_18 : decode jdk_42_method_154_code 18 = .ok (.ireturn, 1) := by decide +kernel
abbrev y2_isLatin1 : MethodName := ⟨"java/lang/String", "isLatin1", "()Z"⟩
theorem d8_0 : decode jdk_41_method_11_code 0 = .ok (.iload_n 0, 1) := by decide +kernel
theorem d8_1 : decode jdk_41_method_11_code 1 = .ok (.ifCond .lt 8, 3) := by decide +kernel
theorem d8_4 : decode jdk_41_method_11_code 4 = .ok (.iload_n 0, 1) := by decide +kernel
theorem d8_5 : decode jdk_41_method_11_code 5 = .ok (.iload_n 1, 1) := by decide +kernel
theorem d8_6 : decode jdk_41_method_11_code 6 = .ok (.if_icmp .lt 10, 3) := by decide +kernel
theorem d8_16 : decode jdk_41_method_11_code 16 = .ok (.iload_n 0, 1) := by decide +kernel
theorem d8_17 : decode jdk_41_method_11_code 17 = .ok (.ireturn, 1) := by decide +kernel
abbrev y3_checkIndex : MethodName := ⟨"jdk/internal/util/Preconditions", "checkIndex", "(IILjava/util/function/BiFunction;)I"⟩
theorem pn_jdk_internal_util_Preconditions : plainName "jdk/internal/util/Preconditions" = true := by first | (simp [plainName, overriddenIn]; done) | decide +kernel
abbrev c2_Preconditions : String := "jdk/internal/util/Preconditions"
theorem d7_0 : decode jdk_42_method_155_code 0 = .ok (.iload_n 0, 1) := by decide +kernel
theorem d7_1 : decode jdk_42_method_155_code 1 = .ok (.iload_n 1, 1) := by decide +kernel
theorem d7_2 : decode jdk_42_method_155_code 2 = .ok (.getstatic 1053, 3) := by decide +kernel
theorem w43 {Z : State} {a0 : Array Value} (hw : ∀ d ∈ tables_1, d.before a0 Z = true) : (Jvm.Cond.fieldLink "java/lang/String" (1053 : Nat) "jdk/internal/util/Preconditions" "SIOOBE_FORMATTER" "Ljava/util/function/BiFunction;").before a0 Z = true := hw _ (List.mem_of_getElem? (i := 43) rfl)
theorem d7_5 : decode jdk_42_method_155_code 5 = .ok (.invokestatic 1059, 3) := by decide +kernel
theorem w45 {Z : State} {a0 : Array Value} (hw : ∀ d ∈ tables_1, d.before a0 Z = true) : (Jvm.Cond.methodLink "java/lang/String" (1059 : Nat) ({ cls := "jdk/internal/util/Preconditions", name := "checkIndex", desc := "(IILjava/util/function/BiFunction;)I" } : Jvm.MethodName)).before a0 Z = true := hw _ (List.mem_of_getElem? (i := 45) rfl)
theorem pd__IILjava_util_function_BiFunction__I : parseMethodDescriptor "(IILjava/util/function/BiFunction;)I" = some ⟨[.int, .int, (.object "java/util/function/BiFunction")], some .int⟩ := by decide +kernel
theorem w44 {Z : State} {a0 : Array Value} (hw : ∀ d ∈ tables_1, d.before a0 Z = true) : (Jvm.Cond.initialized "jdk/internal/util/Preconditions").before a0 Z = true := hw _ (List.mem_of_getElem? (i := 44) rfl)
theorem w47 {Z : State} {a0 : Array Value} (hw : ∀ d ∈ tables_1, d.before a0 Z = true) : (Jvm.Cond.code ({ cls := "jdk/internal/util/Preconditions", name := "checkIndex", desc := "(IILjava/util/function/BiFunction;)I" } : Jvm.MethodName) jdk_41_method_11_code (3 : Nat) (Option.some Jvm.ClassFile.FieldType.int)).before a0 Z = true := hw _ (List.mem_of_getElem? (i := 47) rfl)
theorem w46 {Z : State} {a0 : Array Value} (hw : ∀ d ∈ tables_1, d.before a0 Z = true) : (Jvm.Cond.static ({ cls := "jdk/internal/util/Preconditions", name := "checkIndex", desc := "(IILjava/util/function/BiFunction;)I" } : Jvm.MethodName)).before a0 Z = true := hw _ (List.mem_of_getElem? (i := 46) rfl)
theorem d7_8 : decode jdk_42_method_155_code 8 = .ok (.pop, 1) := by decide +kernel
theorem d7_9 : decode jdk_42_method_155_code 9 = .ok (.return_, 1) := by decide +kernel
abbrev y4_checkIndex : MethodName := ⟨"java/lang/String", "checkIndex", "(II)V"⟩
theorem d6_0 : decode jdk_43_method_2_code 0 = .ok (.iload_n 1, 1) := by decide +kernel
theorem d6_1 : decode jdk_43_method_2_code 1 = .ok (.aload_n 0, 1) := by decide +kernel
theorem d6_2 : decode jdk_43_method_2_code 2 = .ok (.arraylength, 1) := by decide +kernel
theorem d6_3 : decode jdk_43_method_2_code 3 = .ok (.invokestatic 9, 3) := by decide +kernel
theorem w40 {Z : State} {a0 : Array Value} (hw : ∀ d ∈ tables_1, d.before a0 Z = true) : (Jvm.Cond.methodLink "java/lang/StringLatin1" (9 : Nat) ({ cls := "java/lang/String", name := "checkIndex", desc := "(II)V" } : Jvm.MethodName)).before a0 Z = true := hw _ (List.mem_of_getElem? (i := 40) rfl)
theorem pd__II_V : parseMethodDescriptor "(II)V" = some ⟨[.int, .int], none⟩ := by decide +kernel
theorem w14 {Z : State} {a0 : Array Value} (hw : ∀ d ∈ tables_1, d.before a0 Z = true) : (Jvm.Cond.initialized "java/lang/String").before a0 Z = true := hw _ (List.mem_of_getElem? (i := 14) rfl)
theorem w42 {Z : State} {a0 : Array Value} (hw : ∀ d ∈ tables_1, d.before a0 Z = true) : (Jvm.Cond.code ({ cls := "java/lang/String", name := "checkIndex", desc := "(II)V" } : Jvm.MethodName) jdk_42_method_155_code (2 : Nat) (Option.none : Option Jvm.ClassFile.FieldType)).before a0 Z = true := hw _ (List.mem_of_getElem? (i := 42) rfl)
theorem w41 {Z : State} {a0 : Array Value} (hw : ∀ d ∈ tables_1, d.before a0 Z = true) : (Jvm.Cond.static ({ cls := "java/lang/String", name := "checkIndex", desc := "(II)V" } : Jvm.MethodName)).before a0 Z = true := hw _ (List.mem_of_getElem? (i := 41) rfl)
theorem d6_6 : decode jdk_43_method_2_code 6 = .ok (.aload_n 0, 1) := by decide +kernel
theorem d6_7 : decode jdk_43_method_2_code 7 = .ok (.iload_n 1, 1) := by decide +kernel
theorem d6_8 : decode jdk_43_method_2_code 8 = .ok (.baload, 1) := by decide +kernel
theorem d6_9 : decode jdk_43_method_2_code 9 = .ok (.sipush 255, 3) := by decide +kernel
theorem d6_12 : decode jdk_43_method_2_code 12 = .ok (.iand, 1) := by decide +kernel
theorem d6_13 : decode jdk_43_method_2_code 13 = .ok (.i2c, 1) := by decide +kernel
theorem d6_14 : decode jdk_43_method_2_code 14 = .ok (.ireturn, 1) := by decide +kernel
abbrev y5_charAt : MethodName := ⟨"java/lang/StringLatin1", "charAt", "([BI)C"⟩
theorem pn_java_lang_StringLatin1 : plainName "java/lang/StringLatin1" = true := by first | (simp [plainName, overriddenIn]; done) | decide +kernel
abbrev c3_StringLatin1 : String := "java/lang/StringLatin1"
theorem d2_0 : decode jdk_42_method_54_code 0 = .ok (.aload_n 0, 1) := by decide +kernel
theorem d2_1 : decode jdk_42_method_54_code 1 = .ok (.getfield 9, 3) := by decide +kernel
theorem w16 {Z : State} {a0 : Array Value} (hw : ∀ d ∈ tables_1, d.before a0 Z = true) : (Jvm.Cond.fieldLink "java/lang/String" (9 : Nat) "java/lang/String" "value" "[B").before a0 Z = true := hw _ (List.mem_of_getElem? (i := 16) rfl)
theorem d2_4 : decode jdk_42_method_54_code 4 = .ok (.arraylength, 1) := by decide +kernel
theorem d2_5 : decode jdk_42_method_54_code 5 = .ok (.aload_n 0, 1) := by decide +kernel
theorem d2_6 : decode jdk_42_method_54_code 6 = .ok (.invokevirtual 335, 3) := by decide +kernel
theorem w18 {Z : State} {a0 : Array Value} (hw : ∀ d ∈ tables_1, d.before a0 Z = true) : (Jvm.Cond.methodLink "java/lang/String" (335 : Nat) ({ cls := "java/lang/String", name := "coder", desc := "()B" } : Jvm.MethodName)).before a0 Z = true := hw _ (List.mem_of_getElem? (i := 18) rfl)
theorem pd___B : parseMethodDescriptor "()B" = some ⟨[], some .byte⟩ := by decide +kernel
theorem w22 {Z : State} {a0 : Array Value} (hw : ∀ d ∈ tables_1, d.before a0 Z = true) : (Jvm.Cond.code ({ cls := "java/lang/String", name := "coder", desc := "()B" } : Jvm.MethodName) jdk_42_method_152_code (1 : Nat) (Option.some Jvm.ClassFile.FieldType.byte)).before a0 Z = true := hw _ (List.mem_of_getElem? (i := 22) rfl)
theorem w21 {Z : State} {a0 : Array Value} (hw : ∀ d ∈ tables_1, d.before a0 Z = true) : (Jvm.Cond.selects "java/lang/String" ({ cls := "java/lang/String", name := "coder", desc := "()B" } : Jvm.MethodName) ({ cls := "java/lang/String", name := "coder", desc := "()B" } : Jvm.MethodName)).before a0 Z = true := hw _ (List.mem_of_getElem? (i := 21) rfl)
theorem w19 {Z : State} {a0 : Array Value} (hw : ∀ d ∈ tables_1, d.before a0 Z = true) : (Jvm.Cond.declares ({ cls := "java/lang/String", name := "coder", desc := "()B" } : Jvm.MethodName)).before a0 Z = true := hw _ (List.mem_of_getElem? (i := 19) rfl)
theorem w20 {Z : State} {a0 : Array Value} (hw : ∀ d ∈ tables_1, d.before a0 Z = true) : (Jvm.Cond.instanceMethod ({ cls := "java/lang/String", name := "coder", desc := "()B" } : Jvm.MethodName)).before a0 Z = true := hw _ (List.mem_of_getElem? (i := 20) rfl)
theorem d2_9 : decode jdk_42_method_54_code 9 = .ok (.ishr, 1) := by decide +kernel
theorem d2_10 : decode jdk_42_method_54_code 10 = .ok (.ireturn, 1) := by decide +kernel
abbrev y6_length : MethodName := ⟨"java/lang/String", "length", "()I"⟩
theorem d4_0 : decode jdk_42_method_56_code 0 = .ok (.aload_n 0, 1) := by decide +kernel
theorem d4_1 : decode jdk_42_method_56_code 1 = .ok (.invokevirtual 492, 3) := by decide +kernel
theorem w31 {Z : State} {a0 : Array Value} (hw : ∀ d ∈ tables_1, d.before a0 Z = true) : (Jvm.Cond.methodLink "java/lang/String" (492 : Nat) ({ cls := "java/lang/String", name := "isLatin1", desc := "()Z" } : Jvm.MethodName)).before a0 Z = true := hw _ (List.mem_of_getElem? (i := 31) rfl)
theorem pd___Z : parseMethodDescriptor "()Z" = some ⟨[], some .boolean⟩ := by decide +kernel
theorem w35 {Z : State} {a0 : Array Value} (hw : ∀ d ∈ tables_1, d.before a0 Z = true) : (Jvm.Cond.code ({ cls := "java/lang/String", name := "isLatin1", desc := "()Z" } : Jvm.MethodName) jdk_42_method_154_code (1 : Nat) (Option.some Jvm.ClassFile.FieldType.boolean)).before a0 Z = true := hw _ (List.mem_of_getElem? (i := 35) rfl)
theorem w34 {Z : State} {a0 : Array Value} (hw : ∀ d ∈ tables_1, d.before a0 Z = true) : (Jvm.Cond.selects "java/lang/String" ({ cls := "java/lang/String", name := "isLatin1", desc := "()Z" } : Jvm.MethodName) ({ cls := "java/lang/String", name := "isLatin1", desc := "()Z" } : Jvm.MethodName)).before a0 Z = true := hw _ (List.mem_of_getElem? (i := 34) rfl)
theorem w32 {Z : State} {a0 : Array Value} (hw : ∀ d ∈ tables_1, d.before a0 Z = true) : (Jvm.Cond.declares ({ cls := "java/lang/String", name := "isLatin1", desc := "()Z" } : Jvm.MethodName)).before a0 Z = true := hw _ (List.mem_of_getElem? (i := 32) rfl)
theorem w33 {Z : State} {a0 : Array Value} (hw : ∀ d ∈ tables_1, d.before a0 Z = true) : (Jvm.Cond.instanceMethod ({ cls := "java/lang/String", name := "isLatin1", desc := "()Z" } : Jvm.MethodName)).before a0 Z = true := hw _ (List.mem_of_getElem? (i := 33) rfl)
theorem d4_4 : decode jdk_42_method_56_code 4 = .ok (.ifCond .eq 12, 3) := by decide +kernel
theorem d4_7 : decode jdk_42_method_56_code 7 = .ok (.aload_n 0, 1) := by decide +kernel
theorem d4_8 : decode jdk_42_method_56_code 8 = .ok (.getfield 9, 3) := by decide +kernel
theorem d4_11 : decode jdk_42_method_56_code 11 = .ok (.iload_n 1, 1) := by decide +kernel
theorem d4_12 : decode jdk_42_method_56_code 12 = .ok (.invokestatic 495, 3) := by decide +kernel
theorem w36 {Z : State} {a0 : Array Value} (hw : ∀ d ∈ tables_1, d.before a0 Z = true) : (Jvm.Cond.methodLink "java/lang/String" (495 : Nat) ({ cls := "java/lang/StringLatin1", name := "charAt", desc := "([BI)C" } : Jvm.MethodName)).before a0 Z = true := hw _ (List.mem_of_getElem? (i := 36) rfl)
theorem pd___BI_C : parseMethodDescriptor "([BI)C" = some ⟨[(.array .byte), .int], some .char⟩ := by decide +kernel
theorem w38 {Z : State} {a0 : Array Value} (hw : ∀ d ∈ tables_1, d.before a0 Z = true) : (Jvm.Cond.initialized "java/lang/StringLatin1").before a0 Z = true := hw _ (List.mem_of_getElem? (i := 38) rfl)
theorem w39 {Z : State} {a0 : Array Value} (hw : ∀ d ∈ tables_1, d.before a0 Z = true) : (Jvm.Cond.code ({ cls := "java/lang/StringLatin1", name := "charAt", desc := "([BI)C" } : Jvm.MethodName) jdk_43_method_2_code (2 : Nat) (Option.some Jvm.ClassFile.FieldType.char)).before a0 Z = true := hw _ (List.mem_of_getElem? (i := 39) rfl)
theorem w37 {Z : State} {a0 : Array Value} (hw : ∀ d ∈ tables_1, d.before a0 Z = true) : (Jvm.Cond.static ({ cls := "java/lang/StringLatin1", name := "charAt", desc := "([BI)C" } : Jvm.MethodName)).before a0 Z = true := hw _ (List.mem_of_getElem? (i := 37) rfl)
theorem d4_15 : decode jdk_42_method_56_code 15 = .ok (.ireturn, 1) := by decide +kernel
abbrev y7_charAt : MethodName := ⟨"java/lang/String", "charAt", "(I)C"⟩
theorem d9_0 : decode prog_37_method_4_code 0 = .ok (.aload_n 0, 1) := by decide +kernel
theorem d9_1 : decode prog_37_method_4_code 1 = .ok (.getstatic 3, 3) := by decide +kernel
theorem w53 {Z : State} {a0 : Array Value} (hw : ∀ d ∈ tables_1, d.before a0 Z = true) : (Jvm.Cond.fieldLink "com/example/proctor/proctor/policy/Constraint$Operator" (3 : Nat) "com/example/proctor/proctor/policy/Constraint$Operator" "EQUAL" "Lcom/example/proctor/proctor/policy/Constraint$Operator;").before a0 Z = true := hw _ (List.mem_of_getElem? (i := 53) rfl)
theorem d9_4 : decode prog_37_method_4_code 4 = .ok (.if_acmp .eq 14, 3) := by decide +kernel
theorem d9_18 : decode prog_37_method_4_code 18 = .ok (.iconst 0, 1) := by decide +kernel
theorem d9_19 : decode prog_37_method_4_code 19 = .ok (.ireturn, 1) := by decide +kernel
abbrev y8_orders : MethodName := ⟨"com/example/proctor/proctor/policy/Constraint$Operator", "orders", "()Z"⟩
theorem pn_com_example_proctor_proctor_policy_Constraint_Operator : plainName "com/example/proctor/proctor/policy/Constraint$Operator" = true := by first | (simp [plainName, overriddenIn]; done) | decide +kernel
abbrev c4_Constraint_Operator : String := "com/example/proctor/proctor/policy/Constraint$Operator"
theorem d9_7 : decode prog_37_method_4_code 7 = .ok (.aload_n 0, 1) := by decide +kernel
theorem d9_8 : decode prog_37_method_4_code 8 = .ok (.getstatic 7, 3) := by decide +kernel
theorem w56 {Z : State} {a0 : Array Value} (hw : ∀ d ∈ tables_1, d.before a0 Z = true) : (Jvm.Cond.fieldLink "com/example/proctor/proctor/policy/Constraint$Operator" (7 : Nat) "com/example/proctor/proctor/policy/Constraint$Operator" "NOT_EQUAL" "Lcom/example/proctor/proctor/policy/Constraint$Operator;").before a0 Z = true := hw _ (List.mem_of_getElem? (i := 56) rfl)
theorem d9_11 : decode prog_37_method_4_code 11 = .ok (.if_acmp .eq 7, 3) := by decide +kernel
theorem d9_14 : decode prog_37_method_4_code 14 = .ok (.iconst 1, 1) := by decide +kernel
theorem d9_15 : decode prog_37_method_4_code 15 = .ok (.goto 4, 3) := by decide +kernel
theorem w0 {Z : State} {a0 : Array Value} (hw : ∀ d ∈ tables_1, d.before a0 Z = true) : (Jvm.Cond.constant "com/example/proctor/proctor/policy/OperatorOrdersPinLaw" (28 : Nat) (2147483647 : Int32)).before a0 Z = true := hw _ (List.mem_of_getElem? (i := 0) rfl)
theorem w1 {Z : State} {a0 : Array Value} (hw : ∀ d ∈ tables_1, d.before a0 Z = true) : (Jvm.Cond.methodLink "com/example/proctor/proctor/policy/OperatorOrdersPinLaw" (29 : Nat) ({ cls := "com/example/proctor/proctor/policy/OperatorOrdersPinLaw", name := "pick", desc := "(I)Lcom/example/proctor/proctor/policy/Constraint$Operator;" } : Jvm.MethodName)).before a0 Z = true := hw _ (List.mem_of_getElem? (i := 1) rfl)
theorem pd__I_Lcom_example_proctor_proctor_policy_Constraint_Operator_ : parseMethodDescriptor "(I)Lcom/example/proctor/proctor/policy/Constraint$Operator;" = some ⟨[.int], some (.object "com/example/proctor/proctor/policy/Constraint$Operator")⟩ := by decide +kernel
theorem w3 {Z : State} {a0 : Array Value} (hw : ∀ d ∈ tables_1, d.before a0 Z = true) : (Jvm.Cond.initialized "com/example/proctor/proctor/policy/OperatorOrdersPinLaw").before a0 Z = true := hw _ (List.mem_of_getElem? (i := 3) rfl)
theorem w4 {Z : State} {a0 : Array Value} (hw : ∀ d ∈ tables_1, d.before a0 Z = true) : (Jvm.Cond.code ({ cls := "com/example/proctor/proctor/policy/OperatorOrdersPinLaw", name := "pick", desc := "(I)Lcom/example/proctor/proctor/policy/Constraint$Operator;" } : Jvm.MethodName) method_2_code (1 : Nat) (Option.some (Jvm.ClassFile.FieldType.object "com/example/proctor/proctor/policy/Constraint$Operator"))).before a0 Z = true := hw _ (List.mem_of_getElem? (i := 4) rfl)
theorem w2 {Z : State} {a0 : Array Value} (hw : ∀ d ∈ tables_1, d.before a0 Z = true) : (Jvm.Cond.static ({ cls := "com/example/proctor/proctor/policy/OperatorOrdersPinLaw", name := "pick", desc := "(I)Lcom/example/proctor/proctor/policy/Constraint$Operator;" } : Jvm.MethodName)).before a0 Z = true := hw _ (List.mem_of_getElem? (i := 2) rfl)
theorem w8 {Z : State} {a0 : Array Value} (hw : ∀ d ∈ tables_1, d.before a0 Z = true) : (Jvm.Cond.fieldLink "com/example/proctor/proctor/policy/OperatorOrdersPinLaw" (35 : Nat) "com/example/proctor/proctor/policy/Constraint$Operator" "symbol" "Ljava/lang/String;").before a0 Z = true := hw _ (List.mem_of_getElem? (i := 8) rfl)
theorem w10 {Z : State} {a0 : Array Value} (hw : ∀ d ∈ tables_1, d.before a0 Z = true) : (Jvm.Cond.methodLink "com/example/proctor/proctor/policy/OperatorOrdersPinLaw" (39 : Nat) ({ cls := "java/lang/String", name := "length", desc := "()I" } : Jvm.MethodName)).before a0 Z = true := hw _ (List.mem_of_getElem? (i := 10) rfl)
theorem pd___I : parseMethodDescriptor "()I" = some ⟨[], some .int⟩ := by decide +kernel
theorem w15 {Z : State} {a0 : Array Value} (hw : ∀ d ∈ tables_1, d.before a0 Z = true) : (Jvm.Cond.code ({ cls := "java/lang/String", name := "length", desc := "()I" } : Jvm.MethodName) jdk_42_method_54_code (1 : Nat) (Option.some Jvm.ClassFile.FieldType.int)).before a0 Z = true := hw _ (List.mem_of_getElem? (i := 15) rfl)
theorem w13 {Z : State} {a0 : Array Value} (hw : ∀ d ∈ tables_1, d.before a0 Z = true) : (Jvm.Cond.selects "java/lang/String" ({ cls := "java/lang/String", name := "length", desc := "()I" } : Jvm.MethodName) ({ cls := "java/lang/String", name := "length", desc := "()I" } : Jvm.MethodName)).before a0 Z = true := hw _ (List.mem_of_getElem? (i := 13) rfl)
theorem w11 {Z : State} {a0 : Array Value} (hw : ∀ d ∈ tables_1, d.before a0 Z = true) : (Jvm.Cond.declares ({ cls := "java/lang/String", name := "length", desc := "()I" } : Jvm.MethodName)).before a0 Z = true := hw _ (List.mem_of_getElem? (i := 11) rfl)
theorem w12 {Z : State} {a0 : Array Value} (hw : ∀ d ∈ tables_1, d.before a0 Z = true) : (Jvm.Cond.instanceMethod ({ cls := "java/lang/String", name := "length", desc := "()I" } : Jvm.MethodName)).before a0 Z = true := hw _ (List.mem_of_getElem? (i := 12) rfl)
theorem w26 {Z : State} {a0 : Array Value} (hw : ∀ d ∈ tables_1, d.before a0 Z = true) : (Jvm.Cond.methodLink "com/example/proctor/proctor/policy/OperatorOrdersPinLaw" (45 : Nat) ({ cls := "java/lang/String", name := "charAt", desc := "(I)C" } : Jvm.MethodName)).before a0 Z = true := hw _ (List.mem_of_getElem? (i := 26) rfl)
theorem pd__I_C : parseMethodDescriptor "(I)C" = some ⟨[.int], some .char⟩ := by decide +kernel
theorem w30 {Z : State} {a0 : Array Value} (hw : ∀ d ∈ tables_1, d.before a0 Z = true) : (Jvm.Cond.code ({ cls := "java/lang/String", name := "charAt", desc := "(I)C" } : Jvm.MethodName) jdk_42_method_56_code (2 : Nat) (Option.some Jvm.ClassFile.FieldType.char)).before a0 Z = true := hw _ (List.mem_of_getElem? (i := 30) rfl)
theorem w29 {Z : State} {a0 : Array Value} (hw : ∀ d ∈ tables_1, d.before a0 Z = true) : (Jvm.Cond.selects "java/lang/String" ({ cls := "java/lang/String", name := "charAt", desc := "(I)C" } : Jvm.MethodName) ({ cls := "java/lang/String", name := "charAt", desc := "(I)C" } : Jvm.MethodName)).before a0 Z = true := hw _ (List.mem_of_getElem? (i := 29) rfl)
theorem w27 {Z : State} {a0 : Array Value} (hw : ∀ d ∈ tables_1, d.before a0 Z = true) : (Jvm.Cond.declares ({ cls := "java/lang/String", name := "charAt", desc := "(I)C" } : Jvm.MethodName)).before a0 Z = true := hw _ (List.mem_of_getElem? (i := 27) rfl)
theorem w28 {Z : State} {a0 : Array Value} (hw : ∀ d ∈ tables_1, d.before a0 Z = true) : (Jvm.Cond.instanceMethod ({ cls := "java/lang/String", name := "charAt", desc := "(I)C" } : Jvm.MethodName)).before a0 Z = true := hw _ (List.mem_of_getElem? (i := 28) rfl)
theorem w48 {Z : State} {a0 : Array Value} (hw : ∀ d ∈ tables_1, d.before a0 Z = true) : (Jvm.Cond.methodLink "com/example/proctor/proctor/policy/OperatorOrdersPinLaw" (49 : Nat) ({ cls := "com/example/proctor/proctor/policy/Constraint$Operator", name := "orders", desc := "()Z" } : Jvm.MethodName)).before a0 Z = true := hw _ (List.mem_of_getElem? (i := 48) rfl)
theorem w52 {Z : State} {a0 : Array Value} (hw : ∀ d ∈ tables_1, d.before a0 Z = true) : (Jvm.Cond.code ({ cls := "com/example/proctor/proctor/policy/Constraint$Operator", name := "orders", desc := "()Z" } : Jvm.MethodName) prog_37_method_4_code (1 : Nat) (Option.some Jvm.ClassFile.FieldType.boolean)).before a0 Z = true := hw _ (List.mem_of_getElem? (i := 52) rfl)
theorem w51 {Z : State} {a0 : Array Value} (hw : ∀ d ∈ tables_1, d.before a0 Z = true) : (Jvm.Cond.selects "com/example/proctor/proctor/policy/Constraint$Operator" ({ cls := "com/example/proctor/proctor/policy/Constraint$Operator", name := "orders", desc := "()Z" } : Jvm.MethodName) ({ cls := "com/example/proctor/proctor/policy/Constraint$Operator", name := "orders", desc := "()Z" } : Jvm.MethodName)).before a0 Z = true := hw _ (List.mem_of_getElem? (i := 51) rfl)
theorem w49 {Z : State} {a0 : Array Value} (hw : ∀ d ∈ tables_1, d.before a0 Z = true) : (Jvm.Cond.declares ({ cls := "com/example/proctor/proctor/policy/Constraint$Operator", name := "orders", desc := "()Z" } : Jvm.MethodName)).before a0 Z = true := hw _ (List.mem_of_getElem? (i := 49) rfl)
theorem w50 {Z : State} {a0 : Array Value} (hw : ∀ d ∈ tables_1, d.before a0 Z = true) : (Jvm.Cond.instanceMethod ({ cls := "com/example/proctor/proctor/policy/Constraint$Operator", name := "orders", desc := "()Z" } : Jvm.MethodName)).before a0 Z = true := hw _ (List.mem_of_getElem? (i := 50) rfl)
section Ex
variable {args : Array Value} {s : State}
theorem x_eqI {t : Term} {k : Int32} (h : (Jvm.Cond.eq t (Jvm.Term.int k)).value args s none s [] = some true) : t.eval args s none [] s = some (.int k) := by
  obtain ⟨x, y, e1, e2, k1, k2⟩ := cmp_v (Or.inl h)
  obtain rfl : y = .int k := (Option.some.inj e2).symm
  obtain ⟨z, rfl⟩ : ∃ z, x = .int z := k2
  have q : (Jvm.Cond.eq t (Jvm.Term.int k)).value args s none s [] = some (decide (z = k)) := by simp [Cond.value, e1, e2]
  have := gotT q h
  rw [e1, this]
theorem x_neI {t : Term} {k z : Int32} (e1 : t.eval args s none [] s = some (.int z)) (h : (Jvm.Cond.not (Jvm.Cond.eq t (Jvm.Term.int k))).value args s none s [] = some true) : ¬ z = k := by
  have h2 := not_v h
  have q : (Jvm.Cond.eq t (Jvm.Term.int k)).value args s none s [] = some (decide (z = k)) := by simp [Cond.value, e1, Term.eval]
  exact gotF q h2
theorem x_fld {t : Term} {C f d : String} {x : Addr} {w : Value} (ht : t.eval args s none [] s = some (.ref x)) (he : (Jvm.Term.field t C f d).eval args s none [] s = some w) : Fld s s.heap x C f d w := Fld.start (by rw [← fld_at ht]; exact he)
theorem x_len {t : Term} {r : Addr} {cl : Cell} {ty : FieldType} {k : Int32} (ht : t.eval args s none [] s = some (.ref r)) (A : Arr s s.heap r cl ty) (h : (Jvm.Term.length t).eval args s none [] s = some (.int k)) : cl.slots.size < 2 ^ 31 ∧ cl.slots.size.toInt32 = k := by
  have ha : s.arrayAt? r = some cl := A.fin (Vm.Alike.refl _)
  by_cases hs : cl.slots.size < 2 ^ 31
  · rw [len_f ht ha hs] at h
    exact ⟨hs, by injection h with h; injection h⟩
  · have hs' : ¬ cl.slots.size < 2147483648 := hs
    simp [Term.eval, ht, ha, hs'] at h
theorem x_el {t : Term} {r : Addr} {cl : Cell} {ty : FieldType} {j k : Int32} {i : Nat} (ht : t.eval args s none [] s = some (.ref r)) (A : Arr s s.heap r cl ty) (h : (Jvm.Term.elem t (Jvm.Term.int j)).eval args s none [] s = some (.int k)) (hj : j.toNatClampNeg = i) : cl.slots[i]? = some (.int k) := by
  have := (elem_in h ht rfl A.1).2
  rw [hj] at this
  exact this
theorem x_aa {r : Addr} {cl : Cell} {ty : FieldType} {k : Int32} {vs : List Value} (hf : Fit s) (A : Arr s s.heap r cl ty) (q : cl.slots.size < 2 ^ 31 ∧ cl.slots.size.toInt32 = k) (hz : ¬ k < 0) (hl : k.toNatClampNeg = vs.length) (hk : k.toInt = (vs.length : Int)) (H : HasL cl 0 vs) : AA s s.heap r ty vs :=
  aa_of_arv (Arv.start (dv := .null) hf A q.1 q.2 hz hl H) hk
end Ex
set_option maxRecDepth 65536 in
set_option maxHeartbeats 40000000 in
theorem pick0 (l : Launch) (Z : State) (a0 : Array Value) (hw : ∀ d ∈ tables_1, d.before a0 Z = true) (n0 : Nat) (h0 : Heap) (Z0 : n0 ≤ h0.size) (x : Addr) (S : Sta Z h0 "com/example/proctor/proctor/policy/Constraint$Operator" "EQUAL" "Lcom/example/proctor/proctor/policy/Constraint$Operator;" (.ref x)) :
    Met l Z n0 y0_pick method_2_code 1 (Option.some (Jvm.ClassFile.FieldType.object "com/example/proctor/proctor/policy/Constraint$Operator")) ({ frames := 0, cells := 0, slots := 0, locals := 0 } : Room) #[(.int (0 : Int32))] h0 (fun v h => v = some (.ref x) ∧ h = h0) := by
  refine met_intro (own := c0_OperatorOrdersPinLaw) (plainFor_of_name pn_com_example_proctor_proctor_policy_OperatorOrdersPinLaw) rfl Z0 ?_
  intro p e s m below meth c T A hnm
  refine Wp.cast (g' := mkF m 0 #[iv 0] []) (by first | (simp [entryFrame, mkF, argsToLocals, Value.category, maxLocals, jv, S2, U0, iv, rv]; done) | rfl) ?_
  refine s_iloadN (pc' := 1) A d1_0 rfl rfl ?_
  refine s_ifN (pc' := 4) A d1_1 rfl (by decide) ?_
  refine s_getstatic (pc' := 7) (host := "") A (Or.inl (w5 hw)) Via.refl S d1_4 rfl fun T A => ?_
  exact r_ref A rfl rfl rfl d1_7 (by decide) (by decide) (⟨rfl, rfl⟩)
set_option maxRecDepth 65536 in
set_option maxHeartbeats 40000000 in
theorem pick1 (l : Launch) (Z : State) (a0 : Array Value) (hw : ∀ d ∈ tables_1, d.before a0 Z = true) (n0 : Nat) (h0 : Heap) (Z0 : n0 ≤ h0.size) (x : Addr) (S : Sta Z h0 "com/example/proctor/proctor/policy/Constraint$Operator" "NOT_EQUAL" "Lcom/example/proctor/proctor/policy/Constraint$Operator;" (.ref x)) :
    Met l Z n0 y0_pick method_2_code 1 (Option.some (Jvm.ClassFile.FieldType.object "com/example/proctor/proctor/policy/Constraint$Operator")) ({ frames := 0, cells := 0, slots := 0, locals := 0 } : Room) #[(.int (1 : Int32))] h0 (fun v h => v = some (.ref x) ∧ h = h0) := by
  refine met_intro (own := c0_OperatorOrdersPinLaw) (plainFor_of_name pn_com_example_proctor_proctor_policy_OperatorOrdersPinLaw) rfl Z0 ?_
  intro p e s m below meth c T A hnm
  refine Wp.cast (g' := mkF m 0 #[iv 1] []) (by first | (simp [entryFrame, mkF, argsToLocals, Value.category, maxLocals, jv, S2, U0, iv, rv]; done) | rfl) ?_
  refine s_iloadN (pc' := 1) A d1_0 rfl rfl ?_
  refine s_ifY (pc' := 8) A d1_1 (by decide) (by decide) (by decide) ?_
  refine s_iloadN (pc' := 9) A d1_8 rfl rfl ?_
  refine s_iconst (pc' := 10) (z := (1 : Int32)) A d1_9 rfl (by decide) ?_
  refine s_icmpN (pc' := 13) A d1_10 rfl (by decide) ?_
  refine s_getstatic (pc' := 16) (host := "") A (Or.inl (w60 hw)) Via.refl S d1_13 rfl fun T A => ?_
  exact r_ref A rfl rfl rfl d1_16 (by decide) (by decide) (⟨rfl, rfl⟩)
set_option maxRecDepth 65536 in
set_option maxHeartbeats 40000000 in
theorem pick2 (l : Launch) (Z : State) (a0 : Array Value) (hw : ∀ d ∈ tables_1, d.before a0 Z = true) (n0 : Nat) (h0 : Heap) (Z0 : n0 ≤ h0.size) (x : Addr) (S : Sta Z h0 "com/example/proctor/proctor/policy/Constraint$Operator" "LESS" "Lcom/example/proctor/proctor/policy/Constraint$Operator;" (.ref x)) :
    Met l Z n0 y0_pick method_2_code 1 (Option.some (Jvm.ClassFile.FieldType.object "com/example/proctor/proctor/policy/Constraint$Operator")) ({ frames := 0, cells := 0, slots := 0, locals := 0 } : Room) #[(.int (2 : Int32))] h0 (fun v h => v = some (.ref x) ∧ h = h0) := by
  refine met_intro (own := c0_OperatorOrdersPinLaw) (plainFor_of_name pn_com_example_proctor_proctor_policy_OperatorOrdersPinLaw) rfl Z0 ?_
  intro p e s m below meth c T A hnm
  refine Wp.cast (g' := mkF m 0 #[iv 2] []) (by first | (simp [entryFrame, mkF, argsToLocals, Value.category, maxLocals, jv, S2, U0, iv, rv]; done) | rfl) ?_
  refine s_iloadN (pc' := 1) A d1_0 rfl rfl ?_
  refine s_ifY (pc' := 8) A d1_1 (by decide) (by decide) (by decide) ?_
  refine s_iloadN (pc' := 9) A d1_8 rfl rfl ?_
  refine s_iconst (pc' := 10) (z := (1 : Int32)) A d1_9 rfl (by decide) ?_
  refine s_icmpY (pc' := 17) A d1_10 (by decide) (by decide) (by decide) ?_
  refine s_iloadN (pc' := 18) A d1_17 rfl rfl ?_
  refine s_iconst (pc' := 19) (z := (2 : Int32)) A d1_18 rfl (by decide) ?_
  refine s_icmpN (pc' := 22) A d1_19 rfl (by decide) ?_
  refine s_getstatic (pc' := 25) (host := "") A (Or.inl (w58 hw)) Via.refl S d1_22 rfl fun T A => ?_
  exact r_ref A rfl rfl rfl d1_25 (by decide) (by decide) (⟨rfl, rfl⟩)
set_option maxRecDepth 65536 in
set_option maxHeartbeats 40000000 in
theorem pick3 (l : Launch) (Z : State) (a0 : Array Value) (hw : ∀ d ∈ tables_1, d.before a0 Z = true) (n0 : Nat) (h0 : Heap) (Z0 : n0 ≤ h0.size) (x : Addr) (S : Sta Z h0 "com/example/proctor/proctor/policy/Constraint$Operator" "AT_MOST" "Lcom/example/proctor/proctor/policy/Constraint$Operator;" (.ref x)) :
    Met l Z n0 y0_pick method_2_code 1 (Option.some (Jvm.ClassFile.FieldType.object "com/example/proctor/proctor/policy/Constraint$Operator")) ({ frames := 0, cells := 0, slots := 0, locals := 0 } : Room) #[(.int (3 : Int32))] h0 (fun v h => v = some (.ref x) ∧ h = h0) := by
  refine met_intro (own := c0_OperatorOrdersPinLaw) (plainFor_of_name pn_com_example_proctor_proctor_policy_OperatorOrdersPinLaw) rfl Z0 ?_
  intro p e s m below meth c T A hnm
  refine Wp.cast (g' := mkF m 0 #[iv 3] []) (by first | (simp [entryFrame, mkF, argsToLocals, Value.category, maxLocals, jv, S2, U0, iv, rv]; done) | rfl) ?_
  refine s_iloadN (pc' := 1) A d1_0 rfl rfl ?_
  refine s_ifY (pc' := 8) A d1_1 (by decide) (by decide) (by decide) ?_
  refine s_iloadN (pc' := 9) A d1_8 rfl rfl ?_
  refine s_iconst (pc' := 10) (z := (1 : Int32)) A d1_9 rfl (by decide) ?_
  refine s_icmpY (pc' := 17) A d1_10 (by decide) (by decide) (by decide) ?_
  refine s_iloadN (pc' := 18) A d1_17 rfl rfl ?_
  refine s_iconst (pc' := 19) (z := (2 : Int32)) A d1_18 rfl (by decide) ?_
  refine s_icmpY (pc' := 26) A d1_19 (by decide) (by decide) (by decide) ?_
  refine s_iloadN (pc' := 27) A d1_26 rfl rfl ?_
  refine s_iconst (pc' := 28) (z := (3 : Int32)) A d1_27 rfl (by decide) ?_
  refine s_icmpN (pc' := 31) A d1_28 rfl (by decide) ?_
  refine s_getstatic (pc' := 34) (host := "") A (Or.inl (w54 hw)) Via.refl S d1_31 rfl fun T A => ?_
  exact r_ref A rfl rfl rfl d1_34 (by decide) (by decide) (⟨rfl, rfl⟩)
set_option maxRecDepth 65536 in
set_option maxHeartbeats 40000000 in
theorem pick4 (l : Launch) (Z : State) (a0 : Array Value) (hw : ∀ d ∈ tables_1, d.before a0 Z = true) (n0 : Nat) (h0 : Heap) (Z0 : n0 ≤ h0.size) (x : Addr) (S : Sta Z h0 "com/example/proctor/proctor/policy/Constraint$Operator" "GREATER" "Lcom/example/proctor/proctor/policy/Constraint$Operator;" (.ref x)) :
    Met l Z n0 y0_pick method_2_code 1 (Option.some (Jvm.ClassFile.FieldType.object "com/example/proctor/proctor/policy/Constraint$Operator")) ({ frames := 0, cells := 0, slots := 0, locals := 0 } : Room) #[(.int (4 : Int32))] h0 (fun v h => v = some (.ref x) ∧ h = h0) := by
  refine met_intro (own := c0_OperatorOrdersPinLaw) (plainFor_of_name pn_com_example_proctor_proctor_policy_OperatorOrdersPinLaw) rfl Z0 ?_
  intro p e s m below meth c T A hnm
  refine Wp.cast (g' := mkF m 0 #[iv 4] []) (by first | (simp [entryFrame, mkF, argsToLocals, Value.category, maxLocals, jv, S2, U0, iv, rv]; done) | rfl) ?_
  refine s_iloadN (pc' := 1) A d1_0 rfl rfl ?_
  refine s_ifY (pc' := 8) A d1_1 (by decide) (by decide) (by decide) ?_
  refine s_iloadN (pc' := 9) A d1_8 rfl rfl ?_
  refine s_iconst (pc' := 10) (z := (1 : Int32)) A d1_9 rfl (by decide) ?_
  refine s_icmpY (pc' := 17) A d1_10 (by decide) (by decide) (by decide) ?_
  refine s_iloadN (pc' := 18) A d1_17 rfl rfl ?_
  refine s_iconst (pc' := 19) (z := (2 : Int32)) A d1_18 rfl (by decide) ?_
  refine s_icmpY (pc' := 26) A d1_19 (by decide) (by decide) (by decide) ?_
  refine s_iloadN (pc' := 27) A d1_26 rfl rfl ?_
  refine s_iconst (pc' := 28) (z := (3 : Int32)) A d1_27 rfl (by decide) ?_
  refine s_icmpY (pc' := 35) A d1_28 (by decide) (by decide) (by decide) ?_
  refine s_iloadN (pc' := 36) A d1_35 rfl rfl ?_
  refine s_iconst (pc' := 37) (z := (4 : Int32)) A d1_36 rfl (by decide) ?_
  refine s_icmpN (pc' := 40) A d1_37 rfl (by decide) ?_
  refine s_getstatic (pc' := 43) (host := "") A (Or.inl (w63 hw)) Via.refl S d1_40 rfl fun T A => ?_
  exact r_ref A rfl rfl rfl d1_43 (by decide) (by decide) (⟨rfl, rfl⟩)
set_option maxRecDepth 65536 in
set_option maxHeartbeats 40000000 in
theorem pick5 (l : Launch) (Z : State) (a0 : Array Value) (hw : ∀ d ∈ tables_1, d.before a0 Z = true) (n0 : Nat) (h0 : Heap) (Z0 : n0 ≤ h0.size) (x : Addr) (S : Sta Z h0 "com/example/proctor/proctor/policy/Constraint$Operator" "AT_LEAST" "Lcom/example/proctor/proctor/policy/Constraint$Operator;" (.ref x)) :
    Met l Z n0 y0_pick method_2_code 1 (Option.some (Jvm.ClassFile.FieldType.object "com/example/proctor/proctor/policy/Constraint$Operator")) ({ frames := 0, cells := 0, slots := 0, locals := 0 } : Room) #[(.int (5 : Int32))] h0 (fun v h => v = some (.ref x) ∧ h = h0) := by
  refine met_intro (own := c0_OperatorOrdersPinLaw) (plainFor_of_name pn_com_example_proctor_proctor_policy_OperatorOrdersPinLaw) rfl Z0 ?_
  intro p e s m below meth c T A hnm
  refine Wp.cast (g' := mkF m 0 #[iv 5] []) (by first | (simp [entryFrame, mkF, argsToLocals, Value.category, maxLocals, jv, S2, U0, iv, rv]; done) | rfl) ?_
  refine s_iloadN (pc' := 1) A d1_0 rfl rfl ?_
  refine s_ifY (pc' := 8) A d1_1 (by decide) (by decide) (by decide) ?_
  refine s_iloadN (pc' := 9) A d1_8 rfl rfl ?_
  refine s_iconst (pc' := 10) (z := (1 : Int32)) A d1_9 rfl (by decide) ?_
  refine s_icmpY (pc' := 17) A d1_10 (by decide) (by decide) (by decide) ?_
  refine s_iloadN (pc' := 18) A d1_17 rfl rfl ?_
  refine s_iconst (pc' := 19) (z := (2 : Int32)) A d1_18 rfl (by decide) ?_
  refine s_icmpY (pc' := 26) A d1_19 (by decide) (by decide) (by decide) ?_
  refine s_iloadN (pc' := 27) A d1_26 rfl rfl ?_
  refine s_iconst (pc' := 28) (z := (3 : Int32)) A d1_27 rfl (by decide) ?_
  refine s_icmpY (pc' := 35) A d1_28 (by decide) (by decide) (by decide) ?_
  refine s_iloadN (pc' := 36) A d1_35 rfl rfl ?_
  refine s_iconst (pc' := 37) (z := (4 : Int32)) A d1_36 rfl (by decide) ?_
  refine s_icmpY (pc' := 44) A d1_37 (by decide) (by decide) (by decide) ?_
  refine s_getstatic (pc' := 47) (host := "") A (Or.inl (w61 hw)) Via.refl S d1_44 rfl fun T A => ?_
  exact r_ref A rfl rfl rfl d1_47 (by decide) (by decide) (⟨rfl, rfl⟩)
set_option maxRecDepth 65536 in
set_option maxHeartbeats 40000000 in
theorem coder (l : Launch) (Z : State) (a0 : Array Value) (hw : ∀ d ∈ tables_1, d.before a0 Z = true) (n0 : Nat) (h0 : Heap) (Z0 : n0 ≤ h0.size) (sy : Addr) (cz : Int32) (S : Sta Z h0 "java/lang/String" "COMPACT_STRINGS" "Z" (.int cz)) (ncz : ¬ cz = (0 : Int32)) (Fc : Fld Z h0 sy "java/lang/String" "coder" "B" (.int (0 : Int32))) :
    Met l Z n0 y1_coder jdk_42_method_152_code 1 (Option.some Jvm.ClassFile.FieldType.byte) ({ frames := 0, cells := 0, slots := 0, locals := 0 } : Room) #[(.ref sy)] h0 (fun v h => v = some (.int 0) ∧ h = h0) := by
  refine met_intro (own := c1_String) (plainFor_of_name pn_java_lang_String) rfl Z0 ?_
  intro p e s m below meth c T A hnm
  refine Wp.cast (g' := mkF m 0 #[rv sy] []) (by first | (simp [entryFrame, mkF, argsToLocals, Value.category, maxLocals, jv, S2, U0, iv, rv]; done) | rfl) ?_
  refine s_getstatic (pc' := 3) (host := "") A (Or.inl (w23 hw)) Via.refl S d3_0 rfl fun T A => ?_
  refine s_ifN (pc' := 6) A d3_3 rfl ((if0 _ _).trans (feq ncz).1) ?_
  refine s_aloadN (pc' := 7) A d3_6 rfl rfl rfl ?_
  refine s_getfield (pc' := 10) (host := "") A (Or.inl (w24 hw)) Via.refl Fc d3_7 rfl fun T A => ?_
  refine s_goto (pc' := 14) A d3_10 (by decide) (by decide) ?_
  exact r_small A rfl (by simp) (by decide) d3_14 (by decide) (by decide) (⟨rfl, rfl⟩)
set_option maxRecDepth 65536 in
set_option maxHeartbeats 40000000 in
theorem isl1 (l : Launch) (Z : State) (a0 : Array Value) (hw : ∀ d ∈ tables_1, d.before a0 Z = true) (n0 : Nat) (h0 : Heap) (Z0 : n0 ≤ h0.size) (sy : Addr) (cz : Int32) (S : Sta Z h0 "java/lang/String" "COMPACT_STRINGS" "Z" (.int cz)) (ncz : ¬ cz = (0 : Int32)) (Fc : Fld Z h0 sy "java/lang/String" "coder" "B" (.int (0 : Int32))) :
    Met l Z n0 y2_isLatin1 jdk_42_method_154_code 1 (Option.some Jvm.ClassFile.FieldType.boolean) ({ frames := 0, cells := 0, slots := 0, locals := 0 } : Room) #[(.ref sy)] h0 (fun v h => v = some (.int 1) ∧ h = h0) := by
  refine met_intro (own := c1_String) (plainFor_of_name pn_java_lang_String) rfl Z0 ?_
  intro p e s m below meth c T A hnm
  refine Wp.cast (g' := mkF m 0 #[rv sy] []) (by first | (simp [entryFrame, mkF, argsToLocals, Value.category, maxLocals, jv, S2, U0, iv, rv]; done) | rfl) ?_
  refine s_getstatic (pc' := 3) (host := "") A (Or.inl (w23 hw)) Via.refl S d5_0 rfl fun T A => ?_
  refine s_ifN (pc' := 6) A d5_3 rfl ((if0 _ _).trans (feq ncz).1) ?_
  refine s_aloadN (pc' := 7) A d5_6 rfl rfl rfl ?_
  refine s_getfield (pc' := 10) (host := "") A (Or.inl (w24 hw)) Via.refl Fc d5_7 rfl fun T A => ?_
  refine s_ifN (pc' := 13) A d5_10 rfl (by decide) ?_
  refine s_iconst (pc' := 14) (z := (1 : Int32)) A d5_13 rfl (by decide) ?_
  refine s_goto (pc' := 18) A d5_14 (by decide) (by decide) ?_
  exact r_bool A rfl (by decide) d5_18 (by decide) (by decide) (⟨rfl, rfl⟩)
set_option maxRecDepth 65536 in
set_option maxHeartbeats 40000000 in
theorem pchk (l : Launch) (Z : State) (a0 : Array Value) (hw : ∀ d ∈ tables_1, d.before a0 Z = true) (n0 : Nat) (h0 : Heap) (Z0 : n0 ≤ h0.size) (i k : Int32) (fv : Value) (hfv : fv.isRef = true) (h1 : ¬ i < (0 : Int32)) (h2 : i < k) :
    Met l Z n0 y3_checkIndex jdk_41_method_11_code 3 (Option.some Jvm.ClassFile.FieldType.int) ({ frames := 0, cells := 0, slots := 0, locals := 0 } : Room) #[(.int i), (.int k), fv] h0 (fun v h => v = some (.int i) ∧ h = h0) := by
  refine met_intro (own := c2_Preconditions) (plainFor_of_name pn_jdk_internal_util_Preconditions) rfl Z0 ?_
  intro p e s m below meth c T A hnm
  refine Wp.cast (g' := mkF m 0 #[iv i, iv k, .val fv] []) (by rcases ref_cases hfv with rfl | ⟨fa, rfl⟩ <;> simp [entryFrame, mkF, argsToLocals, Value.category]) ?_
  refine s_iloadN (pc' := 1) A d8_0 rfl rfl ?_
  refine s_ifN (pc' := 4) A d8_1 rfl ((if0 _ _).trans (flt h1).1) ?_
  refine s_iloadN (pc' := 5) A d8_4 rfl rfl ?_
  refine s_iloadN (pc' := 6) A d8_5 rfl rfl ?_
  refine s_icmpY (pc' := 16) A d8_6 (tlt h2).1 (by decide) (by decide) ?_
  refine s_iloadN (pc' := 17) A d8_16 rfl rfl ?_
  exact r_int A rfl d8_17 (by decide) (by decide) (⟨rfl, rfl⟩)
set_option maxRecDepth 65536 in
set_option maxHeartbeats 40000000 in
theorem schk (l : Launch) (Z : State) (a0 : Array Value) (hw : ∀ d ∈ tables_1, d.before a0 Z = true) (n0 : Nat) (h0 : Heap) (Z0 : n0 ≤ h0.size) (i k : Int32) (fv : Value) (hfv : fv.isRef = true) (Sf : Sta Z h0 "jdk/internal/util/Preconditions" "SIOOBE_FORMATTER" "Ljava/util/function/BiFunction;" fv) (h1 : ¬ i < (0 : Int32)) (h2 : i < k) :
    Met l Z n0 y4_checkIndex jdk_42_method_155_code 2 (Option.none : Option Jvm.ClassFile.FieldType) ({ frames := 1, cells := 0, slots := 0, locals := 14 } : Room) #[(.int i), (.int k)] h0 (fun v h => v = none ∧ h = h0) := by
  refine met_intro (own := c1_String) (plainFor_of_name pn_java_lang_String) rfl Z0 ?_
  intro p e s m below meth c T A hnm
  refine Wp.cast (g' := mkF m 0 #[iv i, iv k] []) (by first | (simp [entryFrame, mkF, argsToLocals, Value.category, maxLocals, jv, S2, U0, iv, rv]; done) | rfl) ?_
  refine s_iloadN (pc' := 1) A d7_0 rfl rfl ?_
  refine s_iloadN (pc' := 2) A d7_1 rfl rfl ?_
  refine s_getstatic (pc' := 5) (host := "") A (Or.inl (w43 hw)) Via.refl Sf d7_2 rfl fun T A => ?_
  refine s_static (pc' := 8) (y := y3_checkIndex) (argsL := [(.int i), (.int k), fv]) (rest := []) A (pchk l Z a0 hw n0 h0 A.size i k fv hfv h1 h2) (w45 hw) (w46 hw) (w44 hw) (w47 hw) (by decide) pd__IILjava_util_function_BiFunction__I rfl (W := 0) (by decide) (by decide) (Nat.le_of_eq rfl) (by decide) (by decide) rfl rfl d7_5 rfl fun T h1 v2 A Q3 => ?_
  obtain ⟨rfl, eh⟩ := Q3
  rw [eh] at A
  refine Wp.stk (st' := [(.int i)]) rfl ?_
  refine s_pop (pc' := 9) A d7_8 rfl rfl ?_
  exact r_void A rfl d7_9 (by decide) (by decide) (⟨rfl, rfl⟩)
set_option maxRecDepth 65536 in
set_option maxHeartbeats 40000000 in
theorem lch0 (l : Launch) (Z : State) (a0 : Array Value) (hw : ∀ d ∈ tables_1, d.before a0 Z = true) (n0 : Nat) (h0 : Heap) (Z0 : n0 ≤ h0.size) (r : Addr) (fv : Value) (hfv : fv.isRef = true) (Sf : Sta Z h0 "jdk/internal/util/Preconditions" "SIOOBE_FORMATTER" "Ljava/util/function/BiFunction;" fv) (V : AA Z h0 r .byte [.int (33 : Int32), .int (61 : Int32)]) :
    Met l Z n0 y5_charAt jdk_43_method_2_code 2 (Option.some Jvm.ClassFile.FieldType.char) ({ frames := 2, cells := 0, slots := 0, locals := 27 } : Room) #[(.ref r), (.int (0 : Int32))] h0 (fun v h => v = some (.int (33 : Int32)) ∧ h = h0) := by
  refine met_intro (own := c3_StringLatin1) (plainFor_of_name pn_java_lang_StringLatin1) rfl Z0 ?_
  intro p e s m below meth c T A hnm
  refine Wp.cast (g' := mkF m 0 #[rv r, iv 0] []) (by first | (simp [entryFrame, mkF, argsToLocals, Value.category, maxLocals, jv, S2, U0, iv, rv]; done) | rfl) ?_
  refine s_iloadN (pc' := 1) A d6_0 rfl rfl ?_
  refine s_aloadN (pc' := 2) A d6_1 rfl rfl rfl ?_
  refine s_arraylength (pc' := 3) (z := (2 : Int32)) A V (by show _ = ((2 : Nat) : Int); decide) d6_2 rfl ?_
  refine s_static (pc' := 6) (y := y4_checkIndex) (argsL := [(.int (0 : Int32)), (.int (2 : Int32))]) (rest := []) A (schk l Z a0 hw n0 h0 A.size (0 : Int32) (2 : Int32) fv hfv Sf (by decide) (by decide)) (w40 hw) (w41 hw) (w14 hw) (w42 hw) (by decide) pd__II_V rfl (W := 0) (by decide) (by decide) (Nat.le_of_eq rfl) (by decide) (by decide) rfl rfl d6_3 rfl fun T h1 v2 A Q3 => ?_
  obtain ⟨rfl, eh⟩ := Q3
  rw [eh] at A
  refine Wp.stk (st' := []) rfl ?_
  refine s_aloadN (pc' := 7) A d6_6 rfl rfl rfl ?_
  refine s_iloadN (pc' := 8) A d6_7 rfl rfl ?_
  refine s_baload (pc' := 9) (i := 0) (v := (.int (33 : Int32))) A V (by decide) rfl d6_8 rfl ?_
  refine s_sipush (pc' := 12) (z := (255 : Int32)) A d6_9 rfl (by decide) ?_
  refine s_iand (pc' := 13) (z := (33 : Int32)) A d6_12 rfl (by decide) ?_
  refine s_i2c (pc' := 14) (z := (33 : Int32)) A d6_13 rfl (by decide) ?_
  exact r_small A rfl (by simp) (by decide) d6_14 (by decide) (by decide) (⟨rfl, rfl⟩)
set_option maxRecDepth 65536 in
set_option maxHeartbeats 40000000 in
theorem len0 (l : Launch) (Z : State) (a0 : Array Value) (hw : ∀ d ∈ tables_1, d.before a0 Z = true) (n0 : Nat) (h0 : Heap) (Z0 : n0 ≤ h0.size) (sy r : Addr) (cz : Int32) (S : Sta Z h0 "java/lang/String" "COMPACT_STRINGS" "Z" (.int cz)) (ncz : ¬ cz = (0 : Int32)) (Fc : Fld Z h0 sy "java/lang/String" "coder" "B" (.int (0 : Int32))) (E : Exa Z h0 sy "java/lang/String") (Fv : Fld Z h0 sy "java/lang/String" "value" "[B" (.ref r)) (V : AA Z h0 r .byte [.int (33 : Int32), .int (61 : Int32)]) :
    Met l Z n0 y6_length jdk_42_method_54_code 1 (Option.some Jvm.ClassFile.FieldType.int) ({ frames := 1, cells := 0, slots := 0, locals := 13 } : Room) #[(.ref sy)] h0 (fun v h => v = some (.int (2 : Int32)) ∧ h = h0) := by
  refine met_intro (own := c1_String) (plainFor_of_name pn_java_lang_String) rfl Z0 ?_
  intro p e s m below meth c T A hnm
  refine Wp.cast (g' := mkF m 0 #[rv sy] []) (by first | (simp [entryFrame, mkF, argsToLocals, Value.category, maxLocals, jv, S2, U0, iv, rv]; done) | rfl) ?_
  refine s_aloadN (pc' := 1) A d2_0 rfl rfl rfl ?_
  refine s_getfield (pc' := 4) (host := "") A (Or.inl (w16 hw)) Via.refl Fv d2_1 rfl fun T A => ?_
  refine s_arraylength (pc' := 5) (z := (2 : Int32)) A V (by show _ = ((2 : Nat) : Int); decide) d2_4 rfl ?_
  refine s_aloadN (pc' := 6) A d2_5 rfl rfl rfl ?_
  refine s_virtual (pc' := 9) (y := y1_coder) (argsL := []) (rest := [(.int (2 : Int32))]) (z := y1_coder) A E (coder l Z a0 hw n0 h0 A.size sy cz S ncz Fc) (w18 hw) (w19 hw) (nf_same (C := "") (w21 hw)) (w21 hw) (w20 hw) (w14 hw) (w22 hw) (by decide) pd___B rfl (W := 1) (by decide) (by decide) (Nat.le_of_eq rfl) (by decide) (by decide) rfl rfl d2_6 rfl fun T h1 v2 A Q3 => ?_
  obtain ⟨rfl, eh⟩ := Q3
  rw [eh] at A
  refine Wp.stk (st' := [(.int (0 : Int32)), (.int (2 : Int32))]) rfl ?_
  refine s_ishr (pc' := 10) (z := (2 : Int32)) A d2_9 rfl (by decide) ?_
  exact r_int A rfl d2_10 (by decide) (by decide) (⟨rfl, rfl⟩)
set_option maxRecDepth 65536 in
set_option maxHeartbeats 40000000 in
theorem cat0 (l : Launch) (Z : State) (a0 : Array Value) (hw : ∀ d ∈ tables_1, d.before a0 Z = true) (n0 : Nat) (h0 : Heap) (Z0 : n0 ≤ h0.size) (sy r : Addr) (cz : Int32) (fv : Value) (S : Sta Z h0 "java/lang/String" "COMPACT_STRINGS" "Z" (.int cz)) (ncz : ¬ cz = (0 : Int32)) (Fc : Fld Z h0 sy "java/lang/String" "coder" "B" (.int (0 : Int32))) (E : Exa Z h0 sy "java/lang/String") (Fv : Fld Z h0 sy "java/lang/String" "value" "[B" (.ref r)) (V : AA Z h0 r .byte [.int (33 : Int32), .int (61 : Int32)]) (hfv : fv.isRef = true) (Sf : Sta Z h0 "jdk/internal/util/Preconditions" "SIOOBE_FORMATTER" "Ljava/util/function/BiFunction;" fv) :
    Met l Z n0 y7_charAt jdk_42_method_56_code 2 (Option.some Jvm.ClassFile.FieldType.char) ({ frames := 3, cells := 0, slots := 0, locals := 40 } : Room) #[(.ref sy), (.int (0 : Int32))] h0 (fun v h => v = some (.int (33 : Int32)) ∧ h = h0) := by
  refine met_intro (own := c1_String) (plainFor_of_name pn_java_lang_String) rfl Z0 ?_
  intro p e s m below meth c T A hnm
  refine Wp.cast (g' := mkF m 0 #[rv sy, iv 0] []) (by first | (simp [entryFrame, mkF, argsToLocals, Value.category, maxLocals, jv, S2, U0, iv, rv]; done) | rfl) ?_
  refine s_aloadN (pc' := 1) A d4_0 rfl rfl rfl ?_
  refine s_virtual (pc' := 4) (y := y2_isLatin1) (argsL := []) (rest := []) (z := y2_isLatin1) A E (isl1 l Z a0 hw n0 h0 A.size sy cz S ncz Fc) (w31 hw) (w32 hw) (nf_same (C := "") (w34 hw)) (w34 hw) (w33 hw) (w14 hw) (w35 hw) (by decide) pd___Z rfl (W := 0) (by decide) (by decide) (Nat.le_of_eq rfl) (by decide) (by decide) rfl rfl d4_1 rfl fun T h1 v2 A Q3 => ?_
  obtain ⟨rfl, eh⟩ := Q3
  rw [eh] at A
  refine Wp.stk (st' := [(.int (1 : Int32))]) rfl ?_
  refine s_ifN (pc' := 7) A d4_4 rfl (by decide) ?_
  refine s_aloadN (pc' := 8) A d4_7 rfl rfl rfl ?_
  refine s_getfield (pc' := 11) (host := "") A (Or.inl (w16 hw)) Via.refl Fv d4_8 rfl fun T A => ?_
  refine s_iloadN (pc' := 12) A d4_11 rfl rfl ?_
  refine s_static (pc' := 15) (y := y5_charAt) (argsL := [(.ref r), (.int (0 : Int32))]) (rest := []) A (lch0 l Z a0 hw n0 h0 A.size r fv hfv Sf V) (w36 hw) (w37 hw) (w38 hw) (w39 hw) (by decide) pd___BI_C rfl (W := 0) (by decide) (by decide) (Nat.le_of_eq rfl) (by decide) (by decide) rfl rfl d4_12 rfl fun T h4 v5 A Q6 => ?_
  obtain ⟨rfl, eh⟩ := Q6
  rw [eh] at A
  refine Wp.stk (st' := [(.int (33 : Int32))]) rfl ?_
  exact r_small A rfl (by simp) (by decide) d4_15 (by decide) (by decide) (⟨rfl, rfl⟩)
set_option maxRecDepth 65536 in
set_option maxHeartbeats 40000000 in
theorem lch1 (l : Launch) (Z : State) (a0 : Array Value) (hw : ∀ d ∈ tables_1, d.before a0 Z = true) (n0 : Nat) (h0 : Heap) (Z0 : n0 ≤ h0.size) (r : Addr) (fv : Value) (hfv : fv.isRef = true) (Sf : Sta Z h0 "jdk/internal/util/Preconditions" "SIOOBE_FORMATTER" "Ljava/util/function/BiFunction;" fv) (V : AA Z h0 r .byte [.int (60 : Int32)]) :
    Met l Z n0 y5_charAt jdk_43_method_2_code 2 (Option.some Jvm.ClassFile.FieldType.char) ({ frames := 2, cells := 0, slots := 0, locals := 27 } : Room) #[(.ref r), (.int (0 : Int32))] h0 (fun v h => v = some (.int (60 : Int32)) ∧ h = h0) := by
  refine met_intro (own := c3_StringLatin1) (plainFor_of_name pn_java_lang_StringLatin1) rfl Z0 ?_
  intro p e s m below meth c T A hnm
  refine Wp.cast (g' := mkF m 0 #[rv r, iv 0] []) (by first | (simp [entryFrame, mkF, argsToLocals, Value.category, maxLocals, jv, S2, U0, iv, rv]; done) | rfl) ?_
  refine s_iloadN (pc' := 1) A d6_0 rfl rfl ?_
  refine s_aloadN (pc' := 2) A d6_1 rfl rfl rfl ?_
  refine s_arraylength (pc' := 3) (z := (1 : Int32)) A V (by show _ = ((1 : Nat) : Int); decide) d6_2 rfl ?_
  refine s_static (pc' := 6) (y := y4_checkIndex) (argsL := [(.int (0 : Int32)), (.int (1 : Int32))]) (rest := []) A (schk l Z a0 hw n0 h0 A.size (0 : Int32) (1 : Int32) fv hfv Sf (by decide) (by decide)) (w40 hw) (w41 hw) (w14 hw) (w42 hw) (by decide) pd__II_V rfl (W := 0) (by decide) (by decide) (Nat.le_of_eq rfl) (by decide) (by decide) rfl rfl d6_3 rfl fun T h1 v2 A Q3 => ?_
  obtain ⟨rfl, eh⟩ := Q3
  rw [eh] at A
  refine Wp.stk (st' := []) rfl ?_
  refine s_aloadN (pc' := 7) A d6_6 rfl rfl rfl ?_
  refine s_iloadN (pc' := 8) A d6_7 rfl rfl ?_
  refine s_baload (pc' := 9) (i := 0) (v := (.int (60 : Int32))) A V (by decide) rfl d6_8 rfl ?_
  refine s_sipush (pc' := 12) (z := (255 : Int32)) A d6_9 rfl (by decide) ?_
  refine s_iand (pc' := 13) (z := (60 : Int32)) A d6_12 rfl (by decide) ?_
  refine s_i2c (pc' := 14) (z := (60 : Int32)) A d6_13 rfl (by decide) ?_
  exact r_small A rfl (by simp) (by decide) d6_14 (by decide) (by decide) (⟨rfl, rfl⟩)
set_option maxRecDepth 65536 in
set_option maxHeartbeats 40000000 in
theorem len1 (l : Launch) (Z : State) (a0 : Array Value) (hw : ∀ d ∈ tables_1, d.before a0 Z = true) (n0 : Nat) (h0 : Heap) (Z0 : n0 ≤ h0.size) (sy r : Addr) (cz : Int32) (S : Sta Z h0 "java/lang/String" "COMPACT_STRINGS" "Z" (.int cz)) (ncz : ¬ cz = (0 : Int32)) (Fc : Fld Z h0 sy "java/lang/String" "coder" "B" (.int (0 : Int32))) (E : Exa Z h0 sy "java/lang/String") (Fv : Fld Z h0 sy "java/lang/String" "value" "[B" (.ref r)) (V : AA Z h0 r .byte [.int (60 : Int32)]) :
    Met l Z n0 y6_length jdk_42_method_54_code 1 (Option.some Jvm.ClassFile.FieldType.int) ({ frames := 1, cells := 0, slots := 0, locals := 13 } : Room) #[(.ref sy)] h0 (fun v h => v = some (.int (1 : Int32)) ∧ h = h0) := by
  refine met_intro (own := c1_String) (plainFor_of_name pn_java_lang_String) rfl Z0 ?_
  intro p e s m below meth c T A hnm
  refine Wp.cast (g' := mkF m 0 #[rv sy] []) (by first | (simp [entryFrame, mkF, argsToLocals, Value.category, maxLocals, jv, S2, U0, iv, rv]; done) | rfl) ?_
  refine s_aloadN (pc' := 1) A d2_0 rfl rfl rfl ?_
  refine s_getfield (pc' := 4) (host := "") A (Or.inl (w16 hw)) Via.refl Fv d2_1 rfl fun T A => ?_
  refine s_arraylength (pc' := 5) (z := (1 : Int32)) A V (by show _ = ((1 : Nat) : Int); decide) d2_4 rfl ?_
  refine s_aloadN (pc' := 6) A d2_5 rfl rfl rfl ?_
  refine s_virtual (pc' := 9) (y := y1_coder) (argsL := []) (rest := [(.int (1 : Int32))]) (z := y1_coder) A E (coder l Z a0 hw n0 h0 A.size sy cz S ncz Fc) (w18 hw) (w19 hw) (nf_same (C := "") (w21 hw)) (w21 hw) (w20 hw) (w14 hw) (w22 hw) (by decide) pd___B rfl (W := 1) (by decide) (by decide) (Nat.le_of_eq rfl) (by decide) (by decide) rfl rfl d2_6 rfl fun T h1 v2 A Q3 => ?_
  obtain ⟨rfl, eh⟩ := Q3
  rw [eh] at A
  refine Wp.stk (st' := [(.int (0 : Int32)), (.int (1 : Int32))]) rfl ?_
  refine s_ishr (pc' := 10) (z := (1 : Int32)) A d2_9 rfl (by decide) ?_
  exact r_int A rfl d2_10 (by decide) (by decide) (⟨rfl, rfl⟩)
set_option maxRecDepth 65536 in
set_option maxHeartbeats 40000000 in
theorem cat1 (l : Launch) (Z : State) (a0 : Array Value) (hw : ∀ d ∈ tables_1, d.before a0 Z = true) (n0 : Nat) (h0 : Heap) (Z0 : n0 ≤ h0.size) (sy r : Addr) (cz : Int32) (fv : Value) (S : Sta Z h0 "java/lang/String" "COMPACT_STRINGS" "Z" (.int cz)) (ncz : ¬ cz = (0 : Int32)) (Fc : Fld Z h0 sy "java/lang/String" "coder" "B" (.int (0 : Int32))) (E : Exa Z h0 sy "java/lang/String") (Fv : Fld Z h0 sy "java/lang/String" "value" "[B" (.ref r)) (V : AA Z h0 r .byte [.int (60 : Int32)]) (hfv : fv.isRef = true) (Sf : Sta Z h0 "jdk/internal/util/Preconditions" "SIOOBE_FORMATTER" "Ljava/util/function/BiFunction;" fv) :
    Met l Z n0 y7_charAt jdk_42_method_56_code 2 (Option.some Jvm.ClassFile.FieldType.char) ({ frames := 3, cells := 0, slots := 0, locals := 40 } : Room) #[(.ref sy), (.int (0 : Int32))] h0 (fun v h => v = some (.int (60 : Int32)) ∧ h = h0) := by
  refine met_intro (own := c1_String) (plainFor_of_name pn_java_lang_String) rfl Z0 ?_
  intro p e s m below meth c T A hnm
  refine Wp.cast (g' := mkF m 0 #[rv sy, iv 0] []) (by first | (simp [entryFrame, mkF, argsToLocals, Value.category, maxLocals, jv, S2, U0, iv, rv]; done) | rfl) ?_
  refine s_aloadN (pc' := 1) A d4_0 rfl rfl rfl ?_
  refine s_virtual (pc' := 4) (y := y2_isLatin1) (argsL := []) (rest := []) (z := y2_isLatin1) A E (isl1 l Z a0 hw n0 h0 A.size sy cz S ncz Fc) (w31 hw) (w32 hw) (nf_same (C := "") (w34 hw)) (w34 hw) (w33 hw) (w14 hw) (w35 hw) (by decide) pd___Z rfl (W := 0) (by decide) (by decide) (Nat.le_of_eq rfl) (by decide) (by decide) rfl rfl d4_1 rfl fun T h1 v2 A Q3 => ?_
  obtain ⟨rfl, eh⟩ := Q3
  rw [eh] at A
  refine Wp.stk (st' := [(.int (1 : Int32))]) rfl ?_
  refine s_ifN (pc' := 7) A d4_4 rfl (by decide) ?_
  refine s_aloadN (pc' := 8) A d4_7 rfl rfl rfl ?_
  refine s_getfield (pc' := 11) (host := "") A (Or.inl (w16 hw)) Via.refl Fv d4_8 rfl fun T A => ?_
  refine s_iloadN (pc' := 12) A d4_11 rfl rfl ?_
  refine s_static (pc' := 15) (y := y5_charAt) (argsL := [(.ref r), (.int (0 : Int32))]) (rest := []) A (lch1 l Z a0 hw n0 h0 A.size r fv hfv Sf V) (w36 hw) (w37 hw) (w38 hw) (w39 hw) (by decide) pd___BI_C rfl (W := 0) (by decide) (by decide) (Nat.le_of_eq rfl) (by decide) (by decide) rfl rfl d4_12 rfl fun T h4 v5 A Q6 => ?_
  obtain ⟨rfl, eh⟩ := Q6
  rw [eh] at A
  refine Wp.stk (st' := [(.int (60 : Int32))]) rfl ?_
  exact r_small A rfl (by simp) (by decide) d4_15 (by decide) (by decide) (⟨rfl, rfl⟩)
set_option maxRecDepth 65536 in
set_option maxHeartbeats 40000000 in
theorem lch2 (l : Launch) (Z : State) (a0 : Array Value) (hw : ∀ d ∈ tables_1, d.before a0 Z = true) (n0 : Nat) (h0 : Heap) (Z0 : n0 ≤ h0.size) (r : Addr) (fv : Value) (hfv : fv.isRef = true) (Sf : Sta Z h0 "jdk/internal/util/Preconditions" "SIOOBE_FORMATTER" "Ljava/util/function/BiFunction;" fv) (V : AA Z h0 r .byte [.int (60 : Int32), .int (61 : Int32)]) :
    Met l Z n0 y5_charAt jdk_43_method_2_code 2 (Option.some Jvm.ClassFile.FieldType.char) ({ frames := 2, cells := 0, slots := 0, locals := 27 } : Room) #[(.ref r), (.int (0 : Int32))] h0 (fun v h => v = some (.int (60 : Int32)) ∧ h = h0) := by
  refine met_intro (own := c3_StringLatin1) (plainFor_of_name pn_java_lang_StringLatin1) rfl Z0 ?_
  intro p e s m below meth c T A hnm
  refine Wp.cast (g' := mkF m 0 #[rv r, iv 0] []) (by first | (simp [entryFrame, mkF, argsToLocals, Value.category, maxLocals, jv, S2, U0, iv, rv]; done) | rfl) ?_
  refine s_iloadN (pc' := 1) A d6_0 rfl rfl ?_
  refine s_aloadN (pc' := 2) A d6_1 rfl rfl rfl ?_
  refine s_arraylength (pc' := 3) (z := (2 : Int32)) A V (by show _ = ((2 : Nat) : Int); decide) d6_2 rfl ?_
  refine s_static (pc' := 6) (y := y4_checkIndex) (argsL := [(.int (0 : Int32)), (.int (2 : Int32))]) (rest := []) A (schk l Z a0 hw n0 h0 A.size (0 : Int32) (2 : Int32) fv hfv Sf (by decide) (by decide)) (w40 hw) (w41 hw) (w14 hw) (w42 hw) (by decide) pd__II_V rfl (W := 0) (by decide) (by decide) (Nat.le_of_eq rfl) (by decide) (by decide) rfl rfl d6_3 rfl fun T h1 v2 A Q3 => ?_
  obtain ⟨rfl, eh⟩ := Q3
  rw [eh] at A
  refine Wp.stk (st' := []) rfl ?_
  refine s_aloadN (pc' := 7) A d6_6 rfl rfl rfl ?_
  refine s_iloadN (pc' := 8) A d6_7 rfl rfl ?_
  refine s_baload (pc' := 9) (i := 0) (v := (.int (60 : Int32))) A V (by decide) rfl d6_8 rfl ?_
  refine s_sipush (pc' := 12) (z := (255 : Int32)) A d6_9 rfl (by decide) ?_
  refine s_iand (pc' := 13) (z := (60 : Int32)) A d6_12 rfl (by decide) ?_
  refine s_i2c (pc' := 14) (z := (60 : Int32)) A d6_13 rfl (by decide) ?_
  exact r_small A rfl (by simp) (by decide) d6_14 (by decide) (by decide) (⟨rfl, rfl⟩)
set_option maxRecDepth 65536 in
set_option maxHeartbeats 40000000 in
theorem len2 (l : Launch) (Z : State) (a0 : Array Value) (hw : ∀ d ∈ tables_1, d.before a0 Z = true) (n0 : Nat) (h0 : Heap) (Z0 : n0 ≤ h0.size) (sy r : Addr) (cz : Int32) (S : Sta Z h0 "java/lang/String" "COMPACT_STRINGS" "Z" (.int cz)) (ncz : ¬ cz = (0 : Int32)) (Fc : Fld Z h0 sy "java/lang/String" "coder" "B" (.int (0 : Int32))) (E : Exa Z h0 sy "java/lang/String") (Fv : Fld Z h0 sy "java/lang/String" "value" "[B" (.ref r)) (V : AA Z h0 r .byte [.int (60 : Int32), .int (61 : Int32)]) :
    Met l Z n0 y6_length jdk_42_method_54_code 1 (Option.some Jvm.ClassFile.FieldType.int) ({ frames := 1, cells := 0, slots := 0, locals := 13 } : Room) #[(.ref sy)] h0 (fun v h => v = some (.int (2 : Int32)) ∧ h = h0) := by
  refine met_intro (own := c1_String) (plainFor_of_name pn_java_lang_String) rfl Z0 ?_
  intro p e s m below meth c T A hnm
  refine Wp.cast (g' := mkF m 0 #[rv sy] []) (by first | (simp [entryFrame, mkF, argsToLocals, Value.category, maxLocals, jv, S2, U0, iv, rv]; done) | rfl) ?_
  refine s_aloadN (pc' := 1) A d2_0 rfl rfl rfl ?_
  refine s_getfield (pc' := 4) (host := "") A (Or.inl (w16 hw)) Via.refl Fv d2_1 rfl fun T A => ?_
  refine s_arraylength (pc' := 5) (z := (2 : Int32)) A V (by show _ = ((2 : Nat) : Int); decide) d2_4 rfl ?_
  refine s_aloadN (pc' := 6) A d2_5 rfl rfl rfl ?_
  refine s_virtual (pc' := 9) (y := y1_coder) (argsL := []) (rest := [(.int (2 : Int32))]) (z := y1_coder) A E (coder l Z a0 hw n0 h0 A.size sy cz S ncz Fc) (w18 hw) (w19 hw) (nf_same (C := "") (w21 hw)) (w21 hw) (w20 hw) (w14 hw) (w22 hw) (by decide) pd___B rfl (W := 1) (by decide) (by decide) (Nat.le_of_eq rfl) (by decide) (by decide) rfl rfl d2_6 rfl fun T h1 v2 A Q3 => ?_
  obtain ⟨rfl, eh⟩ := Q3
  rw [eh] at A
  refine Wp.stk (st' := [(.int (0 : Int32)), (.int (2 : Int32))]) rfl ?_
  refine s_ishr (pc' := 10) (z := (2 : Int32)) A d2_9 rfl (by decide) ?_
  exact r_int A rfl d2_10 (by decide) (by decide) (⟨rfl, rfl⟩)
set_option maxRecDepth 65536 in
set_option maxHeartbeats 40000000 in
theorem cat2 (l : Launch) (Z : State) (a0 : Array Value) (hw : ∀ d ∈ tables_1, d.before a0 Z = true) (n0 : Nat) (h0 : Heap) (Z0 : n0 ≤ h0.size) (sy r : Addr) (cz : Int32) (fv : Value) (S : Sta Z h0 "java/lang/String" "COMPACT_STRINGS" "Z" (.int cz)) (ncz : ¬ cz = (0 : Int32)) (Fc : Fld Z h0 sy "java/lang/String" "coder" "B" (.int (0 : Int32))) (E : Exa Z h0 sy "java/lang/String") (Fv : Fld Z h0 sy "java/lang/String" "value" "[B" (.ref r)) (V : AA Z h0 r .byte [.int (60 : Int32), .int (61 : Int32)]) (hfv : fv.isRef = true) (Sf : Sta Z h0 "jdk/internal/util/Preconditions" "SIOOBE_FORMATTER" "Ljava/util/function/BiFunction;" fv) :
    Met l Z n0 y7_charAt jdk_42_method_56_code 2 (Option.some Jvm.ClassFile.FieldType.char) ({ frames := 3, cells := 0, slots := 0, locals := 40 } : Room) #[(.ref sy), (.int (0 : Int32))] h0 (fun v h => v = some (.int (60 : Int32)) ∧ h = h0) := by
  refine met_intro (own := c1_String) (plainFor_of_name pn_java_lang_String) rfl Z0 ?_
  intro p e s m below meth c T A hnm
  refine Wp.cast (g' := mkF m 0 #[rv sy, iv 0] []) (by first | (simp [entryFrame, mkF, argsToLocals, Value.category, maxLocals, jv, S2, U0, iv, rv]; done) | rfl) ?_
  refine s_aloadN (pc' := 1) A d4_0 rfl rfl rfl ?_
  refine s_virtual (pc' := 4) (y := y2_isLatin1) (argsL := []) (rest := []) (z := y2_isLatin1) A E (isl1 l Z a0 hw n0 h0 A.size sy cz S ncz Fc) (w31 hw) (w32 hw) (nf_same (C := "") (w34 hw)) (w34 hw) (w33 hw) (w14 hw) (w35 hw) (by decide) pd___Z rfl (W := 0) (by decide) (by decide) (Nat.le_of_eq rfl) (by decide) (by decide) rfl rfl d4_1 rfl fun T h1 v2 A Q3 => ?_
  obtain ⟨rfl, eh⟩ := Q3
  rw [eh] at A
  refine Wp.stk (st' := [(.int (1 : Int32))]) rfl ?_
  refine s_ifN (pc' := 7) A d4_4 rfl (by decide) ?_
  refine s_aloadN (pc' := 8) A d4_7 rfl rfl rfl ?_
  refine s_getfield (pc' := 11) (host := "") A (Or.inl (w16 hw)) Via.refl Fv d4_8 rfl fun T A => ?_
  refine s_iloadN (pc' := 12) A d4_11 rfl rfl ?_
  refine s_static (pc' := 15) (y := y5_charAt) (argsL := [(.ref r), (.int (0 : Int32))]) (rest := []) A (lch2 l Z a0 hw n0 h0 A.size r fv hfv Sf V) (w36 hw) (w37 hw) (w38 hw) (w39 hw) (by decide) pd___BI_C rfl (W := 0) (by decide) (by decide) (Nat.le_of_eq rfl) (by decide) (by decide) rfl rfl d4_12 rfl fun T h4 v5 A Q6 => ?_
  obtain ⟨rfl, eh⟩ := Q6
  rw [eh] at A
  refine Wp.stk (st' := [(.int (60 : Int32))]) rfl ?_
  exact r_small A rfl (by simp) (by decide) d4_15 (by decide) (by decide) (⟨rfl, rfl⟩)
set_option maxRecDepth 65536 in
set_option maxHeartbeats 40000000 in
theorem lch3 (l : Launch) (Z : State) (a0 : Array Value) (hw : ∀ d ∈ tables_1, d.before a0 Z = true) (n0 : Nat) (h0 : Heap) (Z0 : n0 ≤ h0.size) (r : Addr) (fv : Value) (hfv : fv.isRef = true) (Sf : Sta Z h0 "jdk/internal/util/Preconditions" "SIOOBE_FORMATTER" "Ljava/util/function/BiFunction;" fv) (V : AA Z h0 r .byte [.int (61 : Int32)]) :
    Met l Z n0 y5_charAt jdk_43_method_2_code 2 (Option.some Jvm.ClassFile.FieldType.char) ({ frames := 2, cells := 0, slots := 0, locals := 27 } : Room) #[(.ref r), (.int (0 : Int32))] h0 (fun v h => v = some (.int (61 : Int32)) ∧ h = h0) := by
  refine met_intro (own := c3_StringLatin1) (plainFor_of_name pn_java_lang_StringLatin1) rfl Z0 ?_
  intro p e s m below meth c T A hnm
  refine Wp.cast (g' := mkF m 0 #[rv r, iv 0] []) (by first | (simp [entryFrame, mkF, argsToLocals, Value.category, maxLocals, jv, S2, U0, iv, rv]; done) | rfl) ?_
  refine s_iloadN (pc' := 1) A d6_0 rfl rfl ?_
  refine s_aloadN (pc' := 2) A d6_1 rfl rfl rfl ?_
  refine s_arraylength (pc' := 3) (z := (1 : Int32)) A V (by show _ = ((1 : Nat) : Int); decide) d6_2 rfl ?_
  refine s_static (pc' := 6) (y := y4_checkIndex) (argsL := [(.int (0 : Int32)), (.int (1 : Int32))]) (rest := []) A (schk l Z a0 hw n0 h0 A.size (0 : Int32) (1 : Int32) fv hfv Sf (by decide) (by decide)) (w40 hw) (w41 hw) (w14 hw) (w42 hw) (by decide) pd__II_V rfl (W := 0) (by decide) (by decide) (Nat.le_of_eq rfl) (by decide) (by decide) rfl rfl d6_3 rfl fun T h1 v2 A Q3 => ?_
  obtain ⟨rfl, eh⟩ := Q3
  rw [eh] at A
  refine Wp.stk (st' := []) rfl ?_
  refine s_aloadN (pc' := 7) A d6_6 rfl rfl rfl ?_
  refine s_iloadN (pc' := 8) A d6_7 rfl rfl ?_
  refine s_baload (pc' := 9) (i := 0) (v := (.int (61 : Int32))) A V (by decide) rfl d6_8 rfl ?_
  refine s_sipush (pc' := 12) (z := (255 : Int32)) A d6_9 rfl (by decide) ?_
  refine s_iand (pc' := 13) (z := (61 : Int32)) A d6_12 rfl (by decide) ?_
  refine s_i2c (pc' := 14) (z := (61 : Int32)) A d6_13 rfl (by decide) ?_
  exact r_small A rfl (by simp) (by decide) d6_14 (by decide) (by decide) (⟨rfl, rfl⟩)
set_option maxRecDepth 65536 in
set_option maxHeartbeats 40000000 in
theorem len3 (l : Launch) (Z : State) (a0 : Array Value) (hw : ∀ d ∈ tables_1, d.before a0 Z = true) (n0 : Nat) (h0 : Heap) (Z0 : n0 ≤ h0.size) (sy r : Addr) (cz : Int32) (S : Sta Z h0 "java/lang/String" "COMPACT_STRINGS" "Z" (.int cz)) (ncz : ¬ cz = (0 : Int32)) (Fc : Fld Z h0 sy "java/lang/String" "coder" "B" (.int (0 : Int32))) (E : Exa Z h0 sy "java/lang/String") (Fv : Fld Z h0 sy "java/lang/String" "value" "[B" (.ref r)) (V : AA Z h0 r .byte [.int (61 : Int32)]) :
    Met l Z n0 y6_length jdk_42_method_54_code 1 (Option.some Jvm.ClassFile.FieldType.int) ({ frames := 1, cells := 0, slots := 0, locals := 13 } : Room) #[(.ref sy)] h0 (fun v h => v = some (.int (1 : Int32)) ∧ h = h0) := by
  refine met_intro (own := c1_String) (plainFor_of_name pn_java_lang_String) rfl Z0 ?_
  intro p e s m below meth c T A hnm
  refine Wp.cast (g' := mkF m 0 #[rv sy] []) (by first | (simp [entryFrame, mkF, argsToLocals, Value.category, maxLocals, jv, S2, U0, iv, rv]; done) | rfl) ?_
  refine s_aloadN (pc' := 1) A d2_0 rfl rfl rfl ?_
  refine s_getfield (pc' := 4) (host := "") A (Or.inl (w16 hw)) Via.refl Fv d2_1 rfl fun T A => ?_
  refine s_arraylength (pc' := 5) (z := (1 : Int32)) A V (by show _ = ((1 : Nat) : Int); decide) d2_4 rfl ?_
  refine s_aloadN (pc' := 6) A d2_5 rfl rfl rfl ?_
  refine s_virtual (pc' := 9) (y := y1_coder) (argsL := []) (rest := [(.int (1 : Int32))]) (z := y1_coder) A E (coder l Z a0 hw n0 h0 A.size sy cz S ncz Fc) (w18 hw) (w19 hw) (nf_same (C := "") (w21 hw)) (w21 hw) (w20 hw) (w14 hw) (w22 hw) (by decide) pd___B rfl (W := 1) (by decide) (by decide) (Nat.le_of_eq rfl) (by decide) (by decide) rfl rfl d2_6 rfl fun T h1 v2 A Q3 => ?_
  obtain ⟨rfl, eh⟩ := Q3
  rw [eh] at A
  refine Wp.stk (st' := [(.int (0 : Int32)), (.int (1 : Int32))]) rfl ?_
  refine s_ishr (pc' := 10) (z := (1 : Int32)) A d2_9 rfl (by decide) ?_
  exact r_int A rfl d2_10 (by decide) (by decide) (⟨rfl, rfl⟩)
set_option maxRecDepth 65536 in
set_option maxHeartbeats 40000000 in
theorem cat3 (l : Launch) (Z : State) (a0 : Array Value) (hw : ∀ d ∈ tables_1, d.before a0 Z = true) (n0 : Nat) (h0 : Heap) (Z0 : n0 ≤ h0.size) (sy r : Addr) (cz : Int32) (fv : Value) (S : Sta Z h0 "java/lang/String" "COMPACT_STRINGS" "Z" (.int cz)) (ncz : ¬ cz = (0 : Int32)) (Fc : Fld Z h0 sy "java/lang/String" "coder" "B" (.int (0 : Int32))) (E : Exa Z h0 sy "java/lang/String") (Fv : Fld Z h0 sy "java/lang/String" "value" "[B" (.ref r)) (V : AA Z h0 r .byte [.int (61 : Int32)]) (hfv : fv.isRef = true) (Sf : Sta Z h0 "jdk/internal/util/Preconditions" "SIOOBE_FORMATTER" "Ljava/util/function/BiFunction;" fv) :
    Met l Z n0 y7_charAt jdk_42_method_56_code 2 (Option.some Jvm.ClassFile.FieldType.char) ({ frames := 3, cells := 0, slots := 0, locals := 40 } : Room) #[(.ref sy), (.int (0 : Int32))] h0 (fun v h => v = some (.int (61 : Int32)) ∧ h = h0) := by
  refine met_intro (own := c1_String) (plainFor_of_name pn_java_lang_String) rfl Z0 ?_
  intro p e s m below meth c T A hnm
  refine Wp.cast (g' := mkF m 0 #[rv sy, iv 0] []) (by first | (simp [entryFrame, mkF, argsToLocals, Value.category, maxLocals, jv, S2, U0, iv, rv]; done) | rfl) ?_
  refine s_aloadN (pc' := 1) A d4_0 rfl rfl rfl ?_
  refine s_virtual (pc' := 4) (y := y2_isLatin1) (argsL := []) (rest := []) (z := y2_isLatin1) A E (isl1 l Z a0 hw n0 h0 A.size sy cz S ncz Fc) (w31 hw) (w32 hw) (nf_same (C := "") (w34 hw)) (w34 hw) (w33 hw) (w14 hw) (w35 hw) (by decide) pd___Z rfl (W := 0) (by decide) (by decide) (Nat.le_of_eq rfl) (by decide) (by decide) rfl rfl d4_1 rfl fun T h1 v2 A Q3 => ?_
  obtain ⟨rfl, eh⟩ := Q3
  rw [eh] at A
  refine Wp.stk (st' := [(.int (1 : Int32))]) rfl ?_
  refine s_ifN (pc' := 7) A d4_4 rfl (by decide) ?_
  refine s_aloadN (pc' := 8) A d4_7 rfl rfl rfl ?_
  refine s_getfield (pc' := 11) (host := "") A (Or.inl (w16 hw)) Via.refl Fv d4_8 rfl fun T A => ?_
  refine s_iloadN (pc' := 12) A d4_11 rfl rfl ?_
  refine s_static (pc' := 15) (y := y5_charAt) (argsL := [(.ref r), (.int (0 : Int32))]) (rest := []) A (lch3 l Z a0 hw n0 h0 A.size r fv hfv Sf V) (w36 hw) (w37 hw) (w38 hw) (w39 hw) (by decide) pd___BI_C rfl (W := 0) (by decide) (by decide) (Nat.le_of_eq rfl) (by decide) (by decide) rfl rfl d4_12 rfl fun T h4 v5 A Q6 => ?_
  obtain ⟨rfl, eh⟩ := Q6
  rw [eh] at A
  refine Wp.stk (st' := [(.int (61 : Int32))]) rfl ?_
  exact r_small A rfl (by simp) (by decide) d4_15 (by decide) (by decide) (⟨rfl, rfl⟩)
set_option maxRecDepth 65536 in
set_option maxHeartbeats 40000000 in
theorem lch4 (l : Launch) (Z : State) (a0 : Array Value) (hw : ∀ d ∈ tables_1, d.before a0 Z = true) (n0 : Nat) (h0 : Heap) (Z0 : n0 ≤ h0.size) (r : Addr) (fv : Value) (hfv : fv.isRef = true) (Sf : Sta Z h0 "jdk/internal/util/Preconditions" "SIOOBE_FORMATTER" "Ljava/util/function/BiFunction;" fv) (V : AA Z h0 r .byte [.int (62 : Int32)]) :
    Met l Z n0 y5_charAt jdk_43_method_2_code 2 (Option.some Jvm.ClassFile.FieldType.char) ({ frames := 2, cells := 0, slots := 0, locals := 27 } : Room) #[(.ref r), (.int (0 : Int32))] h0 (fun v h => v = some (.int (62 : Int32)) ∧ h = h0) := by
  refine met_intro (own := c3_StringLatin1) (plainFor_of_name pn_java_lang_StringLatin1) rfl Z0 ?_
  intro p e s m below meth c T A hnm
  refine Wp.cast (g' := mkF m 0 #[rv r, iv 0] []) (by first | (simp [entryFrame, mkF, argsToLocals, Value.category, maxLocals, jv, S2, U0, iv, rv]; done) | rfl) ?_
  refine s_iloadN (pc' := 1) A d6_0 rfl rfl ?_
  refine s_aloadN (pc' := 2) A d6_1 rfl rfl rfl ?_
  refine s_arraylength (pc' := 3) (z := (1 : Int32)) A V (by show _ = ((1 : Nat) : Int); decide) d6_2 rfl ?_
  refine s_static (pc' := 6) (y := y4_checkIndex) (argsL := [(.int (0 : Int32)), (.int (1 : Int32))]) (rest := []) A (schk l Z a0 hw n0 h0 A.size (0 : Int32) (1 : Int32) fv hfv Sf (by decide) (by decide)) (w40 hw) (w41 hw) (w14 hw) (w42 hw) (by decide) pd__II_V rfl (W := 0) (by decide) (by decide) (Nat.le_of_eq rfl) (by decide) (by decide) rfl rfl d6_3 rfl fun T h1 v2 A Q3 => ?_
  obtain ⟨rfl, eh⟩ := Q3
  rw [eh] at A
  refine Wp.stk (st' := []) rfl ?_
  refine s_aloadN (pc' := 7) A d6_6 rfl rfl rfl ?_
  refine s_iloadN (pc' := 8) A d6_7 rfl rfl ?_
  refine s_baload (pc' := 9) (i := 0) (v := (.int (62 : Int32))) A V (by decide) rfl d6_8 rfl ?_
  refine s_sipush (pc' := 12) (z := (255 : Int32)) A d6_9 rfl (by decide) ?_
  refine s_iand (pc' := 13) (z := (62 : Int32)) A d6_12 rfl (by decide) ?_
  refine s_i2c (pc' := 14) (z := (62 : Int32)) A d6_13 rfl (by decide) ?_
  exact r_small A rfl (by simp) (by decide) d6_14 (by decide) (by decide) (⟨rfl, rfl⟩)
set_option maxRecDepth 65536 in
set_option maxHeartbeats 40000000 in
theorem len4 (l : Launch) (Z : State) (a0 : Array Value) (hw : ∀ d ∈ tables_1, d.before a0 Z = true) (n0 : Nat) (h0 : Heap) (Z0 : n0 ≤ h0.size) (sy r : Addr) (cz : Int32) (S : Sta Z h0 "java/lang/String" "COMPACT_STRINGS" "Z" (.int cz)) (ncz : ¬ cz = (0 : Int32)) (Fc : Fld Z h0 sy "java/lang/String" "coder" "B" (.int (0 : Int32))) (E : Exa Z h0 sy "java/lang/String") (Fv : Fld Z h0 sy "java/lang/String" "value" "[B" (.ref r)) (V : AA Z h0 r .byte [.int (62 : Int32)]) :
    Met l Z n0 y6_length jdk_42_method_54_code 1 (Option.some Jvm.ClassFile.FieldType.int) ({ frames := 1, cells := 0, slots := 0, locals := 13 } : Room) #[(.ref sy)] h0 (fun v h => v = some (.int (1 : Int32)) ∧ h = h0) := by
  refine met_intro (own := c1_String) (plainFor_of_name pn_java_lang_String) rfl Z0 ?_
  intro p e s m below meth c T A hnm
  refine Wp.cast (g' := mkF m 0 #[rv sy] []) (by first | (simp [entryFrame, mkF, argsToLocals, Value.category, maxLocals, jv, S2, U0, iv, rv]; done) | rfl) ?_
  refine s_aloadN (pc' := 1) A d2_0 rfl rfl rfl ?_
  refine s_getfield (pc' := 4) (host := "") A (Or.inl (w16 hw)) Via.refl Fv d2_1 rfl fun T A => ?_
  refine s_arraylength (pc' := 5) (z := (1 : Int32)) A V (by show _ = ((1 : Nat) : Int); decide) d2_4 rfl ?_
  refine s_aloadN (pc' := 6) A d2_5 rfl rfl rfl ?_
  refine s_virtual (pc' := 9) (y := y1_coder) (argsL := []) (rest := [(.int (1 : Int32))]) (z := y1_coder) A E (coder l Z a0 hw n0 h0 A.size sy cz S ncz Fc) (w18 hw) (w19 hw) (nf_same (C := "") (w21 hw)) (w21 hw) (w20 hw) (w14 hw) (w22 hw) (by decide) pd___B rfl (W := 1) (by decide) (by decide) (Nat.le_of_eq rfl) (by decide) (by decide) rfl rfl d2_6 rfl fun T h1 v2 A Q3 => ?_
  obtain ⟨rfl, eh⟩ := Q3
  rw [eh] at A
  refine Wp.stk (st' := [(.int (0 : Int32)), (.int (1 : Int32))]) rfl ?_
  refine s_ishr (pc' := 10) (z := (1 : Int32)) A d2_9 rfl (by decide) ?_
  exact r_int A rfl d2_10 (by decide) (by decide) (⟨rfl, rfl⟩)
set_option maxRecDepth 65536 in
set_option maxHeartbeats 40000000 in
theorem cat4 (l : Launch) (Z : State) (a0 : Array Value) (hw : ∀ d ∈ tables_1, d.before a0 Z = true) (n0 : Nat) (h0 : Heap) (Z0 : n0 ≤ h0.size) (sy r : Addr) (cz : Int32) (fv : Value) (S : Sta Z h0 "java/lang/String" "COMPACT_STRINGS" "Z" (.int cz)) (ncz : ¬ cz = (0 : Int32)) (Fc : Fld Z h0 sy "java/lang/String" "coder" "B" (.int (0 : Int32))) (E : Exa Z h0 sy "java/lang/String") (Fv : Fld Z h0 sy "java/lang/String" "value" "[B" (.ref r)) (V : AA Z h0 r .byte [.int (62 : Int32)]) (hfv : fv.isRef = true) (Sf : Sta Z h0 "jdk/internal/util/Preconditions" "SIOOBE_FORMATTER" "Ljava/util/function/BiFunction;" fv) :
    Met l Z n0 y7_charAt jdk_42_method_56_code 2 (Option.some Jvm.ClassFile.FieldType.char) ({ frames := 3, cells := 0, slots := 0, locals := 40 } : Room) #[(.ref sy), (.int (0 : Int32))] h0 (fun v h => v = some (.int (62 : Int32)) ∧ h = h0) := by
  refine met_intro (own := c1_String) (plainFor_of_name pn_java_lang_String) rfl Z0 ?_
  intro p e s m below meth c T A hnm
  refine Wp.cast (g' := mkF m 0 #[rv sy, iv 0] []) (by first | (simp [entryFrame, mkF, argsToLocals, Value.category, maxLocals, jv, S2, U0, iv, rv]; done) | rfl) ?_
  refine s_aloadN (pc' := 1) A d4_0 rfl rfl rfl ?_
  refine s_virtual (pc' := 4) (y := y2_isLatin1) (argsL := []) (rest := []) (z := y2_isLatin1) A E (isl1 l Z a0 hw n0 h0 A.size sy cz S ncz Fc) (w31 hw) (w32 hw) (nf_same (C := "") (w34 hw)) (w34 hw) (w33 hw) (w14 hw) (w35 hw) (by decide) pd___Z rfl (W := 0) (by decide) (by decide) (Nat.le_of_eq rfl) (by decide) (by decide) rfl rfl d4_1 rfl fun T h1 v2 A Q3 => ?_
  obtain ⟨rfl, eh⟩ := Q3
  rw [eh] at A
  refine Wp.stk (st' := [(.int (1 : Int32))]) rfl ?_
  refine s_ifN (pc' := 7) A d4_4 rfl (by decide) ?_
  refine s_aloadN (pc' := 8) A d4_7 rfl rfl rfl ?_
  refine s_getfield (pc' := 11) (host := "") A (Or.inl (w16 hw)) Via.refl Fv d4_8 rfl fun T A => ?_
  refine s_iloadN (pc' := 12) A d4_11 rfl rfl ?_
  refine s_static (pc' := 15) (y := y5_charAt) (argsL := [(.ref r), (.int (0 : Int32))]) (rest := []) A (lch4 l Z a0 hw n0 h0 A.size r fv hfv Sf V) (w36 hw) (w37 hw) (w38 hw) (w39 hw) (by decide) pd___BI_C rfl (W := 0) (by decide) (by decide) (Nat.le_of_eq rfl) (by decide) (by decide) rfl rfl d4_12 rfl fun T h4 v5 A Q6 => ?_
  obtain ⟨rfl, eh⟩ := Q6
  rw [eh] at A
  refine Wp.stk (st' := [(.int (62 : Int32))]) rfl ?_
  exact r_small A rfl (by simp) (by decide) d4_15 (by decide) (by decide) (⟨rfl, rfl⟩)
set_option maxRecDepth 65536 in
set_option maxHeartbeats 40000000 in
theorem lch5 (l : Launch) (Z : State) (a0 : Array Value) (hw : ∀ d ∈ tables_1, d.before a0 Z = true) (n0 : Nat) (h0 : Heap) (Z0 : n0 ≤ h0.size) (r : Addr) (fv : Value) (hfv : fv.isRef = true) (Sf : Sta Z h0 "jdk/internal/util/Preconditions" "SIOOBE_FORMATTER" "Ljava/util/function/BiFunction;" fv) (V : AA Z h0 r .byte [.int (62 : Int32), .int (61 : Int32)]) :
    Met l Z n0 y5_charAt jdk_43_method_2_code 2 (Option.some Jvm.ClassFile.FieldType.char) ({ frames := 2, cells := 0, slots := 0, locals := 27 } : Room) #[(.ref r), (.int (0 : Int32))] h0 (fun v h => v = some (.int (62 : Int32)) ∧ h = h0) := by
  refine met_intro (own := c3_StringLatin1) (plainFor_of_name pn_java_lang_StringLatin1) rfl Z0 ?_
  intro p e s m below meth c T A hnm
  refine Wp.cast (g' := mkF m 0 #[rv r, iv 0] []) (by first | (simp [entryFrame, mkF, argsToLocals, Value.category, maxLocals, jv, S2, U0, iv, rv]; done) | rfl) ?_
  refine s_iloadN (pc' := 1) A d6_0 rfl rfl ?_
  refine s_aloadN (pc' := 2) A d6_1 rfl rfl rfl ?_
  refine s_arraylength (pc' := 3) (z := (2 : Int32)) A V (by show _ = ((2 : Nat) : Int); decide) d6_2 rfl ?_
  refine s_static (pc' := 6) (y := y4_checkIndex) (argsL := [(.int (0 : Int32)), (.int (2 : Int32))]) (rest := []) A (schk l Z a0 hw n0 h0 A.size (0 : Int32) (2 : Int32) fv hfv Sf (by decide) (by decide)) (w40 hw) (w41 hw) (w14 hw) (w42 hw) (by decide) pd__II_V rfl (W := 0) (by decide) (by decide) (Nat.le_of_eq rfl) (by decide) (by decide) rfl rfl d6_3 rfl fun T h1 v2 A Q3 => ?_
  obtain ⟨rfl, eh⟩ := Q3
  rw [eh] at A
  refine Wp.stk (st' := []) rfl ?_
  refine s_aloadN (pc' := 7) A d6_6 rfl rfl rfl ?_
  refine s_iloadN (pc' := 8) A d6_7 rfl rfl ?_
  refine s_baload (pc' := 9) (i := 0) (v := (.int (62 : Int32))) A V (by decide) rfl d6_8 rfl ?_
  refine s_sipush (pc' := 12) (z := (255 : Int32)) A d6_9 rfl (by decide) ?_
  refine s_iand (pc' := 13) (z := (62 : Int32)) A d6_12 rfl (by decide) ?_
  refine s_i2c (pc' := 14) (z := (62 : Int32)) A d6_13 rfl (by decide) ?_
  exact r_small A rfl (by simp) (by decide) d6_14 (by decide) (by decide) (⟨rfl, rfl⟩)
set_option maxRecDepth 65536 in
set_option maxHeartbeats 40000000 in
theorem len5 (l : Launch) (Z : State) (a0 : Array Value) (hw : ∀ d ∈ tables_1, d.before a0 Z = true) (n0 : Nat) (h0 : Heap) (Z0 : n0 ≤ h0.size) (sy r : Addr) (cz : Int32) (S : Sta Z h0 "java/lang/String" "COMPACT_STRINGS" "Z" (.int cz)) (ncz : ¬ cz = (0 : Int32)) (Fc : Fld Z h0 sy "java/lang/String" "coder" "B" (.int (0 : Int32))) (E : Exa Z h0 sy "java/lang/String") (Fv : Fld Z h0 sy "java/lang/String" "value" "[B" (.ref r)) (V : AA Z h0 r .byte [.int (62 : Int32), .int (61 : Int32)]) :
    Met l Z n0 y6_length jdk_42_method_54_code 1 (Option.some Jvm.ClassFile.FieldType.int) ({ frames := 1, cells := 0, slots := 0, locals := 13 } : Room) #[(.ref sy)] h0 (fun v h => v = some (.int (2 : Int32)) ∧ h = h0) := by
  refine met_intro (own := c1_String) (plainFor_of_name pn_java_lang_String) rfl Z0 ?_
  intro p e s m below meth c T A hnm
  refine Wp.cast (g' := mkF m 0 #[rv sy] []) (by first | (simp [entryFrame, mkF, argsToLocals, Value.category, maxLocals, jv, S2, U0, iv, rv]; done) | rfl) ?_
  refine s_aloadN (pc' := 1) A d2_0 rfl rfl rfl ?_
  refine s_getfield (pc' := 4) (host := "") A (Or.inl (w16 hw)) Via.refl Fv d2_1 rfl fun T A => ?_
  refine s_arraylength (pc' := 5) (z := (2 : Int32)) A V (by show _ = ((2 : Nat) : Int); decide) d2_4 rfl ?_
  refine s_aloadN (pc' := 6) A d2_5 rfl rfl rfl ?_
  refine s_virtual (pc' := 9) (y := y1_coder) (argsL := []) (rest := [(.int (2 : Int32))]) (z := y1_coder) A E (coder l Z a0 hw n0 h0 A.size sy cz S ncz Fc) (w18 hw) (w19 hw) (nf_same (C := "") (w21 hw)) (w21 hw) (w20 hw) (w14 hw) (w22 hw) (by decide) pd___B rfl (W := 1) (by decide) (by decide) (Nat.le_of_eq rfl) (by decide) (by decide) rfl rfl d2_6 rfl fun T h1 v2 A Q3 => ?_
  obtain ⟨rfl, eh⟩ := Q3
  rw [eh] at A
  refine Wp.stk (st' := [(.int (0 : Int32)), (.int (2 : Int32))]) rfl ?_
  refine s_ishr (pc' := 10) (z := (2 : Int32)) A d2_9 rfl (by decide) ?_
  exact r_int A rfl d2_10 (by decide) (by decide) (⟨rfl, rfl⟩)
set_option maxRecDepth 65536 in
set_option maxHeartbeats 40000000 in
theorem cat5 (l : Launch) (Z : State) (a0 : Array Value) (hw : ∀ d ∈ tables_1, d.before a0 Z = true) (n0 : Nat) (h0 : Heap) (Z0 : n0 ≤ h0.size) (sy r : Addr) (cz : Int32) (fv : Value) (S : Sta Z h0 "java/lang/String" "COMPACT_STRINGS" "Z" (.int cz)) (ncz : ¬ cz = (0 : Int32)) (Fc : Fld Z h0 sy "java/lang/String" "coder" "B" (.int (0 : Int32))) (E : Exa Z h0 sy "java/lang/String") (Fv : Fld Z h0 sy "java/lang/String" "value" "[B" (.ref r)) (V : AA Z h0 r .byte [.int (62 : Int32), .int (61 : Int32)]) (hfv : fv.isRef = true) (Sf : Sta Z h0 "jdk/internal/util/Preconditions" "SIOOBE_FORMATTER" "Ljava/util/function/BiFunction;" fv) :
    Met l Z n0 y7_charAt jdk_42_method_56_code 2 (Option.some Jvm.ClassFile.FieldType.char) ({ frames := 3, cells := 0, slots := 0, locals := 40 } : Room) #[(.ref sy), (.int (0 : Int32))] h0 (fun v h => v = some (.int (62 : Int32)) ∧ h = h0) := by
  refine met_intro (own := c1_String) (plainFor_of_name pn_java_lang_String) rfl Z0 ?_
  intro p e s m below meth c T A hnm
  refine Wp.cast (g' := mkF m 0 #[rv sy, iv 0] []) (by first | (simp [entryFrame, mkF, argsToLocals, Value.category, maxLocals, jv, S2, U0, iv, rv]; done) | rfl) ?_
  refine s_aloadN (pc' := 1) A d4_0 rfl rfl rfl ?_
  refine s_virtual (pc' := 4) (y := y2_isLatin1) (argsL := []) (rest := []) (z := y2_isLatin1) A E (isl1 l Z a0 hw n0 h0 A.size sy cz S ncz Fc) (w31 hw) (w32 hw) (nf_same (C := "") (w34 hw)) (w34 hw) (w33 hw) (w14 hw) (w35 hw) (by decide) pd___Z rfl (W := 0) (by decide) (by decide) (Nat.le_of_eq rfl) (by decide) (by decide) rfl rfl d4_1 rfl fun T h1 v2 A Q3 => ?_
  obtain ⟨rfl, eh⟩ := Q3
  rw [eh] at A
  refine Wp.stk (st' := [(.int (1 : Int32))]) rfl ?_
  refine s_ifN (pc' := 7) A d4_4 rfl (by decide) ?_
  refine s_aloadN (pc' := 8) A d4_7 rfl rfl rfl ?_
  refine s_getfield (pc' := 11) (host := "") A (Or.inl (w16 hw)) Via.refl Fv d4_8 rfl fun T A => ?_
  refine s_iloadN (pc' := 12) A d4_11 rfl rfl ?_
  refine s_static (pc' := 15) (y := y5_charAt) (argsL := [(.ref r), (.int (0 : Int32))]) (rest := []) A (lch5 l Z a0 hw n0 h0 A.size r fv hfv Sf V) (w36 hw) (w37 hw) (w38 hw) (w39 hw) (by decide) pd___BI_C rfl (W := 0) (by decide) (by decide) (Nat.le_of_eq rfl) (by decide) (by decide) rfl rfl d4_12 rfl fun T h4 v5 A Q6 => ?_
  obtain ⟨rfl, eh⟩ := Q6
  rw [eh] at A
  refine Wp.stk (st' := [(.int (62 : Int32))]) rfl ?_
  exact r_small A rfl (by simp) (by decide) d4_15 (by decide) (by decide) (⟨rfl, rfl⟩)
set_option maxRecDepth 65536 in
set_option maxHeartbeats 40000000 in
theorem ord0 (l : Launch) (Z : State) (a0 : Array Value) (hw : ∀ d ∈ tables_1, d.before a0 Z = true) (n0 : Nat) (h0 : Heap) (Z0 : n0 ≤ h0.size) (e0' e1' x : Addr) (S0 : Sta Z h0 "com/example/proctor/proctor/policy/Constraint$Operator" "EQUAL" "Lcom/example/proctor/proctor/policy/Constraint$Operator;" (.ref e0')) (S1 : Sta Z h0 "com/example/proctor/proctor/policy/Constraint$Operator" "NOT_EQUAL" "Lcom/example/proctor/proctor/policy/Constraint$Operator;" (.ref e1')) :
    Met l Z n0 y8_orders prog_37_method_4_code 1 (Option.some Jvm.ClassFile.FieldType.boolean) ({ frames := 0, cells := 0, slots := 0, locals := 0 } : Room) #[(.ref e0')] h0 (fun v h => v = some (.int 0) ∧ h = h0) := by
  refine met_intro (own := c4_Constraint_Operator) (plainFor_of_name pn_com_example_proctor_proctor_policy_Constraint_Operator) rfl Z0 ?_
  intro p e s m below meth c T A hnm
  refine Wp.cast (g' := mkF m 0 #[rv e0'] []) (by first | (simp [entryFrame, mkF, argsToLocals, Value.category, maxLocals, jv, S2, U0, iv, rv]; done) | rfl) ?_
  refine s_aloadN (pc' := 1) A d9_0 rfl rfl rfl ?_
  refine s_getstatic (pc' := 4) (host := "") A (Or.inl (w53 hw)) Via.refl S0 d9_1 rfl fun T A => ?_
  refine s_acmpY (pc' := 18) A d9_4 rfl rfl (by simp [XT.acmp]) (by decide) (by decide) ?_
  refine s_iconst (pc' := 19) (z := (0 : Int32)) A d9_18 rfl (by decide) ?_
  exact r_bool A rfl (by decide) d9_19 (by decide) (by decide) (⟨rfl, rfl⟩)
set_option maxRecDepth 65536 in
set_option maxHeartbeats 40000000 in
theorem ord1 (l : Launch) (Z : State) (a0 : Array Value) (hw : ∀ d ∈ tables_1, d.before a0 Z = true) (n0 : Nat) (h0 : Heap) (Z0 : n0 ≤ h0.size) (e0' e1' x : Addr) (S0 : Sta Z h0 "com/example/proctor/proctor/policy/Constraint$Operator" "EQUAL" "Lcom/example/proctor/proctor/policy/Constraint$Operator;" (.ref e0')) (S1 : Sta Z h0 "com/example/proctor/proctor/policy/Constraint$Operator" "NOT_EQUAL" "Lcom/example/proctor/proctor/policy/Constraint$Operator;" (.ref e1')) (n10 : e1' ≠ e0') :
    Met l Z n0 y8_orders prog_37_method_4_code 1 (Option.some Jvm.ClassFile.FieldType.boolean) ({ frames := 0, cells := 0, slots := 0, locals := 0 } : Room) #[(.ref e1')] h0 (fun v h => v = some (.int 0) ∧ h = h0) := by
  refine met_intro (own := c4_Constraint_Operator) (plainFor_of_name pn_com_example_proctor_proctor_policy_Constraint_Operator) rfl Z0 ?_
  intro p e s m below meth c T A hnm
  refine Wp.cast (g' := mkF m 0 #[rv e1'] []) (by first | (simp [entryFrame, mkF, argsToLocals, Value.category, maxLocals, jv, S2, U0, iv, rv]; done) | rfl) ?_
  refine s_aloadN (pc' := 1) A d9_0 rfl rfl rfl ?_
  refine s_getstatic (pc' := 4) (host := "") A (Or.inl (w53 hw)) Via.refl S0 d9_1 rfl fun T A => ?_
  refine s_acmpN (pc' := 7) A d9_4 rfl rfl rfl (by simp [XT.acmp, n10]) ?_
  refine s_aloadN (pc' := 8) A d9_7 rfl rfl rfl ?_
  refine s_getstatic (pc' := 11) (host := "") A (Or.inl (w56 hw)) Via.refl S1 d9_8 rfl fun T A => ?_
  refine s_acmpY (pc' := 18) A d9_11 rfl rfl (by simp [XT.acmp]) (by decide) (by decide) ?_
  refine s_iconst (pc' := 19) (z := (0 : Int32)) A d9_18 rfl (by decide) ?_
  exact r_bool A rfl (by decide) d9_19 (by decide) (by decide) (⟨rfl, rfl⟩)
set_option maxRecDepth 65536 in
set_option maxHeartbeats 40000000 in
theorem ord2 (l : Launch) (Z : State) (a0 : Array Value) (hw : ∀ d ∈ tables_1, d.before a0 Z = true) (n0 : Nat) (h0 : Heap) (Z0 : n0 ≤ h0.size) (e0' e1' x : Addr) (S0 : Sta Z h0 "com/example/proctor/proctor/policy/Constraint$Operator" "EQUAL" "Lcom/example/proctor/proctor/policy/Constraint$Operator;" (.ref e0')) (S1 : Sta Z h0 "com/example/proctor/proctor/policy/Constraint$Operator" "NOT_EQUAL" "Lcom/example/proctor/proctor/policy/Constraint$Operator;" (.ref e1')) (n0' : x ≠ e0') (n1' : x ≠ e1') :
    Met l Z n0 y8_orders prog_37_method_4_code 1 (Option.some Jvm.ClassFile.FieldType.boolean) ({ frames := 0, cells := 0, slots := 0, locals := 0 } : Room) #[(.ref x)] h0 (fun v h => v = some (.int 1) ∧ h = h0) := by
  refine met_intro (own := c4_Constraint_Operator) (plainFor_of_name pn_com_example_proctor_proctor_policy_Constraint_Operator) rfl Z0 ?_
  intro p e s m below meth c T A hnm
  refine Wp.cast (g' := mkF m 0 #[rv x] []) (by first | (simp [entryFrame, mkF, argsToLocals, Value.category, maxLocals, jv, S2, U0, iv, rv]; done) | rfl) ?_
  refine s_aloadN (pc' := 1) A d9_0 rfl rfl rfl ?_
  refine s_getstatic (pc' := 4) (host := "") A (Or.inl (w53 hw)) Via.refl S0 d9_1 rfl fun T A => ?_
  refine s_acmpN (pc' := 7) A d9_4 rfl rfl rfl (by simp [XT.acmp, n0']) ?_
  refine s_aloadN (pc' := 8) A d9_7 rfl rfl rfl ?_
  refine s_getstatic (pc' := 11) (host := "") A (Or.inl (w56 hw)) Via.refl S1 d9_8 rfl fun T A => ?_
  refine s_acmpN (pc' := 14) A d9_11 rfl rfl rfl (by simp [XT.acmp, n1']) ?_
  refine s_iconst (pc' := 15) (z := (1 : Int32)) A d9_14 rfl (by decide) ?_
  refine s_goto (pc' := 19) A d9_15 (by decide) (by decide) ?_
  exact r_bool A rfl (by decide) d9_19 (by decide) (by decide) (⟨rfl, rfl⟩)
set_option maxRecDepth 65536 in
set_option maxHeartbeats 40000000 in
theorem ord3 (l : Launch) (Z : State) (a0 : Array Value) (hw : ∀ d ∈ tables_1, d.before a0 Z = true) (n0 : Nat) (h0 : Heap) (Z0 : n0 ≤ h0.size) (e0' e1' x : Addr) (S0 : Sta Z h0 "com/example/proctor/proctor/policy/Constraint$Operator" "EQUAL" "Lcom/example/proctor/proctor/policy/Constraint$Operator;" (.ref e0')) (S1 : Sta Z h0 "com/example/proctor/proctor/policy/Constraint$Operator" "NOT_EQUAL" "Lcom/example/proctor/proctor/policy/Constraint$Operator;" (.ref e1')) (n0' : x ≠ e0') (n1' : x ≠ e1') :
    Met l Z n0 y8_orders prog_37_method_4_code 1 (Option.some Jvm.ClassFile.FieldType.boolean) ({ frames := 0, cells := 0, slots := 0, locals := 0 } : Room) #[(.ref x)] h0 (fun v h => v = some (.int 1) ∧ h = h0) := by
  refine met_intro (own := c4_Constraint_Operator) (plainFor_of_name pn_com_example_proctor_proctor_policy_Constraint_Operator) rfl Z0 ?_
  intro p e s m below meth c T A hnm
  refine Wp.cast (g' := mkF m 0 #[rv x] []) (by first | (simp [entryFrame, mkF, argsToLocals, Value.category, maxLocals, jv, S2, U0, iv, rv]; done) | rfl) ?_
  refine s_aloadN (pc' := 1) A d9_0 rfl rfl rfl ?_
  refine s_getstatic (pc' := 4) (host := "") A (Or.inl (w53 hw)) Via.refl S0 d9_1 rfl fun T A => ?_
  refine s_acmpN (pc' := 7) A d9_4 rfl rfl rfl (by simp [XT.acmp, n0']) ?_
  refine s_aloadN (pc' := 8) A d9_7 rfl rfl rfl ?_
  refine s_getstatic (pc' := 11) (host := "") A (Or.inl (w56 hw)) Via.refl S1 d9_8 rfl fun T A => ?_
  refine s_acmpN (pc' := 14) A d9_11 rfl rfl rfl (by simp [XT.acmp, n1']) ?_
  refine s_iconst (pc' := 15) (z := (1 : Int32)) A d9_14 rfl (by decide) ?_
  refine s_goto (pc' := 19) A d9_15 (by decide) (by decide) ?_
  exact r_bool A rfl (by decide) d9_19 (by decide) (by decide) (⟨rfl, rfl⟩)
set_option maxRecDepth 65536 in
set_option maxHeartbeats 40000000 in
theorem ord4 (l : Launch) (Z : State) (a0 : Array Value) (hw : ∀ d ∈ tables_1, d.before a0 Z = true) (n0 : Nat) (h0 : Heap) (Z0 : n0 ≤ h0.size) (e0' e1' x : Addr) (S0 : Sta Z h0 "com/example/proctor/proctor/policy/Constraint$Operator" "EQUAL" "Lcom/example/proctor/proctor/policy/Constraint$Operator;" (.ref e0')) (S1 : Sta Z h0 "com/example/proctor/proctor/policy/Constraint$Operator" "NOT_EQUAL" "Lcom/example/proctor/proctor/policy/Constraint$Operator;" (.ref e1')) (n0' : x ≠ e0') (n1' : x ≠ e1') :
    Met l Z n0 y8_orders prog_37_method_4_code 1 (Option.some Jvm.ClassFile.FieldType.boolean) ({ frames := 0, cells := 0, slots := 0, locals := 0 } : Room) #[(.ref x)] h0 (fun v h => v = some (.int 1) ∧ h = h0) := by
  refine met_intro (own := c4_Constraint_Operator) (plainFor_of_name pn_com_example_proctor_proctor_policy_Constraint_Operator) rfl Z0 ?_
  intro p e s m below meth c T A hnm
  refine Wp.cast (g' := mkF m 0 #[rv x] []) (by first | (simp [entryFrame, mkF, argsToLocals, Value.category, maxLocals, jv, S2, U0, iv, rv]; done) | rfl) ?_
  refine s_aloadN (pc' := 1) A d9_0 rfl rfl rfl ?_
  refine s_getstatic (pc' := 4) (host := "") A (Or.inl (w53 hw)) Via.refl S0 d9_1 rfl fun T A => ?_
  refine s_acmpN (pc' := 7) A d9_4 rfl rfl rfl (by simp [XT.acmp, n0']) ?_
  refine s_aloadN (pc' := 8) A d9_7 rfl rfl rfl ?_
  refine s_getstatic (pc' := 11) (host := "") A (Or.inl (w56 hw)) Via.refl S1 d9_8 rfl fun T A => ?_
  refine s_acmpN (pc' := 14) A d9_11 rfl rfl rfl (by simp [XT.acmp, n1']) ?_
  refine s_iconst (pc' := 15) (z := (1 : Int32)) A d9_14 rfl (by decide) ?_
  refine s_goto (pc' := 19) A d9_15 (by decide) (by decide) ?_
  exact r_bool A rfl (by decide) d9_19 (by decide) (by decide) (⟨rfl, rfl⟩)
set_option maxRecDepth 65536 in
set_option maxHeartbeats 40000000 in
theorem ord5 (l : Launch) (Z : State) (a0 : Array Value) (hw : ∀ d ∈ tables_1, d.before a0 Z = true) (n0 : Nat) (h0 : Heap) (Z0 : n0 ≤ h0.size) (e0' e1' x : Addr) (S0 : Sta Z h0 "com/example/proctor/proctor/policy/Constraint$Operator" "EQUAL" "Lcom/example/proctor/proctor/policy/Constraint$Operator;" (.ref e0')) (S1 : Sta Z h0 "com/example/proctor/proctor/policy/Constraint$Operator" "NOT_EQUAL" "Lcom/example/proctor/proctor/policy/Constraint$Operator;" (.ref e1')) (n0' : x ≠ e0') (n1' : x ≠ e1') :
    Met l Z n0 y8_orders prog_37_method_4_code 1 (Option.some Jvm.ClassFile.FieldType.boolean) ({ frames := 0, cells := 0, slots := 0, locals := 0 } : Room) #[(.ref x)] h0 (fun v h => v = some (.int 1) ∧ h = h0) := by
  refine met_intro (own := c4_Constraint_Operator) (plainFor_of_name pn_com_example_proctor_proctor_policy_Constraint_Operator) rfl Z0 ?_
  intro p e s m below meth c T A hnm
  refine Wp.cast (g' := mkF m 0 #[rv x] []) (by first | (simp [entryFrame, mkF, argsToLocals, Value.category, maxLocals, jv, S2, U0, iv, rv]; done) | rfl) ?_
  refine s_aloadN (pc' := 1) A d9_0 rfl rfl rfl ?_
  refine s_getstatic (pc' := 4) (host := "") A (Or.inl (w53 hw)) Via.refl S0 d9_1 rfl fun T A => ?_
  refine s_acmpN (pc' := 7) A d9_4 rfl rfl rfl (by simp [XT.acmp, n0']) ?_
  refine s_aloadN (pc' := 8) A d9_7 rfl rfl rfl ?_
  refine s_getstatic (pc' := 11) (host := "") A (Or.inl (w56 hw)) Via.refl S1 d9_8 rfl fun T A => ?_
  refine s_acmpN (pc' := 14) A d9_11 rfl rfl rfl (by simp [XT.acmp, n1']) ?_
  refine s_iconst (pc' := 15) (z := (1 : Int32)) A d9_14 rfl (by decide) ?_
  refine s_goto (pc' := 19) A d9_15 (by decide) (by decide) ?_
  exact r_bool A rfl (by decide) d9_19 (by decide) (by decide) (⟨rfl, rfl⟩)
theorem own_k (x : Int32) : ((x &&& (2147483647 : Int32)) % (6 : Int32)) = 0 ∨ ((x &&& (2147483647 : Int32)) % (6 : Int32)) = 1 ∨ ((x &&& (2147483647 : Int32)) % (6 : Int32)) = 2 ∨ ((x &&& (2147483647 : Int32)) % (6 : Int32)) = 3 ∨ ((x &&& (2147483647 : Int32)) % (6 : Int32)) = 4 ∨ ((x &&& (2147483647 : Int32)) % (6 : Int32)) = 5 := by
  have _ := rng32 x
  have _ : (2147483647 : Int32).toInt = 2147483647 := (by decide)
  have _ := rng32 (x &&& (2147483647 : Int32))
  have _ : (x &&& (2147483647 : Int32)).toInt = x.toInt % 2147483648 := c_mask x (2147483647 : Int32) 31 (by decide) (by decide)
  have _ : (6 : Int32).toInt = 6 := (by decide)
  have _ := rng32 ((x &&& (2147483647 : Int32)) % (6 : Int32))
  have _ := c_irem (x &&& (2147483647 : Int32)) (6 : Int32) 6 (by decide)
  have q : ((x &&& (2147483647 : Int32)) % (6 : Int32)).toInt = 0 ∨ ((x &&& (2147483647 : Int32)) % (6 : Int32)).toInt = 1 ∨ ((x &&& (2147483647 : Int32)) % (6 : Int32)).toInt = 2 ∨ ((x &&& (2147483647 : Int32)) % (6 : Int32)).toInt = 3 ∨ ((x &&& (2147483647 : Int32)) % (6 : Int32)).toInt = 4 ∨ ((x &&& (2147483647 : Int32)) % (6 : Int32)).toInt = 5 := by omega
  rcases q with q | q | q | q | q | q
  · exact Or.inl (Int32.toInt_inj.mp (q.trans (by decide)))
  · exact Or.inr (Or.inl (Int32.toInt_inj.mp (q.trans (by decide))))
  · exact Or.inr (Or.inr (Or.inl (Int32.toInt_inj.mp (q.trans (by decide)))))
  · exact Or.inr (Or.inr (Or.inr (Or.inl (Int32.toInt_inj.mp (q.trans (by decide))))))
  · exact Or.inr (Or.inr (Or.inr (Or.inr (Or.inl (Int32.toInt_inj.mp (q.trans (by decide)))))))
  · exact Or.inr (Or.inr (Or.inr (Or.inr (Or.inr (Int32.toInt_inj.mp (q.trans (by decide)))))))
set_option maxRecDepth 65536 in
set_option maxHeartbeats 40000000 in
theorem rm0 (l : Launch) (Z : State) (a0 : Array Value) (hw : ∀ d ∈ tables_1, d.before a0 Z = true) (n0 : Nat) (h0 : Heap) (Z0 : n0 ≤ h0.size) (q0 : Int32) (cz : Int32) (S_COMPACT_STRINGS : Sta Z h0 "java/lang/String" "COMPACT_STRINGS" "Z" (.int cz)) (ncz : ¬ cz = (0 : Int32)) (fv : Value) (hfv : fv.isRef = true) (S_SIOOBE_FORMATTER : Sta Z h0 "jdk/internal/util/Preconditions" "SIOOBE_FORMATTER" "Ljava/util/function/BiFunction;" fv) (z1 : Addr) (S_EQUAL : Sta Z h0 "com/example/proctor/proctor/policy/Constraint$Operator" "EQUAL" "Lcom/example/proctor/proctor/policy/Constraint$Operator;" (.ref z1)) (E_z1 : Exa Z h0 z1 "com/example/proctor/proctor/policy/Constraint$Operator") (z2 : Addr) (F_symbol_z1 : Fld Z h0 z1 "com/example/proctor/proctor/policy/Constraint$Operator" "symbol" "Ljava/lang/String;" (.ref z2)) (E_z2 : Exa Z h0 z2 "java/lang/String") (z3 : Addr) (F_value_z2 : Fld Z h0 z2 "java/lang/String" "value" "[B" (.ref z3)) (F_coder_z2 : Fld Z h0 z2 "java/lang/String" "coder" "B" (.int (0 : Int32))) (z4 : Addr) (S_AT_MOST : Sta Z h0 "com/example/proctor/proctor/policy/Constraint$Operator" "AT_MOST" "Lcom/example/proctor/proctor/policy/Constraint$Operator;" (.ref z4)) (E_z4 : Exa Z h0 z4 "com/example/proctor/proctor/policy/Constraint$Operator") (z5 : Addr) (F_symbol_z4 : Fld Z h0 z4 "com/example/proctor/proctor/policy/Constraint$Operator" "symbol" "Ljava/lang/String;" (.ref z5)) (E_z5 : Exa Z h0 z5 "java/lang/String") (z6 : Addr) (F_value_z5 : Fld Z h0 z5 "java/lang/String" "value" "[B" (.ref z6)) (F_coder_z5 : Fld Z h0 z5 "java/lang/String" "coder" "B" (.int (0 : Int32))) (F_ordinal_z4 : Fld Z h0 z4 "java/lang/Enum" "ordinal" "I" (.int (3 : Int32))) (F_ordinal_z1 : Fld Z h0 z1 "java/lang/Enum" "ordinal" "I" (.int (0 : Int32))) (z7 : Addr) (S_NOT_EQUAL : Sta Z h0 "com/example/proctor/proctor/policy/Constraint$Operator" "NOT_EQUAL" "Lcom/example/proctor/proctor/policy/Constraint$Operator;" (.ref z7)) (E_z7 : Exa Z h0 z7 "com/example/proctor/proctor/policy/Constraint$Operator") (F_ordinal_z7 : Fld Z h0 z7 "java/lang/Enum" "ordinal" "I" (.int (1 : Int32))) (z8 : Addr) (S_LESS : Sta Z h0 "com/example/proctor/proctor/policy/Constraint$Operator" "LESS" "Lcom/example/proctor/proctor/policy/Constraint$Operator;" (.ref z8)) (E_z8 : Exa Z h0 z8 "com/example/proctor/proctor/policy/Constraint$Operator") (z9 : Addr) (F_symbol_z8 : Fld Z h0 z8 "com/example/proctor/proctor/policy/Constraint$Operator" "symbol" "Ljava/lang/String;" (.ref z9)) (E_z9 : Exa Z h0 z9 "java/lang/String") (z10 : Addr) (F_value_z9 : Fld Z h0 z9 "java/lang/String" "value" "[B" (.ref z10)) (F_coder_z9 : Fld Z h0 z9 "java/lang/String" "coder" "B" (.int (0 : Int32))) (F_ordinal_z8 : Fld Z h0 z8 "java/lang/Enum" "ordinal" "I" (.int (2 : Int32))) (z11 : Addr) (F_symbol_z7 : Fld Z h0 z7 "com/example/proctor/proctor/policy/Constraint$Operator" "symbol" "Ljava/lang/String;" (.ref z11)) (E_z11 : Exa Z h0 z11 "java/lang/String") (z12 : Addr) (F_value_z11 : Fld Z h0 z11 "java/lang/String" "value" "[B" (.ref z12)) (F_coder_z11 : Fld Z h0 z11 "java/lang/String" "coder" "B" (.int (0 : Int32))) (z13 : Addr) (S_AT_LEAST : Sta Z h0 "com/example/proctor/proctor/policy/Constraint$Operator" "AT_LEAST" "Lcom/example/proctor/proctor/policy/Constraint$Operator;" (.ref z13)) (E_z13 : Exa Z h0 z13 "com/example/proctor/proctor/policy/Constraint$Operator") (z14 : Addr) (F_symbol_z13 : Fld Z h0 z13 "com/example/proctor/proctor/policy/Constraint$Operator" "symbol" "Ljava/lang/String;" (.ref z14)) (E_z14 : Exa Z h0 z14 "java/lang/String") (z15 : Addr) (F_value_z14 : Fld Z h0 z14 "java/lang/String" "value" "[B" (.ref z15)) (F_coder_z14 : Fld Z h0 z14 "java/lang/String" "coder" "B" (.int (0 : Int32))) (F_ordinal_z13 : Fld Z h0 z13 "java/lang/Enum" "ordinal" "I" (.int (5 : Int32))) (z16 : Addr) (S_GREATER : Sta Z h0 "com/example/proctor/proctor/policy/Constraint$Operator" "GREATER" "Lcom/example/proctor/proctor/policy/Constraint$Operator;" (.ref z16)) (E_z16 : Exa Z h0 z16 "com/example/proctor/proctor/policy/Constraint$Operator") (z17 : Addr) (F_symbol_z16 : Fld Z h0 z16 "com/example/proctor/proctor/policy/Constraint$Operator" "symbol" "Ljava/lang/String;" (.ref z17)) (E_z17 : Exa Z h0 z17 "java/lang/String") (z18 : Addr) (F_value_z17 : Fld Z h0 z17 "java/lang/String" "value" "[B" (.ref z18)) (F_coder_z17 : Fld Z h0 z17 "java/lang/String" "coder" "B" (.int (0 : Int32))) (F_ordinal_z16 : Fld Z h0 z16 "java/lang/Enum" "ordinal" "I" (.int (4 : Int32))) (V_z3 : AA Z h0 z3 .byte [.int (61 : Int32)]) (V_z6 : AA Z h0 z6 .byte [.int (60 : Int32), .int (61 : Int32)]) (V_z10 : AA Z h0 z10 .byte [.int (60 : Int32)]) (V_z12 : AA Z h0 z12 .byte [.int (33 : Int32), .int (61 : Int32)]) (V_z15 : AA Z h0 z15 .byte [.int (62 : Int32), .int (61 : Int32)]) (V_z18 : AA Z h0 z18 .byte [.int (62 : Int32)]) :
    Met l Z n0 x code maxLocals ret room_1 #[(.int q0)] h0 (fun v h => v = some (.int 1)) := by
  refine met_intro (own := c0_OperatorOrdersPinLaw) (plainFor_of_name pn_com_example_proctor_proctor_policy_OperatorOrdersPinLaw) rfl Z0 ?_
  intro p e s m below meth c T A hnm
  refine Wp.cast (g' := mkF m 0 #[iv q0, U0, U0, U0, U0] []) (by first | (simp [entryFrame, mkF, argsToLocals, Value.category, maxLocals, jv, S2, U0, iv, rv]; done) | rfl) ?_
  refine s_iloadN (pc' := 1) A at_0 rfl rfl ?_
  refine s_ldcInt (pc' := 3) A at_1 rfl (w0 hw) ?_
  refine s_iand (pc' := 4) (z := (q0 &&& (2147483647 : Int32))) A at_3 rfl rfl ?_
  refine s_bipush (pc' := 6) (z := (6 : Int32)) A at_4 rfl (by decide) ?_
  obtain ⟨kk, hkk⟩ : ∃ z, z = ((q0 &&& (2147483647 : Int32)) % (6 : Int32)) := ⟨_, rfl⟩
  have ck := own_k q0
  rw [← hkk] at ck
  rcases ck with rfl | rfl | rfl | rfl | rfl | rfl
  ·
   refine s_irem (pc' := 7) (z := (0 : Int32)) A at_6 rfl (by decide) hkk.symm ?_
   refine s_istoreN (pc' := 8) (Ls' := #[iv q0, iv 0, U0, U0, U0]) A at_7 rfl rfl ?_
   refine s_iloadN (pc' := 9) A at_8 rfl rfl ?_
   refine s_static (pc' := 12) (y := y0_pick) (argsL := [(.int (0 : Int32))]) (rest := []) A (pick0 l Z a0 hw n0 h0 A.size z1 S_EQUAL) (w1 hw) (w2 hw) (w3 hw) (w4 hw) (by decide) pd__I_Lcom_example_proctor_proctor_policy_Constraint_Operator_ rfl (W := 0) (by decide) (by decide) (Nat.le_of_eq rfl) (by decide) (by decide) rfl rfl at_9 rfl fun T h1 v2 A Q3 => ?_
   obtain ⟨rfl, eh⟩ := Q3
   rw [eh] at A
   refine Wp.stk (st' := [(.ref z1)]) rfl ?_
   refine s_astoreN (pc' := 13) (Ls' := #[iv q0, iv 0, rv z1, U0, U0]) A at_12 rfl rfl rfl ?_
   refine s_aloadN (pc' := 14) A at_13 rfl rfl rfl ?_
   refine s_getfield (pc' := 17) (host := "") A (Or.inl (w8 hw)) Via.refl F_symbol_z1 at_14 rfl fun T A => ?_
   refine s_astoreN (pc' := 18) (Ls' := #[iv q0, iv 0, rv z1, rv z2, U0]) A at_17 rfl rfl rfl ?_
   refine s_aloadN (pc' := 19) A at_18 rfl rfl rfl ?_
   refine s_virtual (pc' := 22) (y := y6_length) (argsL := []) (rest := []) (z := y6_length) A E_z2 (len3 l Z a0 hw n0 h0 A.size z2 z3 cz S_COMPACT_STRINGS ncz F_coder_z2 E_z2 F_value_z2 V_z3) (w10 hw) (w11 hw) (nf_same (C := "") (w13 hw)) (w13 hw) (w12 hw) (w14 hw) (w15 hw) (by decide) pd___I rfl (W := 0) (by decide) (by decide) (Nat.le_of_eq rfl) (by decide) (by decide) rfl rfl at_19 rfl fun T h4 v5 A Q6 => ?_
   obtain ⟨rfl, eh⟩ := Q6
   rw [eh] at A
   refine Wp.stk (st' := [(.int (1 : Int32))]) rfl ?_
   refine s_ifN (pc' := 25) A at_22 rfl (by decide) ?_
   refine s_aloadN (pc' := 26) A at_25 rfl rfl rfl ?_
   refine s_iconst (pc' := 27) (z := (0 : Int32)) A at_26 rfl (by decide) ?_
   refine s_virtual (pc' := 30) (y := y7_charAt) (argsL := [(.int (0 : Int32))]) (rest := []) (z := y7_charAt) A E_z2 (cat3 l Z a0 hw n0 h0 A.size z2 z3 cz fv S_COMPACT_STRINGS ncz F_coder_z2 E_z2 F_value_z2 V_z3 hfv S_SIOOBE_FORMATTER) (w26 hw) (w27 hw) (nf_same (C := "") (w29 hw)) (w29 hw) (w28 hw) (w14 hw) (w30 hw) (by decide) pd__I_C rfl (W := 0) (by decide) (by decide) (Nat.le_of_eq rfl) (by decide) (by decide) rfl rfl at_27 rfl fun T h7 v8 A Q9 => ?_
   obtain ⟨rfl, eh⟩ := Q9
   rw [eh] at A
   refine Wp.stk (st' := [(.int (61 : Int32))]) rfl ?_
   refine s_bipush (pc' := 32) (z := (60 : Int32)) A at_30 rfl (by decide) ?_
   refine s_icmpN (pc' := 35) A at_32 rfl (by decide) ?_
   refine s_aloadN (pc' := 36) A at_35 rfl rfl rfl ?_
   refine s_iconst (pc' := 37) (z := (0 : Int32)) A at_36 rfl (by decide) ?_
   refine s_virtual (pc' := 40) (y := y7_charAt) (argsL := [(.int (0 : Int32))]) (rest := []) (z := y7_charAt) A E_z2 (cat3 l Z a0 hw n0 h0 A.size z2 z3 cz fv S_COMPACT_STRINGS ncz F_coder_z2 E_z2 F_value_z2 V_z3 hfv S_SIOOBE_FORMATTER) (w26 hw) (w27 hw) (nf_same (C := "") (w29 hw)) (w29 hw) (w28 hw) (w14 hw) (w30 hw) (by decide) pd__I_C rfl (W := 0) (by decide) (by decide) (Nat.le_of_eq rfl) (by decide) (by decide) rfl rfl at_37 rfl fun T h10 v11 A Q12 => ?_
   obtain ⟨rfl, eh⟩ := Q12
   rw [eh] at A
   refine Wp.stk (st' := [(.int (61 : Int32))]) rfl ?_
   refine s_bipush (pc' := 42) (z := (62 : Int32)) A at_40 rfl (by decide) ?_
   refine s_icmpY (pc' := 49) A at_42 (by decide) (by decide) (by decide) ?_
   refine s_iconst (pc' := 50) (z := (0 : Int32)) A at_49 rfl (by decide) ?_
   refine s_istore (pc' := 52) (Ls' := #[iv q0, iv 0, rv z1, rv z2, iv 0]) A at_50 rfl rfl ?_
   refine s_aloadN (pc' := 53) A at_52 rfl rfl rfl ?_
   refine s_virtual (pc' := 56) (y := y8_orders) (argsL := []) (rest := []) (z := y8_orders) A E_z1 (ord0 l Z a0 hw n0 h0 A.size z1 z7 z1 S_EQUAL S_NOT_EQUAL) (w48 hw) (w49 hw) (nf_same (C := "") (w51 hw)) (w51 hw) (w50 hw) (w6 hw) (w52 hw) (by decide) pd___Z rfl (W := 0) (by decide) (by decide) (Nat.le_of_eq rfl) (by decide) (by decide) rfl rfl at_53 rfl fun T h13 v14 A Q15 => ?_
   obtain ⟨rfl, eh⟩ := Q15
   rw [eh] at A
   refine Wp.stk (st' := [(.int (0 : Int32))]) rfl ?_
   refine s_iload (pc' := 58) A at_56 rfl rfl ?_
   refine s_icmpN (pc' := 61) A at_58 rfl (by decide) ?_
   refine s_iconst (pc' := 62) (z := (1 : Int32)) A at_61 rfl (by decide) ?_
   refine s_goto (pc' := 66) A at_62 (by decide) (by decide) ?_
   exact r_bool A rfl (by decide) at_66 (by decide) (by decide) (rfl)
  ·
   refine s_irem (pc' := 7) (z := (1 : Int32)) A at_6 rfl (by decide) hkk.symm ?_
   refine s_istoreN (pc' := 8) (Ls' := #[iv q0, iv 1, U0, U0, U0]) A at_7 rfl rfl ?_
   refine s_iloadN (pc' := 9) A at_8 rfl rfl ?_
   refine s_static (pc' := 12) (y := y0_pick) (argsL := [(.int (1 : Int32))]) (rest := []) A (pick1 l Z a0 hw n0 h0 A.size z7 S_NOT_EQUAL) (w1 hw) (w2 hw) (w3 hw) (w4 hw) (by decide) pd__I_Lcom_example_proctor_proctor_policy_Constraint_Operator_ rfl (W := 0) (by decide) (by decide) (Nat.le_of_eq rfl) (by decide) (by decide) rfl rfl at_9 rfl fun T h16 v17 A Q18 => ?_
   obtain ⟨rfl, eh⟩ := Q18
   rw [eh] at A
   refine Wp.stk (st' := [(.ref z7)]) rfl ?_
   refine s_astoreN (pc' := 13) (Ls' := #[iv q0, iv 1, rv z7, U0, U0]) A at_12 rfl rfl rfl ?_
   refine s_aloadN (pc' := 14) A at_13 rfl rfl rfl ?_
   refine s_getfield (pc' := 17) (host := "") A (Or.inl (w8 hw)) Via.refl F_symbol_z7 at_14 rfl fun T A => ?_
   refine s_astoreN (pc' := 18) (Ls' := #[iv q0, iv 1, rv z7, rv z11, U0]) A at_17 rfl rfl rfl ?_
   refine s_aloadN (pc' := 19) A at_18 rfl rfl rfl ?_
   refine s_virtual (pc' := 22) (y := y6_length) (argsL := []) (rest := []) (z := y6_length) A E_z11 (len0 l Z a0 hw n0 h0 A.size z11 z12 cz S_COMPACT_STRINGS ncz F_coder_z11 E_z11 F_value_z11 V_z12) (w10 hw) (w11 hw) (nf_same (C := "") (w13 hw)) (w13 hw) (w12 hw) (w14 hw) (w15 hw) (by decide) pd___I rfl (W := 0) (by decide) (by decide) (Nat.le_of_eq rfl) (by decide) (by decide) rfl rfl at_19 rfl fun T h19 v20 A Q21 => ?_
   obtain ⟨rfl, eh⟩ := Q21
   rw [eh] at A
   refine Wp.stk (st' := [(.int (2 : Int32))]) rfl ?_
   refine s_ifN (pc' := 25) A at_22 rfl (by decide) ?_
   refine s_aloadN (pc' := 26) A at_25 rfl rfl rfl ?_
   refine s_iconst (pc' := 27) (z := (0 : Int32)) A at_26 rfl (by decide) ?_
   refine s_virtual (pc' := 30) (y := y7_charAt) (argsL := [(.int (0 : Int32))]) (rest := []) (z := y7_charAt) A E_z11 (cat0 l Z a0 hw n0 h0 A.size z11 z12 cz fv S_COMPACT_STRINGS ncz F_coder_z11 E_z11 F_value_z11 V_z12 hfv S_SIOOBE_FORMATTER) (w26 hw) (w27 hw) (nf_same (C := "") (w29 hw)) (w29 hw) (w28 hw) (w14 hw) (w30 hw) (by decide) pd__I_C rfl (W := 0) (by decide) (by decide) (Nat.le_of_eq rfl) (by decide) (by decide) rfl rfl at_27 rfl fun T h22 v23 A Q24 => ?_
   obtain ⟨rfl, eh⟩ := Q24
   rw [eh] at A
   refine Wp.stk (st' := [(.int (33 : Int32))]) rfl ?_
   refine s_bipush (pc' := 32) (z := (60 : Int32)) A at_30 rfl (by decide) ?_
   refine s_icmpN (pc' := 35) A at_32 rfl (by decide) ?_
   refine s_aloadN (pc' := 36) A at_35 rfl rfl rfl ?_
   refine s_iconst (pc' := 37) (z := (0 : Int32)) A at_36 rfl (by decide) ?_
   refine s_virtual (pc' := 40) (y := y7_charAt) (argsL := [(.int (0 : Int32))]) (rest := []) (z := y7_charAt) A E_z11 (cat0 l Z a0 hw n0 h0 A.size z11 z12 cz fv S_COMPACT_STRINGS ncz F_coder_z11 E_z11 F_value_z11 V_z12 hfv S_SIOOBE_FORMATTER) (w26 hw) (w27 hw) (nf_same (C := "") (w29 hw)) (w29 hw) (w28 hw) (w14 hw) (w30 hw) (by decide) pd__I_C rfl (W := 0) (by decide) (by decide) (Nat.le_of_eq rfl) (by decide) (by decide) rfl rfl at_37 rfl fun T h25 v26 A Q27 => ?_
   obtain ⟨rfl, eh⟩ := Q27
   rw [eh] at A
   refine Wp.stk (st' := [(.int (33 : Int32))]) rfl ?_
   refine s_bipush (pc' := 42) (z := (62 : Int32)) A at_40 rfl (by decide) ?_
   refine s_icmpY (pc' := 49) A at_42 (by decide) (by decide) (by decide) ?_
   refine s_iconst (pc' := 50) (z := (0 : Int32)) A at_49 rfl (by decide) ?_
   refine s_istore (pc' := 52) (Ls' := #[iv q0, iv 1, rv z7, rv z11, iv 0]) A at_50 rfl rfl ?_
   refine s_aloadN (pc' := 53) A at_52 rfl rfl rfl ?_
   refine s_virtual (pc' := 56) (y := y8_orders) (argsL := []) (rest := []) (z := y8_orders) A E_z7 (ord1 l Z a0 hw n0 h0 A.size z1 z7 z7 S_EQUAL S_NOT_EQUAL (Fld.ne F_ordinal_z7 F_ordinal_z1 (by decide))) (w48 hw) (w49 hw) (nf_same (C := "") (w51 hw)) (w51 hw) (w50 hw) (w6 hw) (w52 hw) (by decide) pd___Z rfl (W := 0) (by decide) (by decide) (Nat.le_of_eq rfl) (by decide) (by decide) rfl rfl at_53 rfl fun T h28 v29 A Q30 => ?_
   obtain ⟨rfl, eh⟩ := Q30
   rw [eh] at A
   refine Wp.stk (st' := [(.int (0 : Int32))]) rfl ?_
   refine s_iload (pc' := 58) A at_56 rfl rfl ?_
   refine s_icmpN (pc' := 61) A at_58 rfl (by decide) ?_
   refine s_iconst (pc' := 62) (z := (1 : Int32)) A at_61 rfl (by decide) ?_
   refine s_goto (pc' := 66) A at_62 (by decide) (by decide) ?_
   exact r_bool A rfl (by decide) at_66 (by decide) (by decide) (rfl)
  ·
   refine s_irem (pc' := 7) (z := (2 : Int32)) A at_6 rfl (by decide) hkk.symm ?_
   refine s_istoreN (pc' := 8) (Ls' := #[iv q0, iv 2, U0, U0, U0]) A at_7 rfl rfl ?_
   refine s_iloadN (pc' := 9) A at_8 rfl rfl ?_
   refine s_static (pc' := 12) (y := y0_pick) (argsL := [(.int (2 : Int32))]) (rest := []) A (pick2 l Z a0 hw n0 h0 A.size z8 S_LESS) (w1 hw) (w2 hw) (w3 hw) (w4 hw) (by decide) pd__I_Lcom_example_proctor_proctor_policy_Constraint_Operator_ rfl (W := 0) (by decide) (by decide) (Nat.le_of_eq rfl) (by decide) (by decide) rfl rfl at_9 rfl fun T h31 v32 A Q33 => ?_
   obtain ⟨rfl, eh⟩ := Q33
   rw [eh] at A
   refine Wp.stk (st' := [(.ref z8)]) rfl ?_
   refine s_astoreN (pc' := 13) (Ls' := #[iv q0, iv 2, rv z8, U0, U0]) A at_12 rfl rfl rfl ?_
   refine s_aloadN (pc' := 14) A at_13 rfl rfl rfl ?_
   refine s_getfield (pc' := 17) (host := "") A (Or.inl (w8 hw)) Via.refl F_symbol_z8 at_14 rfl fun T A => ?_
   refine s_astoreN (pc' := 18) (Ls' := #[iv q0, iv 2, rv z8, rv z9, U0]) A at_17 rfl rfl rfl ?_
   refine s_aloadN (pc' := 19) A at_18 rfl rfl rfl ?_
   refine s_virtual (pc' := 22) (y := y6_length) (argsL := []) (rest := []) (z := y6_length) A E_z9 (len1 l Z a0 hw n0 h0 A.size z9 z10 cz S_COMPACT_STRINGS ncz F_coder_z9 E_z9 F_value_z9 V_z10) (w10 hw) (w11 hw) (nf_same (C := "") (w13 hw)) (w13 hw) (w12 hw) (w14 hw) (w15 hw) (by decide) pd___I rfl (W := 0) (by decide) (by decide) (Nat.le_of_eq rfl) (by decide) (by decide) rfl rfl at_19 rfl fun T h34 v35 A Q36 => ?_
   obtain ⟨rfl, eh⟩ := Q36
   rw [eh] at A
   refine Wp.stk (st' := [(.int (1 : Int32))]) rfl ?_
   refine s_ifN (pc' := 25) A at_22 rfl (by decide) ?_
   refine s_aloadN (pc' := 26) A at_25 rfl rfl rfl ?_
   refine s_iconst (pc' := 27) (z := (0 : Int32)) A at_26 rfl (by decide) ?_
   refine s_virtual (pc' := 30) (y := y7_charAt) (argsL := [(.int (0 : Int32))]) (rest := []) (z := y7_charAt) A E_z9 (cat1 l Z a0 hw n0 h0 A.size z9 z10 cz fv S_COMPACT_STRINGS ncz F_coder_z9 E_z9 F_value_z9 V_z10 hfv S_SIOOBE_FORMATTER) (w26 hw) (w27 hw) (nf_same (C := "") (w29 hw)) (w29 hw) (w28 hw) (w14 hw) (w30 hw) (by decide) pd__I_C rfl (W := 0) (by decide) (by decide) (Nat.le_of_eq rfl) (by decide) (by decide) rfl rfl at_27 rfl fun T h37 v38 A Q39 => ?_
   obtain ⟨rfl, eh⟩ := Q39
   rw [eh] at A
   refine Wp.stk (st' := [(.int (60 : Int32))]) rfl ?_
   refine s_bipush (pc' := 32) (z := (60 : Int32)) A at_30 rfl (by decide) ?_
   refine s_icmpY (pc' := 45) A at_32 (by decide) (by decide) (by decide) ?_
   refine s_iconst (pc' := 46) (z := (1 : Int32)) A at_45 rfl (by decide) ?_
   refine s_goto (pc' := 50) A at_46 (by decide) (by decide) ?_
   refine s_istore (pc' := 52) (Ls' := #[iv q0, iv 2, rv z8, rv z9, iv 1]) A at_50 rfl rfl ?_
   refine s_aloadN (pc' := 53) A at_52 rfl rfl rfl ?_
   refine s_virtual (pc' := 56) (y := y8_orders) (argsL := []) (rest := []) (z := y8_orders) A E_z8 (ord2 l Z a0 hw n0 h0 A.size z1 z7 z8 S_EQUAL S_NOT_EQUAL (Fld.ne F_ordinal_z8 F_ordinal_z1 (by decide)) (Fld.ne F_ordinal_z8 F_ordinal_z7 (by decide))) (w48 hw) (w49 hw) (nf_same (C := "") (w51 hw)) (w51 hw) (w50 hw) (w6 hw) (w52 hw) (by decide) pd___Z rfl (W := 0) (by decide) (by decide) (Nat.le_of_eq rfl) (by decide) (by decide) rfl rfl at_53 rfl fun T h40 v41 A Q42 => ?_
   obtain ⟨rfl, eh⟩ := Q42
   rw [eh] at A
   refine Wp.stk (st' := [(.int (1 : Int32))]) rfl ?_
   refine s_iload (pc' := 58) A at_56 rfl rfl ?_
   refine s_icmpN (pc' := 61) A at_58 rfl (by decide) ?_
   refine s_iconst (pc' := 62) (z := (1 : Int32)) A at_61 rfl (by decide) ?_
   refine s_goto (pc' := 66) A at_62 (by decide) (by decide) ?_
   exact r_bool A rfl (by decide) at_66 (by decide) (by decide) (rfl)
  ·
   refine s_irem (pc' := 7) (z := (3 : Int32)) A at_6 rfl (by decide) hkk.symm ?_
   refine s_istoreN (pc' := 8) (Ls' := #[iv q0, iv 3, U0, U0, U0]) A at_7 rfl rfl ?_
   refine s_iloadN (pc' := 9) A at_8 rfl rfl ?_
   refine s_static (pc' := 12) (y := y0_pick) (argsL := [(.int (3 : Int32))]) (rest := []) A (pick3 l Z a0 hw n0 h0 A.size z4 S_AT_MOST) (w1 hw) (w2 hw) (w3 hw) (w4 hw) (by decide) pd__I_Lcom_example_proctor_proctor_policy_Constraint_Operator_ rfl (W := 0) (by decide) (by decide) (Nat.le_of_eq rfl) (by decide) (by decide) rfl rfl at_9 rfl fun T h43 v44 A Q45 => ?_
   obtain ⟨rfl, eh⟩ := Q45
   rw [eh] at A
   refine Wp.stk (st' := [(.ref z4)]) rfl ?_
   refine s_astoreN (pc' := 13) (Ls' := #[iv q0, iv 3, rv z4, U0, U0]) A at_12 rfl rfl rfl ?_
   refine s_aloadN (pc' := 14) A at_13 rfl rfl rfl ?_
   refine s_getfield (pc' := 17) (host := "") A (Or.inl (w8 hw)) Via.refl F_symbol_z4 at_14 rfl fun T A => ?_
   refine s_astoreN (pc' := 18) (Ls' := #[iv q0, iv 3, rv z4, rv z5, U0]) A at_17 rfl rfl rfl ?_
   refine s_aloadN (pc' := 19) A at_18 rfl rfl rfl ?_
   refine s_virtual (pc' := 22) (y := y6_length) (argsL := []) (rest := []) (z := y6_length) A E_z5 (len2 l Z a0 hw n0 h0 A.size z5 z6 cz S_COMPACT_STRINGS ncz F_coder_z5 E_z5 F_value_z5 V_z6) (w10 hw) (w11 hw) (nf_same (C := "") (w13 hw)) (w13 hw) (w12 hw) (w14 hw) (w15 hw) (by decide) pd___I rfl (W := 0) (by decide) (by decide) (Nat.le_of_eq rfl) (by decide) (by decide) rfl rfl at_19 rfl fun T h46 v47 A Q48 => ?_
   obtain ⟨rfl, eh⟩ := Q48
   rw [eh] at A
   refine Wp.stk (st' := [(.int (2 : Int32))]) rfl ?_
   refine s_ifN (pc' := 25) A at_22 rfl (by decide) ?_
   refine s_aloadN (pc' := 26) A at_25 rfl rfl rfl ?_
   refine s_iconst (pc' := 27) (z := (0 : Int32)) A at_26 rfl (by decide) ?_
   refine s_virtual (pc' := 30) (y := y7_charAt) (argsL := [(.int (0 : Int32))]) (rest := []) (z := y7_charAt) A E_z5 (cat2 l Z a0 hw n0 h0 A.size z5 z6 cz fv S_COMPACT_STRINGS ncz F_coder_z5 E_z5 F_value_z5 V_z6 hfv S_SIOOBE_FORMATTER) (w26 hw) (w27 hw) (nf_same (C := "") (w29 hw)) (w29 hw) (w28 hw) (w14 hw) (w30 hw) (by decide) pd__I_C rfl (W := 0) (by decide) (by decide) (Nat.le_of_eq rfl) (by decide) (by decide) rfl rfl at_27 rfl fun T h49 v50 A Q51 => ?_
   obtain ⟨rfl, eh⟩ := Q51
   rw [eh] at A
   refine Wp.stk (st' := [(.int (60 : Int32))]) rfl ?_
   refine s_bipush (pc' := 32) (z := (60 : Int32)) A at_30 rfl (by decide) ?_
   refine s_icmpY (pc' := 45) A at_32 (by decide) (by decide) (by decide) ?_
   refine s_iconst (pc' := 46) (z := (1 : Int32)) A at_45 rfl (by decide) ?_
   refine s_goto (pc' := 50) A at_46 (by decide) (by decide) ?_
   refine s_istore (pc' := 52) (Ls' := #[iv q0, iv 3, rv z4, rv z5, iv 1]) A at_50 rfl rfl ?_
   refine s_aloadN (pc' := 53) A at_52 rfl rfl rfl ?_
   refine s_virtual (pc' := 56) (y := y8_orders) (argsL := []) (rest := []) (z := y8_orders) A E_z4 (ord3 l Z a0 hw n0 h0 A.size z1 z7 z4 S_EQUAL S_NOT_EQUAL (Fld.ne F_ordinal_z4 F_ordinal_z1 (by decide)) (Fld.ne F_ordinal_z4 F_ordinal_z7 (by decide))) (w48 hw) (w49 hw) (nf_same (C := "") (w51 hw)) (w51 hw) (w50 hw) (w6 hw) (w52 hw) (by decide) pd___Z rfl (W := 0) (by decide) (by decide) (Nat.le_of_eq rfl) (by decide) (by decide) rfl rfl at_53 rfl fun T h52 v53 A Q54 => ?_
   obtain ⟨rfl, eh⟩ := Q54
   rw [eh] at A
   refine Wp.stk (st' := [(.int (1 : Int32))]) rfl ?_
   refine s_iload (pc' := 58) A at_56 rfl rfl ?_
   refine s_icmpN (pc' := 61) A at_58 rfl (by decide) ?_
   refine s_iconst (pc' := 62) (z := (1 : Int32)) A at_61 rfl (by decide) ?_
   refine s_goto (pc' := 66) A at_62 (by decide) (by decide) ?_
   exact r_bool A rfl (by decide) at_66 (by decide) (by decide) (rfl)
  ·
   refine s_irem (pc' := 7) (z := (4 : Int32)) A at_6 rfl (by decide) hkk.symm ?_
   refine s_istoreN (pc' := 8) (Ls' := #[iv q0, iv 4, U0, U0, U0]) A at_7 rfl rfl ?_
   refine s_iloadN (pc' := 9) A at_8 rfl rfl ?_
   refine s_static (pc' := 12) (y := y0_pick) (argsL := [(.int (4 : Int32))]) (rest := []) A (pick4 l Z a0 hw n0 h0 A.size z16 S_GREATER) (w1 hw) (w2 hw) (w3 hw) (w4 hw) (by decide) pd__I_Lcom_example_proctor_proctor_policy_Constraint_Operator_ rfl (W := 0) (by decide) (by decide) (Nat.le_of_eq rfl) (by decide) (by decide) rfl rfl at_9 rfl fun T h55 v56 A Q57 => ?_
   obtain ⟨rfl, eh⟩ := Q57
   rw [eh] at A
   refine Wp.stk (st' := [(.ref z16)]) rfl ?_
   refine s_astoreN (pc' := 13) (Ls' := #[iv q0, iv 4, rv z16, U0, U0]) A at_12 rfl rfl rfl ?_
   refine s_aloadN (pc' := 14) A at_13 rfl rfl rfl ?_
   refine s_getfield (pc' := 17) (host := "") A (Or.inl (w8 hw)) Via.refl F_symbol_z16 at_14 rfl fun T A => ?_
   refine s_astoreN (pc' := 18) (Ls' := #[iv q0, iv 4, rv z16, rv z17, U0]) A at_17 rfl rfl rfl ?_
   refine s_aloadN (pc' := 19) A at_18 rfl rfl rfl ?_
   refine s_virtual (pc' := 22) (y := y6_length) (argsL := []) (rest := []) (z := y6_length) A E_z17 (len4 l Z a0 hw n0 h0 A.size z17 z18 cz S_COMPACT_STRINGS ncz F_coder_z17 E_z17 F_value_z17 V_z18) (w10 hw) (w11 hw) (nf_same (C := "") (w13 hw)) (w13 hw) (w12 hw) (w14 hw) (w15 hw) (by decide) pd___I rfl (W := 0) (by decide) (by decide) (Nat.le_of_eq rfl) (by decide) (by decide) rfl rfl at_19 rfl fun T h58 v59 A Q60 => ?_
   obtain ⟨rfl, eh⟩ := Q60
   rw [eh] at A
   refine Wp.stk (st' := [(.int (1 : Int32))]) rfl ?_
   refine s_ifN (pc' := 25) A at_22 rfl (by decide) ?_
   refine s_aloadN (pc' := 26) A at_25 rfl rfl rfl ?_
   refine s_iconst (pc' := 27) (z := (0 : Int32)) A at_26 rfl (by decide) ?_
   refine s_virtual (pc' := 30) (y := y7_charAt) (argsL := [(.int (0 : Int32))]) (rest := []) (z := y7_charAt) A E_z17 (cat4 l Z a0 hw n0 h0 A.size z17 z18 cz fv S_COMPACT_STRINGS ncz F_coder_z17 E_z17 F_value_z17 V_z18 hfv S_SIOOBE_FORMATTER) (w26 hw) (w27 hw) (nf_same (C := "") (w29 hw)) (w29 hw) (w28 hw) (w14 hw) (w30 hw) (by decide) pd__I_C rfl (W := 0) (by decide) (by decide) (Nat.le_of_eq rfl) (by decide) (by decide) rfl rfl at_27 rfl fun T h61 v62 A Q63 => ?_
   obtain ⟨rfl, eh⟩ := Q63
   rw [eh] at A
   refine Wp.stk (st' := [(.int (62 : Int32))]) rfl ?_
   refine s_bipush (pc' := 32) (z := (60 : Int32)) A at_30 rfl (by decide) ?_
   refine s_icmpN (pc' := 35) A at_32 rfl (by decide) ?_
   refine s_aloadN (pc' := 36) A at_35 rfl rfl rfl ?_
   refine s_iconst (pc' := 37) (z := (0 : Int32)) A at_36 rfl (by decide) ?_
   refine s_virtual (pc' := 40) (y := y7_charAt) (argsL := [(.int (0 : Int32))]) (rest := []) (z := y7_charAt) A E_z17 (cat4 l Z a0 hw n0 h0 A.size z17 z18 cz fv S_COMPACT_STRINGS ncz F_coder_z17 E_z17 F_value_z17 V_z18 hfv S_SIOOBE_FORMATTER) (w26 hw) (w27 hw) (nf_same (C := "") (w29 hw)) (w29 hw) (w28 hw) (w14 hw) (w30 hw) (by decide) pd__I_C rfl (W := 0) (by decide) (by decide) (Nat.le_of_eq rfl) (by decide) (by decide) rfl rfl at_37 rfl fun T h64 v65 A Q66 => ?_
   obtain ⟨rfl, eh⟩ := Q66
   rw [eh] at A
   refine Wp.stk (st' := [(.int (62 : Int32))]) rfl ?_
   refine s_bipush (pc' := 42) (z := (62 : Int32)) A at_40 rfl (by decide) ?_
   refine s_icmpN (pc' := 45) A at_42 rfl (by decide) ?_
   refine s_iconst (pc' := 46) (z := (1 : Int32)) A at_45 rfl (by decide) ?_
   refine s_goto (pc' := 50) A at_46 (by decide) (by decide) ?_
   refine s_istore (pc' := 52) (Ls' := #[iv q0, iv 4, rv z16, rv z17, iv 1]) A at_50 rfl rfl ?_
   refine s_aloadN (pc' := 53) A at_52 rfl rfl rfl ?_
   refine s_virtual (pc' := 56) (y := y8_orders) (argsL := []) (rest := []) (z := y8_orders) A E_z16 (ord4 l Z a0 hw n0 h0 A.size z1 z7 z16 S_EQUAL S_NOT_EQUAL (Fld.ne F_ordinal_z16 F_ordinal_z1 (by decide)) (Fld.ne F_ordinal_z16 F_ordinal_z7 (by decide))) (w48 hw) (w49 hw) (nf_same (C := "") (w51 hw)) (w51 hw) (w50 hw) (w6 hw) (w52 hw) (by decide) pd___Z rfl (W := 0) (by decide) (by decide) (Nat.le_of_eq rfl) (by decide) (by decide) rfl rfl at_53 rfl fun T h67 v68 A Q69 => ?_
   obtain ⟨rfl, eh⟩ := Q69
   rw [eh] at A
   refine Wp.stk (st' := [(.int (1 : Int32))]) rfl ?_
   refine s_iload (pc' := 58) A at_56 rfl rfl ?_
   refine s_icmpN (pc' := 61) A at_58 rfl (by decide) ?_
   refine s_iconst (pc' := 62) (z := (1 : Int32)) A at_61 rfl (by decide) ?_
   refine s_goto (pc' := 66) A at_62 (by decide) (by decide) ?_
   exact r_bool A rfl (by decide) at_66 (by decide) (by decide) (rfl)
  ·
   refine s_irem (pc' := 7) (z := (5 : Int32)) A at_6 rfl (by decide) hkk.symm ?_
   refine s_istoreN (pc' := 8) (Ls' := #[iv q0, iv 5, U0, U0, U0]) A at_7 rfl rfl ?_
   refine s_iloadN (pc' := 9) A at_8 rfl rfl ?_
   refine s_static (pc' := 12) (y := y0_pick) (argsL := [(.int (5 : Int32))]) (rest := []) A (pick5 l Z a0 hw n0 h0 A.size z13 S_AT_LEAST) (w1 hw) (w2 hw) (w3 hw) (w4 hw) (by decide) pd__I_Lcom_example_proctor_proctor_policy_Constraint_Operator_ rfl (W := 0) (by decide) (by decide) (Nat.le_of_eq rfl) (by decide) (by decide) rfl rfl at_9 rfl fun T h70 v71 A Q72 => ?_
   obtain ⟨rfl, eh⟩ := Q72
   rw [eh] at A
   refine Wp.stk (st' := [(.ref z13)]) rfl ?_
   refine s_astoreN (pc' := 13) (Ls' := #[iv q0, iv 5, rv z13, U0, U0]) A at_12 rfl rfl rfl ?_
   refine s_aloadN (pc' := 14) A at_13 rfl rfl rfl ?_
   refine s_getfield (pc' := 17) (host := "") A (Or.inl (w8 hw)) Via.refl F_symbol_z13 at_14 rfl fun T A => ?_
   refine s_astoreN (pc' := 18) (Ls' := #[iv q0, iv 5, rv z13, rv z14, U0]) A at_17 rfl rfl rfl ?_
   refine s_aloadN (pc' := 19) A at_18 rfl rfl rfl ?_
   refine s_virtual (pc' := 22) (y := y6_length) (argsL := []) (rest := []) (z := y6_length) A E_z14 (len5 l Z a0 hw n0 h0 A.size z14 z15 cz S_COMPACT_STRINGS ncz F_coder_z14 E_z14 F_value_z14 V_z15) (w10 hw) (w11 hw) (nf_same (C := "") (w13 hw)) (w13 hw) (w12 hw) (w14 hw) (w15 hw) (by decide) pd___I rfl (W := 0) (by decide) (by decide) (Nat.le_of_eq rfl) (by decide) (by decide) rfl rfl at_19 rfl fun T h73 v74 A Q75 => ?_
   obtain ⟨rfl, eh⟩ := Q75
   rw [eh] at A
   refine Wp.stk (st' := [(.int (2 : Int32))]) rfl ?_
   refine s_ifN (pc' := 25) A at_22 rfl (by decide) ?_
   refine s_aloadN (pc' := 26) A at_25 rfl rfl rfl ?_
   refine s_iconst (pc' := 27) (z := (0 : Int32)) A at_26 rfl (by decide) ?_
   refine s_virtual (pc' := 30) (y := y7_charAt) (argsL := [(.int (0 : Int32))]) (rest := []) (z := y7_charAt) A E_z14 (cat5 l Z a0 hw n0 h0 A.size z14 z15 cz fv S_COMPACT_STRINGS ncz F_coder_z14 E_z14 F_value_z14 V_z15 hfv S_SIOOBE_FORMATTER) (w26 hw) (w27 hw) (nf_same (C := "") (w29 hw)) (w29 hw) (w28 hw) (w14 hw) (w30 hw) (by decide) pd__I_C rfl (W := 0) (by decide) (by decide) (Nat.le_of_eq rfl) (by decide) (by decide) rfl rfl at_27 rfl fun T h76 v77 A Q78 => ?_
   obtain ⟨rfl, eh⟩ := Q78
   rw [eh] at A
   refine Wp.stk (st' := [(.int (62 : Int32))]) rfl ?_
   refine s_bipush (pc' := 32) (z := (60 : Int32)) A at_30 rfl (by decide) ?_
   refine s_icmpN (pc' := 35) A at_32 rfl (by decide) ?_
   refine s_aloadN (pc' := 36) A at_35 rfl rfl rfl ?_
   refine s_iconst (pc' := 37) (z := (0 : Int32)) A at_36 rfl (by decide) ?_
   refine s_virtual (pc' := 40) (y := y7_charAt) (argsL := [(.int (0 : Int32))]) (rest := []) (z := y7_charAt) A E_z14 (cat5 l Z a0 hw n0 h0 A.size z14 z15 cz fv S_COMPACT_STRINGS ncz F_coder_z14 E_z14 F_value_z14 V_z15 hfv S_SIOOBE_FORMATTER) (w26 hw) (w27 hw) (nf_same (C := "") (w29 hw)) (w29 hw) (w28 hw) (w14 hw) (w30 hw) (by decide) pd__I_C rfl (W := 0) (by decide) (by decide) (Nat.le_of_eq rfl) (by decide) (by decide) rfl rfl at_37 rfl fun T h79 v80 A Q81 => ?_
   obtain ⟨rfl, eh⟩ := Q81
   rw [eh] at A
   refine Wp.stk (st' := [(.int (62 : Int32))]) rfl ?_
   refine s_bipush (pc' := 42) (z := (62 : Int32)) A at_40 rfl (by decide) ?_
   refine s_icmpN (pc' := 45) A at_42 rfl (by decide) ?_
   refine s_iconst (pc' := 46) (z := (1 : Int32)) A at_45 rfl (by decide) ?_
   refine s_goto (pc' := 50) A at_46 (by decide) (by decide) ?_
   refine s_istore (pc' := 52) (Ls' := #[iv q0, iv 5, rv z13, rv z14, iv 1]) A at_50 rfl rfl ?_
   refine s_aloadN (pc' := 53) A at_52 rfl rfl rfl ?_
   refine s_virtual (pc' := 56) (y := y8_orders) (argsL := []) (rest := []) (z := y8_orders) A E_z13 (ord5 l Z a0 hw n0 h0 A.size z1 z7 z13 S_EQUAL S_NOT_EQUAL (Fld.ne F_ordinal_z13 F_ordinal_z1 (by decide)) (Fld.ne F_ordinal_z13 F_ordinal_z7 (by decide))) (w48 hw) (w49 hw) (nf_same (C := "") (w51 hw)) (w51 hw) (w50 hw) (w6 hw) (w52 hw) (by decide) pd___Z rfl (W := 0) (by decide) (by decide) (Nat.le_of_eq rfl) (by decide) (by decide) rfl rfl at_53 rfl fun T h82 v83 A Q84 => ?_
   obtain ⟨rfl, eh⟩ := Q84
   rw [eh] at A
   refine Wp.stk (st' := [(.int (1 : Int32))]) rfl ?_
   refine s_iload (pc' := 58) A at_56 rfl rfl ?_
   refine s_icmpN (pc' := 61) A at_58 rfl (by decide) ?_
   refine s_iconst (pc' := 62) (z := (1 : Int32)) A at_61 rfl (by decide) ?_
   refine s_goto (pc' := 66) A at_62 (by decide) (by decide) ?_
   exact r_bool A rfl (by decide) at_66 (by decide) (by decide) (rfl)
set_option maxRecDepth 65536 in
set_option maxHeartbeats 40000000 in
theorem comes_1 {Post : Tables → Env → Array Value → State → Outcome → State → Prop} (hpost : ∀ tb e args s v u, (limb_1_1.after args s (.returned v) u = true ∧ limb_1_2.after args s (.returned v) u = true ∧ True) → FrameEnd s (.returned v) u (Jvm.fieldLocs frame_1_writes args s ++ Jvm.arrayLocs frame_1_arrays args s ++ Jvm.staticLocs frame_1_statics s) 0 0 → Post tb e args s (.returned v) u) :
    ArmFor flags0 classFile x code maxLocals ret World_1 tables_1 room_1 Calls_1 rest_1 Pre_1 Post := by
  intro l hfl _ _ p e ha hc hk s m args below hf hA hF happ hP
  obtain ⟨hcalls, hrest, hpre⟩ := hP
  obtain ⟨-, -, -, hnamed, -, -, -, hat⟩ := (Spec.applies_iff hf).mp happ
  obtain ⟨hg, hn⟩ := and_e (Cond.before_iff.mp (show (Jvm.Cond.and given_1 narrow_1).before args s = true from hpre))
  obtain ⟨hcnt, hg⟩ := and_e hg
  obtain ⟨w0, rfl⟩ : ∃ w0 : Value, args = #[w0] := by
    have hs : args.size = 1 := by simpa [Cond.value, given_1] using hcnt
    obtain ⟨L⟩ := args
    match L, hs with
    | [w0], _ => exact ⟨w0, rfl⟩
  have hw := fun d (hd : d ∈ tables_1) => atoms_spec (ws := Jvm.Cond.code x code maxLocals ret :: tables_1) hat d (List.mem_cons_of_mem _ hd)
  have hfit : Fit s := fun {y c} hc i hi => by
    obtain ⟨ha, rfl⟩ := Array.getElem?_eq_some_iff.mp hc
    have q := List.all_eq_true.mp ((Array.all_eq_true_iff_forall_mem.mp hF) _ (Array.getElem_mem ha)) i (List.mem_range.mpr hi)
    simpa [Array.getElem?_eq_getElem hi] using q
  obtain ⟨x0, e0⟩ := is_v hg
  obtain rfl : w0 = (.int x0) := Option.some.inj e0
  have hsets := (atoms_of jdkStatics_1 (own := restOwn_1) (by have q := hrest; rw [show rest_1 = Jvm.D.preC rest_1_c from rfl] at q; exact q)).1
  obtain ⟨cz, ecz⟩ := is_v (Cond.before_iff.mp (hsets _ (List.mem_of_getElem? (i := 1) rfl)))
  have S_COMPACT_STRINGS : Sta s s.heap "java/lang/String" "COMPACT_STRINGS" "Z" (.int cz) := Sta.start ecz (Or.inl (hsets _ (List.mem_of_getElem? (i := 0) rfl)))
  have ncz := x_neI ecz (Cond.before_iff.mp (hsets _ (List.mem_of_getElem? (i := 2) rfl)))
  obtain ⟨fv, efv, hfv⟩ := isR_v (Cond.before_iff.mp (hsets _ (List.mem_of_getElem? (i := 8) rfl)))
  have S_SIOOBE_FORMATTER : Sta s s.heap "jdk/internal/util/Preconditions" "SIOOBE_FORMATTER" "Ljava/util/function/BiFunction;" fv := Sta.start efv (Or.inl (hsets _ (List.mem_of_getElem? (i := 7) rfl)))
  obtain ⟨m0, hn⟩ := and_e hn
  obtain ⟨z1, ev1⟩ := exa_v m0
  have S_EQUAL : Sta s s.heap "com/example/proctor/proctor/policy/Constraint$Operator" "EQUAL" "Lcom/example/proctor/proctor/policy/Constraint$Operator;" (.ref z1) := Sta.start ev1 (Or.inr ⟨(w6 hw), (w7 hw)⟩)
  have E_z1 := Exa.start ev1 m0
  obtain ⟨m1, hn⟩ := and_e hn
  obtain ⟨z2, ev2⟩ := exa_v m1
  have F_symbol_z1 := x_fld ev1 ev2
  have E_z2 := Exa.start ev2 m1
  obtain ⟨m2, hn⟩ := and_e hn
  obtain ⟨z3, ev3⟩ := arr_v m2
  have F_value_z2 := x_fld ev2 ev3
  obtain ⟨c_z3, A_z3⟩ := Arr.start ev3 m2
  obtain ⟨m3, hn⟩ := and_e hn
  have L_z3 := x_len ev3 A_z3 (x_eqI m3)
  obtain ⟨m4, hn⟩ := and_e hn
  have F_coder_z2 := x_fld ev2 (x_eqI m4)
  obtain ⟨m5, hn⟩ := and_e hn
  have el_z3_0 := x_el ev3 A_z3 (x_eqI m5) (i := 0) (by decide)
  obtain ⟨m6, hn⟩ := and_e hn
  obtain ⟨z4, ev4⟩ := exa_v m6
  have S_AT_MOST : Sta s s.heap "com/example/proctor/proctor/policy/Constraint$Operator" "AT_MOST" "Lcom/example/proctor/proctor/policy/Constraint$Operator;" (.ref z4) := Sta.start ev4 (Or.inr ⟨(w6 hw), (w55 hw)⟩)
  have E_z4 := Exa.start ev4 m6
  obtain ⟨m7, hn⟩ := and_e hn
  obtain ⟨z5, ev5⟩ := exa_v m7
  have F_symbol_z4 := x_fld ev4 ev5
  have E_z5 := Exa.start ev5 m7
  obtain ⟨m8, hn⟩ := and_e hn
  obtain ⟨z6, ev6⟩ := arr_v m8
  have F_value_z5 := x_fld ev5 ev6
  obtain ⟨c_z6, A_z6⟩ := Arr.start ev6 m8
  obtain ⟨m9, hn⟩ := and_e hn
  have L_z6 := x_len ev6 A_z6 (x_eqI m9)
  obtain ⟨m10, hn⟩ := and_e hn
  have F_coder_z5 := x_fld ev5 (x_eqI m10)
  obtain ⟨m11, hn⟩ := and_e hn
  have el_z6_0 := x_el ev6 A_z6 (x_eqI m11) (i := 0) (by decide)
  obtain ⟨m12, hn⟩ := and_e hn
  have F_ordinal_z4 := x_fld ev4 (x_eqI m12)
  obtain ⟨m13, hn⟩ := and_e hn
  have F_ordinal_z1 := x_fld ev1 (x_eqI m13)
  obtain ⟨m14, hn⟩ := and_e hn
  obtain ⟨z7, ev7⟩ := exa_v m14
  have S_NOT_EQUAL : Sta s s.heap "com/example/proctor/proctor/policy/Constraint$Operator" "NOT_EQUAL" "Lcom/example/proctor/proctor/policy/Constraint$Operator;" (.ref z7) := Sta.start ev7 (Or.inr ⟨(w6 hw), (w57 hw)⟩)
  have E_z7 := Exa.start ev7 m14
  obtain ⟨m15, hn⟩ := and_e hn
  have F_ordinal_z7 := x_fld ev7 (x_eqI m15)
  obtain ⟨m16, hn⟩ := and_e hn
  obtain ⟨z8, ev8⟩ := exa_v m16
  have S_LESS : Sta s s.heap "com/example/proctor/proctor/policy/Constraint$Operator" "LESS" "Lcom/example/proctor/proctor/policy/Constraint$Operator;" (.ref z8) := Sta.start ev8 (Or.inr ⟨(w6 hw), (w59 hw)⟩)
  have E_z8 := Exa.start ev8 m16
  obtain ⟨m17, hn⟩ := and_e hn
  obtain ⟨z9, ev9⟩ := exa_v m17
  have F_symbol_z8 := x_fld ev8 ev9
  have E_z9 := Exa.start ev9 m17
  obtain ⟨m18, hn⟩ := and_e hn
  obtain ⟨z10, ev10⟩ := arr_v m18
  have F_value_z9 := x_fld ev9 ev10
  obtain ⟨c_z10, A_z10⟩ := Arr.start ev10 m18
  obtain ⟨m19, hn⟩ := and_e hn
  have L_z10 := x_len ev10 A_z10 (x_eqI m19)
  obtain ⟨m20, hn⟩ := and_e hn
  have F_coder_z9 := x_fld ev9 (x_eqI m20)
  obtain ⟨m21, hn⟩ := and_e hn
  have el_z10_0 := x_el ev10 A_z10 (x_eqI m21) (i := 0) (by decide)
  obtain ⟨m22, hn⟩ := and_e hn
  have F_ordinal_z8 := x_fld ev8 (x_eqI m22)
  obtain ⟨m23, hn⟩ := and_e hn
  obtain ⟨z11, ev11⟩ := exa_v m23
  have F_symbol_z7 := x_fld ev7 ev11
  have E_z11 := Exa.start ev11 m23
  obtain ⟨m24, hn⟩ := and_e hn
  obtain ⟨z12, ev12⟩ := arr_v m24
  have F_value_z11 := x_fld ev11 ev12
  obtain ⟨c_z12, A_z12⟩ := Arr.start ev12 m24
  obtain ⟨m25, hn⟩ := and_e hn
  have L_z12 := x_len ev12 A_z12 (x_eqI m25)
  obtain ⟨m26, hn⟩ := and_e hn
  have F_coder_z11 := x_fld ev11 (x_eqI m26)
  obtain ⟨m27, hn⟩ := and_e hn
  have el_z12_0 := x_el ev12 A_z12 (x_eqI m27) (i := 0) (by decide)
  obtain ⟨m28, hn⟩ := and_e hn
  obtain ⟨z13, ev13⟩ := exa_v m28
  have S_AT_LEAST : Sta s s.heap "com/example/proctor/proctor/policy/Constraint$Operator" "AT_LEAST" "Lcom/example/proctor/proctor/policy/Constraint$Operator;" (.ref z13) := Sta.start ev13 (Or.inr ⟨(w6 hw), (w62 hw)⟩)
  have E_z13 := Exa.start ev13 m28
  obtain ⟨m29, hn⟩ := and_e hn
  obtain ⟨z14, ev14⟩ := exa_v m29
  have F_symbol_z13 := x_fld ev13 ev14
  have E_z14 := Exa.start ev14 m29
  obtain ⟨m30, hn⟩ := and_e hn
  obtain ⟨z15, ev15⟩ := arr_v m30
  have F_value_z14 := x_fld ev14 ev15
  obtain ⟨c_z15, A_z15⟩ := Arr.start ev15 m30
  obtain ⟨m31, hn⟩ := and_e hn
  have L_z15 := x_len ev15 A_z15 (x_eqI m31)
  obtain ⟨m32, hn⟩ := and_e hn
  have F_coder_z14 := x_fld ev14 (x_eqI m32)
  obtain ⟨m33, hn⟩ := and_e hn
  have el_z15_0 := x_el ev15 A_z15 (x_eqI m33) (i := 0) (by decide)
  obtain ⟨m34, hn⟩ := and_e hn
  have F_ordinal_z13 := x_fld ev13 (x_eqI m34)
  obtain ⟨m35, hn⟩ := and_e hn
  obtain ⟨z16, ev16⟩ := exa_v m35
  have S_GREATER : Sta s s.heap "com/example/proctor/proctor/policy/Constraint$Operator" "GREATER" "Lcom/example/proctor/proctor/policy/Constraint$Operator;" (.ref z16) := Sta.start ev16 (Or.inr ⟨(w6 hw), (w64 hw)⟩)
  have E_z16 := Exa.start ev16 m35
  obtain ⟨m36, hn⟩ := and_e hn
  obtain ⟨z17, ev17⟩ := exa_v m36
  have F_symbol_z16 := x_fld ev16 ev17
  have E_z17 := Exa.start ev17 m36
  obtain ⟨m37, hn⟩ := and_e hn
  obtain ⟨z18, ev18⟩ := arr_v m37
  have F_value_z17 := x_fld ev17 ev18
  obtain ⟨c_z18, A_z18⟩ := Arr.start ev18 m37
  obtain ⟨m38, hn⟩ := and_e hn
  have L_z18 := x_len ev18 A_z18 (x_eqI m38)
  obtain ⟨m39, hn⟩ := and_e hn
  have F_coder_z17 := x_fld ev17 (x_eqI m39)
  obtain ⟨m40, hn⟩ := and_e hn
  have el_z18_0 := x_el ev18 A_z18 (x_eqI m40) (i := 0) (by decide)
  obtain ⟨m41, hn⟩ := and_e hn
  have F_ordinal_z16 := x_fld ev16 (x_eqI m41)
  obtain ⟨m42, hn⟩ := and_e hn
  have el_z6_1 := x_el ev6 A_z6 (x_eqI m42) (i := 1) (by decide)
  obtain ⟨m43, hn⟩ := and_e hn
  have el_z12_1 := x_el ev12 A_z12 (x_eqI m43) (i := 1) (by decide)
  have el_z15_1 := x_el ev15 A_z15 (x_eqI hn) (i := 1) (by decide)
  have V_z3 : AA s s.heap z3 .byte [.int (61 : Int32)] := x_aa hfit A_z3 L_z3 (by decide) (by decide) (by decide) ⟨el_z3_0, trivial⟩
  have V_z6 : AA s s.heap z6 .byte [.int (60 : Int32), .int (61 : Int32)] := x_aa hfit A_z6 L_z6 (by decide) (by decide) (by decide) ⟨el_z6_0, el_z6_1, trivial⟩
  have V_z10 : AA s s.heap z10 .byte [.int (60 : Int32)] := x_aa hfit A_z10 L_z10 (by decide) (by decide) (by decide) ⟨el_z10_0, trivial⟩
  have V_z12 : AA s s.heap z12 .byte [.int (33 : Int32), .int (61 : Int32)] := x_aa hfit A_z12 L_z12 (by decide) (by decide) (by decide) ⟨el_z12_0, el_z12_1, trivial⟩
  have V_z15 : AA s s.heap z15 .byte [.int (62 : Int32), .int (61 : Int32)] := x_aa hfit A_z15 L_z15 (by decide) (by decide) (by decide) ⟨el_z15_0, el_z15_1, trivial⟩
  have V_z18 : AA s s.heap z18 .byte [.int (62 : Int32)] := x_aa hfit A_z18 L_z18 (by decide) (by decide) (by decide) ⟨el_z18_0, trivial⟩
  obtain ⟨n, o, h1, h2, h3, _, L, rfl, ⟨N, rfl⟩, hq⟩ := rm0 l s _ hw s.heap.size s.heap (Nat.le_refl _) x0 cz S_COMPACT_STRINGS ncz fv hfv S_SIOOBE_FORMATTER z1 S_EQUAL E_z1 z2 F_symbol_z1 E_z2 z3 F_value_z2 F_coder_z2 z4 S_AT_MOST E_z4 z5 F_symbol_z4 E_z5 z6 F_value_z5 F_coder_z5 F_ordinal_z4 F_ordinal_z1 z7 S_NOT_EQUAL E_z7 F_ordinal_z7 z8 S_LESS E_z8 z9 F_symbol_z8 E_z9 z10 F_value_z9 F_coder_z9 F_ordinal_z8 z11 F_symbol_z7 E_z11 z12 F_value_z11 F_coder_z11 z13 S_AT_LEAST E_z13 z14 F_symbol_z13 E_z14 z15 F_value_z14 F_coder_z14 F_ordinal_z13 z16 S_GREATER E_z16 z17 F_symbol_z16 E_z17 z18 F_value_z17 F_coder_z17 F_ordinal_z16 V_z3 V_z6 V_z10 V_z12 V_z15 V_z18 tables_1 p e ha hc hk s m _ below hf ((Spec.applies_iff_loose hf).mp happ).1 ⟨rfl, State.Warmed39.refl s, rfl⟩ trivial
  refine ⟨n, _, h1, h2, h3, hpost _ _ _ _ _ _ ⟨Cond.after_iff.mpr rfl, Cond.after_iff.mpr (eq_i res_at (Term.int_eval (1)) rfl), trivial⟩ ⟨hq.1, hq.2.1, (hq.2.2.sift fun y hy => Or.inr (N y hy)).mono (by decide) (by decide)⟩⟩
theorem main_1_1 : Claimed_1_1 := comes_1 fun _ _ _ _ _ _ h hF => ⟨h.1, hF⟩
theorem main_1_2 : Claimed_1_2 := comes_1 fun _ _ _ _ _ _ h hF => ⟨h.2.1, hF⟩
end Jvm.Pilot.@@N@@
namespace Jvm.Pilot.@@N@@
open Jvm Jvm.ClassFile Sem Op Lib Jvm.Free Jvm.Stand Jvm.Pilot.@@N@@.Jvm.D
/-! MADE BY PROGRAM (witnessworld.py) out of the Statement's table words and the real class files: 18 classes; the members and pool entries that the words name. The judged class is class 1, her method 2. -/
namespace start1
open Jvm.ClassFile
def u (s : String) : CpInfo := .utf8 (stringToUtf16 s)
/-- a pool by its gaps: so many unusable entries, then the entry; so many at the end -/
def gap : Nat → List CpInfo → List CpInfo
  | 0, r => r
  | n + 1, r => .unusable :: gap n r
def poolList (es : List (Nat × CpInfo)) (last : Nat) : List CpInfo := es.foldr (fun e r => gap e.1 (e.2 :: r)) (gap last [])
def pool (es : List (Nat × CpInfo)) (last : Nat) : Array CpInfo := ⟨poolList es last⟩
def fileOf (pool : Array CpInfo) (this : Nat) (attrs : Array Attribute := #[]) (ms : Array MethodInfo := #[]) (fl : Nat := 33) (sup : Nat := 0) (ifs : Array Nat := #[]) (fds : Array FieldInfo := #[]) : ClassFile where
  minorVersion := 0
  majorVersion := 65
  constantPool := pool
  accessFlags := fl
  thisClass := this
  superClass := sup
  interfaces := ifs
  fields := fds
  methods := ms
  attributes := attrs
def plain (name : String) (sup : Option ClassId) : Class where
  name := name
  kind := .ordinary
  loader := none
  accessFlags := 33
  super := sup
  interfaces := #[]
  cf := none
  fields := #[]
  methods := #[]
  instanceTypes := #[]
  staticTypes := #[]
  resolved := #[]
  callSites := []
  init := .initialized
  statics := none
  mirror := none

def pool0 : Array CpInfo := pool [(5, u "<init>"), (0, u "()V"), (1, .class_ 10), (1, u "java/lang/Object")] 113

def k0m0 : Method := { name := "<init>", desc := "()V", sig := { parameters := [], returnType := none }, accessFlags := 1, code := none }
/-- java/lang/Object -/
def k0 : Class := { plain "java/lang/Object" none with
  accessFlags := 33
  interfaces := #[]
  cf := some (fileOf pool0 8 #[] #[{ accessFlags := 1, nameIndex := 5, descriptorIndex := 6, attributes := #[] }] 33 0 #[] #[])
  fields := #[]
  methods := #[k0m0]
  instanceTypes := #[]
  staticTypes := #[]
  resolved := Array.replicate 124 none
  statics := none }

def pool1 : Array CpInfo := pool [(2, .class_ 4), (1, u "java/lang/Object"), (0, u "<init>"), (0, u "()V"), (0, .fieldref 8 9), (0, .class_ 10), (0, .nameAndType 11 12), (0, u "com/example/proctor/proctor/policy/Constraint$Operator"), (0, u "EQUAL"), (0, u "Lcom/example/proctor/proctor/policy/Constraint$Operator;"), (0, .fieldref 8 14), (0, .nameAndType 15 12), (0, u "NOT_EQUAL"), (0, .fieldref 8 17), (0, .nameAndType 18 12), (0, u "LESS"), (0, .fieldref 8 20), (0, .nameAndType 21 12), (0, u "AT_MOST"), (0, .fieldref 8 23), (0, .nameAndType 24 12), (0, u "GREATER"), (0, .fieldref 8 26), (0, .nameAndType 27 12), (0, u "AT_LEAST"), (0, .integer 2147483647), (0, .methodref 30 31), (0, .class_ 32), (0, .nameAndType 33 34), (0, u "com/example/proctor/proctor/policy/OperatorOrdersPinLaw"), (0, u "pick"), (0, u "(I)Lcom/example/proctor/proctor/policy/Constraint$Operator;"), (0, .fieldref 8 36), (0, .nameAndType 37 38), (0, u "symbol"), (0, u "Ljava/lang/String;"), (0, .methodref 40 41), (0, .class_ 42), (0, .nameAndType 43 44), (0, u "java/lang/String"), (0, u "length"), (0, u "()I"), (0, .methodref 40 46), (0, .nameAndType 47 48), (0, u "charAt"), (0, u "(I)C"), (0, .methodref 8 50), (0, .nameAndType 51 52), (0, u "orders"), (0, u "()Z"), (3, u "law"), (0, u "(I)Z")] 6

def k1m0 : Method := { name := "<init>", desc := "()V", sig := { parameters := [], returnType := none }, accessFlags := 1, code := none }
def k1c1 : Code := { maxStack := 2, maxLocals := 1, code := method_2_code, exceptionTable := #[], attributes := #[] }
def k1m1 : Method := { name := "pick", desc := "(I)Lcom/example/proctor/proctor/policy/Constraint$Operator;", sig := { parameters := [.int], returnType := some (.object "com/example/proctor/proctor/policy/Constraint$Operator") }, accessFlags := 10, code := some k1c1 }
def k1c2 : Code := { maxStack := 2, maxLocals := 5, code := code, exceptionTable := #[], attributes := #[] }
def k1m2 : Method := { name := "law", desc := "(I)Z", sig := { parameters := [.int], returnType := some .boolean }, accessFlags := 9, code := some k1c2 }
/-- com/example/proctor/proctor/policy/OperatorOrdersPinLaw -/
def k1 : Class := { plain "com/example/proctor/proctor/policy/OperatorOrdersPinLaw" (some 0) with
  accessFlags := 49
  interfaces := #[]
  cf := some (fileOf pool1 30 #[] #[{ accessFlags := 1, nameIndex := 5, descriptorIndex := 6, attributes := #[] }, { accessFlags := 10, nameIndex := 33, descriptorIndex := 34, attributes := #[] }, { accessFlags := 9, nameIndex := 56, descriptorIndex := 57, attributes := #[] }] 49 2 #[] #[])
  fields := #[]
  methods := #[k1m0, k1m1, k1m2]
  instanceTypes := #[]
  staticTypes := #[]
  resolved := Array.replicate 64 none
  statics := none }

def pool2 : Array CpInfo := pool [(1, .class_ 2), (0, u "java/lang/constant/Constable"), (0, .class_ 4), (0, u "java/lang/Object")] 6

/-- java/lang/constant/Constable -/
def k2 : Class := { plain "java/lang/constant/Constable" (some 0) with
  accessFlags := 1537
  interfaces := #[]
  cf := some (fileOf pool2 1 #[] #[] 1537 3 #[] #[])
  fields := #[]
  methods := #[]
  instanceTypes := #[]
  staticTypes := #[]
  resolved := Array.replicate 11 none
  statics := none }

def pool3 : Array CpInfo := pool [(1, .class_ 2), (0, u "java/lang/Comparable"), (0, .class_ 4), (0, u "java/lang/Object")] 7

/-- java/lang/Comparable -/
def k3 : Class := { plain "java/lang/Comparable" (some 0) with
  accessFlags := 1537
  interfaces := #[]
  cf := some (fileOf pool3 1 #[] #[] 1537 3 #[] #[])
  fields := #[]
  methods := #[]
  instanceTypes := #[]
  staticTypes := #[]
  resolved := Array.replicate 12 none
  statics := none }

def pool4 : Array CpInfo := pool [(1, .class_ 2), (0, u "java/io/Serializable"), (0, .class_ 4), (0, u "java/lang/Object")] 2

/-- java/io/Serializable -/
def k4 : Class := { plain "java/io/Serializable" (some 0) with
  accessFlags := 1537
  interfaces := #[]
  cf := some (fileOf pool4 1 #[] #[] 1537 3 #[] #[])
  fields := #[]
  methods := #[]
  instanceTypes := #[]
  staticTypes := #[]
  resolved := Array.replicate 7 none
  statics := none }

def pool5 : Array CpInfo := pool [(2, .class_ 4), (1, u "java/lang/Enum"), (0, u "name"), (0, u "Ljava/lang/String;"), (2, u "ordinal"), (0, u "I"), (1, .class_ 14), (1, u "java/lang/Object"), (4, u "hash"), (86, .class_ 108), (1, u "java/lang/Enum$EnumDesc"), (2, .class_ 112), (0, u "java/lang/constant/Constable"), (0, .class_ 114), (0, u "java/lang/Comparable"), (0, .class_ 116), (0, u "java/io/Serializable")] 87

/-- java/lang/Enum -/
def k5 : Class := { plain "java/lang/Enum" (some 0) with
  accessFlags := 1057
  interfaces := #[2, 3, 4]
  cf := some (fileOf pool5 2 #[.nestMembers #[106]] #[] 1057 12 #[111, 113, 115] #[{ accessFlags := 18, nameIndex := 5, descriptorIndex := 6, attributes := #[] }, { accessFlags := 18, nameIndex := 9, descriptorIndex := 10, attributes := #[] }, { accessFlags := 2, nameIndex := 19, descriptorIndex := 10, attributes := #[] }])
  fields := #[{ name := "name", type := (.object "java/lang/String"), accessFlags := 18, slot := 0, constantValue := 0 }, { name := "ordinal", type := .int, accessFlags := 18, slot := 1, constantValue := 0 }, { name := "hash", type := .int, accessFlags := 2, slot := 2, constantValue := 0 }]
  methods := #[]
  instanceTypes := #[(.object "java/lang/String"), .int, .int]
  staticTypes := #[]
  resolved := Array.replicate 204 none
  statics := none }

def pool6 : Array CpInfo := pool [(1, .class_ 2), (0, u "com/example/proctor/proctor/policy/Constraint$Operator"), (0, .fieldref 1 4), (0, .nameAndType 5 6), (0, u "EQUAL"), (0, u "Lcom/example/proctor/proctor/policy/Constraint$Operator;"), (0, .fieldref 1 8), (0, .nameAndType 9 6), (0, u "NOT_EQUAL"), (2, u "LESS"), (2, u "AT_MOST"), (2, u "GREATER"), (2, u "AT_LEAST"), (2, u "$VALUES"), (0, u "[Lcom/example/proctor/proctor/policy/Constraint$Operator;"), (6, .class_ 34), (1, u "java/lang/Enum"), (8, u "symbol"), (0, u "Ljava/lang/String;"), (32, u "orders"), (0, u "()Z"), (7, .class_ 87), (0, u "com/example/proctor/proctor/policy/Constraint")] 2

def k6c0 : Code := { maxStack := 2, maxLocals := 1, code := prog_37_method_4_code, exceptionTable := #[], attributes := #[] }
def k6m0 : Method := { name := "orders", desc := "()Z", sig := { parameters := [], returnType := some .boolean }, accessFlags := 0, code := some k6c0 }
/-- com/example/proctor/proctor/policy/Constraint$Operator -/
def k6 : Class := { plain "com/example/proctor/proctor/policy/Constraint$Operator" (some 5) with
  accessFlags := 16432
  interfaces := #[]
  cf := some (fileOf pool6 1 #[.nestHost 86] #[{ accessFlags := 0, nameIndex := 77, descriptorIndex := 78, attributes := #[] }] 16432 32 #[] #[{ accessFlags := 16409, nameIndex := 5, descriptorIndex := 6, attributes := #[] }, { accessFlags := 16409, nameIndex := 9, descriptorIndex := 6, attributes := #[] }, { accessFlags := 16409, nameIndex := 12, descriptorIndex := 6, attributes := #[] }, { accessFlags := 16409, nameIndex := 15, descriptorIndex := 6, attributes := #[] }, { accessFlags := 16409, nameIndex := 18, descriptorIndex := 6, attributes := #[] }, { accessFlags := 16409, nameIndex := 21, descriptorIndex := 6, attributes := #[] }, { accessFlags := 16, nameIndex := 43, descriptorIndex := 44, attributes := #[] }, { accessFlags := 4122, nameIndex := 24, descriptorIndex := 25, attributes := #[] }])
  fields := #[{ name := "EQUAL", type := (.object "com/example/proctor/proctor/policy/Constraint$Operator"), accessFlags := 16409, slot := 0, constantValue := 0 }, { name := "NOT_EQUAL", type := (.object "com/example/proctor/proctor/policy/Constraint$Operator"), accessFlags := 16409, slot := 1, constantValue := 0 }, { name := "LESS", type := (.object "com/example/proctor/proctor/policy/Constraint$Operator"), accessFlags := 16409, slot := 2, constantValue := 0 }, { name := "AT_MOST", type := (.object "com/example/proctor/proctor/policy/Constraint$Operator"), accessFlags := 16409, slot := 3, constantValue := 0 }, { name := "GREATER", type := (.object "com/example/proctor/proctor/policy/Constraint$Operator"), accessFlags := 16409, slot := 4, constantValue := 0 }, { name := "AT_LEAST", type := (.object "com/example/proctor/proctor/policy/Constraint$Operator"), accessFlags := 16409, slot := 5, constantValue := 0 }, { name := "symbol", type := (.object "java/lang/String"), accessFlags := 16, slot := 3, constantValue := 0 }, { name := "$VALUES", type := (.array (.object "com/example/proctor/proctor/policy/Constraint$Operator")), accessFlags := 4122, slot := 6, constantValue := 0 }]
  methods := #[k6m0]
  instanceTypes := #[(.object "java/lang/String"), .int, .int, (.object "java/lang/String")]
  staticTypes := #[(.object "com/example/proctor/proctor/policy/Constraint$Operator"), (.object "com/example/proctor/proctor/policy/Constraint$Operator"), (.object "com/example/proctor/proctor/policy/Constraint$Operator"), (.object "com/example/proctor/proctor/policy/Constraint$Operator"), (.object "com/example/proctor/proctor/policy/Constraint$Operator"), (.object "com/example/proctor/proctor/policy/Constraint$Operator"), (.array (.object "com/example/proctor/proctor/policy/Constraint$Operator"))]
  resolved := Array.replicate 90 none
  statics := some 0 }

def pool7 : Array CpInfo := pool [(2, .class_ 4), (1, u "java/lang/CharSequence"), (42, .class_ 48), (0, u "java/lang/CharSequence$1CodePointIterator"), (10, .class_ 60), (0, u "java/lang/CharSequence$1CharIterator"), (5, .class_ 67), (0, u "java/lang/Object")] 63

/-- java/lang/CharSequence -/
def k7 : Class := { plain "java/lang/CharSequence" (some 0) with
  accessFlags := 1537
  interfaces := #[]
  cf := some (fileOf pool7 2 #[.nestMembers #[47, 59]] #[] 1537 66 #[] #[])
  fields := #[]
  methods := #[]
  instanceTypes := #[]
  staticTypes := #[]
  resolved := Array.replicate 131 none
  statics := none }

def pool8 : Array CpInfo := pool [(1, .class_ 2), (0, u "java/lang/constant/ConstantDesc"), (0, .class_ 4), (0, u "java/lang/Object")] 32

/-- java/lang/constant/ConstantDesc -/
def k8 : Class := { plain "java/lang/constant/ConstantDesc" (some 0) with
  accessFlags := 1537
  interfaces := #[]
  cf := some (fileOf pool8 1 #[] #[] 1537 3 #[] #[])
  fields := #[]
  methods := #[]
  instanceTypes := #[]
  staticTypes := #[]
  resolved := Array.replicate 37 none
  statics := none }

def pool9 : Array CpInfo := pool [(2, .class_ 4), (1, u "java/lang/Object"), (0, u "<init>"), (0, u "()V"), (2, .fieldref 10 11), (0, .class_ 12), (0, .nameAndType 13 14), (0, u "java/lang/String"), (0, u "value"), (0, u "[B"), (0, .fieldref 10 16), (0, .nameAndType 17 18), (0, u "coder"), (0, u "B"), (2, u "hash"), (0, u "I"), (2, u "hashIsZero"), (0, u "Z"), (11, .fieldref 10 39), (0, .nameAndType 40 26), (0, u "COMPACT_STRINGS"), (66, .class_ 109), (1, u "java/lang/StringLatin1"), (32, u "()Z"), (191, u "()I"), (0, .methodref 10 336), (0, .nameAndType 17 337), (0, u "()B"), (25, u "([BI)C"), (27, u "(II)V"), (35, u "(I)C"), (64, .methodref 10 493), (0, .nameAndType 494 142), (0, u "isLatin1"), (0, .methodref 107 496), (0, .nameAndType 497 363), (0, u "charAt"), (3, u "checkIndex"), (5, u "length"), (67, .class_ 576), (0, u "java/lang/CharSequence"), (22, u "CASE_INSENSITIVE_ORDER"), (0, u "Ljava/util/Comparator;"), (452, .fieldref 1054 1055), (0, .class_ 1056), (0, .nameAndType 1057 1058), (0, u "jdk/internal/util/Preconditions"), (0, u "SIOOBE_FORMATTER"), (0, u "Ljava/util/function/BiFunction;"), (0, .methodref 1054 1060), (0, .nameAndType 501 1061), (0, u "(IILjava/util/function/BiFunction;)I"), (39, u "serialPersistentFields"), (0, u "[Ljava/io/ObjectStreamField;"), (0, .class_ 1104), (0, u "java/lang/String$CaseInsensitiveComparator"), (1, .class_ 1107), (0, u "java/io/Serializable"), (0, .class_ 1109), (0, u "java/lang/Comparable"), (0, .class_ 1111), (0, u "java/lang/constant/Constable"), (0, .class_ 1113), (0, u "java/lang/constant/ConstantDesc"), (2, u "serialVersionUID"), (0, u "J"), (3, u "REPL"), (0, u "C"), (2, u "LATIN1"), (1, u "UTF16")] 323

def k9m0 : Method := { name := "<init>", desc := "()V", sig := { parameters := [], returnType := none }, accessFlags := 1, code := none }
def k9c1 : Code := { maxStack := 2, maxLocals := 1, code := jdk_42_method_54_code, exceptionTable := #[], attributes := #[] }
def k9m1 : Method := { name := "length", desc := "()I", sig := { parameters := [], returnType := some .int }, accessFlags := 1, code := some k9c1 }
def k9c2 : Code := { maxStack := 2, maxLocals := 2, code := jdk_42_method_56_code, exceptionTable := #[], attributes := #[] }
def k9m2 : Method := { name := "charAt", desc := "(I)C", sig := { parameters := [.int], returnType := some .char }, accessFlags := 1, code := some k9c2 }
def k9c3 : Code := { maxStack := 1, maxLocals := 1, code := jdk_42_method_152_code, exceptionTable := #[], attributes := #[] }
def k9m3 : Method := { name := "coder", desc := "()B", sig := { parameters := [], returnType := some .byte }, accessFlags := 0, code := some k9c3 }
def k9c4 : Code := { maxStack := 1, maxLocals := 1, code := jdk_42_method_154_code, exceptionTable := #[], attributes := #[] }
def k9m4 : Method := { name := "isLatin1", desc := "()Z", sig := { parameters := [], returnType := some .boolean }, accessFlags := 0, code := some k9c4 }
def k9c5 : Code := { maxStack := 3, maxLocals := 2, code := jdk_42_method_155_code, exceptionTable := #[], attributes := #[] }
def k9m5 : Method := { name := "checkIndex", desc := "(II)V", sig := { parameters := [.int, .int], returnType := none }, accessFlags := 8, code := some k9c5 }
/-- java/lang/String -/
def k9 : Class := { plain "java/lang/String" (some 0) with
  accessFlags := 49
  interfaces := #[4, 3, 7, 2, 8]
  cf := some (fileOf pool9 10 #[.nestMembers #[1103]] #[{ accessFlags := 1, nameIndex := 5, descriptorIndex := 6, attributes := #[] }, { accessFlags := 1, nameIndex := 507, descriptorIndex := 334, attributes := #[] }, { accessFlags := 1, nameIndex := 497, descriptorIndex := 427, attributes := #[] }, { accessFlags := 0, nameIndex := 17, descriptorIndex := 337, attributes := #[] }, { accessFlags := 0, nameIndex := 494, descriptorIndex := 142, attributes := #[] }, { accessFlags := 8, nameIndex := 501, descriptorIndex := 391, attributes := #[] }] 49 2 #[1106, 1108, 575, 1110, 1112] #[{ accessFlags := 18, nameIndex := 13, descriptorIndex := 14, attributes := #[] }, { accessFlags := 18, nameIndex := 17, descriptorIndex := 18, attributes := #[] }, { accessFlags := 2, nameIndex := 21, descriptorIndex := 22, attributes := #[] }, { accessFlags := 2, nameIndex := 25, descriptorIndex := 26, attributes := #[] }, { accessFlags := 26, nameIndex := 1116, descriptorIndex := 1117, attributes := #[] }, { accessFlags := 24, nameIndex := 40, descriptorIndex := 26, attributes := #[] }, { accessFlags := 26, nameIndex := 1101, descriptorIndex := 1102, attributes := #[] }, { accessFlags := 26, nameIndex := 1121, descriptorIndex := 1122, attributes := #[] }, { accessFlags := 25, nameIndex := 599, descriptorIndex := 600, attributes := #[] }, { accessFlags := 24, nameIndex := 1125, descriptorIndex := 18, attributes := #[] }, { accessFlags := 24, nameIndex := 1127, descriptorIndex := 18, attributes := #[] }])
  fields := #[{ name := "value", type := (.array .byte), accessFlags := 18, slot := 0, constantValue := 0 }, { name := "coder", type := .byte, accessFlags := 18, slot := 1, constantValue := 0 }, { name := "hash", type := .int, accessFlags := 2, slot := 2, constantValue := 0 }, { name := "hashIsZero", type := .boolean, accessFlags := 2, slot := 3, constantValue := 0 }, { name := "serialVersionUID", type := .long, accessFlags := 26, slot := 0, constantValue := 0 }, { name := "COMPACT_STRINGS", type := .boolean, accessFlags := 24, slot := 1, constantValue := 0 }, { name := "serialPersistentFields", type := (.array (.object "java/io/ObjectStreamField")), accessFlags := 26, slot := 2, constantValue := 0 }, { name := "REPL", type := .char, accessFlags := 26, slot := 3, constantValue := 0 }, { name := "CASE_INSENSITIVE_ORDER", type := (.object "java/util/Comparator"), accessFlags := 25, slot := 4, constantValue := 0 }, { name := "LATIN1", type := .byte, accessFlags := 24, slot := 5, constantValue := 0 }, { name := "UTF16", type := .byte, accessFlags := 24, slot := 6, constantValue := 0 }]
  methods := #[k9m0, k9m1, k9m2, k9m3, k9m4, k9m5]
  instanceTypes := #[(.array .byte), .byte, .int, .boolean]
  staticTypes := #[.long, .boolean, (.array (.object "java/io/ObjectStreamField")), .char, (.object "java/util/Comparator"), .byte, .byte]
  resolved := Array.replicate 1451 none
  statics := some 1 }

def pool10 : Array CpInfo := pool [(1, .class_ 2), (0, u "java/lang/String"), (1, .class_ 6), (1, u "java/lang/Object"), (0, u "<init>"), (0, u "()V"), (0, .methodref 1 10), (0, .nameAndType 11 12), (0, u "checkIndex"), (0, u "(II)V"), (1, .class_ 16), (1, u "java/lang/StringLatin1"), (36, u "([BI)C"), (67, u "$assertionsDisabled"), (0, u "Z"), (98, .class_ 223), (1, u "java/lang/StringLatin1$LinesSpliterator"), (28, u "charAt"), (137, .class_ 391), (0, u "java/lang/StringLatin1$CharsSpliterator")] 3

def k10m0 : Method := { name := "<init>", desc := "()V", sig := { parameters := [], returnType := none }, accessFlags := 0, code := none }
def k10c1 : Code := { maxStack := 2, maxLocals := 2, code := jdk_43_method_2_code, exceptionTable := #[], attributes := #[] }
def k10m1 : Method := { name := "charAt", desc := "([BI)C", sig := { parameters := [(.array .byte), .int], returnType := some .char }, accessFlags := 9, code := some k10c1 }
/-- java/lang/StringLatin1 -/
def k10 : Class := { plain "java/lang/StringLatin1" (some 0) with
  accessFlags := 48
  interfaces := #[]
  cf := some (fileOf pool10 14 #[.nestMembers #[390, 221]] #[{ accessFlags := 0, nameIndex := 7, descriptorIndex := 8, attributes := #[] }, { accessFlags := 9, nameIndex := 252, descriptorIndex := 53, attributes := #[] }] 48 4 #[] #[{ accessFlags := 4120, nameIndex := 121, descriptorIndex := 122, attributes := #[] }])
  fields := #[{ name := "$assertionsDisabled", type := .boolean, accessFlags := 4120, slot := 0, constantValue := 0 }]
  methods := #[k10m0, k10m1]
  instanceTypes := #[]
  staticTypes := #[.boolean]
  resolved := Array.replicate 395 none
  statics := none }

def pool11 : Array CpInfo := pool [(2, .class_ 4), (1, u "java/lang/Object"), (0, u "<init>"), (0, u "()V"), (17, .class_ 26), (1, u "jdk/internal/util/Preconditions"), (6, u "checkIndex"), (21, .class_ 56), (0, u "jdk/internal/util/Preconditions$4"), (57, .class_ 115), (0, u "jdk/internal/util/Preconditions$1"), (7, u "SIOOBE_FORMATTER"), (0, u "Ljava/util/function/BiFunction;"), (0, .class_ 126), (0, u "jdk/internal/util/Preconditions$2"), (3, u "AIOOBE_FORMATTER"), (0, .class_ 132), (0, u "jdk/internal/util/Preconditions$3"), (3, u "IOOBE_FORMATTER"), (41, u "(IILjava/util/function/BiFunction;)I")] 15

def k11m0 : Method := { name := "<init>", desc := "()V", sig := { parameters := [], returnType := none }, accessFlags := 1, code := none }
def k11c1 : Code := { maxStack := 3, maxLocals := 3, code := jdk_41_method_11_code, exceptionTable := #[], attributes := #[] }
def k11m1 : Method := { name := "checkIndex", desc := "(IILjava/util/function/BiFunction;)I", sig := { parameters := [.int, .int, (.object "java/util/function/BiFunction")], returnType := some .int }, accessFlags := 9, code := some k11c1 }
/-- jdk/internal/util/Preconditions -/
def k11 : Class := { plain "jdk/internal/util/Preconditions" (some 0) with
  accessFlags := 33
  interfaces := #[]
  cf := some (fileOf pool11 24 #[.nestMembers #[55, 131, 125, 114]] #[{ accessFlags := 1, nameIndex := 5, descriptorIndex := 6, attributes := #[] }, { accessFlags := 9, nameIndex := 33, descriptorIndex := 178, attributes := #[] }] 33 2 #[] #[{ accessFlags := 25, nameIndex := 123, descriptorIndex := 124, attributes := #[] }, { accessFlags := 25, nameIndex := 130, descriptorIndex := 124, attributes := #[] }, { accessFlags := 25, nameIndex := 136, descriptorIndex := 124, attributes := #[] }])
  fields := #[{ name := "SIOOBE_FORMATTER", type := (.object "java/util/function/BiFunction"), accessFlags := 25, slot := 0, constantValue := 0 }, { name := "AIOOBE_FORMATTER", type := (.object "java/util/function/BiFunction"), accessFlags := 25, slot := 1, constantValue := 0 }, { name := "IOOBE_FORMATTER", type := (.object "java/util/function/BiFunction"), accessFlags := 25, slot := 2, constantValue := 0 }]
  methods := #[k11m0, k11m1]
  instanceTypes := #[]
  staticTypes := #[(.object "java/util/function/BiFunction"), (.object "java/util/function/BiFunction"), (.object "java/util/function/BiFunction")]
  resolved := Array.replicate 194 none
  statics := some 2 }

def pool12 : Array CpInfo := pool [(9, u "<init>"), (6, .class_ 18), (1, u "java/lang/Object"), (0, u "()V"), (1, .class_ 23), (1, u "jdk/internal/util/ArraysSupport"), (0, u "LOG2_ARRAY_LONG_INDEX_SCALE"), (0, u "I"), (2, u "U"), (0, u "Ljdk/internal/misc/Unsafe;"), (8, u "BIG_ENDIAN"), (0, u "Z"), (8, u "LOG2_BYTE_BIT_SIZE"), (4, u "LOG2_ARRAY_INT_INDEX_SCALE"), (54, u "JLA"), (0, u "Ljdk/internal/access/JavaLangAccess;"), (11, u "LOG2_ARRAY_BOOLEAN_INDEX_SCALE"), (9, u "LOG2_ARRAY_BYTE_INDEX_SCALE"), (5, u "LOG2_ARRAY_CHAR_INDEX_SCALE"), (5, u "LOG2_ARRAY_SHORT_INDEX_SCALE"), (18, u "LOG2_ARRAY_FLOAT_INDEX_SCALE"), (24, u "LOG2_ARRAY_DOUBLE_INDEX_SCALE"), (89, u "T_BOOLEAN"), (2, u "T_CHAR"), (1, u "T_FLOAT"), (1, u "T_DOUBLE"), (1, u "T_BYTE"), (1, u "T_SHORT"), (1, u "T_INT"), (1, u "T_LONG"), (1, u "SOFT_MAX_ARRAY_LENGTH")] 83

def k12m0 : Method := { name := "<init>", desc := "()V", sig := { parameters := [], returnType := none }, accessFlags := 2, code := none }
/-- jdk/internal/util/ArraysSupport -/
def k12 : Class := { plain "jdk/internal/util/ArraysSupport" (some 0) with
  accessFlags := 33
  interfaces := #[]
  cf := some (fileOf pool12 21 #[] #[{ accessFlags := 2, nameIndex := 9, descriptorIndex := 19, attributes := #[] }] 33 16 #[] #[{ accessFlags := 24, nameIndex := 28, descriptorIndex := 29, attributes := #[] }, { accessFlags := 26, nameIndex := 38, descriptorIndex := 39, attributes := #[] }, { accessFlags := 25, nameIndex := 121, descriptorIndex := 25, attributes := #[] }, { accessFlags := 25, nameIndex := 131, descriptorIndex := 25, attributes := #[] }, { accessFlags := 25, nameIndex := 137, descriptorIndex := 25, attributes := #[] }, { accessFlags := 25, nameIndex := 143, descriptorIndex := 25, attributes := #[] }, { accessFlags := 25, nameIndex := 53, descriptorIndex := 25, attributes := #[] }, { accessFlags := 25, nameIndex := 24, descriptorIndex := 25, attributes := #[] }, { accessFlags := 25, nameIndex := 162, descriptorIndex := 25, attributes := #[] }, { accessFlags := 25, nameIndex := 187, descriptorIndex := 25, attributes := #[] }, { accessFlags := 26, nameIndex := 48, descriptorIndex := 25, attributes := #[] }, { accessFlags := 25, nameIndex := 277, descriptorIndex := 25, attributes := #[] }, { accessFlags := 25, nameIndex := 280, descriptorIndex := 25, attributes := #[] }, { accessFlags := 25, nameIndex := 282, descriptorIndex := 25, attributes := #[] }, { accessFlags := 25, nameIndex := 284, descriptorIndex := 25, attributes := #[] }, { accessFlags := 25, nameIndex := 286, descriptorIndex := 25, attributes := #[] }, { accessFlags := 25, nameIndex := 288, descriptorIndex := 25, attributes := #[] }, { accessFlags := 25, nameIndex := 290, descriptorIndex := 25, attributes := #[] }, { accessFlags := 25, nameIndex := 292, descriptorIndex := 25, attributes := #[] }, { accessFlags := 26, nameIndex := 108, descriptorIndex := 109, attributes := #[] }, { accessFlags := 25, nameIndex := 294, descriptorIndex := 25, attributes := #[] }])
  fields := #[{ name := "U", type := (.object "jdk/internal/misc/Unsafe"), accessFlags := 24, slot := 0, constantValue := 0 }, { name := "BIG_ENDIAN", type := .boolean, accessFlags := 26, slot := 1, constantValue := 0 }, { name := "LOG2_ARRAY_BOOLEAN_INDEX_SCALE", type := .int, accessFlags := 25, slot := 2, constantValue := 0 }, { name := "LOG2_ARRAY_BYTE_INDEX_SCALE", type := .int, accessFlags := 25, slot := 3, constantValue := 0 }, { name := "LOG2_ARRAY_CHAR_INDEX_SCALE", type := .int, accessFlags := 25, slot := 4, constantValue := 0 }, { name := "LOG2_ARRAY_SHORT_INDEX_SCALE", type := .int, accessFlags := 25, slot := 5, constantValue := 0 }, { name := "LOG2_ARRAY_INT_INDEX_SCALE", type := .int, accessFlags := 25, slot := 6, constantValue := 0 }, { name := "LOG2_ARRAY_LONG_INDEX_SCALE", type := .int, accessFlags := 25, slot := 7, constantValue := 0 }, { name := "LOG2_ARRAY_FLOAT_INDEX_SCALE", type := .int, accessFlags := 25, slot := 8, constantValue := 0 }, { name := "LOG2_ARRAY_DOUBLE_INDEX_SCALE", type := .int, accessFlags := 25, slot := 9, constantValue := 0 }, { name := "LOG2_BYTE_BIT_SIZE", type := .int, accessFlags := 26, slot := 10, constantValue := 0 }, { name := "T_BOOLEAN", type := .int, accessFlags := 25, slot := 11, constantValue := 0 }, { name := "T_CHAR", type := .int, accessFlags := 25, slot := 12, constantValue := 0 }, { name := "T_FLOAT", type := .int, accessFlags := 25, slot := 13, constantValue := 0 }, { name := "T_DOUBLE", type := .int, accessFlags := 25, slot := 14, constantValue := 0 }, { name := "T_BYTE", type := .int, accessFlags := 25, slot := 15, constantValue := 0 }, { name := "T_SHORT", type := .int, accessFlags := 25, slot := 16, constantValue := 0 }, { name := "T_INT", type := .int, accessFlags := 25, slot := 17, constantValue := 0 }, { name := "T_LONG", type := .int, accessFlags := 25, slot := 18, constantValue := 0 }, { name := "JLA", type := (.object "jdk/internal/access/JavaLangAccess"), accessFlags := 26, slot := 19, constantValue := 0 }, { name := "SOFT_MAX_ARRAY_LENGTH", type := .int, accessFlags := 25, slot := 20, constantValue := 0 }]
  methods := #[k12m0]
  instanceTypes := #[]
  staticTypes := #[(.object "jdk/internal/misc/Unsafe"), .boolean, .int, .int, .int, .int, .int, .int, .int, .int, .int, .int, .int, .int, .int, .int, .int, .int, .int, (.object "jdk/internal/access/JavaLangAccess"), .int]
  resolved := Array.replicate 378 none
  statics := none }

def pool13 : Array CpInfo := pool [(1, u "java/lang/Cloneable"), (0, .class_ 1), (0, u "java/lang/Object"), (0, .class_ 3)] 3

/-- java/lang/Cloneable -/
def k13 : Class := { plain "java/lang/Cloneable" (some 0) with
  accessFlags := 1537
  interfaces := #[]
  cf := some (fileOf pool13 2 #[] #[] 1537 4 #[] #[])
  fields := #[]
  methods := #[]
  instanceTypes := #[]
  staticTypes := #[]
  resolved := Array.replicate 8 none
  statics := none }

/-- the primitive byte -/
def k14 : Class := { plain "byte" none with kind := .primitive 'B', accessFlags := 0x411 }
/-- [B -/
def k15 : Class := { plain "[B" (some 0) with kind := .array 14 .byte, interfaces := #[13, 4], accessFlags := 1041 }

/-- the primitive int -/
def k16 : Class := { plain "int" none with kind := .primitive 'I', accessFlags := 0x411 }
/-- [I -/
def k17 : Class := { plain "[I" (some 0) with kind := .array 16 .int, interfaces := #[13, 4], accessFlags := 1041 }

def heap : Heap := #[{ cls := 6, slots := #[.ref 5, .ref 8, .ref 11, .ref 14, .ref 17, .ref 20, .null], vm := .statics 6 },
  { cls := 9, slots := #[.long 0, .int 1, .null, .int 0, .null, .int 0, .int 0], vm := .statics 9 },
  { cls := 11, slots := #[.null, .null, .null], vm := .statics 11 },
  { cls := 15, slots := #[.int 61], vm := .none },
  { cls := 9, slots := #[.ref 3, .int 0, .int 0, .int 0], vm := .none },
  { cls := 6, slots := #[.null, .int 0, .int 0, .ref 4], vm := .none },
  { cls := 15, slots := #[.int 33, .int 61], vm := .none },
  { cls := 9, slots := #[.ref 6, .int 0, .int 0, .int 0], vm := .none },
  { cls := 6, slots := #[.null, .int 1, .int 0, .ref 7], vm := .none },
  { cls := 15, slots := #[.int 60], vm := .none },
  { cls := 9, slots := #[.ref 9, .int 0, .int 0, .int 0], vm := .none },
  { cls := 6, slots := #[.null, .int 2, .int 0, .ref 10], vm := .none },
  { cls := 15, slots := #[.int 60, .int 61], vm := .none },
  { cls := 9, slots := #[.ref 12, .int 0, .int 0, .int 0], vm := .none },
  { cls := 6, slots := #[.null, .int 3, .int 0, .ref 13], vm := .none },
  { cls := 15, slots := #[.int 62], vm := .none },
  { cls := 9, slots := #[.ref 15, .int 0, .int 0, .int 0], vm := .none },
  { cls := 6, slots := #[.null, .int 4, .int 0, .ref 16], vm := .none },
  { cls := 15, slots := #[.int 62, .int 61], vm := .none },
  { cls := 9, slots := #[.ref 18, .int 0, .int 0, .int 0], vm := .none },
  { cls := 6, slots := #[.null, .int 5, .int 0, .ref 19], vm := .none }]
def classes : Array Class := #[k0, k1, k2, k3, k4, k5, k6, k7, k8, k9, k10, k11, k12, k13, k14, k15, k16, k17]
def interned : List (Array UInt16 × Addr) := []
def slotsUsed : Nat := 74
def theMethod : MethodId := ⟨1, 2⟩
def args0 : Array Value := #[.int 5]
def aboutOver (below : List Frame) : State where
  vm := { classes := classes, interned := interned.toArray }
  heap := heap
  slotsUsed := slotsUsed
  threads := #[{ frames := .invoking theMethod args0 :: below }]
def below0 : List Frame := [.native { method := ⟨0, 0⟩, args := #[] }]
def about1 : State := aboutOver below0
def p0 : Program := .bare "" "" ""
def e0 : Env := launch0.env 0 0 0
theorem w_frames : about1.frames = Frame.invoking theMethod args0 :: below0 := rfl
set_option maxRecDepth 65536 in
theorem w_args : argsFit about1.vm theMethod args0 = true := by decide +kernel
set_option maxRecDepth 65536 in
theorem w_heap : heapFits about1 = true := by decide +kernel
set_option maxRecDepth 65536 in
theorem w_runnable : about1.curStatus? = some .runnable := by decide +kernel
set_option maxRecDepth 65536 in
theorem w_alone : about1.alone = true := by decide +kernel
set_option maxRecDepth 65536 in
theorem w_named : about1.methodNamed? x = some theMethod := by decide +kernel
set_option maxRecDepth 65536 in
theorem w_hears : about1.hears theMethod below0 = true := by decide +kernel
set_option maxRecDepth 65536 in
theorem w_ripe : about1.ripe theMethod args0 below0 = true := by decide +kernel
theorem w_running : about1.status = .running := rfl
set_option maxRecDepth 65536 in
theorem w_room : about1.hasRoom e0.platform room_1 = true :=
  launch0.hasRoom_least _ room_1 (by decide +kernel) (by decide +kernel) (by decide +kernel) (by decide +kernel) (by decide +kernel) (by decide +kernel)
theorem allAtoms_all (ts : List Jvm.Cond) (a : Array Jvm.Value) (st : Jvm.State) : (allAtoms ts).before a st = ts.all (fun c => c.before a st) := by
  induction ts with
  | nil => rfl
  | cons c t ih =>
    show (Jvm.Cond.and c (allAtoms t)).before a st = _
    rw [Jvm.Cond.before_and, ih, List.all_cons]
def words1 : List Jvm.Cond := Jvm.Cond.code x code maxLocals ret :: tables_1
/-- a 'code' word, met by the world's own term for the bytes: nothing is compared byte by byte -/
theorem code_word {y : MethodName} {bytes : ByteArray} {mx : Nat} {rt : Option FieldType} {a : Array Value} {s : State} {m : MethodId} {meth : Method} {c : Code} (h1 : s.methodNamed? y = some m) (h2 : s.vm.method? m = some meth) (h3 : meth.code = some c) (h4 : c.code = bytes)
    (h5 : (c.maxLocals == mx && c.exceptionTable.isEmpty && decide (c.maxStack ≤ mostOperands) && decide (meth.sig.returnType = rt) && !meth.locks && decide (parseMethodDescriptor y.desc = some meth.sig)) = true) : (Jvm.Cond.code y bytes mx rt).before a s = true := by
  simp only [Bool.and_eq_true, beq_iff_eq, Bool.not_eq_true', decide_eq_true_eq] at h5
  obtain ⟨⟨⟨⟨⟨g1, g2⟩, g3⟩, g4⟩, g5⟩, g6⟩ := h5
  simp [Cond.before, Cond.holds, Cond.value, h1, h2, h3, h4, g1, g2, g3, g4, g5, g6]
def isCode : Jvm.Cond → Bool
  | .code _ _ _ _ => true
  | _ => false
theorem all_split {L : List Jvm.Cond} {P : Jvm.Cond → Bool} (h1 : L.all (fun c => isCode c || P c) = true) (h2 : ∀ c ∈ L.filter isCode, P c = true) : L.all P = true := by
  refine List.all_eq_true.mpr fun c hc => ?_
  have h := List.all_eq_true.mp h1 c hc
  rcases Bool.eq_false_or_eq_true (isCode c) with hi | hi
  · exact h2 c (List.mem_filter.mpr ⟨hc, hi⟩)
  · simpa [hi] using h
set_option maxRecDepth 65536 in
theorem w_c0 : (Jvm.Cond.code x code maxLocals ret).before args0 about1 = true := code_word (m := ⟨1, 2⟩) (meth := k1m2) (c := k1c2) (by decide +kernel) rfl rfl rfl (by decide +kernel)
set_option maxRecDepth 65536 in
theorem w_c1 : (Jvm.Cond.code ({ cls := "com/example/proctor/proctor/policy/OperatorOrdersPinLaw", name := "pick", desc := "(I)Lcom/example/proctor/proctor/policy/Constraint$Operator;" } : Jvm.MethodName) method_2_code (1 : Nat) (Option.some (Jvm.ClassFile.FieldType.object "com/example/proctor/proctor/policy/Constraint$Operator"))).before args0 about1 = true := code_word (m := ⟨1, 1⟩) (meth := k1m1) (c := k1c1) (by decide +kernel) rfl rfl rfl (by decide +kernel)
set_option maxRecDepth 65536 in
theorem w_c2 : (Jvm.Cond.code ({ cls := "java/lang/String", name := "length", desc := "()I" } : Jvm.MethodName) jdk_42_method_54_code (1 : Nat) (Option.some Jvm.ClassFile.FieldType.int)).before args0 about1 = true := code_word (m := ⟨9, 1⟩) (meth := k9m1) (c := k9c1) (by decide +kernel) rfl rfl rfl (by decide +kernel)
set_option maxRecDepth 65536 in
theorem w_c3 : (Jvm.Cond.code ({ cls := "java/lang/String", name := "coder", desc := "()B" } : Jvm.MethodName) jdk_42_method_152_code (1 : Nat) (Option.some Jvm.ClassFile.FieldType.byte)).before args0 about1 = true := code_word (m := ⟨9, 3⟩) (meth := k9m3) (c := k9c3) (by decide +kernel) rfl rfl rfl (by decide +kernel)
set_option maxRecDepth 65536 in
theorem w_c4 : (Jvm.Cond.code ({ cls := "java/lang/String", name := "charAt", desc := "(I)C" } : Jvm.MethodName) jdk_42_method_56_code (2 : Nat) (Option.some Jvm.ClassFile.FieldType.char)).before args0 about1 = true := code_word (m := ⟨9, 2⟩) (meth := k9m2) (c := k9c2) (by decide +kernel) rfl rfl rfl (by decide +kernel)
set_option maxRecDepth 65536 in
theorem w_c5 : (Jvm.Cond.code ({ cls := "java/lang/String", name := "isLatin1", desc := "()Z" } : Jvm.MethodName) jdk_42_method_154_code (1 : Nat) (Option.some Jvm.ClassFile.FieldType.boolean)).before args0 about1 = true := code_word (m := ⟨9, 4⟩) (meth := k9m4) (c := k9c4) (by decide +kernel) rfl rfl rfl (by decide +kernel)
set_option maxRecDepth 65536 in
theorem w_c6 : (Jvm.Cond.code ({ cls := "java/lang/StringLatin1", name := "charAt", desc := "([BI)C" } : Jvm.MethodName) jdk_43_method_2_code (2 : Nat) (Option.some Jvm.ClassFile.FieldType.char)).before args0 about1 = true := code_word (m := ⟨10, 1⟩) (meth := k10m1) (c := k10c1) (by decide +kernel) rfl rfl rfl (by decide +kernel)
set_option maxRecDepth 65536 in
theorem w_c7 : (Jvm.Cond.code ({ cls := "java/lang/String", name := "checkIndex", desc := "(II)V" } : Jvm.MethodName) jdk_42_method_155_code (2 : Nat) (Option.none : Option Jvm.ClassFile.FieldType)).before args0 about1 = true := code_word (m := ⟨9, 5⟩) (meth := k9m5) (c := k9c5) (by decide +kernel) rfl rfl rfl (by decide +kernel)
set_option maxRecDepth 65536 in
theorem w_c8 : (Jvm.Cond.code ({ cls := "jdk/internal/util/Preconditions", name := "checkIndex", desc := "(IILjava/util/function/BiFunction;)I" } : Jvm.MethodName) jdk_41_method_11_code (3 : Nat) (Option.some Jvm.ClassFile.FieldType.int)).before args0 about1 = true := code_word (m := ⟨11, 1⟩) (meth := k11m1) (c := k11c1) (by decide +kernel) rfl rfl rfl (by decide +kernel)
set_option maxRecDepth 65536 in
theorem w_c9 : (Jvm.Cond.code ({ cls := "com/example/proctor/proctor/policy/Constraint$Operator", name := "orders", desc := "()Z" } : Jvm.MethodName) prog_37_method_4_code (1 : Nat) (Option.some Jvm.ClassFile.FieldType.boolean)).before args0 about1 = true := code_word (m := ⟨6, 0⟩) (meth := k6m0) (c := k6c0) (by decide +kernel) rfl rfl rfl (by decide +kernel)
def codes1 : List Jvm.Cond := [Jvm.Cond.code x code maxLocals ret, Jvm.Cond.code ({ cls := "com/example/proctor/proctor/policy/OperatorOrdersPinLaw", name := "pick", desc := "(I)Lcom/example/proctor/proctor/policy/Constraint$Operator;" } : Jvm.MethodName) method_2_code (1 : Nat) (Option.some (Jvm.ClassFile.FieldType.object "com/example/proctor/proctor/policy/Constraint$Operator")), Jvm.Cond.code ({ cls := "java/lang/String", name := "length", desc := "()I" } : Jvm.MethodName) jdk_42_method_54_code (1 : Nat) (Option.some Jvm.ClassFile.FieldType.int), Jvm.Cond.code ({ cls := "java/lang/String", name := "coder", desc := "()B" } : Jvm.MethodName) jdk_42_method_152_code (1 : Nat) (Option.some Jvm.ClassFile.FieldType.byte), Jvm.Cond.code ({ cls := "java/lang/String", name := "charAt", desc := "(I)C" } : Jvm.MethodName) jdk_42_method_56_code (2 : Nat) (Option.some Jvm.ClassFile.FieldType.char), Jvm.Cond.code ({ cls := "java/lang/String", name := "isLatin1", desc := "()Z" } : Jvm.MethodName) jdk_42_method_154_code (1 : Nat) (Option.some Jvm.ClassFile.FieldType.boolean), Jvm.Cond.code ({ cls := "java/lang/StringLatin1", name := "charAt", desc := "([BI)C" } : Jvm.MethodName) jdk_43_method_2_code (2 : Nat) (Option.some Jvm.ClassFile.FieldType.char), Jvm.Cond.code ({ cls := "java/lang/String", name := "checkIndex", desc := "(II)V" } : Jvm.MethodName) jdk_42_method_155_code (2 : Nat) (Option.none : Option Jvm.ClassFile.FieldType), Jvm.Cond.code ({ cls := "jdk/internal/util/Preconditions", name := "checkIndex", desc := "(IILjava/util/function/BiFunction;)I" } : Jvm.MethodName) jdk_41_method_11_code (3 : Nat) (Option.some Jvm.ClassFile.FieldType.int), Jvm.Cond.code ({ cls := "com/example/proctor/proctor/policy/Constraint$Operator", name := "orders", desc := "()Z" } : Jvm.MethodName) prog_37_method_4_code (1 : Nat) (Option.some Jvm.ClassFile.FieldType.boolean)]
set_option maxRecDepth 65536 in
theorem codes_eq : words1.filter isCode = codes1 := rfl
theorem w_codes : ∀ c ∈ words1.filter isCode, c.before args0 about1 = true := by
  rw [codes_eq]
  intro c hc
  simp only [codes1, List.mem_cons, List.not_mem_nil, or_false] at hc
  rcases hc with rfl | rfl | rfl | rfl | rfl | rfl | rfl | rfl | rfl | rfl
  · exact w_c0
  · exact w_c1
  · exact w_c2
  · exact w_c3
  · exact w_c4
  · exact w_c5
  · exact w_c6
  · exact w_c7
  · exact w_c8
  · exact w_c9
set_option maxRecDepth 65536 in
theorem w_t1 : (words1.take 24).all (fun c => isCode c || c.before args0 about1) = true := by decide +kernel
set_option maxRecDepth 65536 in
theorem w_t2 : ((words1.drop 24).take 24).all (fun c => isCode c || c.before args0 about1) = true := by decide +kernel
set_option maxRecDepth 65536 in
theorem w_t3 : ((words1.drop 24).drop 24).all (fun c => isCode c || c.before args0 about1) = true := by decide +kernel
theorem w_tables : (allAtoms (Jvm.Cond.code x code maxLocals ret :: tables_1)).before args0 about1 = true := by
  rw [allAtoms_all]
  show words1.all (fun c => c.before args0 about1) = true
  refine all_split ?_ w_codes
  rw [← List.take_append_drop 24 words1, List.all_append, w_t1, ← List.take_append_drop 24 (words1.drop 24), List.all_append, w_t2, w_t3]
  rfl
set_option maxRecDepth 65536 in
theorem w_rest : rest_1_c.before args0 about1 = true := by decide +kernel
set_option maxRecDepth 65536 in
theorem w_case : (Jvm.Cond.and given_1 narrow_1).before args0 about1 = true := by decide +kernel
theorem w_applies : (headSpec (Jvm.Cond.code x code maxLocals ret :: tables_1) room_1).applies x e0.platform about1 = true :=
  (Spec.applies_iff w_frames).mpr ⟨w_running, w_runnable, w_alone, w_named, w_hears, w_ripe, w_room, w_tables⟩
theorem atStart : AtStart classFile x code maxLocals ret World_1 tables_1 room_1 Calls_1 rest_1 Pre_1 launch0 p0 e0 about1 theMethod args0 below0 :=
  ⟨lists_1, trivial, launch0.admits_env _ _ _, launch0.least_env, fairChoices_fair.cas, fairChoices_fair.clock, w_frames, w_args, w_heap, w_applies, trivial, w_rest, w_case⟩
end start1
theorem witness_1 : WitnessClaimed_1 := ⟨start1.p0, start1.e0, start1.about1, start1.theMethod, start1.args0, start1.below0, start1.atStart⟩
end Jvm.Pilot.@@N@@
