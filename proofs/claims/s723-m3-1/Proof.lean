import JvmDerived
import JvmDerived.Pilot.@@N@@Statement
import JvmDerived.Pilot.@@N@@Code
set_option linter.unusedVariables false
set_option linter.unusedSimpArgs false
namespace Jvm.Ow
open Sem ClassFile Op Lib Jvm.Stand Jvm.Free Jvm.LawKit Jvm.RoadKit
abbrev jv (x : Int64) : Slot := .val (.long x)
abbrev U0 : Slot := .unset
abbrev S2 : Slot := .second
def On (l : Launch) (Z : State) (n0 : Nat) (own : String) (bytes : ByteArray) (maxL : Nat) (ret : Option FieldType) (R : Room) (p : Program) (e : Env) (s : State) (m : MethodId) (args : Array Value) (below : List Frame) (meth : Method) (c : Code) (T : State) (h : Heap) (k n : Nat) : Prop :=
  ∃ locs, Stand p l e R s m args below meth c T locs k n ∧ Fr n0 locs ∧ T.heap = h ∧ p.tables.exec = Jvm.exec ∧ Z.Warmed39 s.vm ∧ c.code = bytes ∧ c.maxLocals = maxL ∧ s.vm.findClass own = some m.cls ∧ meth.sig.returnType = ret ∧ meth.locks = false ∧ n0 ≤ s.heap.size
def Wp (p : Program) (e : Env) (below : List Frame) (Φ : Outcome → State → Prop) (U : State) : Prop :=
  ∃ t o, Steps p.tables e below U t ∧ t.status = .running ∧ Ended t below o ∧ Φ o t
abbrev EndH (s : State) (n0 ck cs : Nat) (Q : Option Value → Heap → Prop) : Outcome → State → Prop := fun o t => ∃ v L, o = .returned v ∧ (Fr n0 L ∧ Q v t.heap) ∧ FrameEnd s o t L ck cs
abbrev EndS (s : State) (n0 ck cs : Nat) (Q : Option Value → Heap → Vm → Prop) : Outcome → State → Prop := fun o t => ∃ v L, o = .returned v ∧ (Fr n0 L ∧ Q v t.heap t.vm) ∧ ReturnedEndW s o t L ck cs
def Met (l : Launch) (Z : State) (n0 : Nat) (y : MethodName) (bytes : ByteArray) (maxL : Nat) (ret : Option FieldType) (rm : Room) (as : Array Value) (h : Heap) (Q : Option Value → Heap → Prop) : Prop :=
  ∀ ws, MetFree l y (head1 (Cond.code y bytes maxL ret :: ws) rm) (fun a U => a = as ∧ Z.Warmed39 U.vm ∧ U.heap = h) (fun _ _ _ _ _ => True) (fun _ U o U' => ∃ v L, o = .returned v ∧ (Fr n0 L ∧ Q v U'.heap) ∧ FrameEnd U o U' L rm.cells rm.slots)
def AA (Z : State) (h : Heap) (a : Addr) (ty : FieldType) (vs : List Value) : Prop := ∃ c : Cell, Arr Z h a c ty ∧ c.slots = vs.toArray ∧ vs.length < 2147483648
section Kit
variable {l : Launch} {Z : State} {n0 : Nat} {own : String} {bytes : ByteArray} {maxL : Nat} {ret : Option FieldType} {R : Room} {p : Program} {e : Env} {s : State} {m : MethodId} {args : Array Value} {below : List Frame} {meth : Method} {c : Code} {T : State} {h h' : Heap} {k n ck cs : Nat} {Q : Option Value → Heap → Prop} {pc pc' : Nat} {Ls Ls' : Array Slot} {st : List Value} {a0 : Array Value} {a b : Addr} {ty : FieldType} {vs : List Value} {sl : Nat} {v w : Value} {ws : List Addr} {Φ : Outcome → State → Prop}
theorem AA.ext (F : AA Z h a ty vs) (E : Ext h h') : AA Z h' a ty vs := by obtain ⟨c, A, r⟩ := F; exact ⟨c, A.ext E, r⟩
theorem AA.cast {vs' : List Value} (F : AA Z h a ty vs) (q : vs = vs') : AA Z h a ty vs' := q ▸ F
theorem Fld.cast {C f d : String} (F : Fld Z h a C f d v) (q : v = w) : Fld Z h a C f d w := q ▸ F
theorem On.size(A : On l Z n0 own bytes maxL ret R p e s m args below meth c T h k n) : n0 ≤ h.size := by
  obtain ⟨locs, X, N, eT, hx, hZ, hby, hml, hown, hret, hlk, hsz⟩ := A
  have := X.same.2.1
  subst eT
  exact Nat.le_trans hsz this
theorem Wp.goo {U U' : State} (f : ∀ t, Steps p.tables e below U' t → Steps p.tables e below U t) (K : Wp p e below Φ U') : Wp p e below Φ U := by
  obtain ⟨t, o, q, r⟩ := K; exact ⟨t, o, f t q, r⟩
theorem Wp.cast {g g' : JFrame} (q : g = g') (K : Wp p e below Φ (T.setTop g')) : Wp p e below Φ (T.setTop g) := q ▸ K
theorem Wp.stk {st' : List Value} (q : st = st') (K : Wp p e below Φ (T.setTop (mkF m pc Ls st'))) : Wp p e below Φ (T.setTop (mkF m pc Ls st)) := q ▸ K
theorem met_intro {y : MethodName} {rm : Room} {as : Array Value} (hpl : plainFor y = true) (ho : y.cls = own) (hsz : n0 ≤ h.size)
    (body : ∀ p e s m below meth c T, On l Z n0 own bytes maxL ret rm p e s m as below meth c T h 0 0 → meth.name = y.name → Wp p e below (EndH s n0 rm.cells rm.slots Q) (T.setTop (entryFrame m as maxL))) : Met l Z n0 y bytes maxL ret rm as h Q := by
  subst ho
  intro ws
  refine MetFree.of_bodySF hpl hisR ?_
  intro p e s m args below meth c s₁ Bd hml0 hP hK
  obtain ⟨rfl, hZ, hh⟩ := hP
  have X0 : Stand p l e rm s m args below meth c s₁ [] 0 0 := Stand.of_body Bd
  have e0 : s₁.heap = h := by rw [← hh, Bd.state]; rfl
  exact body p e s m below meth c s₁ ⟨[], X0, Fr.nil n0, e0, Bd.exec, hZ, Bd.bytes, hml0, findClass_of_methodNamed Bd.named, Bd.returns, Bd.notSynchronized, by rw [hh]; exact hsz⟩ (name_of_methodNamed Bd.named Bd.method).1
theorem Met.mono {y : MethodName} {rm : Room} {as : Array Value} {Q' : Option Value → Heap → Prop} (M : Met l Z n0 y bytes maxL ret rm as h Q) (q : ∀ v h, Q v h → Q' v h) : Met l Z n0 y bytes maxL ret rm as h Q' := by
  intro ws p e ha hc hk s m args below hf happ hP hK
  obtain ⟨n, o, h1, h2, h3, v, L, h4, ⟨h5, h6⟩, h7⟩ := M ws p e ha hc hk s m args below hf happ hP hK
  exact ⟨n, o, h1, h2, h3, v, L, h4, ⟨h5, q _ _ h6⟩, h7⟩
theorem s_iloadN (A : On l Z n0 own bytes maxL ret R p e s m args below meth c T h k n) {i : Fin 4} {z : Int32} (hd : decode bytes pc = .ok (.iload_n i, 1)) (hp : pc + 1 = pc') (hl : Ls[i.val]? = some (.val (.int z))) (K : Wp p e below Φ (T.setTop (mkF m pc' Ls (.int z :: st)))) : Wp p e below Φ (T.setTop (mkF m pc Ls st)) := by
  obtain ⟨locs, X, N, eT, hx, hZ, hby, hml, hown, hret, hlk, hsz⟩ := A
  subst hp
  exact K.goo fun t q => XS.iloadN X.here hx rfl (hb hby hd) hl q
theorem s_aloadN (A : On l Z n0 own bytes maxL ret R p e s m args below meth c T h k n) {i : Fin 4} (hd : decode bytes pc = .ok (.aload_n i, 1)) (hp : pc + 1 = pc') (hl : Ls[i.val]? = some (.val v)) (hv : v.isRef = true) (K : Wp p e below Φ (T.setTop (mkF m pc' Ls (v :: st)))) : Wp p e below Φ (T.setTop (mkF m pc Ls st)) := by
  obtain ⟨locs, X, N, eT, hx, hZ, hby, hml, hown, hret, hlk, hsz⟩ := A
  subst hp
  exact K.goo fun t q => XS.aloadN X.here hx rfl (hb hby hd) hl hv q
theorem s_istoreN (A : On l Z n0 own bytes maxL ret R p e s m args below meth c T h k n) {i : Fin 4} {z : Int32} (hd : decode bytes pc = .ok (.istore_n i, 1)) (hp : pc + 1 = pc') (hl : storeLocals Ls i.val (.int z) = some Ls') (K : Wp p e below Φ (T.setTop (mkF m pc' Ls' st))) : Wp p e below Φ (T.setTop (mkF m pc Ls (.int z :: st))) := by
  obtain ⟨locs, X, N, eT, hx, hZ, hby, hml, hown, hret, hlk, hsz⟩ := A
  subst hp
  exact K.goo fun t q => XS.istoreN X.here hx rfl (hb hby hd) rfl hl q
theorem s_astoreN (A : On l Z n0 own bytes maxL ret R p e s m args below meth c T h k n) {i : Fin 4} (hd : decode bytes pc = .ok (.astore_n i, 1)) (hp : pc + 1 = pc') (hv : v.isRef = true) (hl : storeLocals Ls i.val v = some Ls') (K : Wp p e below Φ (T.setTop (mkF m pc' Ls' st))) : Wp p e below Φ (T.setTop (mkF m pc Ls (v :: st))) := by
  obtain ⟨locs, X, N, eT, hx, hZ, hby, hml, hown, hret, hlk, hsz⟩ := A
  subst hp
  exact K.goo fun t q => XS.astoreN X.here hx rfl (hb hby hd) rfl hv hl q
theorem s_iload (A : On l Z n0 own bytes maxL ret R p e s m args below meth c T h k n) {i : Nat} {z : Int32} (hd : decode bytes pc = .ok (.iload i, 2)) (hp : pc + 2 = pc') (hl : Ls[i]? = some (.val (.int z))) (K : Wp p e below Φ (T.setTop (mkF m pc' Ls (.int z :: st)))) : Wp p e below Φ (T.setTop (mkF m pc Ls st)) := by
  obtain ⟨locs, X, N, eT, hx, hZ, hby, hml, hown, hret, hlk, hsz⟩ := A
  subst hp
  exact K.goo fun t q => XS.iload X.here hx rfl (hb hby hd) hl q
theorem s_aload (A : On l Z n0 own bytes maxL ret R p e s m args below meth c T h k n) {i : Nat} (hd : decode bytes pc = .ok (.aload i, 2)) (hp : pc + 2 = pc') (hl : Ls[i]? = some (.val v)) (hv : v.isRef = true) (K : Wp p e below Φ (T.setTop (mkF m pc' Ls (v :: st)))) : Wp p e below Φ (T.setTop (mkF m pc Ls st)) := by
  obtain ⟨locs, X, N, eT, hx, hZ, hby, hml, hown, hret, hlk, hsz⟩ := A
  subst hp
  exact K.goo fun t q => XS.aload X.here hx rfl (hb hby hd) hl hv q
theorem s_istore (A : On l Z n0 own bytes maxL ret R p e s m args below meth c T h k n) {i : Nat} {z : Int32} (hd : decode bytes pc = .ok (.istore i, 2)) (hp : pc + 2 = pc') (hl : storeLocals Ls i (.int z) = some Ls') (K : Wp p e below Φ (T.setTop (mkF m pc' Ls' st))) : Wp p e below Φ (T.setTop (mkF m pc Ls (.int z :: st))) := by
  obtain ⟨locs, X, N, eT, hx, hZ, hby, hml, hown, hret, hlk, hsz⟩ := A
  subst hp
  exact K.goo fun t q => XS.istore X.here hx rfl (hb hby hd) rfl hl q
theorem s_astore (A : On l Z n0 own bytes maxL ret R p e s m args below meth c T h k n) {i : Nat} (hd : decode bytes pc = .ok (.astore i, 2)) (hp : pc + 2 = pc') (hv : v.isRef = true) (hl : storeLocals Ls i v = some Ls') (K : Wp p e below Φ (T.setTop (mkF m pc' Ls' st))) : Wp p e below Φ (T.setTop (mkF m pc Ls (v :: st))) := by
  obtain ⟨locs, X, N, eT, hx, hZ, hby, hml, hown, hret, hlk, hsz⟩ := A
  subst hp
  exact K.goo fun t q => XS.astore X.here hx rfl (hb hby hd) rfl hv hl q
theorem s_iconst (A : On l Z n0 own bytes maxL ret R p e s m args below meth c T h k n) {i : Int} {z : Int32} (hd : decode bytes pc = .ok (.iconst i, 1)) (hp : pc + 1 = pc') (hz : Int32.ofInt i = z) (K : Wp p e below Φ (T.setTop (mkF m pc' Ls (.int z :: st)))) : Wp p e below Φ (T.setTop (mkF m pc Ls st)) := by
  obtain ⟨locs, X, N, eT, hx, hZ, hby, hml, hown, hret, hlk, hsz⟩ := A
  subst hp
  subst hz
  exact K.goo fun t q => XS.iconst X.here hx rfl (hb hby hd) q
theorem s_iand (A : On l Z n0 own bytes maxL ret R p e s m args below meth c T h k n) {x y z : Int32} (hd : decode bytes pc = .ok (.iand, 1)) (hp : pc + 1 = pc') (hz : x &&& y = z) (K : Wp p e below Φ (T.setTop (mkF m pc' Ls (.int z :: st)))) : Wp p e below Φ (T.setTop (mkF m pc Ls (.int y :: .int x :: st))) := by
  obtain ⟨locs, X, N, eT, hx, hZ, hby, hml, hown, hret, hlk, hsz⟩ := A
  subst hp
  subst hz
  exact K.goo fun t q => XS.iand X.here hx rfl (hb hby hd) rfl q
theorem s_irem (A : On l Z n0 own bytes maxL ret R p e s m args below meth c T h k n) {x y z : Int32} (hd : decode bytes pc = .ok (.irem, 1)) (hp : pc + 1 = pc') (hy : y ≠ 0) (hz : x % y = z) (K : Wp p e below Φ (T.setTop (mkF m pc' Ls (.int z :: st)))) : Wp p e below Φ (T.setTop (mkF m pc Ls (.int y :: .int x :: st))) := by
  obtain ⟨locs, X, N, eT, hx, hZ, hby, hml, hown, hret, hlk, hsz⟩ := A
  subst hp
  subst hz
  exact K.goo fun t q => iremM X hx rfl (hb hby hd) rfl hy q
theorem s_iinc (A : On l Z n0 own bytes maxL ret R p e s m args below meth c T h k n) {i : Nat} {j : Int} {x z : Int32} (hd : decode bytes pc = .ok (.iinc i j, 3)) (hp : pc + 3 = pc') (hl : Ls[i]? = some (.val (.int x))) (hz : x + Int32.ofInt j = z) (hs : storeLocals Ls i (.int z) = some Ls') (K : Wp p e below Φ (T.setTop (mkF m pc' Ls' st))) : Wp p e below Φ (T.setTop (mkF m pc Ls st)) := by
  obtain ⟨locs, X, N, eT, hx, hZ, hby, hml, hown, hret, hlk, hsz⟩ := A
  subst hp
  subst hz
  exact K.goo fun t q => XS.iinc X.here hx rfl (hb hby hd) hl hs q
theorem s_goto (A : On l Z n0 own bytes maxL ret R p e s m args below meth c T h k n)  {o : Int} (hd : decode bytes pc = .ok (.goto o, 3))  (ho : 0 ≤ (pc : Int) + o) (hp : ((pc : Int) + o).toNat = pc') (K : Wp p e below Φ (T.setTop (mkF m pc' Ls st))) : Wp p e below Φ (T.setTop (mkF m pc Ls st)) := by
  obtain ⟨locs, X, N, eT, hx, hZ, hby, hml, hown, hret, hlk, hsz⟩ := A
  exact K.goo fun t q => XS.goto X.here hx rfl (pc0 := pc) rfl (hb hby hd) ho hp q
theorem s_ifY (A : On l Z n0 own bytes maxL ret R p e s m args below meth c T h k n) {cd : ClassFile.Cond} {x : Int32} {o : Int} (hd : decode bytes pc = .ok (.ifCond cd o, 3)) (hc : ifCond.holds cd x = true) (ho : 0 ≤ (pc : Int) + o) (hp : ((pc : Int) + o).toNat = pc') (K : Wp p e below Φ (T.setTop (mkF m pc' Ls st))) : Wp p e below Φ (T.setTop (mkF m pc Ls (.int x :: st))) := by
  obtain ⟨locs, X, N, eT, hx, hZ, hby, hml, hown, hret, hlk, hsz⟩ := A
  exact K.goo fun t q => XS.ifYes X.here hx rfl (pc0 := pc) rfl (hb hby hd) rfl hc ho hp q
theorem s_icmpY (A : On l Z n0 own bytes maxL ret R p e s m args below meth c T h k n) {cd : ClassFile.Cond} {x y : Int32} {o : Int} (hd : decode bytes pc = .ok (.if_icmp cd o, 3)) (hc : if_icmp.holds cd x y = true) (ho : 0 ≤ (pc : Int) + o) (hp : ((pc : Int) + o).toNat = pc') (K : Wp p e below Φ (T.setTop (mkF m pc' Ls st))) : Wp p e below Φ (T.setTop (mkF m pc Ls (.int y :: .int x :: st))) := by
  obtain ⟨locs, X, N, eT, hx, hZ, hby, hml, hown, hret, hlk, hsz⟩ := A
  exact K.goo fun t q => XS.icmpYes X.here hx rfl (pc0 := pc) rfl (hb hby hd) rfl hc ho hp q
theorem s_ifnonnullY (A : On l Z n0 own bytes maxL ret R p e s m args below meth c T h k n)  {o : Int} (hd : decode bytes pc = .ok (.ifnonnull o, 3))  (ho : 0 ≤ (pc : Int) + o) (hp : ((pc : Int) + o).toNat = pc') (K : Wp p e below Φ (T.setTop (mkF m pc' Ls st))) : Wp p e below Φ (T.setTop (mkF m pc Ls (.ref b :: st))) := by
  obtain ⟨locs, X, N, eT, hx, hZ, hby, hml, hown, hret, hlk, hsz⟩ := A
  exact K.goo fun t q => XS.ifnonnullYes X.here hx rfl (pc0 := pc) rfl (hb hby hd) rfl ho hp q
theorem s_acmpY (A : On l Z n0 own bytes maxL ret R p e s m args below meth c T h k n) {cd : ACond} {o : Int} (hd : decode bytes pc = .ok (.if_acmp cd o, 3)) (hv : v.isRef = true) (hw : w.isRef = true) (hc : XT.acmp cd v w = true) (ho : 0 ≤ (pc : Int) + o) (hp : ((pc : Int) + o).toNat = pc') (K : Wp p e below Φ (T.setTop (mkF m pc' Ls st))) : Wp p e below Φ (T.setTop (mkF m pc Ls (w :: v :: st))) := by
  obtain ⟨locs, X, N, eT, hx, hZ, hby, hml, hown, hret, hlk, hsz⟩ := A
  exact K.goo fun t q => XT.acmpYes X.here hx rfl (pc0 := pc) rfl (hb hby hd) rfl hv hw hc ho hp q
theorem s_ifN (A : On l Z n0 own bytes maxL ret R p e s m args below meth c T h k n) {cd : ClassFile.Cond} {x : Int32} {o : Int} (hd : decode bytes pc = .ok (.ifCond cd o, 3)) (hp : pc + 3 = pc') (hc : ifCond.holds cd x = false) (K : Wp p e below Φ (T.setTop (mkF m pc' Ls st))) : Wp p e below Φ (T.setTop (mkF m pc Ls (.int x :: st))) := by
  obtain ⟨locs, X, N, eT, hx, hZ, hby, hml, hown, hret, hlk, hsz⟩ := A
  subst hp
  exact K.goo fun t q => XS.ifNo X.here hx rfl (hb hby hd) rfl hc q
theorem s_icmpN (A : On l Z n0 own bytes maxL ret R p e s m args below meth c T h k n) {cd : ClassFile.Cond} {x y : Int32} {o : Int} (hd : decode bytes pc = .ok (.if_icmp cd o, 3)) (hp : pc + 3 = pc') (hc : if_icmp.holds cd x y = false) (K : Wp p e below Φ (T.setTop (mkF m pc' Ls st))) : Wp p e below Φ (T.setTop (mkF m pc Ls (.int y :: .int x :: st))) := by
  obtain ⟨locs, X, N, eT, hx, hZ, hby, hml, hown, hret, hlk, hsz⟩ := A
  subst hp
  exact K.goo fun t q => XS.icmpNo X.here hx rfl (hb hby hd) rfl hc q
theorem s_ifnullN (A : On l Z n0 own bytes maxL ret R p e s m args below meth c T h k n) {o : Int} (hd : decode bytes pc = .ok (.ifnull o, 3)) (hp : pc + 3 = pc') (K : Wp p e below Φ (T.setTop (mkF m pc' Ls st))) : Wp p e below Φ (T.setTop (mkF m pc Ls (.ref b :: st))) := by
  obtain ⟨locs, X, N, eT, hx, hZ, hby, hml, hown, hret, hlk, hsz⟩ := A
  subst hp
  exact K.goo fun t q => XS.ifnullNo X.here hx rfl (hb hby hd) rfl q
theorem s_ifnonnullN (A : On l Z n0 own bytes maxL ret R p e s m args below meth c T h k n) {o : Int} (hd : decode bytes pc = .ok (.ifnonnull o, 3)) (hp : pc + 3 = pc') (K : Wp p e below Φ (T.setTop (mkF m pc' Ls st))) : Wp p e below Φ (T.setTop (mkF m pc Ls (.null :: st))) := by
  obtain ⟨locs, X, N, eT, hx, hZ, hby, hml, hown, hret, hlk, hsz⟩ := A
  subst hp
  exact K.goo fun t q => XS.ifnonnullNo X.here hx rfl (hb hby hd) rfl q
theorem s_acmpN (A : On l Z n0 own bytes maxL ret R p e s m args below meth c T h k n) {cd : ACond} {o : Int} (hd : decode bytes pc = .ok (.if_acmp cd o, 3)) (hp : pc + 3 = pc') (hv : v.isRef = true) (hw : w.isRef = true) (hc : XT.acmp cd v w = false) (K : Wp p e below Φ (T.setTop (mkF m pc' Ls st))) : Wp p e below Φ (T.setTop (mkF m pc Ls (w :: v :: st))) := by
  obtain ⟨locs, X, N, eT, hx, hZ, hby, hml, hown, hret, hlk, hsz⟩ := A
  subst hp
  exact K.goo fun t q => XT.acmpNo X.here hx rfl (hb hby hd) rfl hv hw hc q
theorem s_ldcInt (A : On l Z n0 own bytes maxL ret R p e s m args below meth c T h k n) {i : Nat} {z : Int32} (hd : decode bytes pc = .ok (.ldc i, 2)) (hp : pc + 2 = pc') (w0 : (Cond.constant own i z).before a0 Z = true) (K : Wp p e below Φ (T.setTop (mkF m pc' Ls (.int z :: st)))) : Wp p e below Φ (T.setTop (mkF m pc Ls st)) := by
  obtain ⟨locs, X, N, eT, hx, hZ, hby, hml, hown, hret, hlk, hsz⟩ := A
  subst hp
  exact K.goo fun t q => X.ldcInt hx hown (mvT hZ w0) (g := mkF m pc Ls st) rfl (hb hby hd) t q
theorem idx_ok {j : Int32} {i : Nat} (hj : j.toInt = (i : Int)) : j.toNatClampNeg = i := by show j.toInt.toNat = i; omega
theorem idx_in' {j : Int32} {i : Nat} {N : Nat} (hj : j.toInt = (i : Int)) (hi : i < N) : ¬ (j < 0 ∨ N ≤ j.toNatClampNeg) := by
  rw [idx_ok hj, Int32.lt_iff_toInt_lt, hj]
  have : (0 : Int32).toInt = 0 := by decide
  omega
theorem s_getfield (A : On l Z n0 own bytes maxL ret R p e s m args below meth c T h k n) {index : Nat} {R0 O f d host : String} (w0 : (Cond.fieldLink own index R0 f d).before a0 Z = true ∨ (Cond.fieldLinkNest own index R0 f d host).before a0 Z = true) (via : Via Z R0 O f d) (F : Fld Z h a O f d v) (hd : decode bytes pc = .ok (.getfield index, 3)) (hp : pc + 3 = pc') (K : ∀ T' , On l Z n0 own bytes maxL ret R p e s m args below meth c T' h k n → Wp p e below Φ (T'.setTop (mkF m pc' Ls (v :: st)))) : Wp p e below Φ (T.setTop (mkF m pc Ls (.ref a :: st))) := by
  obtain ⟨locs, X, N, eT, hx, hZ, hby, hml, hown, hret, hlk, hsz⟩ := A
  subst hp
  obtain ⟨T', X', e', q⟩ := getF X hx hZ hown w0 via eT F (g := mkF m pc Ls (.ref a :: st)) rfl rfl (hb hby hd)
  exact (K T' ⟨_, X', N, e', hx, hZ, hby, hml, hown, hret, hlk, hsz⟩).goo q
theorem s_getstatic (A : On l Z n0 own bytes maxL ret R p e s m args below meth c T h k n) {index : Nat} {R0 O f d host : String} (w0 : (Cond.fieldLink own index R0 f d).before a0 Z = true ∨ (Cond.fieldLinkNest own index R0 f d host).before a0 Z = true) (via : Via Z R0 O f d) (F : Sta Z h O f d v) (hd : decode bytes pc = .ok (.getstatic index, 3)) (hp : pc + 3 = pc') (K : ∀ T' , On l Z n0 own bytes maxL ret R p e s m args below meth c T' h k n → Wp p e below Φ (T'.setTop (mkF m pc' Ls (v :: st)))) : Wp p e below Φ (T.setTop (mkF m pc Ls st)) := by
  obtain ⟨locs, X, N, eT, hx, hZ, hby, hml, hown, hret, hlk, hsz⟩ := A
  subst hp
  obtain ⟨T', X', e', q⟩ := getS2 X hx hZ hown w0 via eT F (g := mkF m pc Ls st) rfl (hb hby hd)
  exact (K T' ⟨_, X', N, e', hx, hZ, hby, hml, hown, hret, hlk, hsz⟩).goo q
theorem s_baload (A : On l Z n0 own bytes maxL ret R p e s m args below meth c T h k n) {j : Int32} {i : Nat} (V : AA Z h a .byte vs) (hj : j.toInt = (i : Int)) (hv : vs[i]? = some v) (hd : decode bytes pc = .ok (.baload, 1)) (hp : pc + 1 = pc') (K : Wp p e below Φ (T.setTop (mkF m pc' Ls (v :: st)))) : Wp p e below Φ (T.setTop (mkF m pc Ls (.int j :: .ref a :: st))) := by
  obtain ⟨locs, X, N, eT, hx, hZ, hby, hml, hown, hret, hlk, hsz⟩ := A
  subst hp
  obtain ⟨cl, Ar, r1, r2⟩ := V
  have hi : i < vs.length := (List.getElem?_eq_some_iff.mp hv).1
  exact K.goo fun t q => X.baloadBytes hx (j := j) (v := v) (by rw [eT]; exact Ar.1) (State.isArrayOf_alike hZ.alike Ar.2.1) Ar.2.2 (idx_in' hj (by rw [r1]; simpa using hi)) (by rw [idx_ok hj, r1]; simpa using hv) (g := mkF m pc Ls (.int j :: .ref a :: st)) rfl rfl (hb hby hd) t q
theorem s_arraylength (A : On l Z n0 own bytes maxL ret R p e s m args below meth c T h k n) {z : Int32} (V : AA Z h a ty vs) (hz : z.toInt = (vs.length : Int)) (hd : decode bytes pc = .ok (.arraylength, 1)) (hp : pc + 1 = pc') (K : Wp p e below Φ (T.setTop (mkF m pc' Ls (.int z :: st)))) : Wp p e below Φ (T.setTop (mkF m pc Ls (.ref a :: st))) := by
  obtain ⟨locs, X, N, eT, hx, hZ, hby, hml, hown, hret, hlk, hsz⟩ := A
  subst hp
  obtain ⟨cl, Ar, r1, r2⟩ := V
  have q0 : cl.slots.size.toInt32 = z := by
    rw [r1]; apply Int32.toInt_inj.mp; rw [len_toInt (by simpa using r2), hz]; simp
  exact K.goo fun t q => X.arraylength hx (by rw [eT]; exact Ar.1) (State.isArrayOf_alike hZ.alike Ar.2.1) (g := mkF m pc Ls (.ref a :: st)) rfl rfl (hb hby hd) t (by rw [q0]; exact q)
theorem s_static (A : On l Z n0 own bytes maxL ret R p e s m args below meth c T h k n) {index : Nat} {y : MethodName} {bytes' : ByteArray} {maxL' : Nat} {ret' : Option FieldType} {rm : Room} {argsL rest : List Value} {Q' : Option Value → Heap → Prop} (M : Met l Z n0 y bytes' maxL' ret' rm argsL.toArray h Q') (wl : (Cond.methodLink own index y).before a0 Z = true) (ws : (Cond.static y).before a0 Z = true) (wz : (Cond.initialized y.cls).before a0 Z = true) (wc : (Cond.code y bytes' maxL' ret').before a0 Z = true) (hy : y.cls ≠ "java/lang/invoke/MethodHandle" ∧ y.cls ≠ "java/lang/invoke/VarHandle") {sig : MethodDescriptor} (hsig : parseMethodDescriptor y.desc = some sig) (hlen : argsL.length = sig.parameters.length) {W : Nat} (hf : rm.frames + 1 ≤ R.frames) (hl : W + (maxL' + 11) + rm.locals ≤ R.locals) (hW : (rest.map fun v => v.category).sum ≤ W) (hc : k + rm.cells ≤ R.cells) (hs : n + rm.slots ≤ R.slots) (hLs : Ls.size = maxL) {stk : List Value} (hst : stk = argsL.reverse ++ rest) (hd : decode bytes pc = .ok (.invokestatic index, 3)) (hp : pc + 3 = pc') (K : ∀ T' h' v, On l Z n0 own bytes maxL ret R p e s m args below meth c T' h' (k + rm.cells) (n + rm.slots) → Q' v h' → Wp p e below Φ (T'.setTop (mkF m pc' Ls (v.toList ++ rest)))) : Wp p e below Φ (T.setTop (mkF m pc Ls stk)) := by
  obtain ⟨locs, X, N, eT, hx, hZ, hby, hml, hown, hret, hlk, hsz⟩ := A
  subst hp
  obtain ⟨v, _, ⟨T', L', k', n'⟩, -, X', ⟨Lc, ⟨Nq, hQ⟩, l1, l2, l3⟩, q⟩ := Jvm.LawKit.callS X hx (y := y) hown (mvT hZ wl) (mvT hZ ws) (mvT hZ wz) (mvT hZ wc) hy (backOf (Q := fun v h L => Fr n0 L ∧ Q' v h) (W := W) (M []) hZ wc wz hf hl) (g := mkF m pc Ls stk) rfl (by rw [hml]; exact hLs) (argsL := argsL) (rest := rest) (lenOf hsig hlen) hst (by show 2 * 0 + _ ≤ _; simpa using hW) (hb hby hd) (fun _ _ => ⟨rfl, eT, hc, hs⟩)
  dsimp only [Pt.U, Pt.locs, Pt.cells, Pt.slots] at X' l1 l2 l3 q hQ Nq
  subst l1 l2 l3
  exact (K T' T'.heap v ⟨_, X', Fr.app N Nq, rfl, hx, hZ, hby, hml, hown, hret, hlk, hsz⟩ hQ).goo q
theorem s_virtual (A : On l Z n0 own bytes maxL ret R p e s m args below meth c T h k n) {index : Nat} {y : MethodName} {bytes' : ByteArray} {maxL' : Nat} {ret' : Option FieldType} {rm : Room} {argsL rest : List Value} {Q' : Option Value → Heap → Prop} {C : String} {z : MethodName} (E : Exa Z h b C) (M : Met l Z n0 z bytes' maxL' ret' rm (.ref b :: argsL).toArray h Q') (wl : (Cond.methodLink own index y).before a0 Z = true) (wd : (Cond.declares y).before a0 Z = true) (wn : ∀ (args : Array Value) (s : State), Z.Warmed39 s.vm → NotFace s y) (wsel : (Cond.selects C y z).before a0 Z = true) (wim : (Cond.instanceMethod z).before a0 Z = true) (wz : (Cond.initialized z.cls).before a0 Z = true) (wc : (Cond.code z bytes' maxL' ret').before a0 Z = true) (hy : y.cls ≠ "java/lang/invoke/MethodHandle" ∧ y.cls ≠ "java/lang/invoke/VarHandle") {sig : MethodDescriptor} (hsig : parseMethodDescriptor y.desc = some sig) (hlen : argsL.length = sig.parameters.length) {W : Nat} (hf : rm.frames + 1 ≤ R.frames) (hl : W + (maxL' + 11) + rm.locals ≤ R.locals) (hW : (rest.map fun v => v.category).sum ≤ W) (hc : k + rm.cells ≤ R.cells) (hs : n + rm.slots ≤ R.slots) (hLs : Ls.size = maxL) {stk : List Value} (hst : stk = argsL.reverse ++ .ref b :: rest) (hd : decode bytes pc = .ok (.invokevirtual index, 3)) (hp : pc + 3 = pc') (K : ∀ T' h' v, On l Z n0 own bytes maxL ret R p e s m args below meth c T' h' (k + rm.cells) (n + rm.slots) → Q' v h' → Wp p e below Φ (T'.setTop (mkF m pc' Ls (v.toList ++ rest)))) : Wp p e below Φ (T.setTop (mkF m pc Ls stk)) := by
  obtain ⟨locs, X, N, eT, hx, hZ, hby, hml, hown, hret, hlk, hsz⟩ := A
  subst hp
  obtain ⟨cq, kq, qa, qb, qc⟩ := isOf hZ eT E
  obtain ⟨v, _, ⟨T', L', k', n'⟩, -, X', ⟨Lc, ⟨Nq, hQ⟩, l1, l2, l3⟩, q⟩ := X.virtualBack hx (y := y) (z := z) hown (mvT hZ wl) (mvT hZ wd) (wn #[] s hZ) (mvT hZ wsel) (mvT hZ wim) hy (backOf (Q := fun v h L => Fr n0 L ∧ Q' v h) (W := W) (M []) hZ wc wz hf hl) qa qc (g := mkF m pc Ls stk) rfl (by rw [hml]; exact hLs) (Steps.refl _) (argsL := argsL) (rest := rest) (lenOf hsig hlen) hst (by show 2 * 0 + _ ≤ _; simpa using hW) (hb hby hd) (fun _ _ => ⟨rfl, eT, hc, hs⟩)
  dsimp only [Pt.U, Pt.locs, Pt.cells, Pt.slots] at X' l1 l2 l3 q hQ Nq
  subst l1 l2 l3
  exact (K T' T'.heap v ⟨_, X', Fr.app N Nq, rfl, hx, hZ, hby, hml, hown, hret, hlk, hsz⟩ hQ).goo (fun t r => q.trans r)
theorem nf_same {y : MethodName} {C : String} (wsel : (Cond.selects y.cls y y).before a0 Z = true) : ∀ (args : Array Value) (s : State), Z.Warmed39 s.vm → NotFace s y := fun args s hZ => notFace_of_selects (args := #[]) (mvT hZ wsel)
theorem aa_of_arv {kc : ClassId} {z : Int32} {dv : Value} (F : Arv Z h a kc ty z vs dv) (hl : z.toInt = (vs.length : Int)) : AA Z h a ty vs := by
  obtain ⟨c, A, q, S, N, H, G⟩ := F
  rw [idx_ok hl] at S
  refine ⟨c, A, ?_, ?_⟩
  · apply Array.ext
    · simp [S]
    · intro i h1 h2
      have := H i h1
      rw [Array.getElem?_eq_getElem h1] at this
      have h3 : i < vs.length := by simpa using h2
      simpa [List.getD_eq_getElem?_getD, h3] using this
  · have := z.toInt_lt; omega
theorem r_val (A : On l Z n0 own bytes maxL ret R p e s m args below meth c T h k n) {i : Instr} {t : FieldType} (hr : ret = some t) (hn0 : narrow t v = v) (hi : (i = .ireturn ∧ (t = .int ∨ t = .boolean ∨ t = .byte ∨ t = .char ∨ t = .short) ∧ ∃ z, v = .int z) ∨ (i = .lreturn ∧ t = .long ∧ ∃ z, v = .long z) ∨ (i = .dreturn ∧ t = .double ∧ ∃ z, v = .double z) ∨ (i = .freturn ∧ t = .float ∧ ∃ z, v = .float z) ∨ (i = .areturn ∧ t.isReference = true ∧ v.isRef = true)) (hd : decode bytes pc = .ok (i, 1)) (hk : k ≤ ck) (hn : n ≤ cs) (q : Q (some v) h) : Wp p e below (EndH s n0 ck cs Q) (T.setTop (mkF m pc Ls (v :: st))) := by
  obtain ⟨locs, X, N, eT, hx, hZ, hby, hml, hown, hret, hlk, hsz⟩ := A
  have hR : meth.sig.returnType = some t := hret.trans hr
  obtain ⟨fs, h1, hrun, hended, hW, hsame⟩ := X.leave (v := some v) (fun z => by rw [hR] at z; cases z) hlk
  exact ⟨_, _, retOut X hx hR hn0 hi (hb hby hd) h1, hrun, hended, _, _, rfl, ⟨N, by show Q (some v) T.heap; rw [eT]; exact q⟩, ⟨_, rfl⟩, hW, hsame.mono hk hn⟩
theorem r_bool (A : On l Z n0 own bytes maxL ret R p e s m args below meth c T h k n) {z : Int32} (hr : ret = some .boolean) (hz : z = 0 ∨ z = 1) (hd : decode bytes pc = .ok (.ireturn, 1)) (hk : k ≤ ck) (hn : n ≤ cs) (q : Q (some (.int z)) h) : Wp p e below (EndH s n0 ck cs Q) (T.setTop (mkF m pc Ls (.int z :: st))) := r_val A hr (by rcases hz with rfl | rfl <;> rfl) (Or.inl ⟨rfl, Or.inr (Or.inl rfl), _, rfl⟩) hd hk hn q
theorem r_ref (A : On l Z n0 own bytes maxL ret R p e s m args below meth c T h k n) {t : FieldType} (hr : ret = some t) (ht : t.isReference = true) (hv : v.isRef = true) (hd : decode bytes pc = .ok (.areturn, 1)) (hk : k ≤ ck) (hn : n ≤ cs) (q : Q (some v) h) : Wp p e below (EndH s n0 ck cs Q) (T.setTop (mkF m pc Ls (v :: st))) := r_val A hr (by cases t <;> first | rfl | cases ht) (Or.inr (Or.inr (Or.inr (Or.inr ⟨rfl, ht, hv⟩)))) hd hk hn q
section Lit
open Jvm.Free.SB Jvm.Free.SBG Bundle
def st3 (Z : State) (vm : Vm) (h : Heap) : State := { Z with vm := vm, heap := h }
def SlX (W : State) (a : Addr) (u : Array UInt16) (ws : List Addr) : Prop :=
  ∃ (q : SQ) (cS : ClassId), q.sa = a ∧ Sl q cS W ∧ (∃ kS : Class, W.vm.classes[cS]? = some kS ∧ kS.kind = .ordinary ∧ q.sC.slots.size = kS.instanceTypes.size) ∧ W.vm.findClass "[B" = some q.SA.cls ∧ q.SA.slots = stringBytes u ∧ q.sa ∉ ws ∧ q.sd ∉ ws
theorem SlX.slOf {W : State} {a : Addr} {u : Array UInt16} {ws : List Addr} (h : SlX W a u ws) : SlOf W a u := by
  obtain ⟨q, cS, h1, h2, h3, h4, h5, -⟩ := h; exact ⟨q, cS, h1, h2, h3, h4, h5⟩
theorem SlX.of {W : State} {a : Addr} {u : Array UInt16} (h : SlOf W a u) : SlX W a u [] := by
  obtain ⟨q, cS, h1, h2, h3, h4, h5⟩ := h; exact ⟨q, cS, h1, h2, h3, h4, h5, List.not_mem_nil, List.not_mem_nil⟩
theorem SlX.move {W W' : State} {a : Addr} {u : Array UInt16} {ws : List Addr} (h : SlX W a u ws) (hal : W.vm.Alike W'.vm) (hk : ∀ (y : Addr) (c : Cell), y ∉ ws → W.heap[y]? = some c → W'.heap[y]? = some c) : SlX W' a u ws := by
  obtain ⟨q, cS, h1, h2, ⟨kS, k1, k2, k3⟩, h4, h5, h6, h7⟩ := h
  obtain ⟨kS', hk', ek⟩ := hal.2.2 _ _ k1
  exact ⟨q, cS, h1, h2.carry hal (hk _ _ h6 h2.1.1) (hk _ _ h7 h2.1.2.2.2.2.2.2.2.2.2.1), ⟨kS', hk', by rw [ek]; exact k2, by rw [ek]; exact k3⟩, by rw [hal.findClass]; exact h4, h5, h6, h7⟩
def ConstX (W : State) (own : String) (index : Nat) (ws : List Addr) : Prop :=
  ∀ (c : ClassId) (k : Class) (cf : ClassFile) (i : Nat) (units : Array UInt16) (a : Addr), W.vm.findClass own = some c → W.vm.classes[c]? = some k → k.cf = some cf →
    cf.constantPool[index]? = some (.string i) → cf.constantPool[i]? = some (.utf8 units) →
    (k.resolved[index]? = some (some (.string a)) ∨ (k.resolved[index]? = some none ∧ W.vm.interned.find? (fun p => p.1 == units) = some (units, a))) → SlX W a units ws
def LK (Z : State) (cs : List (String × Nat × String)) (vm : Vm) (h : Heap) (ws : List Addr) : Prop :=
  Z.Warmed39 vm ∧ (∀ y ∈ ws, y < h.size) ∧ ∀ x ∈ cs, (∀ ch ∈ x.2.2.toList, ch.toNat < 256) ∧ (Cond.stringLink x.1 x.2.1 x.2.2).before #[] Z = true ∧ ConstX (st3 Z vm h) x.1 x.2.1 ws
variable {cs : List (String × Nat × String)} {vm vm' : Vm} {ws : List Addr}
theorem LK.move (H : LK Z cs vm h ws) (hs : h.size ≤ h'.size) (hk : ∀ (y : Addr) (c : Cell), y ∉ ws → h[y]? = some c → h'[y]? = some c) : LK Z cs vm h' ws :=
  ⟨H.1, fun y hy => Nat.lt_of_lt_of_le (H.2.1 y hy) hs, fun x hx => ⟨(H.2.2 x hx).1, (H.2.2 x hx).2.1, fun c k cf i units a q1 q2 q3 q4 q5 q6 => ((H.2.2 x hx).2.2 c k cf i units a q1 q2 q3 q4 q5 q6).move (W := st3 Z vm h) (W' := st3 Z vm h') (Vm.Alike.refl _) hk⟩⟩
theorem LK.ext (H : LK Z cs vm h ws) (E : Ext h h') : LK Z cs vm h' ws := H.move E.1 fun y c _ q => E.2 y c q
theorem slX_facts {units : Array UInt16} (H : SlX (st3 Z vm h) a units ws) (hal : Z.vm.Alike vm) (hlat : units.all (· < 256) = true) :
    Exa Z h a "java/lang/String" ∧ Fld Z h a "java/lang/String" "coder" "B" (.int 0) ∧ ∃ b, Fld Z h a "java/lang/String" "value" "[B" (.ref b) ∧ AA Z h b .byte (units.toList.map fun u => Value.int (Jvm.Lit.byteI u)) ∧ a ∉ ws ∧ b ∉ ws := by
  obtain ⟨q, cS, rfl, ⟨S, hfS, hcS⟩, ⟨kS, k1, k2, k3⟩, hB, hby, n1, n2⟩ := H
  obtain ⟨s1, s2, s3, ⟨cv, kv, iv, s4, s4'⟩, ⟨cc, kc, ic, s5, s5'⟩, s6, s7, s8, s9, s10, s11, s12, s13, s14, s15, s16⟩ := S
  have e1 : ∀ {n d : String} {c i : Nat} {k : Class} {f : Field}, (st3 Z vm h).fieldFound? STR n d = some (c, k, i, f) → ∃ k', Z.fieldFound? "java/lang/String" n d = some (c, k', i, f) := fun hf => ff_back (U := st3 Z vm h) hal hf
  obtain ⟨kv', z4⟩ := e1 s4
  obtain ⟨kc', z5⟩ := e1 s5
  have hfZ : Z.vm.findClass "java/lang/String" = some q.sC.cls := by rw [hcS, ← hal.findClass]; exact hfS
  obtain ⟨kz, hkz, -⟩ := Vm.findClass_spec hfZ
  obtain ⟨kz', hkz', ekz⟩ := hal.2.2 _ _ hkz
  have ekS : kz' = kS := Option.some.inj (hkz'.symm.trans (show vm.classes[q.sC.cls]? = some kS from hcS ▸ k1))
  refine ⟨⟨q.sC, kz, s1, hfZ, hkz, s3, fun _ => by rw [k3, ← ekS, ekz]⟩, ⟨q.sC, cc, kc', ic, q.fSC, s1, z5, s7, s2, s3, by rw [← hal.assignable]; exact s5', s9⟩, q.sd, ⟨q.sC, cv, kv', iv, q.fSV, s1, z4, s6, s2, s3, by rw [← hal.assignable]; exact s4', s8⟩, ⟨q.SA, ⟨s10, ?_, s12⟩, ?_, ?_⟩, n1, n2⟩
  · obtain ⟨t1, t2, t3, comp, t4⟩ := s11
    have hBZ : Z.vm.findClass "[B" = some q.SA.cls := by rw [← hal.findClass]; exact hB
    obtain ⟨kb, hkb, -⟩ := Vm.findClass_spec hBZ
    obtain ⟨kb', hkb', ekb⟩ := hal.2.2 _ _ hkb
    have e9 : t2 = kb' := Option.some.inj (t3.symm.trans hkb')
    exact ⟨t1, kb, hkb, comp, by rw [e9, ekb] at t4; exact t4⟩
  · rw [hby, SBG.stringBytes_lat hlat]
    apply Array.ext'
    simp [Array.toList_map]
    intro u _
    rfl
  · have e2 : q.SA.slots.size = units.size := by rw [hby, SBG.stringBytes_lat hlat, Array.size_map]
    simp only [List.length_map, Array.length_toList]
    have := s14
    omega
theorem LK.start {a0 : Array Value} (hh : ∀ x ∈ cs, Jvm.Lit.constHeld Z x.1 x.2.1 ∧ (Cond.stringLink x.1 x.2.1 x.2.2).before a0 Z = true ∧ (∀ ch ∈ x.2.2.toList, ch.toNat < 256)) (hcw : Jvm.Lit.compactW.before a0 Z = true) (wa : (Cond.arrayClass .byte).before a0 Z = true) (wi : (Cond.instantiable "java/lang/String" 4).before a0 Z = true) : LK Z cs Z.vm Z.heap [] := by
  refine ⟨State.Warmed39.refl Z, fun _ q => (List.not_mem_nil q).elim, fun x hx => ?_⟩
  obtain ⟨h1, h2, h3⟩ := hh x hx
  exact ⟨h3, h2, fun c k cf i units a q1 q2 q3 q4 q5 q6 => SlX.of (heldStart h1 h2 h3 hcw wa wi c k cf i units a q1 q2 q3 q4 q5 q6)⟩
theorem LK.warm (H : LK Z cs s.vm h ws) (hW : s.WarmedH vm') : LK Z cs vm' h ws := by
  obtain ⟨hZ, hb, H⟩ := H
  have hal := hW.wide.alike
  refine ⟨State.Warmed39.trans hZ hW.wide, hb, fun x hx => ?_⟩
  obtain ⟨h1, h2, h3⟩ := H x hx
  refine ⟨h1, h2, fun c k' cf i units a q1 q2 q3 q4 q5 q6 => ?_⟩
  have q1' : s.vm.findClass x.1 = some c := by rw [← hal.findClass]; exact q1
  have w2 := Cond.stringLink_warmed39 hZ h2
  obtain ⟨k, cf0, i0, units0, hk, hcf, hp0, hu0, hnm, htext, -⟩ := Cond.stringLink_spec (s := Z.setVm s.vm) q1' w2
  obtain ⟨k2, hk2, ek2⟩ := hal.2.2 _ _ hk
  cases (show vm'.classes[c]? = some k' from q2).symm.trans hk2
  have q3' : k.cf = some cf := by rw [ek2] at q3; exact q3
  have hi : vm'.interned = s.vm.interned := hW.interned_eq
  have key : k'.resolved[x.2.1]? = k.resolved[x.2.1]? := by
    rcases hW.entry hk hk2 x.2.1 with e | ⟨e, r, e1, hr⟩
    · exact e
    · exfalso
      cases r <;> simp [State.rightAt, show s.vm.classes[c]? = some k from hk, hcf, hnm] at hr
  exact (h3 c k cf i units a q1' hk q3' q4 q5 (by show _ ∨ _ ∧ s.vm.interned.find? _ = _; rw [← key, ← hi]; exact q6)).move (W := st3 Z s.vm h) (W' := st3 Z vm' h) hal fun _ _ _ q => q
theorem rebase (X : Stand p l e R s m args below meth c T locs k n) (hk : k ≤ R.cells) (hn : n ≤ R.slots) :
    Stand p l e { R with cells := R.cells - k, slots := R.slots - n } ({ s.setVm T.vm with heap := T.heap, slotsUsed := T.slotsUsed } : State) m args below meth c T [] 0 0 := by
  have Y : Stand p l e R (s.setVm T.vm) m args below meth c (T.setVm T.vm) locs k n := X.retabled X.warmed.wide
  have h1 := Y.heapSize
  have h2 := Y.used
  have h3 := Y.room
  have h4 := X.book
  refine ⟨Y.admits, Y.cas, Y.clock, Y.frames, ?_, Y.hears, Y.method, Y.code, X.here, X.tail, State.WarmedH.refl _, Y.limits, Y.bytes, ?_⟩
  · have hl : ({ s.setVm T.vm with heap := T.heap, slotsUsed := T.slotsUsed } : State).localsInUse = (s.setVm T.vm).localsInUse := by
      rw [State.localsInUse_invoking Y.frames Y.method Y.code]
      exact State.localsInUse_invoking (s := ({ s.setVm T.vm with heap := T.heap, slotsUsed := T.slotsUsed } : State)) Y.frames Y.method Y.code
    unfold State.hasRoom at h3 ⊢
    rw [hl]
    simp only [Bool.and_eq_true, decide_eq_true_eq] at h3 ⊢
    obtain ⟨⟨⟨⟨a1, a2⟩, a3⟩, a4⟩, a5⟩ := h3
    refine ⟨⟨⟨⟨a1, a2⟩, ?_⟩, ?_⟩, h4⟩
    · have e1 : (T.setVm T.vm).heap.size = T.heap.size := rfl
      show T.heap.size + (R.cells - k) ≤ _
      omega
    · have e1 : (T.setVm T.vm).slotsUsed = T.slotsUsed := rfl
      show T.slotsUsed + (R.slots - n) ≤ _
      omega
  · have e := Y.same.1
    refine ⟨?_, Nat.le_refl _, Nat.le_refl _, ?_, ?_, fun a c hc => ⟨c, hc, rfl, rfl, fun _ _ => rfl⟩⟩
    · exact e
    · show T.slotsUsed = T.slotsUsed + ((T.heap.toList.drop T.heap.size).map (·.slots.size)).sum
      rw [List.drop_eq_nil_of_le (by simp)]; simp
    · show ((T.heap.toList.drop T.heap.size).map (·.slots.size)).sum ≤ 0
      rw [List.drop_eq_nil_of_le (by simp)]; simp
def Bk (s0 s : State) (h : Heap) : Prop := s = s0.setVm s.vm ∧ ∃ k0, s0.Since s.vm k0 ∧ k0 ≤ h.size
variable {s0 : State}
theorem Bk.grow (B : Bk s0 s h) (q : h.size ≤ h'.size) : Bk s0 s h' := by obtain ⟨e, k0, h1, h2⟩ := B; exact ⟨e, k0, h1, Nat.le_trans h2 q⟩
theorem Bk.ext (B : Bk s0 s h) (E : Ext h h') : Bk s0 s h' := B.grow E.1
theorem Bk.start : Bk s s h := ⟨rfl, h.size, (State.WarmedH.refl s).since _, Nat.le_refl _⟩
theorem atoms_mv {args : Array Value} (hZ : Z.Warmed39 s.vm) (wS : ∀ a ∈ Bundle.stringAtoms, a.before a0 Z = true) : ∀ a ∈ Bundle.stringAtoms, a.before args s = true := fun d hd => by
  have q := wS d hd
  simp only [Bundle.stringAtoms, List.mem_cons, List.not_mem_nil, or_false] at hd
  rcases hd with rfl | rfl | rfl | rfl | rfl | rfl | rfl
  · exact mv hZ q
  · exact mv hZ q
  · exact mvA hZ q
  · exact mv hZ q
  · exact mv hZ q
  · exact mv hZ q
  · exact mv hZ q
theorem find_push {A : Array (Array UInt16 × Addr)} {u v : Array UInt16} {x y : Addr} (hf : (A.push (u, x)).find? (fun p => p.1 == v) = some (v, y)) : A.find? (fun p => p.1 == v) = some (v, y) ∨ (A.find? (fun p => p.1 == v) = none ∧ u = v ∧ x = y) := by
  rw [Array.find?_push] at hf
  cases h : A.find? (fun p => p.1 == v) with
  | some z => rw [h] at hf; left; simpa using hf
  | none =>
    rw [h] at hf
    right
    by_cases e : u = v
    · subst e; simp at hf; exact ⟨rfl, rfl, hf⟩
    · simp [e] at hf
theorem setFr {T s : State} {F G : List Frame} {H : Heap} {N : Nat} {V : Vm} (d : T = { s.setFrames F with heap := H, slotsUsed := N, vm := V }) : T.setFrames G = { s.setFrames G with heap := H, slotsUsed := N, vm := V } := by
  subst d
  show ({ (s.setFrames F).setFrames G with heap := H, slotsUsed := N, vm := V } : State) = _
  rw [State.setFrames_setFrames]
theorem ldc_core (A : On l Z n0 own bytes maxL ret R p e s m args below meth c T h k n) (H : LK Z cs s.vm h ws) {i nn : Nat} {text : String} (hm : (own, i, text) ∈ cs) (wS : ∀ a ∈ Bundle.stringAtoms, a.before a0 Z = true) (hn : 4 * text.toList.length ≤ nn) (hbig : nn ≤ 536870912) (hc : k + 2 ≤ R.cells) (hl : n + (nn + 4) ≤ R.slots) (hd : decode bytes pc = .ok (.ldc i, 2)) :
    ∃ s' T' h' a units, On l Z n0 own bytes maxL ret R p e s' m args below meth c T' h' (k + 2) (n + (nn + 4)) ∧ s' = s.setVm s'.vm ∧ s.Since s'.vm h'.size ∧ LK Z cs s'.vm h' ws ∧ Ext h h' ∧ utf16ToString? units = some text ∧ SlX (st3 Z s'.vm h') a units ws ∧
      ∀ t, Steps p.tables e below (T'.setTop (mkF m (pc + 2) Ls (.ref a :: st))) t → Steps p.tables e below (T.setTop (mkF m pc Ls st)) t := by
  obtain ⟨locs, X, N, eT, hx, hZ, hby, hml, hown, hret, hlk, hsz⟩ := A
  subst eT
  have H' : LK Z cs T.vm T.heap ws := H.warm X.warmed
  have halT := X.warmed.wide.alike
  obtain ⟨hch, hwl, hcon⟩ := H'.2.2 _ hm
  have hownT : T.vm.findClass own = some m.cls := by rw [halT.findClass]; exact hown
  have w2 := Cond.stringLink_warmed39 H'.1 hwl
  obtain ⟨k0, cf, i0, units, hk, hcf, hp, hu, hnm, htext, hres⟩ := Cond.stringLink_spec (s := Z.setVm T.vm) hownT w2
  have hlat := Jvm.ClassFile.lat_of_text htext hch
  rcases hres with hopen | ⟨a, hr⟩
  · have X1 := rebase X (by omega) (by omega)
    obtain ⟨S1, hS1⟩ : ∃ z, z = ({ s.setVm T.vm with heap := T.heap, slotsUsed := T.slotsUsed } : State) := ⟨_, rfl⟩
    rw [← hS1] at X1
    have v1 : S1.vm = T.vm := by rw [hS1]; rfl
    have v2 : S1.heap = T.heap := by rw [hS1]
    have hZ1 : Z.Warmed39 S1.vm := by rw [v1]; exact H'.1
    have held : ConstHeldL S1 own i := fun c' k' cf' i' u' a' q1 q2 q3 q4 q5 q6 => by
      rw [v1] at q1 q2 q6
      refine ((hcon c' k' cf' i' u' a' q1 q2 q3 q4 q5 q6).move (W := st3 Z T.vm T.heap) (W' := S1) ?_ ?_).slOf
      · rw [v1]; exact Vm.Alike.refl _
      · intro y cc _ q; rw [v2]; exact q
    obtain ⟨a, T2, X2, hS2, ⟨k2, hk2, hr2⟩, hkeep, hone, hint, ⟨u2, htext2, hin⟩, stp⟩ := X1.ldcColdF (fun _ _ q => by rw [← v2]; exact q) hx (own := own) (text := text) (by rw [v1]; exact hownT) (mvS (s := S1) (vm0 := S1.vm) hZ1 hwl) (atoms_mv hZ1 wS) held (fun units hu => Jvm.ClassFile.lat_of_text hu hch) (g := mkF m pc Ls st) rfl (hb hby hd) hn hbig (by show 0 + 2 ≤ R.cells - k; omega) (by show 0 + (nn + 4) ≤ R.slots - n; omega)
    have hW2 : T.Warmed39 T2.vm := by
      have q := hS2.1
      rw [hS1] at q; exact q
    have hB2 : T.Booked T2.vm T2.heap.size := fun j q h1 h2 => by
      have := hS2.2 j q (by rw [v1]; exact h1) h2
      rw [v2] at this; exact this
    have hsame : T.sameButNew (T2.setVm T.vm) [] 2 (nn + 4) := by
      obtain ⟨e1, e2, e3, e4, e5, e6⟩ := X2.same
      have d1 : T = { s.setFrames T.frames with heap := T.heap, slotsUsed := T.slotsUsed, vm := T.vm } := congrArg (fun z : State => z.setVm T.vm) X.same.1
      rw [hS1] at e1 e2 e3 e4 e5 e6
      rw [Nat.zero_add] at e3 e5
      refine ⟨?_, e2, e3, e4, e5, e6⟩
      have d2 := setFr (G := T2.frames) d1
      have d3 := congrArg (fun z : State => z.setVm T.vm) e1
      show T2.setVm T.vm = { T.setFrames T2.frames with heap := T2.heap, slotsUsed := T2.slotsUsed }
      rw [d2]
      exact d3
    obtain ⟨X3, hS3⟩ := X.movedW (T₂ := T2) X2.here X2.tail (by rw [X2.limits, X.limits, hS1]; rfl) (by rw [X2.bytes, X.bytes, hS1]; rfl) hW2 hB2 hsame
    rw [List.append_nil] at X3
    have hal2 := hW2.alike
    have E2 : Ext T.heap T2.heap := ext_of hkeep
    have hZ2 : Z.Warmed39 T2.vm := State.Warmed39.trans H'.1 hW2
    have hu2 : u2 = units := Array.ext' (by rw [Jvm.ClassFile.units_of_text htext2 hch, Jvm.ClassFile.units_of_text htext hch])
    have hk2' : T2.vm.classes[m.cls]? = some k2 := hk2
    have hfind : T2.vm.interned.find? (fun p => p.1 == units) = some (units, a) := by
      obtain ⟨k3, hk3, -, -, ee, -⟩ := hW2.2.2.2 m.cls k0 hk
      cases hk2'.symm.trans hk3
      rcases ee i with e0 | ⟨-, r, e1, hr' | ⟨a3, t, si, us, rfl, -, q3, q4, q5⟩⟩
      · rw [hr2, hopen] at e0; cases e0
      · exfalso
        have := e1.symm.trans hr2
        cases this
        simp [State.rightAt, show T.vm.classes[m.cls]? = some k0 from hk, hcf, hnm] at hr'
      · have := e1.symm.trans hr2
        cases this
        rw [hcf] at q3 q4
        have e3 : si = i0 := by
          have := q3.symm.trans hp
          simpa using this
        subst e3
        have e4 : us = units := by simpa [ConstantPool.utf8?, hu] using q4.symm
        subst e4
        exact q5
    obtain ⟨qq, cS, z1, z2, z3, z4, z5, z6⟩ := hin
    have hslx : (T.vm.interned.find? (fun p => p.1 == units) = some (units, a) ∨ T.heap.size ≤ a) → SlX (st3 Z T2.vm T2.heap) a units ws := by
      intro hor
      rcases hor with hf | hge
      · exact (hcon _ k0 cf i0 units a hownT hk hcf hp hu (Or.inr ⟨hopen, hf⟩)).move (W := st3 Z T.vm T.heap) (W' := st3 Z T2.vm T2.heap) hal2 fun y cc _ q => E2.2 y cc q
      · have h0 := H'.2.1
        have b1 : T.heap.size ≤ qq.sa ∧ T.heap.size ≤ qq.sd := by
          rcases z6 with ⟨y1, y2⟩ | y
          · exfalso; rw [v2] at y1; rw [z1] at y1; exact absurd y1 (Nat.not_lt.mpr hge)
          · exact y
        exact ⟨qq, cS, z1, z2.carry (U := T2) (U' := st3 Z T2.vm T2.heap) (Vm.Alike.refl _) z2.1.1 z2.1.2.2.2.2.2.2.2.2.2.1, z3, z4, by rw [z5, hu2], fun y => absurd (h0 _ y) (Nat.not_lt.mpr b1.1), fun y => absurd (h0 _ y) (Nat.not_lt.mpr b1.2)⟩
    have hnew : ∀ u' a', T2.vm.interned = T.vm.interned.push (u', a') → utf16ToString? u' = some text → u' = units ∧ (T.vm.interned.find? (fun p => p.1 == units) = some (units, a) ∨ (a' = a ∧ T.heap.size ≤ a)) := by
      intro u' a' e1 e2
      have e3 : u' = units := Array.ext' (by rw [Jvm.ClassFile.units_of_text e2 hch, Jvm.ClassFile.units_of_text htext hch])
      refine ⟨e3, ?_⟩
      have e4 := hfind
      rw [e1] at e4
      rcases find_push e4 with e5 | ⟨-, -, e6⟩
      · exact Or.inl e5
      · refine Or.inr ⟨e6, ?_⟩
        rcases hone.2 with e7 | ⟨u7, a7, e7, e8, -⟩
        · have := congrArg Array.size (e1.symm.trans e7); simp at this
        · have := e1.symm.trans e7
          have : (u', a') = (u7, a7) := by
            have := congrArg Array.back? this
            simpa using this
          cases this
          rw [← e6]; exact e8
    have hSL : SlX (st3 Z T2.vm T2.heap) a units ws := by
      apply hslx
      rcases hint with e1 | ⟨u', a', e1, e2⟩
      · left; rw [← e1]; exact hfind
      · rcases (hnew u' a' e2 e1).2 with e3 | e3
        · exact Or.inl e3
        · exact Or.inr e3.2
    have hLK : LK Z cs T2.vm T2.heap ws := by
      refine ⟨hZ2, fun y hy => Nat.lt_of_lt_of_le (H'.2.1 y hy) E2.1, fun x hx => ?_⟩
      obtain ⟨g1, g2, g3⟩ := H'.2.2 x hx
      refine ⟨g1, g2, fun c' k' cf' i' u' a' q1 q2 q3 q4 q5 q6 => ?_⟩
      have q1' : T.vm.findClass x.1 = some c' := by rw [← hal2.findClass]; exact q1
      obtain ⟨kT, cfT, iT, uT, gk, gcf, gp, gu, gnm, gtext, -⟩ := Cond.stringLink_spec (s := Z.setVm T.vm) q1' (Cond.stringLink_warmed39 H'.1 g2)
      obtain ⟨k3, hk3, ek3, -, ee, -⟩ := hW2.2.2.2 c' kT gk
      cases (show T2.vm.classes[c']? = some k' from q2).symm.trans hk3
      have q3' : kT.cf = some cf' := by rw [ek3] at q3; exact q3
      cases q3'.symm.trans gcf
      cases q4.symm.trans gp
      cases q5.symm.trans gu
      have mvd : SlX (st3 Z T.vm T.heap) a' u' ws → SlX (st3 Z T2.vm T2.heap) a' u' ws := fun z => z.move (W := st3 Z T.vm T.heap) (W' := st3 Z T2.vm T2.heap) hal2 fun y cc _ q => E2.2 y cc q
      have viaF : kT.resolved[x.2.1]? = some none → T2.vm.interned.find? (fun p => p.1 == u') = some (u', a') → SlX (st3 Z T2.vm T2.heap) a' u' ws := by
        intro o1 o2
        rcases hint with e1 | ⟨v', b', e1, e2⟩
        · exact mvd (g3 c' kT cf' i' u' a' q1' gk q3' q4 q5 (Or.inr ⟨o1, by show T.vm.interned.find? _ = _; rw [← e1]; exact o2⟩))
        · have o3 := o2
          rw [e2] at o3
          rcases find_push o3 with o4 | ⟨-, o5, -⟩
          · exact mvd (g3 c' kT cf' i' u' a' q1' gk q3' q4 q5 (Or.inr ⟨o1, o4⟩))
          · have e3 := (hnew v' b' e2 e1).1
            subst o5
            subst e3
            have := o2.symm.trans hfind
            cases this
            exact hSL
      rcases ee x.2.1 with e0 | ⟨hop, r, e1, hr' | ⟨a3, t, si, us, rfl, -, p3, p4, p5⟩⟩
      · rw [e0] at q6
        rcases q6 with q6 | ⟨q6, q7⟩
        · exact mvd (g3 c' kT cf' i' u' a' q1' gk q3' q4 q5 (Or.inl q6))
        · exact viaF q6 q7
      · exfalso
        cases r <;> simp [State.rightAt, show T.vm.classes[c']? = some kT from gk, gcf, gnm] at hr'
      · rcases q6 with q6 | ⟨q6, q7⟩
        · have := e1.symm.trans q6
          cases this
          rw [gcf] at p3 p4
          have e3 : si = i' := by
            have := p3.symm.trans gp
            simpa using this
          subst e3
          have e4 : us = u' := by simpa [ConstantPool.utf8?, gu] using p4.symm
          subst e4
          exact viaF hop p5
        · rw [e1] at q6; cases q6
    refine ⟨s.setVm T2.vm, T2, T2.heap, a, units, ⟨locs, X3, N, rfl, hx, hZ2, hby, hml, ?_, hret, hlk, hsz⟩, rfl, hS3, hLK, E2, htext, hSL, fun t q => stp t q⟩
    show T2.vm.findClass own = _
    rw [hal2.findClass]; exact hownT
  · have Y : Stand p l e R (s.setVm T.vm) m args below meth c T locs (k + 2) (n + (nn + 4)) := (X.mono (by omega) (by omega)).retabled X.warmed.wide
    have L : Lit (s.setVm T.vm) own i a := by
      simp [Lit, State.resolvedAt?, hownT, show T.vm.classes[m.cls]? = some k0 from hk, show k0.resolved[i]? = some (some (.string a)) from hr]
    have wl : (Cond.stringLink own i text).before a0 (s.setVm T.vm) = true := mvS H'.1 hwl
    refine ⟨s.setVm T.vm, T, T.heap, a, units, ⟨locs, Y, N, rfl, hx, H'.1, hby, hml, hownT, hret, hlk, hsz⟩, rfl, X.warmed.since _, H', ⟨Nat.le_refl _, fun _ _ q => q⟩, htext, hcon _ k0 cf i0 units a hownT hk hcf hp hu (Or.inl hr), fun t q => ?_⟩
    exact ldcR Y hx (State.Warmed39.refl _) hownT (refOfLit wl L) L (g := mkF m pc Ls st) rfl (hb hby hd) t q
end Lit
theorem exa_ins {C K : String} (E : Exa Z h a C) (w : (Cond.castable C K).before a0 Z = true) : Ins Z h a K true := by
  obtain ⟨cell, k, e1, e2, e3, e4, -⟩ := E
  obtain ⟨c3, t3, w1, w2, w3⟩ := Cond.castable_spec w
  cases e2.symm.trans w1
  exact ⟨cell, t3, e1, w2, by simp [e4, w3]⟩
theorem s_instY (A : On l Z n0 own bytes maxL ret R p e s m args below meth c T h k n) {index : Nat} {K' : String} (w0 : (Cond.classLink own index K').before a0 Z = true) (F : Ins Z h a K' true) (hd : decode bytes pc = .ok (.instanceof index, 3)) (hp : pc + 3 = pc') (K : ∀ T', On l Z n0 own bytes maxL ret R p e s m args below meth c T' h k n → Wp p e below Φ (T'.setTop (mkF m pc' Ls (.int 1 :: st)))) : Wp p e below Φ (T.setTop (mkF m pc Ls (.ref a :: st))) := by
  obtain ⟨locs, X, N, eT, hx, hZ, hby, hml, hown, hret, hlk, hsz⟩ := A
  subst hp
  obtain ⟨T', X', e', q⟩ := instY X hx hZ hown w0 eT F (g := mkF m pc Ls (.ref a :: st)) rfl rfl (hb hby hd)
  exact (K T' ⟨_, X', N, e', hx, hZ, hby, hml, hown, hret, hlk, hsz⟩).goo q
theorem s_castY (A : On l Z n0 own bytes maxL ret R p e s m args below meth c T h k n) {index : Nat} {K' : String} (w0 : (Cond.classLink own index K').before a0 Z = true) (F : Ins Z h a K' true) (hd : decode bytes pc = .ok (.checkcast index, 3)) (hp : pc + 3 = pc') (K : ∀ T', On l Z n0 own bytes maxL ret R p e s m args below meth c T' h k n → Wp p e below Φ (T'.setTop (mkF m pc' Ls (.ref a :: st)))) : Wp p e below Φ (T.setTop (mkF m pc Ls (.ref a :: st))) := by
  obtain ⟨locs, X, N, eT, hx, hZ, hby, hml, hown, hret, hlk, hsz⟩ := A
  subst hp
  obtain ⟨T', X', e', q⟩ := castY X hx hZ hown w0 eT F (g := mkF m pc Ls (.ref a :: st)) rfl rfl (hb hby hd)
  exact (K T' ⟨_, X', N, e', hx, hZ, hby, hml, hown, hret, hlk, hsz⟩).goo q
theorem fld_uniq {C f d : String} {v w : Value} (F : Fld Z h a C f d v) (G : Fld Z h a C f d w) : v = w := by
  obtain ⟨c1, cf1, k1, i1, f1, a1, a2, -, -, -, -, a3⟩ := F
  obtain ⟨c2, cf2, k2, i2, f2, b1, b2, -, -, -, -, b3⟩ := G
  cases a1.symm.trans b1
  cases a2.symm.trans b2
  exact Option.some.inj (a3.symm.trans b3)
theorem aa_uniq {vs' : List Value} (V : AA Z h a ty vs) (W : AA Z h a ty vs') : vs = vs' := by
  obtain ⟨c1, a1, a2, -⟩ := V
  obtain ⟨c2, b1, b2, -⟩ := W
  cases a1.1.symm.trans b1.1
  have := a2.symm.trans b2
  simpa using this
theorem str_ne {x y bx cy : Addr} {vs' : List Value} (F : Fld Z h x "java/lang/String" "value" "[B" (.ref bx)) (V : AA Z h bx .byte vs) (G : Fld Z h y "java/lang/String" "value" "[B" (.ref cy)) (W : AA Z h cy .byte vs') (q : vs ≠ vs') : x ≠ y := by
  intro z
  subst z
  cases fld_uniq F G
  exact q (aa_uniq V W)
section LitS
open Bundle
variable {cs : List (String × Nat × String)} {vm vm' : Vm} {ws : List Addr} {s0 : State} {cs' : Nat} {QS : Option Value → Heap → Vm → Prop}
def MetS (l : Launch) (Z : State) (n0 : Nat) (y : MethodName) (bytes : ByteArray) (maxL : Nat) (ret : Option FieldType) (rm : Room) (as : Array Value) (h : Heap) (cs : List (String × Nat × String)) (ws : List Addr) (QS : Option Value → Heap → Vm → Prop) : Prop :=
  ∀ wds, MetFree l y (head1 (Cond.code y bytes maxL ret :: wds) rm) (fun a U => a = as ∧ Z.Warmed39 U.vm ∧ U.heap = h ∧ LK Z cs U.vm h ws) (fun _ _ _ _ _ => True) (fun _ U o U' => ∃ v L, o = .returned v ∧ (Fr n0 L ∧ QS v U'.heap U'.vm) ∧ ReturnedEndW U o U' L rm.cells rm.slots)
theorem metS_intro {y : MethodName} {rm : Room} {as : Array Value} (hpl : plainFor y = true) (ho : y.cls = own) (hsz : n0 ≤ h.size)
    (body : ∀ p e s m below meth c T, On l Z n0 own bytes maxL ret rm p e s m as below meth c T h 0 0 → Bk s s h → LK Z cs s.vm h ws → meth.name = y.name → Wp p e below (EndS s n0 rm.cells rm.slots QS) (T.setTop (entryFrame m as maxL))) : MetS l Z n0 y bytes maxL ret rm as h cs ws QS := by
  subst ho
  intro ws
  refine MetFree.of_bodySF hpl hisR ?_
  intro p e s m args below meth c s₁ Bd hml0 hP hK
  obtain ⟨rfl, hZ, hh, hL⟩ := hP
  have X0 : Stand p l e rm s m args below meth c s₁ [] 0 0 := Stand.of_body Bd
  have e0 : s₁.heap = h := by rw [← hh, Bd.state]; rfl
  exact body p e s m below meth c s₁ ⟨[], X0, Fr.nil n0, e0, Bd.exec, hZ, Bd.bytes, hml0, findClass_of_methodNamed Bd.named, Bd.returns, Bd.notSynchronized, by rw [hh]; exact hsz⟩ Bk.start hL (name_of_methodNamed Bd.named Bd.method).1
theorem rS_val (A : On l Z n0 own bytes maxL ret R p e s m args below meth c T h k n) (B : Bk s0 s h) {i : Instr} {t : FieldType} (hr : ret = some t) (hn0 : narrow t v = v) (hi : (i = .ireturn ∧ (t = .int ∨ t = .boolean ∨ t = .byte ∨ t = .char ∨ t = .short) ∧ ∃ z, v = .int z) ∨ (i = .lreturn ∧ t = .long ∧ ∃ z, v = .long z) ∨ (i = .dreturn ∧ t = .double ∧ ∃ z, v = .double z) ∨ (i = .freturn ∧ t = .float ∧ ∃ z, v = .float z) ∨ (i = .areturn ∧ t.isReference = true ∧ v.isRef = true)) (hd : decode bytes pc = .ok (i, 1)) (hk : k ≤ ck) (hn : n ≤ cs') (q : ∀ vm, s.WarmedH vm → QS (some v) h vm) : Wp p e below (EndS s0 n0 ck cs' QS) (T.setTop (mkF m pc Ls (v :: st))) := by
  obtain ⟨locs, X, N, eT, hx, hZ, hby, hml, hown, hret, hlk, hsz⟩ := A
  subst eT
  obtain ⟨eS, k0, hS, hk0⟩ := B
  have X' := X
  rw [eS] at X'
  have hR : meth.sig.returnType = some t := hret.trans hr
  obtain ⟨fs, h1, hrun, hended, hend⟩ := X'.leaveW hS hk0 (v := some v) (fun z => by rw [hR] at z; cases z) hlk
  exact ⟨_, _, retOut X hx hR hn0 hi (hb hby hd) h1, hrun, hended, _, _, rfl, ⟨N, q _ X.warmed⟩, hend.1, hend.2.1, hend.2.2.1, hend.2.2.2.mono hk hn⟩
theorem rS_bool (A : On l Z n0 own bytes maxL ret R p e s m args below meth c T h k n) (B : Bk s0 s h) {z : Int32} (hr : ret = some .boolean) (hz : z = 0 ∨ z = 1) (hd : decode bytes pc = .ok (.ireturn, 1)) (hk : k ≤ ck) (hn : n ≤ cs') (q : ∀ vm, s.WarmedH vm → QS (some (.int z)) h vm) : Wp p e below (EndS s0 n0 ck cs' QS) (T.setTop (mkF m pc Ls (.int z :: st))) := rS_val A B hr (by rcases hz with rfl | rfl <;> rfl) (Or.inl ⟨rfl, Or.inr (Or.inl rfl), _, rfl⟩) hd hk hn q
theorem rS_ref (A : On l Z n0 own bytes maxL ret R p e s m args below meth c T h k n) (B : Bk s0 s h) {t : FieldType} (hr : ret = some t) (ht : t.isReference = true) (hv : v.isRef = true) (hd : decode bytes pc = .ok (.areturn, 1)) (hk : k ≤ ck) (hn : n ≤ cs') (q : ∀ vm, s.WarmedH vm → QS (some v) h vm) : Wp p e below (EndS s0 n0 ck cs' QS) (T.setTop (mkF m pc Ls (v :: st))) := rS_val A B hr (by cases t <;> first | rfl | cases ht) (Or.inr (Or.inr (Or.inr (Or.inr ⟨rfl, ht, hv⟩)))) hd hk hn q
theorem s_ldcS (A : On l Z n0 own bytes maxL ret R p e s m args below meth c T h k n) (B : Bk s0 s h) (H : LK Z cs s.vm h ws) {i nn : Nat} {text : String} (hm : (own, i, text) ∈ cs) (wS : ∀ a ∈ Bundle.stringAtoms, a.before a0 Z = true) (hvs : text.toList.map (fun c => Value.int (Jvm.Lit.byteI c.toNat.toUInt16)) = vs) (hn : 4 * text.toList.length ≤ nn) (hbig : nn ≤ 536870912) (hc : k + 2 ≤ R.cells) (hl : n + (nn + 4) ≤ R.slots) (hd : decode bytes pc = .ok (.ldc i, 2)) (hp : pc + 2 = pc')
    (K : ∀ s' T' h' a b, On l Z n0 own bytes maxL ret R p e s' m args below meth c T' h' (k + 2) (n + (nn + 4)) → Bk s0 s' h' → LK Z cs s'.vm h' ws → Ext h h' → Exa Z h' a "java/lang/String" → Fld Z h' a "java/lang/String" "coder" "B" (.int 0) → Fld Z h' a "java/lang/String" "value" "[B" (.ref b) → AA Z h' b .byte vs → a ∉ ws → b ∉ ws → Wp p e below Φ (T'.setTop (mkF m pc' Ls (.ref a :: st)))) : Wp p e below Φ (T.setTop (mkF m pc Ls st)) := by
  subst hp
  obtain ⟨s', T', h', a, units, A', e1, hS', L', E, htext, hsl, q⟩ := ldc_core (pc := pc) (Ls := Ls) (st := st) A H hm wS hn hbig hc hl hd
  have hch := (H.2.2 _ hm).1
  obtain ⟨F1, F2, b, F3, F4, n1, n2⟩ := slX_facts hsl L'.1.alike (Jvm.ClassFile.lat_of_text htext hch)
  obtain ⟨eS, k0, hS, hk0⟩ := B
  have F4' : AA Z h' b .byte vs := F4.cast (by rw [Jvm.ClassFile.units_of_text htext hch, List.map_map, ← hvs]; rfl)
  have hS2 := hS'
  rw [eS] at hS2
  exact (K s' T' h' a b A' ⟨by rw [e1, eS]; rfl, h'.size, hS.trans hS2 (Nat.le_trans hk0 E.1), Nat.le_refl _⟩ L' E F1 F2 F3 F4' n1 n2).goo q
theorem backS_of {y : MethodName} {bytes : ByteArray} {maxL : Nat} {ret : Option FieldType} {rm : Room} {len W : Nat} {as' : Array Value} (M : MetS l Z n0 y bytes maxL ret rm as' h cs ws QS)
    (hZ : Z.Warmed39 s.vm) (H : LK Z cs s.vm h ws) (wc : (Cond.code y bytes maxL ret).before a0 Z = true) (wz : (Cond.initialized y.cls).before a0 Z = true) (hf : rm.frames + 1 ≤ R.frames) (hl : W + (maxL + 11) + rm.locals ≤ R.locals) :
    BackS l R p e below s args y len W (fun A a => a = as' ∧ A.U.heap = h ∧ A.cells + rm.cells ≤ R.cells ∧ A.slots + rm.slots ≤ R.slots)
      (fun A _ v B => ∃ L, (Fr n0 L ∧ QS v B.U.heap B.U.vm) ∧ B.locs = A.locs ++ L ∧ B.cells = A.cells + rm.cells ∧ B.slots = A.slots + rm.slots) :=
  BackS.of_freeW (bytes := bytes) (maxL := maxL) (ret := ret) (E := fun _ _ o t L k n => k = rm.cells ∧ n = rm.slots ∧ ∃ v, o = .returned v ∧ (Fr n0 L ∧ QS v t.heap t.vm)) (M []) hf hl
    (fun m meth c A a Y hp => have hU : Z.Warmed39 A.U.vm := wtrans hZ Y.warmed
      ⟨by show (Cond.and _ .tt).before a A.U = true; rw [Cond.before_and, mv hU wc]; rfl, mv hU wc, mv hU wz, hp.2.2.1, hp.2.2.2⟩)
    (fun m meth c A a g mk Y hp => ⟨hp.1, wtrans hZ Y.warmed, hp.2.1, H.warm Y.warmed⟩) (fun _ _ _ _ _ _ _ _ _ => trivial)
    (fun _ _ _ _ ⟨v, L, h1, h2, h3⟩ => ⟨L, _, _, h3, rfl, rfl, v, h1, h2⟩)
    (fun m meth c A a g mk v t L k n Y hp _ _ ⟨e1, e2, v', e3, e4⟩ => by cases e3; subst e1 e2; exact ⟨L, e4, rfl, rfl, rfl⟩)
theorem onS {T' : State} {L' : List Loc} {k' n' : Nat} (hZ : Z.Warmed39 s.vm) (hown : s.vm.findClass own = some m.cls) (B : Bk s0 s T.heap) (X' : Stand p l e R (s.setVm T'.vm) m args below meth c T' L' k' n') (N : Fr n0 L') (hx : p.tables.exec = Jvm.exec) (hby : c.code = bytes) (hml : c.maxLocals = maxL) (hret : meth.sig.returnType = ret) (hlk : meth.locks = false) (hsz : n0 ≤ s.heap.size) (hS : s.Since T'.vm T'.heap.size) (hge : T.heap.size ≤ T'.heap.size) :
    On l Z n0 own bytes maxL ret R p e (s.setVm T'.vm) m args below meth c T' T'.heap k' n' ∧ Bk s0 (s.setVm T'.vm) T'.heap := by
  obtain ⟨eS, k0, h1, h2⟩ := B
  refine ⟨⟨L', X', N, rfl, hx, State.Warmed39.trans hZ hS.1, hby, hml, ?_, hret, hlk, hsz⟩, ?_, T'.heap.size, ?_, Nat.le_refl _⟩
  · show T'.vm.findClass own = _; rw [hS.1.alike.findClass]; exact hown
  · rw [eS]; rfl
  · have h3 := hS; rw [eS] at h3; exact h1.trans h3 (Nat.le_trans h2 hge)
theorem s_staticS (A : On l Z n0 own bytes maxL ret R p e s m args below meth c T h k n) {index : Nat} {y : MethodName} {bytes' : ByteArray} {maxL' : Nat} {ret' : Option FieldType} {rm : Room} {argsL rest : List Value} {Q' : Option Value → Heap → Vm → Prop} (B : Bk s0 s h) (H : LK Z cs s.vm h ws) (M : MetS l Z n0 y bytes' maxL' ret' rm argsL.toArray h cs ws Q') (wl : (Cond.methodLink own index y).before a0 Z = true) (ws : (Cond.static y).before a0 Z = true) (wz : (Cond.initialized y.cls).before a0 Z = true) (wc : (Cond.code y bytes' maxL' ret').before a0 Z = true) (hy : y.cls ≠ "java/lang/invoke/MethodHandle" ∧ y.cls ≠ "java/lang/invoke/VarHandle") {sig : MethodDescriptor} (hsig : parseMethodDescriptor y.desc = some sig) (hlen : argsL.length = sig.parameters.length) {W : Nat} (hf : rm.frames + 1 ≤ R.frames) (hl : W + (maxL' + 11) + rm.locals ≤ R.locals) (hW : (rest.map fun v => v.category).sum ≤ W) (hc : k + rm.cells ≤ R.cells) (hs : n + rm.slots ≤ R.slots) (hLs : Ls.size = maxL) {stk : List Value} (hst : stk = argsL.reverse ++ rest) (hd : decode bytes pc = .ok (.invokestatic index, 3)) (hp : pc + 3 = pc') (K : ∀ s' T' h' v, On l Z n0 own bytes maxL ret R p e s' m args below meth c T' h' (k + rm.cells) (n + rm.slots) → Bk s0 s' h' → Q' v h' s'.vm → Wp p e below Φ (T'.setTop (mkF m pc' Ls (v.toList ++ rest)))) : Wp p e below Φ (T.setTop (mkF m pc Ls stk)) := by
  obtain ⟨locs, X, N, eT, hx, hZ, hby, hml, hown, hret, hlk, hsz⟩ := A
  subst hp
  obtain ⟨v, _, ⟨T', L', k', n'⟩, -, X', hS', hge, ⟨Lc, ⟨Nq, hQ⟩, l1, l2, l3⟩, q⟩ := callSS X hx (y := y) hown (mvT hZ wl) (mvT hZ ws) (mvT hZ wz) (mvT hZ wc) hy (backS_of (W := W) M hZ H wc wz hf hl) (g := mkF m pc Ls stk) rfl (by rw [hml]; exact hLs) (argsL := argsL) (rest := rest) (lenOf hsig hlen) hst (by show 2 * 0 + _ ≤ _; simpa using hW) (hb hby hd) (fun _ _ => ⟨rfl, eT, hc, hs⟩)
  dsimp only [Pt.U, Pt.locs, Pt.cells, Pt.slots] at X' l1 l2 l3 q hQ Nq hS' hge
  subst l1 l2 l3
  subst eT
  obtain ⟨o1, o2⟩ := onS hZ hown B X' (Fr.app N Nq) hx hby hml hret hlk hsz hS' hge
  exact (K _ T' T'.heap v o1 o2 hQ).goo (fun t r => q.trans r)
theorem s_virtualS (A : On l Z n0 own bytes maxL ret R p e s m args below meth c T h k n) {index : Nat} {y : MethodName} {bytes' : ByteArray} {maxL' : Nat} {ret' : Option FieldType} {rm : Room} {argsL rest : List Value} {Q' : Option Value → Heap → Vm → Prop} {C : String} {z : MethodName} (E : Exa Z h b C) (B : Bk s0 s h) (H : LK Z cs s.vm h ws) (M : MetS l Z n0 z bytes' maxL' ret' rm (.ref b :: argsL).toArray h cs ws Q') (wl : (Cond.methodLink own index y).before a0 Z = true) (wd : (Cond.declares y).before a0 Z = true) (wn : ∀ (args : Array Value) (s : State), Z.Warmed39 s.vm → NotFace s y) (wsel : (Cond.selects C y z).before a0 Z = true) (wim : (Cond.instanceMethod z).before a0 Z = true) (wz : (Cond.initialized z.cls).before a0 Z = true) (wc : (Cond.code z bytes' maxL' ret').before a0 Z = true) (hy : y.cls ≠ "java/lang/invoke/MethodHandle" ∧ y.cls ≠ "java/lang/invoke/VarHandle") {sig : MethodDescriptor} (hsig : parseMethodDescriptor y.desc = some sig) (hlen : argsL.length = sig.parameters.length) {W : Nat} (hf : rm.frames + 1 ≤ R.frames) (hl : W + (maxL' + 11) + rm.locals ≤ R.locals) (hW : (rest.map fun v => v.category).sum ≤ W) (hc : k + rm.cells ≤ R.cells) (hs : n + rm.slots ≤ R.slots) (hLs : Ls.size = maxL) {stk : List Value} (hst : stk = argsL.reverse ++ .ref b :: rest) (hd : decode bytes pc = .ok (.invokevirtual index, 3)) (hp : pc + 3 = pc') (K : ∀ s' T' h' v, On l Z n0 own bytes maxL ret R p e s' m args below meth c T' h' (k + rm.cells) (n + rm.slots) → Bk s0 s' h' → Q' v h' s'.vm → Wp p e below Φ (T'.setTop (mkF m pc' Ls (v.toList ++ rest)))) : Wp p e below Φ (T.setTop (mkF m pc Ls stk)) := by
  obtain ⟨locs, X, N, eT, hx, hZ, hby, hml, hown, hret, hlk, hsz⟩ := A
  subst hp
  obtain ⟨cq, kq, qa, qb, qc⟩ := isOf hZ eT E
  obtain ⟨v, _, ⟨T', L', k', n'⟩, -, X', hS', hge, ⟨Lc, ⟨Nq, hQ⟩, l1, l2, l3⟩, q⟩ := X.virtualBackS hx (y := y) (z := z) hown (mvT hZ wl) (mvT hZ wd) (wn #[] s hZ) (mvT hZ wsel) (mvT hZ wim) hy (backS_of (W := W) M hZ H wc wz hf hl) qa qc (g := mkF m pc Ls stk) rfl (by rw [hml]; exact hLs) (Steps.refl _) (argsL := argsL) (rest := rest) (lenOf hsig hlen) hst (by show 2 * 0 + _ ≤ _; simpa using hW) (hb hby hd) (fun _ _ => ⟨rfl, eT, hc, hs⟩)
  dsimp only [Pt.U, Pt.locs, Pt.cells, Pt.slots] at X' l1 l2 l3 q hQ Nq hS' hge
  subst l1 l2 l3
  subst eT
  obtain ⟨o1, o2⟩ := onS hZ hown B X' (Fr.app N Nq) hx hby hml hret hlk hsz hS' hge
  exact (K _ T' T'.heap v o1 o2 hQ).goo (fun t r => q.trans r)
end LitS
end Kit
end Jvm.Ow
namespace Jvm.Pilot.@@N@@
open Jvm Jvm.ClassFile Sem Op Lib Jvm.Free Jvm.Stand Jvm.LawKit Jvm.RoadKit Jvm.Ow Bundle Jvm.Pilot.@@N@@.Jvm.D
theorem w16 {Z : State} {a0 : Array Value} (hw : ∀ d ∈ tables_1, d.before a0 Z = true) : (Jvm.Cond.initialized "java/lang/String").before a0 Z = true := hw _ (List.mem_of_getElem? (i := 16) rfl)
theorem w17 {Z : State} {a0 : Array Value} (hw : ∀ d ∈ tables_1, d.before a0 Z = true) : (Jvm.Cond.instantiable "java/lang/String" (4 : Nat)).before a0 Z = true := hw _ (List.mem_of_getElem? (i := 17) rfl)
theorem w18 {Z : State} {a0 : Array Value} (hw : ∀ d ∈ tables_1, d.before a0 Z = true) : (Jvm.Cond.arrayClass Jvm.ClassFile.FieldType.byte).before a0 Z = true := hw _ (List.mem_of_getElem? (i := 18) rfl)
theorem w19 {Z : State} {a0 : Array Value} (hw : ∀ d ∈ tables_1, d.before a0 Z = true) : (Jvm.Cond.laysFinal "java/lang/String" "java/lang/String" "value" "[B").before a0 Z = true := hw _ (List.mem_of_getElem? (i := 19) rfl)
theorem w20 {Z : State} {a0 : Array Value} (hw : ∀ d ∈ tables_1, d.before a0 Z = true) : (Jvm.Cond.laysFinal "java/lang/String" "java/lang/String" "coder" "B").before a0 Z = true := hw _ (List.mem_of_getElem? (i := 20) rfl)
theorem w21 {Z : State} {a0 : Array Value} (hw : ∀ d ∈ tables_1, d.before a0 Z = true) : (Jvm.Cond.soleField "java/lang/String" "value").before a0 Z = true := hw _ (List.mem_of_getElem? (i := 21) rfl)
theorem w22 {Z : State} {a0 : Array Value} (hw : ∀ d ∈ tables_1, d.before a0 Z = true) : (Jvm.Cond.soleField "java/lang/String" "coder").before a0 Z = true := hw _ (List.mem_of_getElem? (i := 22) rfl)
theorem w15 {Z : State} {a0 : Array Value} (hw : ∀ d ∈ tables_1, d.before a0 Z = true) : (Jvm.Cond.stringLink "com/example/proctor/proctor/server/Holder$Role" (36 : Nat) "application").before a0 Z = true := hw _ (List.mem_of_getElem? (i := 15) rfl)
theorem w26 {Z : State} {a0 : Array Value} (hw : ∀ d ∈ tables_1, d.before a0 Z = true) : (Jvm.Cond.stringLink "com/example/proctor/proctor/server/RoleLabelPinLaw" (19 : Nat) "application").before a0 Z = true := hw _ (List.mem_of_getElem? (i := 26) rfl)
theorem w41 {Z : State} {a0 : Array Value} (hw : ∀ d ∈ tables_1, d.before a0 Z = true) : (Jvm.Cond.stringLink "com/example/proctor/proctor/server/RoleLabelPinLaw" (23 : Nat) "admin").before a0 Z = true := hw _ (List.mem_of_getElem? (i := 41) rfl)
theorem w51 {Z : State} {a0 : Array Value} (hw : ∀ d ∈ tables_1, d.before a0 Z = true) : (Jvm.Cond.stringLink "com/example/proctor/proctor/server/RoleLabelPinLaw" (21 : Nat) "subject").before a0 Z = true := hw _ (List.mem_of_getElem? (i := 51) rfl)
theorem w6 {Z : State} {a0 : Array Value} (hw : ∀ d ∈ tables_1, d.before a0 Z = true) : (Jvm.Cond.initialized "com/example/proctor/proctor/server/Holder$Role").before a0 Z = true := hw _ (List.mem_of_getElem? (i := 6) rfl)
theorem w7 {Z : State} {a0 : Array Value} (hw : ∀ d ∈ tables_1, d.before a0 Z = true) : (Jvm.Cond.laysStatic "com/example/proctor/proctor/server/Holder$Role" "APPLICATION" "Lcom/example/proctor/proctor/server/Holder$Role;").before a0 Z = true := hw _ (List.mem_of_getElem? (i := 7) rfl)
theorem w38 {Z : State} {a0 : Array Value} (hw : ∀ d ∈ tables_1, d.before a0 Z = true) : (Jvm.Cond.laysStatic "com/example/proctor/proctor/server/Holder$Role" "ADMINISTRATOR" "Lcom/example/proctor/proctor/server/Holder$Role;").before a0 Z = true := hw _ (List.mem_of_getElem? (i := 38) rfl)
theorem w40 {Z : State} {a0 : Array Value} (hw : ∀ d ∈ tables_1, d.before a0 Z = true) : (Jvm.Cond.laysStatic "com/example/proctor/proctor/server/Holder$Role" "SUBJECT" "Lcom/example/proctor/proctor/server/Holder$Role;").before a0 Z = true := hw _ (List.mem_of_getElem? (i := 40) rfl)
theorem d1_0 : decode method_2_code 0 = .ok (.iload_n 0, 1) := by decide +kernel
theorem d1_1 : decode method_2_code 1 = .ok (.ifCond .ne 7, 3) := by decide +kernel
theorem d1_4 : decode method_2_code 4 = .ok (.getstatic 7, 3) := by decide +kernel
theorem w5 {Z : State} {a0 : Array Value} (hw : ∀ d ∈ tables_1, d.before a0 Z = true) : (Jvm.Cond.fieldLink "com/example/proctor/proctor/server/RoleLabelPinLaw" (7 : Nat) "com/example/proctor/proctor/server/Holder$Role" "APPLICATION" "Lcom/example/proctor/proctor/server/Holder$Role;").before a0 Z = true := hw _ (List.mem_of_getElem? (i := 5) rfl)
theorem d1_7 : decode method_2_code 7 = .ok (.areturn, 1) := by decide +kernel
abbrev y0_pick : MethodName := ⟨"com/example/proctor/proctor/server/RoleLabelPinLaw", "pick", "(I)Lcom/example/proctor/proctor/server/Holder$Role;"⟩
theorem pn_com_example_proctor_proctor_server_RoleLabelPinLaw : plainName "com/example/proctor/proctor/server/RoleLabelPinLaw" = true := by first | (simp [plainName, overriddenIn]; done) | decide +kernel
abbrev c0_RoleLabelPinLaw : String := "com/example/proctor/proctor/server/RoleLabelPinLaw"
theorem d3_0 : decode method_3_code 0 = .ok (.iload_n 0, 1) := by decide +kernel
theorem d3_1 : decode method_3_code 1 = .ok (.ifCond .ne 6, 3) := by decide +kernel
theorem d3_4 : decode method_3_code 4 = .ok (.ldc 19, 2) := by decide +kernel
theorem d3_6 : decode method_3_code 6 = .ok (.areturn, 1) := by decide +kernel
abbrev y1_expected : MethodName := ⟨"com/example/proctor/proctor/server/RoleLabelPinLaw", "expected", "(I)Ljava/lang/String;"⟩
theorem d1_8 : decode method_2_code 8 = .ok (.iload_n 0, 1) := by decide +kernel
theorem d1_9 : decode method_2_code 9 = .ok (.iconst 1, 1) := by decide +kernel
theorem d1_10 : decode method_2_code 10 = .ok (.if_icmp .ne 7, 3) := by decide +kernel
theorem d1_13 : decode method_2_code 13 = .ok (.getstatic 13, 3) := by decide +kernel
theorem w39 {Z : State} {a0 : Array Value} (hw : ∀ d ∈ tables_1, d.before a0 Z = true) : (Jvm.Cond.fieldLink "com/example/proctor/proctor/server/RoleLabelPinLaw" (13 : Nat) "com/example/proctor/proctor/server/Holder$Role" "SUBJECT" "Lcom/example/proctor/proctor/server/Holder$Role;").before a0 Z = true := hw _ (List.mem_of_getElem? (i := 39) rfl)
theorem d1_16 : decode method_2_code 16 = .ok (.areturn, 1) := by decide +kernel
theorem d3_7 : decode method_3_code 7 = .ok (.iload_n 0, 1) := by decide +kernel
theorem d3_8 : decode method_3_code 8 = .ok (.iconst 1, 1) := by decide +kernel
theorem d3_9 : decode method_3_code 9 = .ok (.if_icmp .ne 6, 3) := by decide +kernel
theorem d3_12 : decode method_3_code 12 = .ok (.ldc 21, 2) := by decide +kernel
theorem d3_14 : decode method_3_code 14 = .ok (.areturn, 1) := by decide +kernel
theorem d1_17 : decode method_2_code 17 = .ok (.getstatic 16, 3) := by decide +kernel
theorem w37 {Z : State} {a0 : Array Value} (hw : ∀ d ∈ tables_1, d.before a0 Z = true) : (Jvm.Cond.fieldLink "com/example/proctor/proctor/server/RoleLabelPinLaw" (16 : Nat) "com/example/proctor/proctor/server/Holder$Role" "ADMINISTRATOR" "Lcom/example/proctor/proctor/server/Holder$Role;").before a0 Z = true := hw _ (List.mem_of_getElem? (i := 37) rfl)
theorem d1_20 : decode method_2_code 20 = .ok (.areturn, 1) := by decide +kernel
theorem d3_15 : decode method_3_code 15 = .ok (.ldc 23, 2) := by decide +kernel
theorem d3_17 : decode method_3_code 17 = .ok (.areturn, 1) := by decide +kernel
theorem d2_0 : decode prog_52_method_5_code 0 = .ok (.aload_n 0, 1) := by decide +kernel
theorem d2_1 : decode prog_52_method_5_code 1 = .ok (.getfield 32, 3) := by decide +kernel
theorem w13 {Z : State} {a0 : Array Value} (hw : ∀ d ∈ tables_1, d.before a0 Z = true) : (Jvm.Cond.fieldLink "com/example/proctor/proctor/server/Holder$Role" (32 : Nat) "com/example/proctor/proctor/server/Holder$Role" "claim" "Ljava/lang/String;").before a0 Z = true := hw _ (List.mem_of_getElem? (i := 13) rfl)
theorem d2_4 : decode prog_52_method_5_code 4 = .ok (.ifnonnull 8, 3) := by decide +kernel
theorem d2_7 : decode prog_52_method_5_code 7 = .ok (.ldc 36, 2) := by decide +kernel
theorem d2_9 : decode prog_52_method_5_code 9 = .ok (.goto 7, 3) := by decide +kernel
theorem d2_16 : decode prog_52_method_5_code 16 = .ok (.areturn, 1) := by decide +kernel
abbrev y2_label : MethodName := ⟨"com/example/proctor/proctor/server/Holder$Role", "label", "()Ljava/lang/String;"⟩
theorem pn_com_example_proctor_proctor_server_Holder_Role : plainName "com/example/proctor/proctor/server/Holder$Role" = true := by first | (simp [plainName, overriddenIn]; done) | decide +kernel
abbrev c1_Holder_Role : String := "com/example/proctor/proctor/server/Holder$Role"
theorem d2_12 : decode prog_52_method_5_code 12 = .ok (.aload_n 0, 1) := by decide +kernel
theorem d2_13 : decode prog_52_method_5_code 13 = .ok (.getfield 32, 3) := by decide +kernel
theorem d5_0 : decode prog_52_method_4_code 0 = .ok (.aload_n 0, 1) := by decide +kernel
theorem d5_1 : decode prog_52_method_4_code 1 = .ok (.getfield 32, 3) := by decide +kernel
theorem d5_4 : decode prog_52_method_4_code 4 = .ok (.areturn, 1) := by decide +kernel
abbrev y3_claim : MethodName := ⟨"com/example/proctor/proctor/server/Holder$Role", "claim", "()Ljava/lang/String;"⟩
theorem d6_0 : decode jdk_43_method_13_code 0 = .ok (.aload_n 0, 1) := by decide +kernel
theorem d6_1 : decode jdk_43_method_13_code 1 = .ok (.arraylength, 1) := by decide +kernel
theorem d6_2 : decode jdk_43_method_13_code 2 = .ok (.aload_n 1, 1) := by decide +kernel
theorem d6_3 : decode jdk_43_method_13_code 3 = .ok (.arraylength, 1) := by decide +kernel
theorem d6_4 : decode jdk_43_method_13_code 4 = .ok (.if_icmp .ne 30, 3) := by decide +kernel
theorem d6_7 : decode jdk_43_method_13_code 7 = .ok (.iconst 0, 1) := by decide +kernel
theorem d6_8 : decode jdk_43_method_13_code 8 = .ok (.istore_n 2, 1) := by decide +kernel
theorem d6_9 : decode jdk_43_method_13_code 9 = .ok (.iload_n 2, 1) := by decide +kernel
theorem d6_10 : decode jdk_43_method_13_code 10 = .ok (.aload_n 0, 1) := by decide +kernel
theorem d6_11 : decode jdk_43_method_13_code 11 = .ok (.arraylength, 1) := by decide +kernel
theorem d6_12 : decode jdk_43_method_13_code 12 = .ok (.if_icmp .ge 20, 3) := by decide +kernel
theorem d6_15 : decode jdk_43_method_13_code 15 = .ok (.aload_n 0, 1) := by decide +kernel
theorem d6_16 : decode jdk_43_method_13_code 16 = .ok (.iload_n 2, 1) := by decide +kernel
theorem d6_17 : decode jdk_43_method_13_code 17 = .ok (.baload, 1) := by decide +kernel
theorem d6_18 : decode jdk_43_method_13_code 18 = .ok (.aload_n 1, 1) := by decide +kernel
theorem d6_19 : decode jdk_43_method_13_code 19 = .ok (.iload_n 2, 1) := by decide +kernel
theorem d6_20 : decode jdk_43_method_13_code 20 = .ok (.baload, 1) := by decide +kernel
theorem d6_21 : decode jdk_43_method_13_code 21 = .ok (.if_icmp .eq 5, 3) := by decide +kernel
theorem d6_26 : decode jdk_43_method_13_code 26 = .ok (.iinc 2 1, 3) := by decide +kernel
theorem d6_29 : decode jdk_43_method_13_code 29 = .ok (.goto (-20), 3) := by decide +kernel
theorem d6_32 : decode jdk_43_method_13_code 32 = .ok (.iconst 1, 1) := by decide +kernel
theorem d6_33 : decode jdk_43_method_13_code 33 = .ok (.ireturn, 1) := by decide +kernel
abbrev y4_equals : MethodName := ⟨"java/lang/StringLatin1", "equals", "([B[B)Z"⟩
theorem pn_java_lang_StringLatin1 : plainName "java/lang/StringLatin1" = true := by first | (simp [plainName, overriddenIn]; done) | decide +kernel
abbrev c2_StringLatin1 : String := "java/lang/StringLatin1"
theorem d4_0 : decode jdk_42_method_66_code 0 = .ok (.aload_n 0, 1) := by decide +kernel
theorem d4_1 : decode jdk_42_method_66_code 1 = .ok (.aload_n 1, 1) := by decide +kernel
theorem d4_2 : decode jdk_42_method_66_code 2 = .ok (.if_acmp .ne 5, 3) := by decide +kernel
theorem d4_5 : decode jdk_42_method_66_code 5 = .ok (.iconst 1, 1) := by decide +kernel
theorem d4_6 : decode jdk_42_method_66_code 6 = .ok (.ireturn, 1) := by decide +kernel
theorem d4_7 : decode jdk_42_method_66_code 7 = .ok (.aload_n 1, 1) := by decide +kernel
theorem d4_8 : decode jdk_42_method_66_code 8 = .ok (.instanceof 10, 3) := by decide +kernel
theorem w42 {Z : State} {a0 : Array Value} (hw : ∀ d ∈ tables_1, d.before a0 Z = true) : (Jvm.Cond.classLink "java/lang/String" (10 : Nat) "java/lang/String").before a0 Z = true := hw _ (List.mem_of_getElem? (i := 42) rfl)
theorem w43 {Z : State} {a0 : Array Value} (hw : ∀ d ∈ tables_1, d.before a0 Z = true) : (Jvm.Cond.castable "java/lang/String" "java/lang/String").before a0 Z = true := hw _ (List.mem_of_getElem? (i := 43) rfl)
theorem d4_11 : decode jdk_42_method_66_code 11 = .ok (.ifCond .eq 43, 3) := by decide +kernel
theorem d4_14 : decode jdk_42_method_66_code 14 = .ok (.aload_n 1, 1) := by decide +kernel
theorem d4_15 : decode jdk_42_method_66_code 15 = .ok (.checkcast 10, 3) := by decide +kernel
theorem d4_18 : decode jdk_42_method_66_code 18 = .ok (.astore_n 2, 1) := by decide +kernel
theorem d4_19 : decode jdk_42_method_66_code 19 = .ok (.getstatic 38, 3) := by decide +kernel
theorem w44 {Z : State} {a0 : Array Value} (hw : ∀ d ∈ tables_1, d.before a0 Z = true) : (Jvm.Cond.fieldLink "java/lang/String" (38 : Nat) "java/lang/String" "COMPACT_STRINGS" "Z").before a0 Z = true := hw _ (List.mem_of_getElem? (i := 44) rfl)
theorem d4_22 : decode jdk_42_method_66_code 22 = .ok (.ifCond .eq 14, 3) := by decide +kernel
theorem d4_25 : decode jdk_42_method_66_code 25 = .ok (.aload_n 0, 1) := by decide +kernel
theorem d4_26 : decode jdk_42_method_66_code 26 = .ok (.getfield 15, 3) := by decide +kernel
theorem w45 {Z : State} {a0 : Array Value} (hw : ∀ d ∈ tables_1, d.before a0 Z = true) : (Jvm.Cond.fieldLink "java/lang/String" (15 : Nat) "java/lang/String" "coder" "B").before a0 Z = true := hw _ (List.mem_of_getElem? (i := 45) rfl)
theorem d4_29 : decode jdk_42_method_66_code 29 = .ok (.aload_n 2, 1) := by decide +kernel
theorem d4_30 : decode jdk_42_method_66_code 30 = .ok (.getfield 15, 3) := by decide +kernel
theorem d4_33 : decode jdk_42_method_66_code 33 = .ok (.if_icmp .ne 21, 3) := by decide +kernel
theorem d4_36 : decode jdk_42_method_66_code 36 = .ok (.aload_n 0, 1) := by decide +kernel
theorem d4_37 : decode jdk_42_method_66_code 37 = .ok (.getfield 9, 3) := by decide +kernel
theorem w46 {Z : State} {a0 : Array Value} (hw : ∀ d ∈ tables_1, d.before a0 Z = true) : (Jvm.Cond.fieldLink "java/lang/String" (9 : Nat) "java/lang/String" "value" "[B").before a0 Z = true := hw _ (List.mem_of_getElem? (i := 46) rfl)
theorem d4_40 : decode jdk_42_method_66_code 40 = .ok (.aload_n 2, 1) := by decide +kernel
theorem d4_41 : decode jdk_42_method_66_code 41 = .ok (.getfield 9, 3) := by decide +kernel
theorem d4_44 : decode jdk_42_method_66_code 44 = .ok (.invokestatic 541, 3) := by decide +kernel
theorem w47 {Z : State} {a0 : Array Value} (hw : ∀ d ∈ tables_1, d.before a0 Z = true) : (Jvm.Cond.methodLink "java/lang/String" (541 : Nat) ({ cls := "java/lang/StringLatin1", name := "equals", desc := "([B[B)Z" } : Jvm.MethodName)).before a0 Z = true := hw _ (List.mem_of_getElem? (i := 47) rfl)
theorem pd___B_B_Z : parseMethodDescriptor "([B[B)Z" = some ⟨[(.array .byte), (.array .byte)], some .boolean⟩ := by decide +kernel
theorem w49 {Z : State} {a0 : Array Value} (hw : ∀ d ∈ tables_1, d.before a0 Z = true) : (Jvm.Cond.initialized "java/lang/StringLatin1").before a0 Z = true := hw _ (List.mem_of_getElem? (i := 49) rfl)
theorem w50 {Z : State} {a0 : Array Value} (hw : ∀ d ∈ tables_1, d.before a0 Z = true) : (Jvm.Cond.code ({ cls := "java/lang/StringLatin1", name := "equals", desc := "([B[B)Z" } : Jvm.MethodName) jdk_43_method_13_code (3 : Nat) (Option.some Jvm.ClassFile.FieldType.boolean)).before a0 Z = true := hw _ (List.mem_of_getElem? (i := 50) rfl)
theorem w48 {Z : State} {a0 : Array Value} (hw : ∀ d ∈ tables_1, d.before a0 Z = true) : (Jvm.Cond.static ({ cls := "java/lang/StringLatin1", name := "equals", desc := "([B[B)Z" } : Jvm.MethodName)).before a0 Z = true := hw _ (List.mem_of_getElem? (i := 48) rfl)
theorem d4_47 : decode jdk_42_method_66_code 47 = .ok (.ifCond .eq 7, 3) := by decide +kernel
theorem d4_50 : decode jdk_42_method_66_code 50 = .ok (.iconst 1, 1) := by decide +kernel
theorem d4_51 : decode jdk_42_method_66_code 51 = .ok (.goto 4, 3) := by decide +kernel
theorem d4_55 : decode jdk_42_method_66_code 55 = .ok (.ireturn, 1) := by decide +kernel
abbrev y5_equals : MethodName := ⟨"java/lang/String", "equals", "(Ljava/lang/Object;)Z"⟩
theorem pn_java_lang_String : plainName "java/lang/String" = true := by first | (simp [plainName, overriddenIn]; done) | decide +kernel
abbrev c3_String : String := "java/lang/String"
theorem d6_34 : decode jdk_43_method_13_code 34 = .ok (.iconst 0, 1) := by decide +kernel
theorem d6_35 : decode jdk_43_method_13_code 35 = .ok (.ireturn, 1) := by decide +kernel
theorem d4_54 : decode jdk_42_method_66_code 54 = .ok (.iconst 0, 1) := by decide +kernel
theorem w0 {Z : State} {a0 : Array Value} (hw : ∀ d ∈ tables_1, d.before a0 Z = true) : (Jvm.Cond.constant "com/example/proctor/proctor/server/RoleLabelPinLaw" (25 : Nat) (2147483647 : Int32)).before a0 Z = true := hw _ (List.mem_of_getElem? (i := 0) rfl)
theorem w1 {Z : State} {a0 : Array Value} (hw : ∀ d ∈ tables_1, d.before a0 Z = true) : (Jvm.Cond.methodLink "com/example/proctor/proctor/server/RoleLabelPinLaw" (26 : Nat) ({ cls := "com/example/proctor/proctor/server/RoleLabelPinLaw", name := "pick", desc := "(I)Lcom/example/proctor/proctor/server/Holder$Role;" } : Jvm.MethodName)).before a0 Z = true := hw _ (List.mem_of_getElem? (i := 1) rfl)
theorem pd__I_Lcom_example_proctor_proctor_server_Holder_Role_ : parseMethodDescriptor "(I)Lcom/example/proctor/proctor/server/Holder$Role;" = some ⟨[.int], some (.object "com/example/proctor/proctor/server/Holder$Role")⟩ := by decide +kernel
theorem w3 {Z : State} {a0 : Array Value} (hw : ∀ d ∈ tables_1, d.before a0 Z = true) : (Jvm.Cond.initialized "com/example/proctor/proctor/server/RoleLabelPinLaw").before a0 Z = true := hw _ (List.mem_of_getElem? (i := 3) rfl)
theorem w4 {Z : State} {a0 : Array Value} (hw : ∀ d ∈ tables_1, d.before a0 Z = true) : (Jvm.Cond.code ({ cls := "com/example/proctor/proctor/server/RoleLabelPinLaw", name := "pick", desc := "(I)Lcom/example/proctor/proctor/server/Holder$Role;" } : Jvm.MethodName) method_2_code (1 : Nat) (Option.some (Jvm.ClassFile.FieldType.object "com/example/proctor/proctor/server/Holder$Role"))).before a0 Z = true := hw _ (List.mem_of_getElem? (i := 4) rfl)
theorem w2 {Z : State} {a0 : Array Value} (hw : ∀ d ∈ tables_1, d.before a0 Z = true) : (Jvm.Cond.static ({ cls := "com/example/proctor/proctor/server/RoleLabelPinLaw", name := "pick", desc := "(I)Lcom/example/proctor/proctor/server/Holder$Role;" } : Jvm.MethodName)).before a0 Z = true := hw _ (List.mem_of_getElem? (i := 2) rfl)
theorem w8 {Z : State} {a0 : Array Value} (hw : ∀ d ∈ tables_1, d.before a0 Z = true) : (Jvm.Cond.methodLink "com/example/proctor/proctor/server/RoleLabelPinLaw" (32 : Nat) ({ cls := "com/example/proctor/proctor/server/Holder$Role", name := "label", desc := "()Ljava/lang/String;" } : Jvm.MethodName)).before a0 Z = true := hw _ (List.mem_of_getElem? (i := 8) rfl)
theorem pd___Ljava_lang_String_ : parseMethodDescriptor "()Ljava/lang/String;" = some ⟨[], some (.object "java/lang/String")⟩ := by decide +kernel
theorem w12 {Z : State} {a0 : Array Value} (hw : ∀ d ∈ tables_1, d.before a0 Z = true) : (Jvm.Cond.code ({ cls := "com/example/proctor/proctor/server/Holder$Role", name := "label", desc := "()Ljava/lang/String;" } : Jvm.MethodName) prog_52_method_5_code (1 : Nat) (Option.some (Jvm.ClassFile.FieldType.object "java/lang/String"))).before a0 Z = true := hw _ (List.mem_of_getElem? (i := 12) rfl)
theorem w11 {Z : State} {a0 : Array Value} (hw : ∀ d ∈ tables_1, d.before a0 Z = true) : (Jvm.Cond.selects "com/example/proctor/proctor/server/Holder$Role" ({ cls := "com/example/proctor/proctor/server/Holder$Role", name := "label", desc := "()Ljava/lang/String;" } : Jvm.MethodName) ({ cls := "com/example/proctor/proctor/server/Holder$Role", name := "label", desc := "()Ljava/lang/String;" } : Jvm.MethodName)).before a0 Z = true := hw _ (List.mem_of_getElem? (i := 11) rfl)
theorem w9 {Z : State} {a0 : Array Value} (hw : ∀ d ∈ tables_1, d.before a0 Z = true) : (Jvm.Cond.declares ({ cls := "com/example/proctor/proctor/server/Holder$Role", name := "label", desc := "()Ljava/lang/String;" } : Jvm.MethodName)).before a0 Z = true := hw _ (List.mem_of_getElem? (i := 9) rfl)
theorem w10 {Z : State} {a0 : Array Value} (hw : ∀ d ∈ tables_1, d.before a0 Z = true) : (Jvm.Cond.instanceMethod ({ cls := "com/example/proctor/proctor/server/Holder$Role", name := "label", desc := "()Ljava/lang/String;" } : Jvm.MethodName)).before a0 Z = true := hw _ (List.mem_of_getElem? (i := 10) rfl)
theorem w23 {Z : State} {a0 : Array Value} (hw : ∀ d ∈ tables_1, d.before a0 Z = true) : (Jvm.Cond.methodLink "com/example/proctor/proctor/server/RoleLabelPinLaw" (36 : Nat) ({ cls := "com/example/proctor/proctor/server/RoleLabelPinLaw", name := "expected", desc := "(I)Ljava/lang/String;" } : Jvm.MethodName)).before a0 Z = true := hw _ (List.mem_of_getElem? (i := 23) rfl)
theorem pd__I_Ljava_lang_String_ : parseMethodDescriptor "(I)Ljava/lang/String;" = some ⟨[.int], some (.object "java/lang/String")⟩ := by decide +kernel
theorem w25 {Z : State} {a0 : Array Value} (hw : ∀ d ∈ tables_1, d.before a0 Z = true) : (Jvm.Cond.code ({ cls := "com/example/proctor/proctor/server/RoleLabelPinLaw", name := "expected", desc := "(I)Ljava/lang/String;" } : Jvm.MethodName) method_3_code (1 : Nat) (Option.some (Jvm.ClassFile.FieldType.object "java/lang/String"))).before a0 Z = true := hw _ (List.mem_of_getElem? (i := 25) rfl)
theorem w24 {Z : State} {a0 : Array Value} (hw : ∀ d ∈ tables_1, d.before a0 Z = true) : (Jvm.Cond.static ({ cls := "com/example/proctor/proctor/server/RoleLabelPinLaw", name := "expected", desc := "(I)Ljava/lang/String;" } : Jvm.MethodName)).before a0 Z = true := hw _ (List.mem_of_getElem? (i := 24) rfl)
theorem w27 {Z : State} {a0 : Array Value} (hw : ∀ d ∈ tables_1, d.before a0 Z = true) : (Jvm.Cond.methodLink "com/example/proctor/proctor/server/RoleLabelPinLaw" (40 : Nat) ({ cls := "java/lang/String", name := "equals", desc := "(Ljava/lang/Object;)Z" } : Jvm.MethodName)).before a0 Z = true := hw _ (List.mem_of_getElem? (i := 27) rfl)
theorem pd__Ljava_lang_Object__Z : parseMethodDescriptor "(Ljava/lang/Object;)Z" = some ⟨[(.object "java/lang/Object")], some .boolean⟩ := by decide +kernel
theorem w31 {Z : State} {a0 : Array Value} (hw : ∀ d ∈ tables_1, d.before a0 Z = true) : (Jvm.Cond.code ({ cls := "java/lang/String", name := "equals", desc := "(Ljava/lang/Object;)Z" } : Jvm.MethodName) jdk_42_method_66_code (3 : Nat) (Option.some Jvm.ClassFile.FieldType.boolean)).before a0 Z = true := hw _ (List.mem_of_getElem? (i := 31) rfl)
theorem w30 {Z : State} {a0 : Array Value} (hw : ∀ d ∈ tables_1, d.before a0 Z = true) : (Jvm.Cond.selects "java/lang/String" ({ cls := "java/lang/String", name := "equals", desc := "(Ljava/lang/Object;)Z" } : Jvm.MethodName) ({ cls := "java/lang/String", name := "equals", desc := "(Ljava/lang/Object;)Z" } : Jvm.MethodName)).before a0 Z = true := hw _ (List.mem_of_getElem? (i := 30) rfl)
theorem w28 {Z : State} {a0 : Array Value} (hw : ∀ d ∈ tables_1, d.before a0 Z = true) : (Jvm.Cond.declares ({ cls := "java/lang/String", name := "equals", desc := "(Ljava/lang/Object;)Z" } : Jvm.MethodName)).before a0 Z = true := hw _ (List.mem_of_getElem? (i := 28) rfl)
theorem w29 {Z : State} {a0 : Array Value} (hw : ∀ d ∈ tables_1, d.before a0 Z = true) : (Jvm.Cond.instanceMethod ({ cls := "java/lang/String", name := "equals", desc := "(Ljava/lang/Object;)Z" } : Jvm.MethodName)).before a0 Z = true := hw _ (List.mem_of_getElem? (i := 29) rfl)
theorem w32 {Z : State} {a0 : Array Value} (hw : ∀ d ∈ tables_1, d.before a0 Z = true) : (Jvm.Cond.methodLink "com/example/proctor/proctor/server/RoleLabelPinLaw" (46 : Nat) ({ cls := "com/example/proctor/proctor/server/Holder$Role", name := "claim", desc := "()Ljava/lang/String;" } : Jvm.MethodName)).before a0 Z = true := hw _ (List.mem_of_getElem? (i := 32) rfl)
theorem w36 {Z : State} {a0 : Array Value} (hw : ∀ d ∈ tables_1, d.before a0 Z = true) : (Jvm.Cond.code ({ cls := "com/example/proctor/proctor/server/Holder$Role", name := "claim", desc := "()Ljava/lang/String;" } : Jvm.MethodName) prog_52_method_4_code (1 : Nat) (Option.some (Jvm.ClassFile.FieldType.object "java/lang/String"))).before a0 Z = true := hw _ (List.mem_of_getElem? (i := 36) rfl)
theorem w35 {Z : State} {a0 : Array Value} (hw : ∀ d ∈ tables_1, d.before a0 Z = true) : (Jvm.Cond.selects "com/example/proctor/proctor/server/Holder$Role" ({ cls := "com/example/proctor/proctor/server/Holder$Role", name := "claim", desc := "()Ljava/lang/String;" } : Jvm.MethodName) ({ cls := "com/example/proctor/proctor/server/Holder$Role", name := "claim", desc := "()Ljava/lang/String;" } : Jvm.MethodName)).before a0 Z = true := hw _ (List.mem_of_getElem? (i := 35) rfl)
theorem w33 {Z : State} {a0 : Array Value} (hw : ∀ d ∈ tables_1, d.before a0 Z = true) : (Jvm.Cond.declares ({ cls := "com/example/proctor/proctor/server/Holder$Role", name := "claim", desc := "()Ljava/lang/String;" } : Jvm.MethodName)).before a0 Z = true := hw _ (List.mem_of_getElem? (i := 33) rfl)
theorem w34 {Z : State} {a0 : Array Value} (hw : ∀ d ∈ tables_1, d.before a0 Z = true) : (Jvm.Cond.instanceMethod ({ cls := "com/example/proctor/proctor/server/Holder$Role", name := "claim", desc := "()Ljava/lang/String;" } : Jvm.MethodName)).before a0 Z = true := hw _ (List.mem_of_getElem? (i := 34) rfl)
section Ex
variable {args : Array Value} {s : State}
theorem x_eqI {t : Term} {k : Int32} (h : (Jvm.Cond.eq t (Jvm.Term.int k)).value args s none s [] = some true) : t.eval args s none [] s = some (.int k) := by
  obtain ⟨x, y, e1, e2, k1, k2⟩ := cmp_v (Or.inl h)
  obtain rfl : y = .int k := (Option.some.inj e2).symm
  obtain ⟨z, rfl⟩ : ∃ z, x = .int z := k2
  have q : (Jvm.Cond.eq t (Jvm.Term.int k)).value args s none s [] = some (decide (z = k)) := by simp [Cond.value, e1, e2]
  have := gotT q h
  rw [e1, this]
theorem x_neI {t : Term} {k z : Int32} (e1 : t.eval args s none [] s = some (.int z)) (h : (Jvm.Cond.not (Jvm.Cond.eq t (Jvm.Term.int k))).value args s none s [] = some true) : ¬ z = k := by
  have h2 := not_v h
  have q : (Jvm.Cond.eq t (Jvm.Term.int k)).value args s none s [] = some (decide (z = k)) := by simp [Cond.value, e1, Term.eval]
  exact gotF q h2
theorem x_fld {t : Term} {C f d : String} {x : Addr} {w : Value} (ht : t.eval args s none [] s = some (.ref x)) (he : (Jvm.Term.field t C f d).eval args s none [] s = some w) : Fld s s.heap x C f d w := Fld.start (by rw [← fld_at ht]; exact he)
theorem x_len {t : Term} {r : Addr} {cl : Cell} {ty : FieldType} {k : Int32} (ht : t.eval args s none [] s = some (.ref r)) (A : Arr s s.heap r cl ty) (h : (Jvm.Term.length t).eval args s none [] s = some (.int k)) : cl.slots.size < 2 ^ 31 ∧ cl.slots.size.toInt32 = k := by
  have ha : s.arrayAt? r = some cl := A.fin (Vm.Alike.refl _)
  by_cases hs : cl.slots.size < 2 ^ 31
  · rw [len_f ht ha hs] at h
    exact ⟨hs, by injection h with h; injection h⟩
  · have hs' : ¬ cl.slots.size < 2147483648 := hs
    simp [Term.eval, ht, ha, hs'] at h
theorem x_el {t : Term} {r : Addr} {cl : Cell} {ty : FieldType} {j k : Int32} {i : Nat} (ht : t.eval args s none [] s = some (.ref r)) (A : Arr s s.heap r cl ty) (h : (Jvm.Term.elem t (Jvm.Term.int j)).eval args s none [] s = some (.int k)) (hj : j.toNatClampNeg = i) : cl.slots[i]? = some (.int k) := by
  have := (elem_in h ht rfl A.1).2
  rw [hj] at this
  exact this
theorem x_aa {r : Addr} {cl : Cell} {ty : FieldType} {k : Int32} {vs : List Value} (hf : Fit s) (A : Arr s s.heap r cl ty) (q : cl.slots.size < 2 ^ 31 ∧ cl.slots.size.toInt32 = k) (hz : ¬ k < 0) (hl : k.toNatClampNeg = vs.length) (hk : k.toInt = (vs.length : Int)) (H : HasL cl 0 vs) : AA s s.heap r ty vs :=
  aa_of_arv (Arv.start (dv := .null) hf A q.1 q.2 hz hl H) hk
end Ex
def csts : List (String × Nat × String) := [("com/example/proctor/proctor/server/Holder$Role", 36, "application"), ("com/example/proctor/proctor/server/RoleLabelPinLaw", 19, "application"), ("com/example/proctor/proctor/server/RoleLabelPinLaw", 23, "admin"), ("com/example/proctor/proctor/server/RoleLabelPinLaw", 21, "subject")]
theorem tx0 : ("admin" : String).toList.map (fun c => Value.int (Jvm.Lit.byteI c.toNat.toUInt16)) = [.int (97 : Int32), .int (100 : Int32), .int (109 : Int32), .int (105 : Int32), .int (110 : Int32)] := by decide +kernel
theorem tx0l : (∀ ch ∈ ("admin" : String).toList, ch.toNat < 256) := by decide +kernel
theorem tx0n : 4 * ("admin" : String).toList.length ≤ 20 := by decide +kernel
theorem tx1 : ("application" : String).toList.map (fun c => Value.int (Jvm.Lit.byteI c.toNat.toUInt16)) = [.int (97 : Int32), .int (112 : Int32), .int (112 : Int32), .int (108 : Int32), .int (105 : Int32), .int (99 : Int32), .int (97 : Int32), .int (116 : Int32), .int (105 : Int32), .int (111 : Int32), .int (110 : Int32)] := by decide +kernel
theorem tx1l : (∀ ch ∈ ("application" : String).toList, ch.toNat < 256) := by decide +kernel
theorem tx1n : 4 * ("application" : String).toList.length ≤ 44 := by decide +kernel
theorem tx2 : ("subject" : String).toList.map (fun c => Value.int (Jvm.Lit.byteI c.toNat.toUInt16)) = [.int (115 : Int32), .int (117 : Int32), .int (98 : Int32), .int (106 : Int32), .int (101 : Int32), .int (99 : Int32), .int (116 : Int32)] := by decide +kernel
theorem tx2l : (∀ ch ∈ ("subject" : String).toList, ch.toNat < 256) := by decide +kernel
theorem tx2n : 4 * ("subject" : String).toList.length ≤ 28 := by decide +kernel
theorem satoms {Z : State} {a0 : Array Value} (hw : ∀ d ∈ tables_1, d.before a0 Z = true) : ∀ a ∈ Bundle.stringAtoms, a.before a0 Z = true := fun d hd => by
  simp only [Bundle.stringAtoms, List.mem_cons, List.not_mem_nil, or_false] at hd
  rcases hd with rfl | rfl | rfl | rfl | rfl | rfl | rfl
  · exact (w16 hw)
  · exact (w17 hw)
  · exact (w18 hw)
  · exact (w19 hw)
  · exact (w20 hw)
  · exact (w21 hw)
  · exact (w22 hw)
theorem lkstart {Z : State} {a0 : Array Value} (hw : ∀ d ∈ tables_1, d.before a0 Z = true) (hc : ∀ q ∈ consts_1, Jvm.Lit.constHeld Z q.1 q.2) (hcw : Jvm.Lit.compactW.before a0 Z = true) : LK Z csts Z.vm Z.heap [] :=
  LK.start (fun x hx => by
    simp only [csts, List.mem_cons, List.not_mem_nil, or_false] at hx
    rcases hx with rfl | rfl | rfl | rfl
    · exact ⟨hc _ (List.mem_of_getElem? (i := 0) rfl), (w15 hw), tx1l⟩
    · exact ⟨hc _ (List.mem_of_getElem? (i := 1) rfl), (w26 hw), tx1l⟩
    · exact ⟨hc _ (List.mem_of_getElem? (i := 3) rfl), (w41 hw), tx0l⟩
    · exact ⟨hc _ (List.mem_of_getElem? (i := 2) rfl), (w51 hw), tx2l⟩) hcw (w18 hw) (w17 hw)
set_option maxRecDepth 65536 in
set_option maxHeartbeats 40000000 in
theorem pick0 (l : Launch) (Z : State) (a0 : Array Value) (hw : ∀ d ∈ tables_1, d.before a0 Z = true) (n0 : Nat) (h0 : Heap) (Z0 : n0 ≤ h0.size) (x : Addr) (S : Sta Z h0 "com/example/proctor/proctor/server/Holder$Role" "APPLICATION" "Lcom/example/proctor/proctor/server/Holder$Role;" (.ref x)) :
    Met l Z n0 y0_pick method_2_code 1 (Option.some (Jvm.ClassFile.FieldType.object "com/example/proctor/proctor/server/Holder$Role")) ({ frames := 0, cells := 0, slots := 0, locals := 0 } : Room) #[(.int (0 : Int32))] h0 (fun v h => v = some (.ref x) ∧ h = h0) := by
  refine met_intro (own := c0_RoleLabelPinLaw) (plainFor_of_name pn_com_example_proctor_proctor_server_RoleLabelPinLaw) rfl Z0 ?_
  intro p e s m below meth c T A hnm
  refine Wp.cast (g' := mkF m 0 #[iv 0] []) (by first | (simp [entryFrame, mkF, argsToLocals, Value.category, maxLocals, jv, S2, U0, iv, rv]; done) | rfl) ?_
  refine s_iloadN (pc' := 1) A d1_0 rfl rfl ?_
  refine s_ifN (pc' := 4) A d1_1 rfl (by decide) ?_
  refine s_getstatic (pc' := 7) (host := "") A (Or.inl (w5 hw)) Via.refl S d1_4 rfl fun T A => ?_
  exact r_ref A rfl rfl rfl d1_7 (by decide) (by decide) (⟨rfl, rfl⟩)
set_option maxRecDepth 65536 in
set_option maxHeartbeats 40000000 in
theorem exp0 (l : Launch) (Z : State) (a0 : Array Value) (hw : ∀ d ∈ tables_1, d.before a0 Z = true) (n0 : Nat) (h0 : Heap) (Z0 : n0 ≤ h0.size)   :
    MetS l Z n0 y1_expected method_3_code 1 (Option.some (Jvm.ClassFile.FieldType.object "java/lang/String")) ({ frames := 0, cells := 2, slots := 48, locals := 0 } : Room) #[(.int (0 : Int32))] h0 csts [] (fun v h vm => ∃ a b, v = some (.ref a) ∧ Ext h0 h ∧ Exa Z h a "java/lang/String" ∧ Fld Z h a "java/lang/String" "coder" "B" (.int 0) ∧ Fld Z h a "java/lang/String" "value" "[B" (.ref b) ∧ AA Z h b .byte [.int (97 : Int32), .int (112 : Int32), .int (112 : Int32), .int (108 : Int32), .int (105 : Int32), .int (99 : Int32), .int (97 : Int32), .int (116 : Int32), .int (105 : Int32), .int (111 : Int32), .int (110 : Int32)] ∧ LK Z csts vm h []) := by
  refine metS_intro (own := c0_RoleLabelPinLaw) (plainFor_of_name pn_com_example_proctor_proctor_server_RoleLabelPinLaw) rfl Z0 ?_
  intro p e s m below meth c T A B H hnm
  refine Wp.cast (g' := mkF m 0 #[iv 0] []) (by first | (simp [entryFrame, mkF, argsToLocals, Value.category, maxLocals, jv, S2, U0, iv, rv]; done) | rfl) ?_
  refine s_iloadN (pc' := 1) A d3_0 rfl rfl ?_
  refine s_ifN (pc' := 4) A d3_1 rfl (by decide) ?_
  refine s_ldcS (pc' := 6) (i := 19) (nn := 44) A B H (List.mem_of_getElem? (i := 1) rfl) (satoms hw) tx1 tx1n (by decide) (by decide) (by decide) d3_4 rfl fun s1 T h2 a3 b4 A B H X5 E6 F7 F8 V9 na10 nb11 => ?_
  exact rS_ref A B rfl rfl rfl d3_6 (by decide) (by decide) (fun vm hv => ⟨a3, b4, rfl, X5, E6, F7, F8, V9, H.warm hv⟩)
set_option maxRecDepth 65536 in
set_option maxHeartbeats 40000000 in
theorem pick1 (l : Launch) (Z : State) (a0 : Array Value) (hw : ∀ d ∈ tables_1, d.before a0 Z = true) (n0 : Nat) (h0 : Heap) (Z0 : n0 ≤ h0.size) (x : Addr) (S : Sta Z h0 "com/example/proctor/proctor/server/Holder$Role" "SUBJECT" "Lcom/example/proctor/proctor/server/Holder$Role;" (.ref x)) :
    Met l Z n0 y0_pick method_2_code 1 (Option.some (Jvm.ClassFile.FieldType.object "com/example/proctor/proctor/server/Holder$Role")) ({ frames := 0, cells := 0, slots := 0, locals := 0 } : Room) #[(.int (1 : Int32))] h0 (fun v h => v = some (.ref x) ∧ h = h0) := by
  refine met_intro (own := c0_RoleLabelPinLaw) (plainFor_of_name pn_com_example_proctor_proctor_server_RoleLabelPinLaw) rfl Z0 ?_
  intro p e s m below meth c T A hnm
  refine Wp.cast (g' := mkF m 0 #[iv 1] []) (by first | (simp [entryFrame, mkF, argsToLocals, Value.category, maxLocals, jv, S2, U0, iv, rv]; done) | rfl) ?_
  refine s_iloadN (pc' := 1) A d1_0 rfl rfl ?_
  refine s_ifY (pc' := 8) A d1_1 (by decide) (by decide) (by decide) ?_
  refine s_iloadN (pc' := 9) A d1_8 rfl rfl ?_
  refine s_iconst (pc' := 10) (z := (1 : Int32)) A d1_9 rfl (by decide) ?_
  refine s_icmpN (pc' := 13) A d1_10 rfl (by decide) ?_
  refine s_getstatic (pc' := 16) (host := "") A (Or.inl (w39 hw)) Via.refl S d1_13 rfl fun T A => ?_
  exact r_ref A rfl rfl rfl d1_16 (by decide) (by decide) (⟨rfl, rfl⟩)
set_option maxRecDepth 65536 in
set_option maxHeartbeats 40000000 in
theorem exp1 (l : Launch) (Z : State) (a0 : Array Value) (hw : ∀ d ∈ tables_1, d.before a0 Z = true) (n0 : Nat) (h0 : Heap) (Z0 : n0 ≤ h0.size)   :
    MetS l Z n0 y1_expected method_3_code 1 (Option.some (Jvm.ClassFile.FieldType.object "java/lang/String")) ({ frames := 0, cells := 2, slots := 32, locals := 0 } : Room) #[(.int (1 : Int32))] h0 csts [] (fun v h vm => ∃ a b, v = some (.ref a) ∧ Ext h0 h ∧ Exa Z h a "java/lang/String" ∧ Fld Z h a "java/lang/String" "coder" "B" (.int 0) ∧ Fld Z h a "java/lang/String" "value" "[B" (.ref b) ∧ AA Z h b .byte [.int (115 : Int32), .int (117 : Int32), .int (98 : Int32), .int (106 : Int32), .int (101 : Int32), .int (99 : Int32), .int (116 : Int32)] ∧ LK Z csts vm h []) := by
  refine metS_intro (own := c0_RoleLabelPinLaw) (plainFor_of_name pn_com_example_proctor_proctor_server_RoleLabelPinLaw) rfl Z0 ?_
  intro p e s m below meth c T A B H hnm
  refine Wp.cast (g' := mkF m 0 #[iv 1] []) (by first | (simp [entryFrame, mkF, argsToLocals, Value.category, maxLocals, jv, S2, U0, iv, rv]; done) | rfl) ?_
  refine s_iloadN (pc' := 1) A d3_0 rfl rfl ?_
  refine s_ifY (pc' := 7) A d3_1 (by decide) (by decide) (by decide) ?_
  refine s_iloadN (pc' := 8) A d3_7 rfl rfl ?_
  refine s_iconst (pc' := 9) (z := (1 : Int32)) A d3_8 rfl (by decide) ?_
  refine s_icmpN (pc' := 12) A d3_9 rfl (by decide) ?_
  refine s_ldcS (pc' := 14) (i := 21) (nn := 28) A B H (List.mem_of_getElem? (i := 3) rfl) (satoms hw) tx2 tx2n (by decide) (by decide) (by decide) d3_12 rfl fun s1 T h2 a3 b4 A B H X5 E6 F7 F8 V9 na10 nb11 => ?_
  exact rS_ref A B rfl rfl rfl d3_14 (by decide) (by decide) (fun vm hv => ⟨a3, b4, rfl, X5, E6, F7, F8, V9, H.warm hv⟩)
set_option maxRecDepth 65536 in
set_option maxHeartbeats 40000000 in
theorem pick2 (l : Launch) (Z : State) (a0 : Array Value) (hw : ∀ d ∈ tables_1, d.before a0 Z = true) (n0 : Nat) (h0 : Heap) (Z0 : n0 ≤ h0.size) (x : Addr) (S : Sta Z h0 "com/example/proctor/proctor/server/Holder$Role" "ADMINISTRATOR" "Lcom/example/proctor/proctor/server/Holder$Role;" (.ref x)) :
    Met l Z n0 y0_pick method_2_code 1 (Option.some (Jvm.ClassFile.FieldType.object "com/example/proctor/proctor/server/Holder$Role")) ({ frames := 0, cells := 0, slots := 0, locals := 0 } : Room) #[(.int (2 : Int32))] h0 (fun v h => v = some (.ref x) ∧ h = h0) := by
  refine met_intro (own := c0_RoleLabelPinLaw) (plainFor_of_name pn_com_example_proctor_proctor_server_RoleLabelPinLaw) rfl Z0 ?_
  intro p e s m below meth c T A hnm
  refine Wp.cast (g' := mkF m 0 #[iv 2] []) (by first | (simp [entryFrame, mkF, argsToLocals, Value.category, maxLocals, jv, S2, U0, iv, rv]; done) | rfl) ?_
  refine s_iloadN (pc' := 1) A d1_0 rfl rfl ?_
  refine s_ifY (pc' := 8) A d1_1 (by decide) (by decide) (by decide) ?_
  refine s_iloadN (pc' := 9) A d1_8 rfl rfl ?_
  refine s_iconst (pc' := 10) (z := (1 : Int32)) A d1_9 rfl (by decide) ?_
  refine s_icmpY (pc' := 17) A d1_10 (by decide) (by decide) (by decide) ?_
  refine s_getstatic (pc' := 20) (host := "") A (Or.inl (w37 hw)) Via.refl S d1_17 rfl fun T A => ?_
  exact r_ref A rfl rfl rfl d1_20 (by decide) (by decide) (⟨rfl, rfl⟩)
set_option maxRecDepth 65536 in
set_option maxHeartbeats 40000000 in
theorem exp2 (l : Launch) (Z : State) (a0 : Array Value) (hw : ∀ d ∈ tables_1, d.before a0 Z = true) (n0 : Nat) (h0 : Heap) (Z0 : n0 ≤ h0.size)   :
    MetS l Z n0 y1_expected method_3_code 1 (Option.some (Jvm.ClassFile.FieldType.object "java/lang/String")) ({ frames := 0, cells := 2, slots := 24, locals := 0 } : Room) #[(.int (2 : Int32))] h0 csts [] (fun v h vm => ∃ a b, v = some (.ref a) ∧ Ext h0 h ∧ Exa Z h a "java/lang/String" ∧ Fld Z h a "java/lang/String" "coder" "B" (.int 0) ∧ Fld Z h a "java/lang/String" "value" "[B" (.ref b) ∧ AA Z h b .byte [.int (97 : Int32), .int (100 : Int32), .int (109 : Int32), .int (105 : Int32), .int (110 : Int32)] ∧ LK Z csts vm h []) := by
  refine metS_intro (own := c0_RoleLabelPinLaw) (plainFor_of_name pn_com_example_proctor_proctor_server_RoleLabelPinLaw) rfl Z0 ?_
  intro p e s m below meth c T A B H hnm
  refine Wp.cast (g' := mkF m 0 #[iv 2] []) (by first | (simp [entryFrame, mkF, argsToLocals, Value.category, maxLocals, jv, S2, U0, iv, rv]; done) | rfl) ?_
  refine s_iloadN (pc' := 1) A d3_0 rfl rfl ?_
  refine s_ifY (pc' := 7) A d3_1 (by decide) (by decide) (by decide) ?_
  refine s_iloadN (pc' := 8) A d3_7 rfl rfl ?_
  refine s_iconst (pc' := 9) (z := (1 : Int32)) A d3_8 rfl (by decide) ?_
  refine s_icmpY (pc' := 15) A d3_9 (by decide) (by decide) (by decide) ?_
  refine s_ldcS (pc' := 17) (i := 23) (nn := 20) A B H (List.mem_of_getElem? (i := 2) rfl) (satoms hw) tx0 tx0n (by decide) (by decide) (by decide) d3_15 rfl fun s1 T h2 a3 b4 A B H X5 E6 F7 F8 V9 na10 nb11 => ?_
  exact rS_ref A B rfl rfl rfl d3_17 (by decide) (by decide) (fun vm hv => ⟨a3, b4, rfl, X5, E6, F7, F8, V9, H.warm hv⟩)
set_option maxRecDepth 65536 in
set_option maxHeartbeats 40000000 in
theorem label0 (l : Launch) (Z : State) (a0 : Array Value) (hw : ∀ d ∈ tables_1, d.before a0 Z = true) (n0 : Nat) (h0 : Heap) (Z0 : n0 ≤ h0.size) (x : Addr) (F : Fld Z h0 x "com/example/proctor/proctor/server/Holder$Role" "claim" "Ljava/lang/String;" .null) :
    MetS l Z n0 y2_label prog_52_method_5_code 1 (Option.some (Jvm.ClassFile.FieldType.object "java/lang/String")) ({ frames := 0, cells := 2, slots := 48, locals := 0 } : Room) #[(.ref x)] h0 csts [] (fun v h vm => ∃ a b, v = some (.ref a) ∧ Ext h0 h ∧ Exa Z h a "java/lang/String" ∧ Fld Z h a "java/lang/String" "coder" "B" (.int 0) ∧ Fld Z h a "java/lang/String" "value" "[B" (.ref b) ∧ AA Z h b .byte [.int (97 : Int32), .int (112 : Int32), .int (112 : Int32), .int (108 : Int32), .int (105 : Int32), .int (99 : Int32), .int (97 : Int32), .int (116 : Int32), .int (105 : Int32), .int (111 : Int32), .int (110 : Int32)] ∧ LK Z csts vm h []) := by
  refine metS_intro (own := c1_Holder_Role) (plainFor_of_name pn_com_example_proctor_proctor_server_Holder_Role) rfl Z0 ?_
  intro p e s m below meth c T A B H hnm
  refine Wp.cast (g' := mkF m 0 #[rv x] []) (by first | (simp [entryFrame, mkF, argsToLocals, Value.category, maxLocals, jv, S2, U0, iv, rv]; done) | rfl) ?_
  refine s_aloadN (pc' := 1) A d2_0 rfl rfl rfl ?_
  refine s_getfield (pc' := 4) (host := "") A (Or.inl (w13 hw)) Via.refl F d2_1 rfl fun T A => ?_
  refine s_ifnonnullN (pc' := 7) A d2_4 rfl ?_
  refine s_ldcS (pc' := 9) (i := 36) (nn := 44) A B H (List.mem_of_getElem? (i := 0) rfl) (satoms hw) tx1 tx1n (by decide) (by decide) (by decide) d2_7 rfl fun s1 T h2 a3 b4 A B H X5 E6 F7 F8 V9 na10 nb11 => ?_
  refine s_goto (pc' := 16) A d2_9 (by decide) (by decide) ?_
  exact rS_ref A B rfl rfl rfl d2_16 (by decide) (by decide) (fun vm hv => ⟨a3, b4, rfl, X5, E6, F7, F8, V9, H.warm hv⟩)
set_option maxRecDepth 65536 in
set_option maxHeartbeats 40000000 in
theorem label1 (l : Launch) (Z : State) (a0 : Array Value) (hw : ∀ d ∈ tables_1, d.before a0 Z = true) (n0 : Nat) (h0 : Heap) (Z0 : n0 ≤ h0.size) (x y : Addr) (F : Fld Z h0 x "com/example/proctor/proctor/server/Holder$Role" "claim" "Ljava/lang/String;" (.ref y)) :
    Met l Z n0 y2_label prog_52_method_5_code 1 (Option.some (Jvm.ClassFile.FieldType.object "java/lang/String")) ({ frames := 0, cells := 0, slots := 0, locals := 0 } : Room) #[(.ref x)] h0 (fun v h => v = some (.ref y) ∧ h = h0) := by
  refine met_intro (own := c1_Holder_Role) (plainFor_of_name pn_com_example_proctor_proctor_server_Holder_Role) rfl Z0 ?_
  intro p e s m below meth c T A hnm
  refine Wp.cast (g' := mkF m 0 #[rv x] []) (by first | (simp [entryFrame, mkF, argsToLocals, Value.category, maxLocals, jv, S2, U0, iv, rv]; done) | rfl) ?_
  refine s_aloadN (pc' := 1) A d2_0 rfl rfl rfl ?_
  refine s_getfield (pc' := 4) (host := "") A (Or.inl (w13 hw)) Via.refl F d2_1 rfl fun T A => ?_
  refine s_ifnonnullY (pc' := 12) A d2_4 (by decide) (by decide) ?_
  refine s_aloadN (pc' := 13) A d2_12 rfl rfl rfl ?_
  refine s_getfield (pc' := 16) (host := "") A (Or.inl (w13 hw)) Via.refl F d2_13 rfl fun T A => ?_
  exact r_ref A rfl rfl rfl d2_16 (by decide) (by decide) (⟨rfl, rfl⟩)
set_option maxRecDepth 65536 in
set_option maxHeartbeats 40000000 in
theorem claim0 (l : Launch) (Z : State) (a0 : Array Value) (hw : ∀ d ∈ tables_1, d.before a0 Z = true) (n0 : Nat) (h0 : Heap) (Z0 : n0 ≤ h0.size) (x y : Addr) (F : Fld Z h0 x "com/example/proctor/proctor/server/Holder$Role" "claim" "Ljava/lang/String;" .null) :
    Met l Z n0 y3_claim prog_52_method_4_code 1 (Option.some (Jvm.ClassFile.FieldType.object "java/lang/String")) ({ frames := 0, cells := 0, slots := 0, locals := 0 } : Room) #[(.ref x)] h0 (fun v h => v = some .null ∧ h = h0) := by
  refine met_intro (own := c1_Holder_Role) (plainFor_of_name pn_com_example_proctor_proctor_server_Holder_Role) rfl Z0 ?_
  intro p e s m below meth c T A hnm
  refine Wp.cast (g' := mkF m 0 #[rv x] []) (by first | (simp [entryFrame, mkF, argsToLocals, Value.category, maxLocals, jv, S2, U0, iv, rv]; done) | rfl) ?_
  refine s_aloadN (pc' := 1) A d5_0 rfl rfl rfl ?_
  refine s_getfield (pc' := 4) (host := "") A (Or.inl (w13 hw)) Via.refl F d5_1 rfl fun T A => ?_
  exact r_ref A rfl rfl rfl d5_4 (by decide) (by decide) (⟨rfl, rfl⟩)
set_option maxRecDepth 65536 in
set_option maxHeartbeats 40000000 in
theorem claim1 (l : Launch) (Z : State) (a0 : Array Value) (hw : ∀ d ∈ tables_1, d.before a0 Z = true) (n0 : Nat) (h0 : Heap) (Z0 : n0 ≤ h0.size) (x y : Addr) (F : Fld Z h0 x "com/example/proctor/proctor/server/Holder$Role" "claim" "Ljava/lang/String;" (.ref y)) :
    Met l Z n0 y3_claim prog_52_method_4_code 1 (Option.some (Jvm.ClassFile.FieldType.object "java/lang/String")) ({ frames := 0, cells := 0, slots := 0, locals := 0 } : Room) #[(.ref x)] h0 (fun v h => v = some (.ref y) ∧ h = h0) := by
  refine met_intro (own := c1_Holder_Role) (plainFor_of_name pn_com_example_proctor_proctor_server_Holder_Role) rfl Z0 ?_
  intro p e s m below meth c T A hnm
  refine Wp.cast (g' := mkF m 0 #[rv x] []) (by first | (simp [entryFrame, mkF, argsToLocals, Value.category, maxLocals, jv, S2, U0, iv, rv]; done) | rfl) ?_
  refine s_aloadN (pc' := 1) A d5_0 rfl rfl rfl ?_
  refine s_getfield (pc' := 4) (host := "") A (Or.inl (w13 hw)) Via.refl F d5_1 rfl fun T A => ?_
  exact r_ref A rfl rfl rfl d5_4 (by decide) (by decide) (⟨rfl, rfl⟩)
set_option maxRecDepth 65536 in
set_option maxHeartbeats 40000000 in
theorem l1_00 (l : Launch) (Z : State) (a0 : Array Value) (hw : ∀ d ∈ tables_1, d.before a0 Z = true) (n0 : Nat) (h0 : Heap) (Z0 : n0 ≤ h0.size) (r r' : Addr) (V : AA Z h0 r .byte [.int (97 : Int32), .int (112 : Int32), .int (112 : Int32), .int (108 : Int32), .int (105 : Int32), .int (99 : Int32), .int (97 : Int32), .int (116 : Int32), .int (105 : Int32), .int (111 : Int32), .int (110 : Int32)]) (V' : AA Z h0 r' .byte [.int (97 : Int32), .int (112 : Int32), .int (112 : Int32), .int (108 : Int32), .int (105 : Int32), .int (99 : Int32), .int (97 : Int32), .int (116 : Int32), .int (105 : Int32), .int (111 : Int32), .int (110 : Int32)]) :
    Met l Z n0 y4_equals jdk_43_method_13_code 3 (Option.some Jvm.ClassFile.FieldType.boolean) ({ frames := 0, cells := 0, slots := 0, locals := 0 } : Room) #[(.ref r), (.ref r')] h0 (fun v h => v = some (.int 1) ∧ h = h0) := by
  refine met_intro (own := c2_StringLatin1) (plainFor_of_name pn_java_lang_StringLatin1) rfl Z0 ?_
  intro p e s m below meth c T A hnm
  refine Wp.cast (g' := mkF m 0 #[rv r, rv r', U0] []) (by first | (simp [entryFrame, mkF, argsToLocals, Value.category, maxLocals, jv, S2, U0, iv, rv]; done) | rfl) ?_
  refine s_aloadN (pc' := 1) A d6_0 rfl rfl rfl ?_
  refine s_arraylength (pc' := 2) (z := (11 : Int32)) A V (by show _ = ((11 : Nat) : Int); decide) d6_1 rfl ?_
  refine s_aloadN (pc' := 3) A d6_2 rfl rfl rfl ?_
  refine s_arraylength (pc' := 4) (z := (11 : Int32)) A V' (by show _ = ((11 : Nat) : Int); decide) d6_3 rfl ?_
  refine s_icmpN (pc' := 7) A d6_4 rfl (by decide) ?_
  refine s_iconst (pc' := 8) (z := (0 : Int32)) A d6_7 rfl (by decide) ?_
  refine s_istoreN (pc' := 9) (Ls' := #[rv r, rv r', iv 0]) A d6_8 rfl rfl ?_
  refine s_iloadN (pc' := 10) A d6_9 rfl rfl ?_
  refine s_aloadN (pc' := 11) A d6_10 rfl rfl rfl ?_
  refine s_arraylength (pc' := 12) (z := (11 : Int32)) A V (by show _ = ((11 : Nat) : Int); decide) d6_11 rfl ?_
  refine s_icmpN (pc' := 15) A d6_12 rfl (by decide) ?_
  refine s_aloadN (pc' := 16) A d6_15 rfl rfl rfl ?_
  refine s_iloadN (pc' := 17) A d6_16 rfl rfl ?_
  refine s_baload (pc' := 18) (i := 0) (v := (.int (97 : Int32))) A V (by decide) rfl d6_17 rfl ?_
  refine s_aloadN (pc' := 19) A d6_18 rfl rfl rfl ?_
  refine s_iloadN (pc' := 20) A d6_19 rfl rfl ?_
  refine s_baload (pc' := 21) (i := 0) (v := (.int (97 : Int32))) A V' (by decide) rfl d6_20 rfl ?_
  refine s_icmpY (pc' := 26) A d6_21 (by decide) (by decide) (by decide) ?_
  refine s_iinc (pc' := 29) (z := (1 : Int32)) (Ls' := #[rv r, rv r', iv 1]) A d6_26 rfl rfl (by decide) rfl ?_
  refine s_goto (pc' := 9) A d6_29 (by decide) (by decide) ?_
  refine s_iloadN (pc' := 10) A d6_9 rfl rfl ?_
  refine s_aloadN (pc' := 11) A d6_10 rfl rfl rfl ?_
  refine s_arraylength (pc' := 12) (z := (11 : Int32)) A V (by show _ = ((11 : Nat) : Int); decide) d6_11 rfl ?_
  refine s_icmpN (pc' := 15) A d6_12 rfl (by decide) ?_
  refine s_aloadN (pc' := 16) A d6_15 rfl rfl rfl ?_
  refine s_iloadN (pc' := 17) A d6_16 rfl rfl ?_
  refine s_baload (pc' := 18) (i := 1) (v := (.int (112 : Int32))) A V (by decide) rfl d6_17 rfl ?_
  refine s_aloadN (pc' := 19) A d6_18 rfl rfl rfl ?_
  refine s_iloadN (pc' := 20) A d6_19 rfl rfl ?_
  refine s_baload (pc' := 21) (i := 1) (v := (.int (112 : Int32))) A V' (by decide) rfl d6_20 rfl ?_
  refine s_icmpY (pc' := 26) A d6_21 (by decide) (by decide) (by decide) ?_
  refine s_iinc (pc' := 29) (z := (2 : Int32)) (Ls' := #[rv r, rv r', iv 2]) A d6_26 rfl rfl (by decide) rfl ?_
  refine s_goto (pc' := 9) A d6_29 (by decide) (by decide) ?_
  refine s_iloadN (pc' := 10) A d6_9 rfl rfl ?_
  refine s_aloadN (pc' := 11) A d6_10 rfl rfl rfl ?_
  refine s_arraylength (pc' := 12) (z := (11 : Int32)) A V (by show _ = ((11 : Nat) : Int); decide) d6_11 rfl ?_
  refine s_icmpN (pc' := 15) A d6_12 rfl (by decide) ?_
  refine s_aloadN (pc' := 16) A d6_15 rfl rfl rfl ?_
  refine s_iloadN (pc' := 17) A d6_16 rfl rfl ?_
  refine s_baload (pc' := 18) (i := 2) (v := (.int (112 : Int32))) A V (by decide) rfl d6_17 rfl ?_
  refine s_aloadN (pc' := 19) A d6_18 rfl rfl rfl ?_
  refine s_iloadN (pc' := 20) A d6_19 rfl rfl ?_
  refine s_baload (pc' := 21) (i := 2) (v := (.int (112 : Int32))) A V' (by decide) rfl d6_20 rfl ?_
  refine s_icmpY (pc' := 26) A d6_21 (by decide) (by decide) (by decide) ?_
  refine s_iinc (pc' := 29) (z := (3 : Int32)) (Ls' := #[rv r, rv r', iv 3]) A d6_26 rfl rfl (by decide) rfl ?_
  refine s_goto (pc' := 9) A d6_29 (by decide) (by decide) ?_
  refine s_iloadN (pc' := 10) A d6_9 rfl rfl ?_
  refine s_aloadN (pc' := 11) A d6_10 rfl rfl rfl ?_
  refine s_arraylength (pc' := 12) (z := (11 : Int32)) A V (by show _ = ((11 : Nat) : Int); decide) d6_11 rfl ?_
  refine s_icmpN (pc' := 15) A d6_12 rfl (by decide) ?_
  refine s_aloadN (pc' := 16) A d6_15 rfl rfl rfl ?_
  refine s_iloadN (pc' := 17) A d6_16 rfl rfl ?_
  refine s_baload (pc' := 18) (i := 3) (v := (.int (108 : Int32))) A V (by decide) rfl d6_17 rfl ?_
  refine s_aloadN (pc' := 19) A d6_18 rfl rfl rfl ?_
  refine s_iloadN (pc' := 20) A d6_19 rfl rfl ?_
  refine s_baload (pc' := 21) (i := 3) (v := (.int (108 : Int32))) A V' (by decide) rfl d6_20 rfl ?_
  refine s_icmpY (pc' := 26) A d6_21 (by decide) (by decide) (by decide) ?_
  refine s_iinc (pc' := 29) (z := (4 : Int32)) (Ls' := #[rv r, rv r', iv 4]) A d6_26 rfl rfl (by decide) rfl ?_
  refine s_goto (pc' := 9) A d6_29 (by decide) (by decide) ?_
  refine s_iloadN (pc' := 10) A d6_9 rfl rfl ?_
  refine s_aloadN (pc' := 11) A d6_10 rfl rfl rfl ?_
  refine s_arraylength (pc' := 12) (z := (11 : Int32)) A V (by show _ = ((11 : Nat) : Int); decide) d6_11 rfl ?_
  refine s_icmpN (pc' := 15) A d6_12 rfl (by decide) ?_
  refine s_aloadN (pc' := 16) A d6_15 rfl rfl rfl ?_
  refine s_iloadN (pc' := 17) A d6_16 rfl rfl ?_
  refine s_baload (pc' := 18) (i := 4) (v := (.int (105 : Int32))) A V (by decide) rfl d6_17 rfl ?_
  refine s_aloadN (pc' := 19) A d6_18 rfl rfl rfl ?_
  refine s_iloadN (pc' := 20) A d6_19 rfl rfl ?_
  refine s_baload (pc' := 21) (i := 4) (v := (.int (105 : Int32))) A V' (by decide) rfl d6_20 rfl ?_
  refine s_icmpY (pc' := 26) A d6_21 (by decide) (by decide) (by decide) ?_
  refine s_iinc (pc' := 29) (z := (5 : Int32)) (Ls' := #[rv r, rv r', iv 5]) A d6_26 rfl rfl (by decide) rfl ?_
  refine s_goto (pc' := 9) A d6_29 (by decide) (by decide) ?_
  refine s_iloadN (pc' := 10) A d6_9 rfl rfl ?_
  refine s_aloadN (pc' := 11) A d6_10 rfl rfl rfl ?_
  refine s_arraylength (pc' := 12) (z := (11 : Int32)) A V (by show _ = ((11 : Nat) : Int); decide) d6_11 rfl ?_
  refine s_icmpN (pc' := 15) A d6_12 rfl (by decide) ?_
  refine s_aloadN (pc' := 16) A d6_15 rfl rfl rfl ?_
  refine s_iloadN (pc' := 17) A d6_16 rfl rfl ?_
  refine s_baload (pc' := 18) (i := 5) (v := (.int (99 : Int32))) A V (by decide) rfl d6_17 rfl ?_
  refine s_aloadN (pc' := 19) A d6_18 rfl rfl rfl ?_
  refine s_iloadN (pc' := 20) A d6_19 rfl rfl ?_
  refine s_baload (pc' := 21) (i := 5) (v := (.int (99 : Int32))) A V' (by decide) rfl d6_20 rfl ?_
  refine s_icmpY (pc' := 26) A d6_21 (by decide) (by decide) (by decide) ?_
  refine s_iinc (pc' := 29) (z := (6 : Int32)) (Ls' := #[rv r, rv r', iv 6]) A d6_26 rfl rfl (by decide) rfl ?_
  refine s_goto (pc' := 9) A d6_29 (by decide) (by decide) ?_
  refine s_iloadN (pc' := 10) A d6_9 rfl rfl ?_
  refine s_aloadN (pc' := 11) A d6_10 rfl rfl rfl ?_
  refine s_arraylength (pc' := 12) (z := (11 : Int32)) A V (by show _ = ((11 : Nat) : Int); decide) d6_11 rfl ?_
  refine s_icmpN (pc' := 15) A d6_12 rfl (by decide) ?_
  refine s_aloadN (pc' := 16) A d6_15 rfl rfl rfl ?_
  refine s_iloadN (pc' := 17) A d6_16 rfl rfl ?_
  refine s_baload (pc' := 18) (i := 6) (v := (.int (97 : Int32))) A V (by decide) rfl d6_17 rfl ?_
  refine s_aloadN (pc' := 19) A d6_18 rfl rfl rfl ?_
  refine s_iloadN (pc' := 20) A d6_19 rfl rfl ?_
  refine s_baload (pc' := 21) (i := 6) (v := (.int (97 : Int32))) A V' (by decide) rfl d6_20 rfl ?_
  refine s_icmpY (pc' := 26) A d6_21 (by decide) (by decide) (by decide) ?_
  refine s_iinc (pc' := 29) (z := (7 : Int32)) (Ls' := #[rv r, rv r', iv 7]) A d6_26 rfl rfl (by decide) rfl ?_
  refine s_goto (pc' := 9) A d6_29 (by decide) (by decide) ?_
  refine s_iloadN (pc' := 10) A d6_9 rfl rfl ?_
  refine s_aloadN (pc' := 11) A d6_10 rfl rfl rfl ?_
  refine s_arraylength (pc' := 12) (z := (11 : Int32)) A V (by show _ = ((11 : Nat) : Int); decide) d6_11 rfl ?_
  refine s_icmpN (pc' := 15) A d6_12 rfl (by decide) ?_
  refine s_aloadN (pc' := 16) A d6_15 rfl rfl rfl ?_
  refine s_iloadN (pc' := 17) A d6_16 rfl rfl ?_
  refine s_baload (pc' := 18) (i := 7) (v := (.int (116 : Int32))) A V (by decide) rfl d6_17 rfl ?_
  refine s_aloadN (pc' := 19) A d6_18 rfl rfl rfl ?_
  refine s_iloadN (pc' := 20) A d6_19 rfl rfl ?_
  refine s_baload (pc' := 21) (i := 7) (v := (.int (116 : Int32))) A V' (by decide) rfl d6_20 rfl ?_
  refine s_icmpY (pc' := 26) A d6_21 (by decide) (by decide) (by decide) ?_
  refine s_iinc (pc' := 29) (z := (8 : Int32)) (Ls' := #[rv r, rv r', iv 8]) A d6_26 rfl rfl (by decide) rfl ?_
  refine s_goto (pc' := 9) A d6_29 (by decide) (by decide) ?_
  refine s_iloadN (pc' := 10) A d6_9 rfl rfl ?_
  refine s_aloadN (pc' := 11) A d6_10 rfl rfl rfl ?_
  refine s_arraylength (pc' := 12) (z := (11 : Int32)) A V (by show _ = ((11 : Nat) : Int); decide) d6_11 rfl ?_
  refine s_icmpN (pc' := 15) A d6_12 rfl (by decide) ?_
  refine s_aloadN (pc' := 16) A d6_15 rfl rfl rfl ?_
  refine s_iloadN (pc' := 17) A d6_16 rfl rfl ?_
  refine s_baload (pc' := 18) (i := 8) (v := (.int (105 : Int32))) A V (by decide) rfl d6_17 rfl ?_
  refine s_aloadN (pc' := 19) A d6_18 rfl rfl rfl ?_
  refine s_iloadN (pc' := 20) A d6_19 rfl rfl ?_
  refine s_baload (pc' := 21) (i := 8) (v := (.int (105 : Int32))) A V' (by decide) rfl d6_20 rfl ?_
  refine s_icmpY (pc' := 26) A d6_21 (by decide) (by decide) (by decide) ?_
  refine s_iinc (pc' := 29) (z := (9 : Int32)) (Ls' := #[rv r, rv r', iv 9]) A d6_26 rfl rfl (by decide) rfl ?_
  refine s_goto (pc' := 9) A d6_29 (by decide) (by decide) ?_
  refine s_iloadN (pc' := 10) A d6_9 rfl rfl ?_
  refine s_aloadN (pc' := 11) A d6_10 rfl rfl rfl ?_
  refine s_arraylength (pc' := 12) (z := (11 : Int32)) A V (by show _ = ((11 : Nat) : Int); decide) d6_11 rfl ?_
  refine s_icmpN (pc' := 15) A d6_12 rfl (by decide) ?_
  refine s_aloadN (pc' := 16) A d6_15 rfl rfl rfl ?_
  refine s_iloadN (pc' := 17) A d6_16 rfl rfl ?_
  refine s_baload (pc' := 18) (i := 9) (v := (.int (111 : Int32))) A V (by decide) rfl d6_17 rfl ?_
  refine s_aloadN (pc' := 19) A d6_18 rfl rfl rfl ?_
  refine s_iloadN (pc' := 20) A d6_19 rfl rfl ?_
  refine s_baload (pc' := 21) (i := 9) (v := (.int (111 : Int32))) A V' (by decide) rfl d6_20 rfl ?_
  refine s_icmpY (pc' := 26) A d6_21 (by decide) (by decide) (by decide) ?_
  refine s_iinc (pc' := 29) (z := (10 : Int32)) (Ls' := #[rv r, rv r', iv 10]) A d6_26 rfl rfl (by decide) rfl ?_
  refine s_goto (pc' := 9) A d6_29 (by decide) (by decide) ?_
  refine s_iloadN (pc' := 10) A d6_9 rfl rfl ?_
  refine s_aloadN (pc' := 11) A d6_10 rfl rfl rfl ?_
  refine s_arraylength (pc' := 12) (z := (11 : Int32)) A V (by show _ = ((11 : Nat) : Int); decide) d6_11 rfl ?_
  refine s_icmpN (pc' := 15) A d6_12 rfl (by decide) ?_
  refine s_aloadN (pc' := 16) A d6_15 rfl rfl rfl ?_
  refine s_iloadN (pc' := 17) A d6_16 rfl rfl ?_
  refine s_baload (pc' := 18) (i := 10) (v := (.int (110 : Int32))) A V (by decide) rfl d6_17 rfl ?_
  refine s_aloadN (pc' := 19) A d6_18 rfl rfl rfl ?_
  refine s_iloadN (pc' := 20) A d6_19 rfl rfl ?_
  refine s_baload (pc' := 21) (i := 10) (v := (.int (110 : Int32))) A V' (by decide) rfl d6_20 rfl ?_
  refine s_icmpY (pc' := 26) A d6_21 (by decide) (by decide) (by decide) ?_
  refine s_iinc (pc' := 29) (z := (11 : Int32)) (Ls' := #[rv r, rv r', iv 11]) A d6_26 rfl rfl (by decide) rfl ?_
  refine s_goto (pc' := 9) A d6_29 (by decide) (by decide) ?_
  refine s_iloadN (pc' := 10) A d6_9 rfl rfl ?_
  refine s_aloadN (pc' := 11) A d6_10 rfl rfl rfl ?_
  refine s_arraylength (pc' := 12) (z := (11 : Int32)) A V (by show _ = ((11 : Nat) : Int); decide) d6_11 rfl ?_
  refine s_icmpY (pc' := 32) A d6_12 (by decide) (by decide) (by decide) ?_
  refine s_iconst (pc' := 33) (z := (1 : Int32)) A d6_32 rfl (by decide) ?_
  exact r_bool A rfl (by decide) d6_33 (by decide) (by decide) (⟨rfl, rfl⟩)
set_option maxRecDepth 65536 in
set_option maxHeartbeats 40000000 in
theorem eq_00 (l : Launch) (Z : State) (a0 : Array Value) (hw : ∀ d ∈ tables_1, d.before a0 Z = true) (n0 : Nat) (h0 : Heap) (Z0 : n0 ≤ h0.size) (a a' b b' : Addr) (cz : Int32) (S : Sta Z h0 "java/lang/String" "COMPACT_STRINGS" "Z" (.int cz)) (ncz : ¬ cz = (0 : Int32)) (E : Exa Z h0 a "java/lang/String") (C : Fld Z h0 a "java/lang/String" "coder" "B" (.int 0)) (F : Fld Z h0 a "java/lang/String" "value" "[B" (.ref b)) (V : AA Z h0 b .byte [.int (97 : Int32), .int (112 : Int32), .int (112 : Int32), .int (108 : Int32), .int (105 : Int32), .int (99 : Int32), .int (97 : Int32), .int (116 : Int32), .int (105 : Int32), .int (111 : Int32), .int (110 : Int32)]) (E' : Exa Z h0 a' "java/lang/String") (C' : Fld Z h0 a' "java/lang/String" "coder" "B" (.int 0)) (F' : Fld Z h0 a' "java/lang/String" "value" "[B" (.ref b')) (V' : AA Z h0 b' .byte [.int (97 : Int32), .int (112 : Int32), .int (112 : Int32), .int (108 : Int32), .int (105 : Int32), .int (99 : Int32), .int (97 : Int32), .int (116 : Int32), .int (105 : Int32), .int (111 : Int32), .int (110 : Int32)]) :
    Met l Z n0 y5_equals jdk_42_method_66_code 3 (Option.some Jvm.ClassFile.FieldType.boolean) ({ frames := 1, cells := 0, slots := 0, locals := 14 } : Room) #[(.ref a), (.ref a')] h0 (fun v h => v = some (.int 1) ∧ h = h0) := by
  refine met_intro (own := c3_String) (plainFor_of_name pn_java_lang_String) rfl Z0 ?_
  intro p e s m below meth c T A hnm
  refine Wp.cast (g' := mkF m 0 #[rv a, rv a', U0] []) (by first | (simp [entryFrame, mkF, argsToLocals, Value.category, maxLocals, jv, S2, U0, iv, rv]; done) | rfl) ?_
  refine s_aloadN (pc' := 1) A d4_0 rfl rfl rfl ?_
  refine s_aloadN (pc' := 2) A d4_1 rfl rfl rfl ?_
  by_cases hne : a = a'
  ·
   subst hne
   refine Wp.stk (st' := [(.ref a), (.ref a)]) rfl ?_
   refine s_acmpN (pc' := 5) A d4_2 rfl rfl rfl (by simp [XT.acmp]) ?_
   refine s_iconst (pc' := 6) (z := (1 : Int32)) A d4_5 rfl (by decide) ?_
   exact r_bool A rfl (by decide) d4_6 (by decide) (by decide) (⟨rfl, rfl⟩)
  ·
   refine s_acmpY (pc' := 7) A d4_2 rfl rfl (by simp [XT.acmp, hne]) (by decide) (by decide) ?_
   refine s_aloadN (pc' := 8) A d4_7 rfl rfl rfl ?_
   refine s_instY (pc' := 11) A (w42 hw) (exa_ins E' (w43 hw)) d4_8 rfl fun T A => ?_
   refine s_ifN (pc' := 14) A d4_11 rfl (by decide) ?_
   refine s_aloadN (pc' := 15) A d4_14 rfl rfl rfl ?_
   refine s_castY (pc' := 18) A (w42 hw) (exa_ins E' (w43 hw)) d4_15 rfl fun T A => ?_
   refine s_astoreN (pc' := 19) (Ls' := #[rv a, rv a', rv a']) A d4_18 rfl rfl rfl ?_
   refine s_getstatic (pc' := 22) (host := "") A (Or.inl (w44 hw)) Via.refl S d4_19 rfl fun T A => ?_
   refine s_ifN (pc' := 25) A d4_22 rfl ((if0 _ _).trans (feq ncz).1) ?_
   refine s_aloadN (pc' := 26) A d4_25 rfl rfl rfl ?_
   refine s_getfield (pc' := 29) (host := "") A (Or.inl (w45 hw)) Via.refl C d4_26 rfl fun T A => ?_
   refine s_aloadN (pc' := 30) A d4_29 rfl rfl rfl ?_
   refine s_getfield (pc' := 33) (host := "") A (Or.inl (w45 hw)) Via.refl C' d4_30 rfl fun T A => ?_
   refine s_icmpN (pc' := 36) A d4_33 rfl (by decide) ?_
   refine s_aloadN (pc' := 37) A d4_36 rfl rfl rfl ?_
   refine s_getfield (pc' := 40) (host := "") A (Or.inl (w46 hw)) Via.refl F d4_37 rfl fun T A => ?_
   refine s_aloadN (pc' := 41) A d4_40 rfl rfl rfl ?_
   refine s_getfield (pc' := 44) (host := "") A (Or.inl (w46 hw)) Via.refl F' d4_41 rfl fun T A => ?_
   refine s_static (pc' := 47) (y := y4_equals) (argsL := [(.ref b), (.ref b')]) (rest := []) A (l1_00 l Z a0 hw n0 h0 A.size b b' V V') (w47 hw) (w48 hw) (w49 hw) (w50 hw) (by decide) pd___B_B_Z rfl (W := 0) (by decide) (by decide) (Nat.le_of_eq rfl) (by decide) (by decide) rfl rfl d4_44 rfl fun T h1 v2 A Q3 => ?_
   obtain ⟨rfl, eh⟩ := Q3
   rw [eh] at A
   refine Wp.stk (st' := [(.int (1 : Int32))]) rfl ?_
   refine s_ifN (pc' := 50) A d4_47 rfl (by decide) ?_
   refine s_iconst (pc' := 51) (z := (1 : Int32)) A d4_50 rfl (by decide) ?_
   refine s_goto (pc' := 55) A d4_51 (by decide) (by decide) ?_
   exact r_bool A rfl (by decide) d4_55 (by decide) (by decide) (⟨rfl, rfl⟩)
set_option maxRecDepth 65536 in
set_option maxHeartbeats 40000000 in
theorem l1_01 (l : Launch) (Z : State) (a0 : Array Value) (hw : ∀ d ∈ tables_1, d.before a0 Z = true) (n0 : Nat) (h0 : Heap) (Z0 : n0 ≤ h0.size) (r r' : Addr) (V : AA Z h0 r .byte [.int (97 : Int32), .int (112 : Int32), .int (112 : Int32), .int (108 : Int32), .int (105 : Int32), .int (99 : Int32), .int (97 : Int32), .int (116 : Int32), .int (105 : Int32), .int (111 : Int32), .int (110 : Int32)]) (V' : AA Z h0 r' .byte [.int (115 : Int32), .int (117 : Int32), .int (98 : Int32), .int (106 : Int32), .int (101 : Int32), .int (99 : Int32), .int (116 : Int32)]) :
    Met l Z n0 y4_equals jdk_43_method_13_code 3 (Option.some Jvm.ClassFile.FieldType.boolean) ({ frames := 0, cells := 0, slots := 0, locals := 0 } : Room) #[(.ref r), (.ref r')] h0 (fun v h => v = some (.int 0) ∧ h = h0) := by
  refine met_intro (own := c2_StringLatin1) (plainFor_of_name pn_java_lang_StringLatin1) rfl Z0 ?_
  intro p e s m below meth c T A hnm
  refine Wp.cast (g' := mkF m 0 #[rv r, rv r', U0] []) (by first | (simp [entryFrame, mkF, argsToLocals, Value.category, maxLocals, jv, S2, U0, iv, rv]; done) | rfl) ?_
  refine s_aloadN (pc' := 1) A d6_0 rfl rfl rfl ?_
  refine s_arraylength (pc' := 2) (z := (11 : Int32)) A V (by show _ = ((11 : Nat) : Int); decide) d6_1 rfl ?_
  refine s_aloadN (pc' := 3) A d6_2 rfl rfl rfl ?_
  refine s_arraylength (pc' := 4) (z := (7 : Int32)) A V' (by show _ = ((7 : Nat) : Int); decide) d6_3 rfl ?_
  refine s_icmpY (pc' := 34) A d6_4 (by decide) (by decide) (by decide) ?_
  refine s_iconst (pc' := 35) (z := (0 : Int32)) A d6_34 rfl (by decide) ?_
  exact r_bool A rfl (by decide) d6_35 (by decide) (by decide) (⟨rfl, rfl⟩)
set_option maxRecDepth 65536 in
set_option maxHeartbeats 40000000 in
theorem eq_01 (l : Launch) (Z : State) (a0 : Array Value) (hw : ∀ d ∈ tables_1, d.before a0 Z = true) (n0 : Nat) (h0 : Heap) (Z0 : n0 ≤ h0.size) (a a' b b' : Addr) (cz : Int32) (S : Sta Z h0 "java/lang/String" "COMPACT_STRINGS" "Z" (.int cz)) (ncz : ¬ cz = (0 : Int32)) (E : Exa Z h0 a "java/lang/String") (C : Fld Z h0 a "java/lang/String" "coder" "B" (.int 0)) (F : Fld Z h0 a "java/lang/String" "value" "[B" (.ref b)) (V : AA Z h0 b .byte [.int (97 : Int32), .int (112 : Int32), .int (112 : Int32), .int (108 : Int32), .int (105 : Int32), .int (99 : Int32), .int (97 : Int32), .int (116 : Int32), .int (105 : Int32), .int (111 : Int32), .int (110 : Int32)]) (E' : Exa Z h0 a' "java/lang/String") (C' : Fld Z h0 a' "java/lang/String" "coder" "B" (.int 0)) (F' : Fld Z h0 a' "java/lang/String" "value" "[B" (.ref b')) (V' : AA Z h0 b' .byte [.int (115 : Int32), .int (117 : Int32), .int (98 : Int32), .int (106 : Int32), .int (101 : Int32), .int (99 : Int32), .int (116 : Int32)]) :
    Met l Z n0 y5_equals jdk_42_method_66_code 3 (Option.some Jvm.ClassFile.FieldType.boolean) ({ frames := 1, cells := 0, slots := 0, locals := 14 } : Room) #[(.ref a), (.ref a')] h0 (fun v h => v = some (.int 0) ∧ h = h0) := by
  refine met_intro (own := c3_String) (plainFor_of_name pn_java_lang_String) rfl Z0 ?_
  intro p e s m below meth c T A hnm
  refine Wp.cast (g' := mkF m 0 #[rv a, rv a', U0] []) (by first | (simp [entryFrame, mkF, argsToLocals, Value.category, maxLocals, jv, S2, U0, iv, rv]; done) | rfl) ?_
  refine s_aloadN (pc' := 1) A d4_0 rfl rfl rfl ?_
  refine s_aloadN (pc' := 2) A d4_1 rfl rfl rfl ?_
  have hne : a ≠ a' := str_ne F V F' V' (by decide)
  refine s_acmpY (pc' := 7) A d4_2 rfl rfl (by simp [XT.acmp, hne]) (by decide) (by decide) ?_
  refine s_aloadN (pc' := 8) A d4_7 rfl rfl rfl ?_
  refine s_instY (pc' := 11) A (w42 hw) (exa_ins E' (w43 hw)) d4_8 rfl fun T A => ?_
  refine s_ifN (pc' := 14) A d4_11 rfl (by decide) ?_
  refine s_aloadN (pc' := 15) A d4_14 rfl rfl rfl ?_
  refine s_castY (pc' := 18) A (w42 hw) (exa_ins E' (w43 hw)) d4_15 rfl fun T A => ?_
  refine s_astoreN (pc' := 19) (Ls' := #[rv a, rv a', rv a']) A d4_18 rfl rfl rfl ?_
  refine s_getstatic (pc' := 22) (host := "") A (Or.inl (w44 hw)) Via.refl S d4_19 rfl fun T A => ?_
  refine s_ifN (pc' := 25) A d4_22 rfl ((if0 _ _).trans (feq ncz).1) ?_
  refine s_aloadN (pc' := 26) A d4_25 rfl rfl rfl ?_
  refine s_getfield (pc' := 29) (host := "") A (Or.inl (w45 hw)) Via.refl C d4_26 rfl fun T A => ?_
  refine s_aloadN (pc' := 30) A d4_29 rfl rfl rfl ?_
  refine s_getfield (pc' := 33) (host := "") A (Or.inl (w45 hw)) Via.refl C' d4_30 rfl fun T A => ?_
  refine s_icmpN (pc' := 36) A d4_33 rfl (by decide) ?_
  refine s_aloadN (pc' := 37) A d4_36 rfl rfl rfl ?_
  refine s_getfield (pc' := 40) (host := "") A (Or.inl (w46 hw)) Via.refl F d4_37 rfl fun T A => ?_
  refine s_aloadN (pc' := 41) A d4_40 rfl rfl rfl ?_
  refine s_getfield (pc' := 44) (host := "") A (Or.inl (w46 hw)) Via.refl F' d4_41 rfl fun T A => ?_
  refine s_static (pc' := 47) (y := y4_equals) (argsL := [(.ref b), (.ref b')]) (rest := []) A (l1_01 l Z a0 hw n0 h0 A.size b b' V V') (w47 hw) (w48 hw) (w49 hw) (w50 hw) (by decide) pd___B_B_Z rfl (W := 0) (by decide) (by decide) (Nat.le_of_eq rfl) (by decide) (by decide) rfl rfl d4_44 rfl fun T h1 v2 A Q3 => ?_
  obtain ⟨rfl, eh⟩ := Q3
  rw [eh] at A
  refine Wp.stk (st' := [(.int (0 : Int32))]) rfl ?_
  refine s_ifY (pc' := 54) A d4_47 (by decide) (by decide) (by decide) ?_
  refine s_iconst (pc' := 55) (z := (0 : Int32)) A d4_54 rfl (by decide) ?_
  exact r_bool A rfl (by decide) d4_55 (by decide) (by decide) (⟨rfl, rfl⟩)
set_option maxRecDepth 65536 in
set_option maxHeartbeats 40000000 in
theorem l1_02 (l : Launch) (Z : State) (a0 : Array Value) (hw : ∀ d ∈ tables_1, d.before a0 Z = true) (n0 : Nat) (h0 : Heap) (Z0 : n0 ≤ h0.size) (r r' : Addr) (V : AA Z h0 r .byte [.int (97 : Int32), .int (112 : Int32), .int (112 : Int32), .int (108 : Int32), .int (105 : Int32), .int (99 : Int32), .int (97 : Int32), .int (116 : Int32), .int (105 : Int32), .int (111 : Int32), .int (110 : Int32)]) (V' : AA Z h0 r' .byte [.int (97 : Int32), .int (100 : Int32), .int (109 : Int32), .int (105 : Int32), .int (110 : Int32)]) :
    Met l Z n0 y4_equals jdk_43_method_13_code 3 (Option.some Jvm.ClassFile.FieldType.boolean) ({ frames := 0, cells := 0, slots := 0, locals := 0 } : Room) #[(.ref r), (.ref r')] h0 (fun v h => v = some (.int 0) ∧ h = h0) := by
  refine met_intro (own := c2_StringLatin1) (plainFor_of_name pn_java_lang_StringLatin1) rfl Z0 ?_
  intro p e s m below meth c T A hnm
  refine Wp.cast (g' := mkF m 0 #[rv r, rv r', U0] []) (by first | (simp [entryFrame, mkF, argsToLocals, Value.category, maxLocals, jv, S2, U0, iv, rv]; done) | rfl) ?_
  refine s_aloadN (pc' := 1) A d6_0 rfl rfl rfl ?_
  refine s_arraylength (pc' := 2) (z := (11 : Int32)) A V (by show _ = ((11 : Nat) : Int); decide) d6_1 rfl ?_
  refine s_aloadN (pc' := 3) A d6_2 rfl rfl rfl ?_
  refine s_arraylength (pc' := 4) (z := (5 : Int32)) A V' (by show _ = ((5 : Nat) : Int); decide) d6_3 rfl ?_
  refine s_icmpY (pc' := 34) A d6_4 (by decide) (by decide) (by decide) ?_
  refine s_iconst (pc' := 35) (z := (0 : Int32)) A d6_34 rfl (by decide) ?_
  exact r_bool A rfl (by decide) d6_35 (by decide) (by decide) (⟨rfl, rfl⟩)
set_option maxRecDepth 65536 in
set_option maxHeartbeats 40000000 in
theorem eq_02 (l : Launch) (Z : State) (a0 : Array Value) (hw : ∀ d ∈ tables_1, d.before a0 Z = true) (n0 : Nat) (h0 : Heap) (Z0 : n0 ≤ h0.size) (a a' b b' : Addr) (cz : Int32) (S : Sta Z h0 "java/lang/String" "COMPACT_STRINGS" "Z" (.int cz)) (ncz : ¬ cz = (0 : Int32)) (E : Exa Z h0 a "java/lang/String") (C : Fld Z h0 a "java/lang/String" "coder" "B" (.int 0)) (F : Fld Z h0 a "java/lang/String" "value" "[B" (.ref b)) (V : AA Z h0 b .byte [.int (97 : Int32), .int (112 : Int32), .int (112 : Int32), .int (108 : Int32), .int (105 : Int32), .int (99 : Int32), .int (97 : Int32), .int (116 : Int32), .int (105 : Int32), .int (111 : Int32), .int (110 : Int32)]) (E' : Exa Z h0 a' "java/lang/String") (C' : Fld Z h0 a' "java/lang/String" "coder" "B" (.int 0)) (F' : Fld Z h0 a' "java/lang/String" "value" "[B" (.ref b')) (V' : AA Z h0 b' .byte [.int (97 : Int32), .int (100 : Int32), .int (109 : Int32), .int (105 : Int32), .int (110 : Int32)]) :
    Met l Z n0 y5_equals jdk_42_method_66_code 3 (Option.some Jvm.ClassFile.FieldType.boolean) ({ frames := 1, cells := 0, slots := 0, locals := 14 } : Room) #[(.ref a), (.ref a')] h0 (fun v h => v = some (.int 0) ∧ h = h0) := by
  refine met_intro (own := c3_String) (plainFor_of_name pn_java_lang_String) rfl Z0 ?_
  intro p e s m below meth c T A hnm
  refine Wp.cast (g' := mkF m 0 #[rv a, rv a', U0] []) (by first | (simp [entryFrame, mkF, argsToLocals, Value.category, maxLocals, jv, S2, U0, iv, rv]; done) | rfl) ?_
  refine s_aloadN (pc' := 1) A d4_0 rfl rfl rfl ?_
  refine s_aloadN (pc' := 2) A d4_1 rfl rfl rfl ?_
  have hne : a ≠ a' := str_ne F V F' V' (by decide)
  refine s_acmpY (pc' := 7) A d4_2 rfl rfl (by simp [XT.acmp, hne]) (by decide) (by decide) ?_
  refine s_aloadN (pc' := 8) A d4_7 rfl rfl rfl ?_
  refine s_instY (pc' := 11) A (w42 hw) (exa_ins E' (w43 hw)) d4_8 rfl fun T A => ?_
  refine s_ifN (pc' := 14) A d4_11 rfl (by decide) ?_
  refine s_aloadN (pc' := 15) A d4_14 rfl rfl rfl ?_
  refine s_castY (pc' := 18) A (w42 hw) (exa_ins E' (w43 hw)) d4_15 rfl fun T A => ?_
  refine s_astoreN (pc' := 19) (Ls' := #[rv a, rv a', rv a']) A d4_18 rfl rfl rfl ?_
  refine s_getstatic (pc' := 22) (host := "") A (Or.inl (w44 hw)) Via.refl S d4_19 rfl fun T A => ?_
  refine s_ifN (pc' := 25) A d4_22 rfl ((if0 _ _).trans (feq ncz).1) ?_
  refine s_aloadN (pc' := 26) A d4_25 rfl rfl rfl ?_
  refine s_getfield (pc' := 29) (host := "") A (Or.inl (w45 hw)) Via.refl C d4_26 rfl fun T A => ?_
  refine s_aloadN (pc' := 30) A d4_29 rfl rfl rfl ?_
  refine s_getfield (pc' := 33) (host := "") A (Or.inl (w45 hw)) Via.refl C' d4_30 rfl fun T A => ?_
  refine s_icmpN (pc' := 36) A d4_33 rfl (by decide) ?_
  refine s_aloadN (pc' := 37) A d4_36 rfl rfl rfl ?_
  refine s_getfield (pc' := 40) (host := "") A (Or.inl (w46 hw)) Via.refl F d4_37 rfl fun T A => ?_
  refine s_aloadN (pc' := 41) A d4_40 rfl rfl rfl ?_
  refine s_getfield (pc' := 44) (host := "") A (Or.inl (w46 hw)) Via.refl F' d4_41 rfl fun T A => ?_
  refine s_static (pc' := 47) (y := y4_equals) (argsL := [(.ref b), (.ref b')]) (rest := []) A (l1_02 l Z a0 hw n0 h0 A.size b b' V V') (w47 hw) (w48 hw) (w49 hw) (w50 hw) (by decide) pd___B_B_Z rfl (W := 0) (by decide) (by decide) (Nat.le_of_eq rfl) (by decide) (by decide) rfl rfl d4_44 rfl fun T h1 v2 A Q3 => ?_
  obtain ⟨rfl, eh⟩ := Q3
  rw [eh] at A
  refine Wp.stk (st' := [(.int (0 : Int32))]) rfl ?_
  refine s_ifY (pc' := 54) A d4_47 (by decide) (by decide) (by decide) ?_
  refine s_iconst (pc' := 55) (z := (0 : Int32)) A d4_54 rfl (by decide) ?_
  exact r_bool A rfl (by decide) d4_55 (by decide) (by decide) (⟨rfl, rfl⟩)
set_option maxRecDepth 65536 in
set_option maxHeartbeats 40000000 in
theorem l1_10 (l : Launch) (Z : State) (a0 : Array Value) (hw : ∀ d ∈ tables_1, d.before a0 Z = true) (n0 : Nat) (h0 : Heap) (Z0 : n0 ≤ h0.size) (r r' : Addr) (V : AA Z h0 r .byte [.int (115 : Int32), .int (117 : Int32), .int (98 : Int32), .int (106 : Int32), .int (101 : Int32), .int (99 : Int32), .int (116 : Int32)]) (V' : AA Z h0 r' .byte [.int (97 : Int32), .int (112 : Int32), .int (112 : Int32), .int (108 : Int32), .int (105 : Int32), .int (99 : Int32), .int (97 : Int32), .int (116 : Int32), .int (105 : Int32), .int (111 : Int32), .int (110 : Int32)]) :
    Met l Z n0 y4_equals jdk_43_method_13_code 3 (Option.some Jvm.ClassFile.FieldType.boolean) ({ frames := 0, cells := 0, slots := 0, locals := 0 } : Room) #[(.ref r), (.ref r')] h0 (fun v h => v = some (.int 0) ∧ h = h0) := by
  refine met_intro (own := c2_StringLatin1) (plainFor_of_name pn_java_lang_StringLatin1) rfl Z0 ?_
  intro p e s m below meth c T A hnm
  refine Wp.cast (g' := mkF m 0 #[rv r, rv r', U0] []) (by first | (simp [entryFrame, mkF, argsToLocals, Value.category, maxLocals, jv, S2, U0, iv, rv]; done) | rfl) ?_
  refine s_aloadN (pc' := 1) A d6_0 rfl rfl rfl ?_
  refine s_arraylength (pc' := 2) (z := (7 : Int32)) A V (by show _ = ((7 : Nat) : Int); decide) d6_1 rfl ?_
  refine s_aloadN (pc' := 3) A d6_2 rfl rfl rfl ?_
  refine s_arraylength (pc' := 4) (z := (11 : Int32)) A V' (by show _ = ((11 : Nat) : Int); decide) d6_3 rfl ?_
  refine s_icmpY (pc' := 34) A d6_4 (by decide) (by decide) (by decide) ?_
  refine s_iconst (pc' := 35) (z := (0 : Int32)) A d6_34 rfl (by decide) ?_
  exact r_bool A rfl (by decide) d6_35 (by decide) (by decide) (⟨rfl, rfl⟩)
set_option maxRecDepth 65536 in
set_option maxHeartbeats 40000000 in
theorem eq_10 (l : Launch) (Z : State) (a0 : Array Value) (hw : ∀ d ∈ tables_1, d.before a0 Z = true) (n0 : Nat) (h0 : Heap) (Z0 : n0 ≤ h0.size) (a a' b b' : Addr) (cz : Int32) (S : Sta Z h0 "java/lang/String" "COMPACT_STRINGS" "Z" (.int cz)) (ncz : ¬ cz = (0 : Int32)) (E : Exa Z h0 a "java/lang/String") (C : Fld Z h0 a "java/lang/String" "coder" "B" (.int 0)) (F : Fld Z h0 a "java/lang/String" "value" "[B" (.ref b)) (V : AA Z h0 b .byte [.int (115 : Int32), .int (117 : Int32), .int (98 : Int32), .int (106 : Int32), .int (101 : Int32), .int (99 : Int32), .int (116 : Int32)]) (E' : Exa Z h0 a' "java/lang/String") (C' : Fld Z h0 a' "java/lang/String" "coder" "B" (.int 0)) (F' : Fld Z h0 a' "java/lang/String" "value" "[B" (.ref b')) (V' : AA Z h0 b' .byte [.int (97 : Int32), .int (112 : Int32), .int (112 : Int32), .int (108 : Int32), .int (105 : Int32), .int (99 : Int32), .int (97 : Int32), .int (116 : Int32), .int (105 : Int32), .int (111 : Int32), .int (110 : Int32)]) :
    Met l Z n0 y5_equals jdk_42_method_66_code 3 (Option.some Jvm.ClassFile.FieldType.boolean) ({ frames := 1, cells := 0, slots := 0, locals := 14 } : Room) #[(.ref a), (.ref a')] h0 (fun v h => v = some (.int 0) ∧ h = h0) := by
  refine met_intro (own := c3_String) (plainFor_of_name pn_java_lang_String) rfl Z0 ?_
  intro p e s m below meth c T A hnm
  refine Wp.cast (g' := mkF m 0 #[rv a, rv a', U0] []) (by first | (simp [entryFrame, mkF, argsToLocals, Value.category, maxLocals, jv, S2, U0, iv, rv]; done) | rfl) ?_
  refine s_aloadN (pc' := 1) A d4_0 rfl rfl rfl ?_
  refine s_aloadN (pc' := 2) A d4_1 rfl rfl rfl ?_
  have hne : a ≠ a' := str_ne F V F' V' (by decide)
  refine s_acmpY (pc' := 7) A d4_2 rfl rfl (by simp [XT.acmp, hne]) (by decide) (by decide) ?_
  refine s_aloadN (pc' := 8) A d4_7 rfl rfl rfl ?_
  refine s_instY (pc' := 11) A (w42 hw) (exa_ins E' (w43 hw)) d4_8 rfl fun T A => ?_
  refine s_ifN (pc' := 14) A d4_11 rfl (by decide) ?_
  refine s_aloadN (pc' := 15) A d4_14 rfl rfl rfl ?_
  refine s_castY (pc' := 18) A (w42 hw) (exa_ins E' (w43 hw)) d4_15 rfl fun T A => ?_
  refine s_astoreN (pc' := 19) (Ls' := #[rv a, rv a', rv a']) A d4_18 rfl rfl rfl ?_
  refine s_getstatic (pc' := 22) (host := "") A (Or.inl (w44 hw)) Via.refl S d4_19 rfl fun T A => ?_
  refine s_ifN (pc' := 25) A d4_22 rfl ((if0 _ _).trans (feq ncz).1) ?_
  refine s_aloadN (pc' := 26) A d4_25 rfl rfl rfl ?_
  refine s_getfield (pc' := 29) (host := "") A (Or.inl (w45 hw)) Via.refl C d4_26 rfl fun T A => ?_
  refine s_aloadN (pc' := 30) A d4_29 rfl rfl rfl ?_
  refine s_getfield (pc' := 33) (host := "") A (Or.inl (w45 hw)) Via.refl C' d4_30 rfl fun T A => ?_
  refine s_icmpN (pc' := 36) A d4_33 rfl (by decide) ?_
  refine s_aloadN (pc' := 37) A d4_36 rfl rfl rfl ?_
  refine s_getfield (pc' := 40) (host := "") A (Or.inl (w46 hw)) Via.refl F d4_37 rfl fun T A => ?_
  refine s_aloadN (pc' := 41) A d4_40 rfl rfl rfl ?_
  refine s_getfield (pc' := 44) (host := "") A (Or.inl (w46 hw)) Via.refl F' d4_41 rfl fun T A => ?_
  refine s_static (pc' := 47) (y := y4_equals) (argsL := [(.ref b), (.ref b')]) (rest := []) A (l1_10 l Z a0 hw n0 h0 A.size b b' V V') (w47 hw) (w48 hw) (w49 hw) (w50 hw) (by decide) pd___B_B_Z rfl (W := 0) (by decide) (by decide) (Nat.le_of_eq rfl) (by decide) (by decide) rfl rfl d4_44 rfl fun T h1 v2 A Q3 => ?_
  obtain ⟨rfl, eh⟩ := Q3
  rw [eh] at A
  refine Wp.stk (st' := [(.int (0 : Int32))]) rfl ?_
  refine s_ifY (pc' := 54) A d4_47 (by decide) (by decide) (by decide) ?_
  refine s_iconst (pc' := 55) (z := (0 : Int32)) A d4_54 rfl (by decide) ?_
  exact r_bool A rfl (by decide) d4_55 (by decide) (by decide) (⟨rfl, rfl⟩)
set_option maxRecDepth 65536 in
set_option maxHeartbeats 40000000 in
theorem l1_11 (l : Launch) (Z : State) (a0 : Array Value) (hw : ∀ d ∈ tables_1, d.before a0 Z = true) (n0 : Nat) (h0 : Heap) (Z0 : n0 ≤ h0.size) (r r' : Addr) (V : AA Z h0 r .byte [.int (115 : Int32), .int (117 : Int32), .int (98 : Int32), .int (106 : Int32), .int (101 : Int32), .int (99 : Int32), .int (116 : Int32)]) (V' : AA Z h0 r' .byte [.int (115 : Int32), .int (117 : Int32), .int (98 : Int32), .int (106 : Int32), .int (101 : Int32), .int (99 : Int32), .int (116 : Int32)]) :
    Met l Z n0 y4_equals jdk_43_method_13_code 3 (Option.some Jvm.ClassFile.FieldType.boolean) ({ frames := 0, cells := 0, slots := 0, locals := 0 } : Room) #[(.ref r), (.ref r')] h0 (fun v h => v = some (.int 1) ∧ h = h0) := by
  refine met_intro (own := c2_StringLatin1) (plainFor_of_name pn_java_lang_StringLatin1) rfl Z0 ?_
  intro p e s m below meth c T A hnm
  refine Wp.cast (g' := mkF m 0 #[rv r, rv r', U0] []) (by first | (simp [entryFrame, mkF, argsToLocals, Value.category, maxLocals, jv, S2, U0, iv, rv]; done) | rfl) ?_
  refine s_aloadN (pc' := 1) A d6_0 rfl rfl rfl ?_
  refine s_arraylength (pc' := 2) (z := (7 : Int32)) A V (by show _ = ((7 : Nat) : Int); decide) d6_1 rfl ?_
  refine s_aloadN (pc' := 3) A d6_2 rfl rfl rfl ?_
  refine s_arraylength (pc' := 4) (z := (7 : Int32)) A V' (by show _ = ((7 : Nat) : Int); decide) d6_3 rfl ?_
  refine s_icmpN (pc' := 7) A d6_4 rfl (by decide) ?_
  refine s_iconst (pc' := 8) (z := (0 : Int32)) A d6_7 rfl (by decide) ?_
  refine s_istoreN (pc' := 9) (Ls' := #[rv r, rv r', iv 0]) A d6_8 rfl rfl ?_
  refine s_iloadN (pc' := 10) A d6_9 rfl rfl ?_
  refine s_aloadN (pc' := 11) A d6_10 rfl rfl rfl ?_
  refine s_arraylength (pc' := 12) (z := (7 : Int32)) A V (by show _ = ((7 : Nat) : Int); decide) d6_11 rfl ?_
  refine s_icmpN (pc' := 15) A d6_12 rfl (by decide) ?_
  refine s_aloadN (pc' := 16) A d6_15 rfl rfl rfl ?_
  refine s_iloadN (pc' := 17) A d6_16 rfl rfl ?_
  refine s_baload (pc' := 18) (i := 0) (v := (.int (115 : Int32))) A V (by decide) rfl d6_17 rfl ?_
  refine s_aloadN (pc' := 19) A d6_18 rfl rfl rfl ?_
  refine s_iloadN (pc' := 20) A d6_19 rfl rfl ?_
  refine s_baload (pc' := 21) (i := 0) (v := (.int (115 : Int32))) A V' (by decide) rfl d6_20 rfl ?_
  refine s_icmpY (pc' := 26) A d6_21 (by decide) (by decide) (by decide) ?_
  refine s_iinc (pc' := 29) (z := (1 : Int32)) (Ls' := #[rv r, rv r', iv 1]) A d6_26 rfl rfl (by decide) rfl ?_
  refine s_goto (pc' := 9) A d6_29 (by decide) (by decide) ?_
  refine s_iloadN (pc' := 10) A d6_9 rfl rfl ?_
  refine s_aloadN (pc' := 11) A d6_10 rfl rfl rfl ?_
  refine s_arraylength (pc' := 12) (z := (7 : Int32)) A V (by show _ = ((7 : Nat) : Int); decide) d6_11 rfl ?_
  refine s_icmpN (pc' := 15) A d6_12 rfl (by decide) ?_
  refine s_aloadN (pc' := 16) A d6_15 rfl rfl rfl ?_
  refine s_iloadN (pc' := 17) A d6_16 rfl rfl ?_
  refine s_baload (pc' := 18) (i := 1) (v := (.int (117 : Int32))) A V (by decide) rfl d6_17 rfl ?_
  refine s_aloadN (pc' := 19) A d6_18 rfl rfl rfl ?_
  refine s_iloadN (pc' := 20) A d6_19 rfl rfl ?_
  refine s_baload (pc' := 21) (i := 1) (v := (.int (117 : Int32))) A V' (by decide) rfl d6_20 rfl ?_
  refine s_icmpY (pc' := 26) A d6_21 (by decide) (by decide) (by decide) ?_
  refine s_iinc (pc' := 29) (z := (2 : Int32)) (Ls' := #[rv r, rv r', iv 2]) A d6_26 rfl rfl (by decide) rfl ?_
  refine s_goto (pc' := 9) A d6_29 (by decide) (by decide) ?_
  refine s_iloadN (pc' := 10) A d6_9 rfl rfl ?_
  refine s_aloadN (pc' := 11) A d6_10 rfl rfl rfl ?_
  refine s_arraylength (pc' := 12) (z := (7 : Int32)) A V (by show _ = ((7 : Nat) : Int); decide) d6_11 rfl ?_
  refine s_icmpN (pc' := 15) A d6_12 rfl (by decide) ?_
  refine s_aloadN (pc' := 16) A d6_15 rfl rfl rfl ?_
  refine s_iloadN (pc' := 17) A d6_16 rfl rfl ?_
  refine s_baload (pc' := 18) (i := 2) (v := (.int (98 : Int32))) A V (by decide) rfl d6_17 rfl ?_
  refine s_aloadN (pc' := 19) A d6_18 rfl rfl rfl ?_
  refine s_iloadN (pc' := 20) A d6_19 rfl rfl ?_
  refine s_baload (pc' := 21) (i := 2) (v := (.int (98 : Int32))) A V' (by decide) rfl d6_20 rfl ?_
  refine s_icmpY (pc' := 26) A d6_21 (by decide) (by decide) (by decide) ?_
  refine s_iinc (pc' := 29) (z := (3 : Int32)) (Ls' := #[rv r, rv r', iv 3]) A d6_26 rfl rfl (by decide) rfl ?_
  refine s_goto (pc' := 9) A d6_29 (by decide) (by decide) ?_
  refine s_iloadN (pc' := 10) A d6_9 rfl rfl ?_
  refine s_aloadN (pc' := 11) A d6_10 rfl rfl rfl ?_
  refine s_arraylength (pc' := 12) (z := (7 : Int32)) A V (by show _ = ((7 : Nat) : Int); decide) d6_11 rfl ?_
  refine s_icmpN (pc' := 15) A d6_12 rfl (by decide) ?_
  refine s_aloadN (pc' := 16) A d6_15 rfl rfl rfl ?_
  refine s_iloadN (pc' := 17) A d6_16 rfl rfl ?_
  refine s_baload (pc' := 18) (i := 3) (v := (.int (106 : Int32))) A V (by decide) rfl d6_17 rfl ?_
  refine s_aloadN (pc' := 19) A d6_18 rfl rfl rfl ?_
  refine s_iloadN (pc' := 20) A d6_19 rfl rfl ?_
  refine s_baload (pc' := 21) (i := 3) (v := (.int (106 : Int32))) A V' (by decide) rfl d6_20 rfl ?_
  refine s_icmpY (pc' := 26) A d6_21 (by decide) (by decide) (by decide) ?_
  refine s_iinc (pc' := 29) (z := (4 : Int32)) (Ls' := #[rv r, rv r', iv 4]) A d6_26 rfl rfl (by decide) rfl ?_
  refine s_goto (pc' := 9) A d6_29 (by decide) (by decide) ?_
  refine s_iloadN (pc' := 10) A d6_9 rfl rfl ?_
  refine s_aloadN (pc' := 11) A d6_10 rfl rfl rfl ?_
  refine s_arraylength (pc' := 12) (z := (7 : Int32)) A V (by show _ = ((7 : Nat) : Int); decide) d6_11 rfl ?_
  refine s_icmpN (pc' := 15) A d6_12 rfl (by decide) ?_
  refine s_aloadN (pc' := 16) A d6_15 rfl rfl rfl ?_
  refine s_iloadN (pc' := 17) A d6_16 rfl rfl ?_
  refine s_baload (pc' := 18) (i := 4) (v := (.int (101 : Int32))) A V (by decide) rfl d6_17 rfl ?_
  refine s_aloadN (pc' := 19) A d6_18 rfl rfl rfl ?_
  refine s_iloadN (pc' := 20) A d6_19 rfl rfl ?_
  refine s_baload (pc' := 21) (i := 4) (v := (.int (101 : Int32))) A V' (by decide) rfl d6_20 rfl ?_
  refine s_icmpY (pc' := 26) A d6_21 (by decide) (by decide) (by decide) ?_
  refine s_iinc (pc' := 29) (z := (5 : Int32)) (Ls' := #[rv r, rv r', iv 5]) A d6_26 rfl rfl (by decide) rfl ?_
  refine s_goto (pc' := 9) A d6_29 (by decide) (by decide) ?_
  refine s_iloadN (pc' := 10) A d6_9 rfl rfl ?_
  refine s_aloadN (pc' := 11) A d6_10 rfl rfl rfl ?_
  refine s_arraylength (pc' := 12) (z := (7 : Int32)) A V (by show _ = ((7 : Nat) : Int); decide) d6_11 rfl ?_
  refine s_icmpN (pc' := 15) A d6_12 rfl (by decide) ?_
  refine s_aloadN (pc' := 16) A d6_15 rfl rfl rfl ?_
  refine s_iloadN (pc' := 17) A d6_16 rfl rfl ?_
  refine s_baload (pc' := 18) (i := 5) (v := (.int (99 : Int32))) A V (by decide) rfl d6_17 rfl ?_
  refine s_aloadN (pc' := 19) A d6_18 rfl rfl rfl ?_
  refine s_iloadN (pc' := 20) A d6_19 rfl rfl ?_
  refine s_baload (pc' := 21) (i := 5) (v := (.int (99 : Int32))) A V' (by decide) rfl d6_20 rfl ?_
  refine s_icmpY (pc' := 26) A d6_21 (by decide) (by decide) (by decide) ?_
  refine s_iinc (pc' := 29) (z := (6 : Int32)) (Ls' := #[rv r, rv r', iv 6]) A d6_26 rfl rfl (by decide) rfl ?_
  refine s_goto (pc' := 9) A d6_29 (by decide) (by decide) ?_
  refine s_iloadN (pc' := 10) A d6_9 rfl rfl ?_
  refine s_aloadN (pc' := 11) A d6_10 rfl rfl rfl ?_
  refine s_arraylength (pc' := 12) (z := (7 : Int32)) A V (by show _ = ((7 : Nat) : Int); decide) d6_11 rfl ?_
  refine s_icmpN (pc' := 15) A d6_12 rfl (by decide) ?_
  refine s_aloadN (pc' := 16) A d6_15 rfl rfl rfl ?_
  refine s_iloadN (pc' := 17) A d6_16 rfl rfl ?_
  refine s_baload (pc' := 18) (i := 6) (v := (.int (116 : Int32))) A V (by decide) rfl d6_17 rfl ?_
  refine s_aloadN (pc' := 19) A d6_18 rfl rfl rfl ?_
  refine s_iloadN (pc' := 20) A d6_19 rfl rfl ?_
  refine s_baload (pc' := 21) (i := 6) (v := (.int (116 : Int32))) A V' (by decide) rfl d6_20 rfl ?_
  refine s_icmpY (pc' := 26) A d6_21 (by decide) (by decide) (by decide) ?_
  refine s_iinc (pc' := 29) (z := (7 : Int32)) (Ls' := #[rv r, rv r', iv 7]) A d6_26 rfl rfl (by decide) rfl ?_
  refine s_goto (pc' := 9) A d6_29 (by decide) (by decide) ?_
  refine s_iloadN (pc' := 10) A d6_9 rfl rfl ?_
  refine s_aloadN (pc' := 11) A d6_10 rfl rfl rfl ?_
  refine s_arraylength (pc' := 12) (z := (7 : Int32)) A V (by show _ = ((7 : Nat) : Int); decide) d6_11 rfl ?_
  refine s_icmpY (pc' := 32) A d6_12 (by decide) (by decide) (by decide) ?_
  refine s_iconst (pc' := 33) (z := (1 : Int32)) A d6_32 rfl (by decide) ?_
  exact r_bool A rfl (by decide) d6_33 (by decide) (by decide) (⟨rfl, rfl⟩)
set_option maxRecDepth 65536 in
set_option maxHeartbeats 40000000 in
theorem eq_11 (l : Launch) (Z : State) (a0 : Array Value) (hw : ∀ d ∈ tables_1, d.before a0 Z = true) (n0 : Nat) (h0 : Heap) (Z0 : n0 ≤ h0.size) (a a' b b' : Addr) (cz : Int32) (S : Sta Z h0 "java/lang/String" "COMPACT_STRINGS" "Z" (.int cz)) (ncz : ¬ cz = (0 : Int32)) (E : Exa Z h0 a "java/lang/String") (C : Fld Z h0 a "java/lang/String" "coder" "B" (.int 0)) (F : Fld Z h0 a "java/lang/String" "value" "[B" (.ref b)) (V : AA Z h0 b .byte [.int (115 : Int32), .int (117 : Int32), .int (98 : Int32), .int (106 : Int32), .int (101 : Int32), .int (99 : Int32), .int (116 : Int32)]) (E' : Exa Z h0 a' "java/lang/String") (C' : Fld Z h0 a' "java/lang/String" "coder" "B" (.int 0)) (F' : Fld Z h0 a' "java/lang/String" "value" "[B" (.ref b')) (V' : AA Z h0 b' .byte [.int (115 : Int32), .int (117 : Int32), .int (98 : Int32), .int (106 : Int32), .int (101 : Int32), .int (99 : Int32), .int (116 : Int32)]) :
    Met l Z n0 y5_equals jdk_42_method_66_code 3 (Option.some Jvm.ClassFile.FieldType.boolean) ({ frames := 1, cells := 0, slots := 0, locals := 14 } : Room) #[(.ref a), (.ref a')] h0 (fun v h => v = some (.int 1) ∧ h = h0) := by
  refine met_intro (own := c3_String) (plainFor_of_name pn_java_lang_String) rfl Z0 ?_
  intro p e s m below meth c T A hnm
  refine Wp.cast (g' := mkF m 0 #[rv a, rv a', U0] []) (by first | (simp [entryFrame, mkF, argsToLocals, Value.category, maxLocals, jv, S2, U0, iv, rv]; done) | rfl) ?_
  refine s_aloadN (pc' := 1) A d4_0 rfl rfl rfl ?_
  refine s_aloadN (pc' := 2) A d4_1 rfl rfl rfl ?_
  by_cases hne : a = a'
  ·
   subst hne
   refine Wp.stk (st' := [(.ref a), (.ref a)]) rfl ?_
   refine s_acmpN (pc' := 5) A d4_2 rfl rfl rfl (by simp [XT.acmp]) ?_
   refine s_iconst (pc' := 6) (z := (1 : Int32)) A d4_5 rfl (by decide) ?_
   exact r_bool A rfl (by decide) d4_6 (by decide) (by decide) (⟨rfl, rfl⟩)
  ·
   refine s_acmpY (pc' := 7) A d4_2 rfl rfl (by simp [XT.acmp, hne]) (by decide) (by decide) ?_
   refine s_aloadN (pc' := 8) A d4_7 rfl rfl rfl ?_
   refine s_instY (pc' := 11) A (w42 hw) (exa_ins E' (w43 hw)) d4_8 rfl fun T A => ?_
   refine s_ifN (pc' := 14) A d4_11 rfl (by decide) ?_
   refine s_aloadN (pc' := 15) A d4_14 rfl rfl rfl ?_
   refine s_castY (pc' := 18) A (w42 hw) (exa_ins E' (w43 hw)) d4_15 rfl fun T A => ?_
   refine s_astoreN (pc' := 19) (Ls' := #[rv a, rv a', rv a']) A d4_18 rfl rfl rfl ?_
   refine s_getstatic (pc' := 22) (host := "") A (Or.inl (w44 hw)) Via.refl S d4_19 rfl fun T A => ?_
   refine s_ifN (pc' := 25) A d4_22 rfl ((if0 _ _).trans (feq ncz).1) ?_
   refine s_aloadN (pc' := 26) A d4_25 rfl rfl rfl ?_
   refine s_getfield (pc' := 29) (host := "") A (Or.inl (w45 hw)) Via.refl C d4_26 rfl fun T A => ?_
   refine s_aloadN (pc' := 30) A d4_29 rfl rfl rfl ?_
   refine s_getfield (pc' := 33) (host := "") A (Or.inl (w45 hw)) Via.refl C' d4_30 rfl fun T A => ?_
   refine s_icmpN (pc' := 36) A d4_33 rfl (by decide) ?_
   refine s_aloadN (pc' := 37) A d4_36 rfl rfl rfl ?_
   refine s_getfield (pc' := 40) (host := "") A (Or.inl (w46 hw)) Via.refl F d4_37 rfl fun T A => ?_
   refine s_aloadN (pc' := 41) A d4_40 rfl rfl rfl ?_
   refine s_getfield (pc' := 44) (host := "") A (Or.inl (w46 hw)) Via.refl F' d4_41 rfl fun T A => ?_
   refine s_static (pc' := 47) (y := y4_equals) (argsL := [(.ref b), (.ref b')]) (rest := []) A (l1_11 l Z a0 hw n0 h0 A.size b b' V V') (w47 hw) (w48 hw) (w49 hw) (w50 hw) (by decide) pd___B_B_Z rfl (W := 0) (by decide) (by decide) (Nat.le_of_eq rfl) (by decide) (by decide) rfl rfl d4_44 rfl fun T h1 v2 A Q3 => ?_
   obtain ⟨rfl, eh⟩ := Q3
   rw [eh] at A
   refine Wp.stk (st' := [(.int (1 : Int32))]) rfl ?_
   refine s_ifN (pc' := 50) A d4_47 rfl (by decide) ?_
   refine s_iconst (pc' := 51) (z := (1 : Int32)) A d4_50 rfl (by decide) ?_
   refine s_goto (pc' := 55) A d4_51 (by decide) (by decide) ?_
   exact r_bool A rfl (by decide) d4_55 (by decide) (by decide) (⟨rfl, rfl⟩)
set_option maxRecDepth 65536 in
set_option maxHeartbeats 40000000 in
theorem l1_12 (l : Launch) (Z : State) (a0 : Array Value) (hw : ∀ d ∈ tables_1, d.before a0 Z = true) (n0 : Nat) (h0 : Heap) (Z0 : n0 ≤ h0.size) (r r' : Addr) (V : AA Z h0 r .byte [.int (115 : Int32), .int (117 : Int32), .int (98 : Int32), .int (106 : Int32), .int (101 : Int32), .int (99 : Int32), .int (116 : Int32)]) (V' : AA Z h0 r' .byte [.int (97 : Int32), .int (100 : Int32), .int (109 : Int32), .int (105 : Int32), .int (110 : Int32)]) :
    Met l Z n0 y4_equals jdk_43_method_13_code 3 (Option.some Jvm.ClassFile.FieldType.boolean) ({ frames := 0, cells := 0, slots := 0, locals := 0 } : Room) #[(.ref r), (.ref r')] h0 (fun v h => v = some (.int 0) ∧ h = h0) := by
  refine met_intro (own := c2_StringLatin1) (plainFor_of_name pn_java_lang_StringLatin1) rfl Z0 ?_
  intro p e s m below meth c T A hnm
  refine Wp.cast (g' := mkF m 0 #[rv r, rv r', U0] []) (by first | (simp [entryFrame, mkF, argsToLocals, Value.category, maxLocals, jv, S2, U0, iv, rv]; done) | rfl) ?_
  refine s_aloadN (pc' := 1) A d6_0 rfl rfl rfl ?_
  refine s_arraylength (pc' := 2) (z := (7 : Int32)) A V (by show _ = ((7 : Nat) : Int); decide) d6_1 rfl ?_
  refine s_aloadN (pc' := 3) A d6_2 rfl rfl rfl ?_
  refine s_arraylength (pc' := 4) (z := (5 : Int32)) A V' (by show _ = ((5 : Nat) : Int); decide) d6_3 rfl ?_
  refine s_icmpY (pc' := 34) A d6_4 (by decide) (by decide) (by decide) ?_
  refine s_iconst (pc' := 35) (z := (0 : Int32)) A d6_34 rfl (by decide) ?_
  exact r_bool A rfl (by decide) d6_35 (by decide) (by decide) (⟨rfl, rfl⟩)
set_option maxRecDepth 65536 in
set_option maxHeartbeats 40000000 in
theorem eq_12 (l : Launch) (Z : State) (a0 : Array Value) (hw : ∀ d ∈ tables_1, d.before a0 Z = true) (n0 : Nat) (h0 : Heap) (Z0 : n0 ≤ h0.size) (a a' b b' : Addr) (cz : Int32) (S : Sta Z h0 "java/lang/String" "COMPACT_STRINGS" "Z" (.int cz)) (ncz : ¬ cz = (0 : Int32)) (E : Exa Z h0 a "java/lang/String") (C : Fld Z h0 a "java/lang/String" "coder" "B" (.int 0)) (F : Fld Z h0 a "java/lang/String" "value" "[B" (.ref b)) (V : AA Z h0 b .byte [.int (115 : Int32), .int (117 : Int32), .int (98 : Int32), .int (106 : Int32), .int (101 : Int32), .int (99 : Int32), .int (116 : Int32)]) (E' : Exa Z h0 a' "java/lang/String") (C' : Fld Z h0 a' "java/lang/String" "coder" "B" (.int 0)) (F' : Fld Z h0 a' "java/lang/String" "value" "[B" (.ref b')) (V' : AA Z h0 b' .byte [.int (97 : Int32), .int (100 : Int32), .int (109 : Int32), .int (105 : Int32), .int (110 : Int32)]) :
    Met l Z n0 y5_equals jdk_42_method_66_code 3 (Option.some Jvm.ClassFile.FieldType.boolean) ({ frames := 1, cells := 0, slots := 0, locals := 14 } : Room) #[(.ref a), (.ref a')] h0 (fun v h => v = some (.int 0) ∧ h = h0) := by
  refine met_intro (own := c3_String) (plainFor_of_name pn_java_lang_String) rfl Z0 ?_
  intro p e s m below meth c T A hnm
  refine Wp.cast (g' := mkF m 0 #[rv a, rv a', U0] []) (by first | (simp [entryFrame, mkF, argsToLocals, Value.category, maxLocals, jv, S2, U0, iv, rv]; done) | rfl) ?_
  refine s_aloadN (pc' := 1) A d4_0 rfl rfl rfl ?_
  refine s_aloadN (pc' := 2) A d4_1 rfl rfl rfl ?_
  have hne : a ≠ a' := str_ne F V F' V' (by decide)
  refine s_acmpY (pc' := 7) A d4_2 rfl rfl (by simp [XT.acmp, hne]) (by decide) (by decide) ?_
  refine s_aloadN (pc' := 8) A d4_7 rfl rfl rfl ?_
  refine s_instY (pc' := 11) A (w42 hw) (exa_ins E' (w43 hw)) d4_8 rfl fun T A => ?_
  refine s_ifN (pc' := 14) A d4_11 rfl (by decide) ?_
  refine s_aloadN (pc' := 15) A d4_14 rfl rfl rfl ?_
  refine s_castY (pc' := 18) A (w42 hw) (exa_ins E' (w43 hw)) d4_15 rfl fun T A => ?_
  refine s_astoreN (pc' := 19) (Ls' := #[rv a, rv a', rv a']) A d4_18 rfl rfl rfl ?_
  refine s_getstatic (pc' := 22) (host := "") A (Or.inl (w44 hw)) Via.refl S d4_19 rfl fun T A => ?_
  refine s_ifN (pc' := 25) A d4_22 rfl ((if0 _ _).trans (feq ncz).1) ?_
  refine s_aloadN (pc' := 26) A d4_25 rfl rfl rfl ?_
  refine s_getfield (pc' := 29) (host := "") A (Or.inl (w45 hw)) Via.refl C d4_26 rfl fun T A => ?_
  refine s_aloadN (pc' := 30) A d4_29 rfl rfl rfl ?_
  refine s_getfield (pc' := 33) (host := "") A (Or.inl (w45 hw)) Via.refl C' d4_30 rfl fun T A => ?_
  refine s_icmpN (pc' := 36) A d4_33 rfl (by decide) ?_
  refine s_aloadN (pc' := 37) A d4_36 rfl rfl rfl ?_
  refine s_getfield (pc' := 40) (host := "") A (Or.inl (w46 hw)) Via.refl F d4_37 rfl fun T A => ?_
  refine s_aloadN (pc' := 41) A d4_40 rfl rfl rfl ?_
  refine s_getfield (pc' := 44) (host := "") A (Or.inl (w46 hw)) Via.refl F' d4_41 rfl fun T A => ?_
  refine s_static (pc' := 47) (y := y4_equals) (argsL := [(.ref b), (.ref b')]) (rest := []) A (l1_12 l Z a0 hw n0 h0 A.size b b' V V') (w47 hw) (w48 hw) (w49 hw) (w50 hw) (by decide) pd___B_B_Z rfl (W := 0) (by decide) (by decide) (Nat.le_of_eq rfl) (by decide) (by decide) rfl rfl d4_44 rfl fun T h1 v2 A Q3 => ?_
  obtain ⟨rfl, eh⟩ := Q3
  rw [eh] at A
  refine Wp.stk (st' := [(.int (0 : Int32))]) rfl ?_
  refine s_ifY (pc' := 54) A d4_47 (by decide) (by decide) (by decide) ?_
  refine s_iconst (pc' := 55) (z := (0 : Int32)) A d4_54 rfl (by decide) ?_
  exact r_bool A rfl (by decide) d4_55 (by decide) (by decide) (⟨rfl, rfl⟩)
set_option maxRecDepth 65536 in
set_option maxHeartbeats 40000000 in
theorem l1_20 (l : Launch) (Z : State) (a0 : Array Value) (hw : ∀ d ∈ tables_1, d.before a0 Z = true) (n0 : Nat) (h0 : Heap) (Z0 : n0 ≤ h0.size) (r r' : Addr) (V : AA Z h0 r .byte [.int (97 : Int32), .int (100 : Int32), .int (109 : Int32), .int (105 : Int32), .int (110 : Int32)]) (V' : AA Z h0 r' .byte [.int (97 : Int32), .int (112 : Int32), .int (112 : Int32), .int (108 : Int32), .int (105 : Int32), .int (99 : Int32), .int (97 : Int32), .int (116 : Int32), .int (105 : Int32), .int (111 : Int32), .int (110 : Int32)]) :
    Met l Z n0 y4_equals jdk_43_method_13_code 3 (Option.some Jvm.ClassFile.FieldType.boolean) ({ frames := 0, cells := 0, slots := 0, locals := 0 } : Room) #[(.ref r), (.ref r')] h0 (fun v h => v = some (.int 0) ∧ h = h0) := by
  refine met_intro (own := c2_StringLatin1) (plainFor_of_name pn_java_lang_StringLatin1) rfl Z0 ?_
  intro p e s m below meth c T A hnm
  refine Wp.cast (g' := mkF m 0 #[rv r, rv r', U0] []) (by first | (simp [entryFrame, mkF, argsToLocals, Value.category, maxLocals, jv, S2, U0, iv, rv]; done) | rfl) ?_
  refine s_aloadN (pc' := 1) A d6_0 rfl rfl rfl ?_
  refine s_arraylength (pc' := 2) (z := (5 : Int32)) A V (by show _ = ((5 : Nat) : Int); decide) d6_1 rfl ?_
  refine s_aloadN (pc' := 3) A d6_2 rfl rfl rfl ?_
  refine s_arraylength (pc' := 4) (z := (11 : Int32)) A V' (by show _ = ((11 : Nat) : Int); decide) d6_3 rfl ?_
  refine s_icmpY (pc' := 34) A d6_4 (by decide) (by decide) (by decide) ?_
  refine s_iconst (pc' := 35) (z := (0 : Int32)) A d6_34 rfl (by decide) ?_
  exact r_bool A rfl (by decide) d6_35 (by decide) (by decide) (⟨rfl, rfl⟩)
set_option maxRecDepth 65536 in
set_option maxHeartbeats 40000000 in
theorem eq_20 (l : Launch) (Z : State) (a0 : Array Value) (hw : ∀ d ∈ tables_1, d.before a0 Z = true) (n0 : Nat) (h0 : Heap) (Z0 : n0 ≤ h0.size) (a a' b b' : Addr) (cz : Int32) (S : Sta Z h0 "java/lang/String" "COMPACT_STRINGS" "Z" (.int cz)) (ncz : ¬ cz = (0 : Int32)) (E : Exa Z h0 a "java/lang/String") (C : Fld Z h0 a "java/lang/String" "coder" "B" (.int 0)) (F : Fld Z h0 a "java/lang/String" "value" "[B" (.ref b)) (V : AA Z h0 b .byte [.int (97 : Int32), .int (100 : Int32), .int (109 : Int32), .int (105 : Int32), .int (110 : Int32)]) (E' : Exa Z h0 a' "java/lang/String") (C' : Fld Z h0 a' "java/lang/String" "coder" "B" (.int 0)) (F' : Fld Z h0 a' "java/lang/String" "value" "[B" (.ref b')) (V' : AA Z h0 b' .byte [.int (97 : Int32), .int (112 : Int32), .int (112 : Int32), .int (108 : Int32), .int (105 : Int32), .int (99 : Int32), .int (97 : Int32), .int (116 : Int32), .int (105 : Int32), .int (111 : Int32), .int (110 : Int32)]) :
    Met l Z n0 y5_equals jdk_42_method_66_code 3 (Option.some Jvm.ClassFile.FieldType.boolean) ({ frames := 1, cells := 0, slots := 0, locals := 14 } : Room) #[(.ref a), (.ref a')] h0 (fun v h => v = some (.int 0) ∧ h = h0) := by
  refine met_intro (own := c3_String) (plainFor_of_name pn_java_lang_String) rfl Z0 ?_
  intro p e s m below meth c T A hnm
  refine Wp.cast (g' := mkF m 0 #[rv a, rv a', U0] []) (by first | (simp [entryFrame, mkF, argsToLocals, Value.category, maxLocals, jv, S2, U0, iv, rv]; done) | rfl) ?_
  refine s_aloadN (pc' := 1) A d4_0 rfl rfl rfl ?_
  refine s_aloadN (pc' := 2) A d4_1 rfl rfl rfl ?_
  have hne : a ≠ a' := str_ne F V F' V' (by decide)
  refine s_acmpY (pc' := 7) A d4_2 rfl rfl (by simp [XT.acmp, hne]) (by decide) (by decide) ?_
  refine s_aloadN (pc' := 8) A d4_7 rfl rfl rfl ?_
  refine s_instY (pc' := 11) A (w42 hw) (exa_ins E' (w43 hw)) d4_8 rfl fun T A => ?_
  refine s_ifN (pc' := 14) A d4_11 rfl (by decide) ?_
  refine s_aloadN (pc' := 15) A d4_14 rfl rfl rfl ?_
  refine s_castY (pc' := 18) A (w42 hw) (exa_ins E' (w43 hw)) d4_15 rfl fun T A => ?_
  refine s_astoreN (pc' := 19) (Ls' := #[rv a, rv a', rv a']) A d4_18 rfl rfl rfl ?_
  refine s_getstatic (pc' := 22) (host := "") A (Or.inl (w44 hw)) Via.refl S d4_19 rfl fun T A => ?_
  refine s_ifN (pc' := 25) A d4_22 rfl ((if0 _ _).trans (feq ncz).1) ?_
  refine s_aloadN (pc' := 26) A d4_25 rfl rfl rfl ?_
  refine s_getfield (pc' := 29) (host := "") A (Or.inl (w45 hw)) Via.refl C d4_26 rfl fun T A => ?_
  refine s_aloadN (pc' := 30) A d4_29 rfl rfl rfl ?_
  refine s_getfield (pc' := 33) (host := "") A (Or.inl (w45 hw)) Via.refl C' d4_30 rfl fun T A => ?_
  refine s_icmpN (pc' := 36) A d4_33 rfl (by decide) ?_
  refine s_aloadN (pc' := 37) A d4_36 rfl rfl rfl ?_
  refine s_getfield (pc' := 40) (host := "") A (Or.inl (w46 hw)) Via.refl F d4_37 rfl fun T A => ?_
  refine s_aloadN (pc' := 41) A d4_40 rfl rfl rfl ?_
  refine s_getfield (pc' := 44) (host := "") A (Or.inl (w46 hw)) Via.refl F' d4_41 rfl fun T A => ?_
  refine s_static (pc' := 47) (y := y4_equals) (argsL := [(.ref b), (.ref b')]) (rest := []) A (l1_20 l Z a0 hw n0 h0 A.size b b' V V') (w47 hw) (w48 hw) (w49 hw) (w50 hw) (by decide) pd___B_B_Z rfl (W := 0) (by decide) (by decide) (Nat.le_of_eq rfl) (by decide) (by decide) rfl rfl d4_44 rfl fun T h1 v2 A Q3 => ?_
  obtain ⟨rfl, eh⟩ := Q3
  rw [eh] at A
  refine Wp.stk (st' := [(.int (0 : Int32))]) rfl ?_
  refine s_ifY (pc' := 54) A d4_47 (by decide) (by decide) (by decide) ?_
  refine s_iconst (pc' := 55) (z := (0 : Int32)) A d4_54 rfl (by decide) ?_
  exact r_bool A rfl (by decide) d4_55 (by decide) (by decide) (⟨rfl, rfl⟩)
set_option maxRecDepth 65536 in
set_option maxHeartbeats 40000000 in
theorem l1_21 (l : Launch) (Z : State) (a0 : Array Value) (hw : ∀ d ∈ tables_1, d.before a0 Z = true) (n0 : Nat) (h0 : Heap) (Z0 : n0 ≤ h0.size) (r r' : Addr) (V : AA Z h0 r .byte [.int (97 : Int32), .int (100 : Int32), .int (109 : Int32), .int (105 : Int32), .int (110 : Int32)]) (V' : AA Z h0 r' .byte [.int (115 : Int32), .int (117 : Int32), .int (98 : Int32), .int (106 : Int32), .int (101 : Int32), .int (99 : Int32), .int (116 : Int32)]) :
    Met l Z n0 y4_equals jdk_43_method_13_code 3 (Option.some Jvm.ClassFile.FieldType.boolean) ({ frames := 0, cells := 0, slots := 0, locals := 0 } : Room) #[(.ref r), (.ref r')] h0 (fun v h => v = some (.int 0) ∧ h = h0) := by
  refine met_intro (own := c2_StringLatin1) (plainFor_of_name pn_java_lang_StringLatin1) rfl Z0 ?_
  intro p e s m below meth c T A hnm
  refine Wp.cast (g' := mkF m 0 #[rv r, rv r', U0] []) (by first | (simp [entryFrame, mkF, argsToLocals, Value.category, maxLocals, jv, S2, U0, iv, rv]; done) | rfl) ?_
  refine s_aloadN (pc' := 1) A d6_0 rfl rfl rfl ?_
  refine s_arraylength (pc' := 2) (z := (5 : Int32)) A V (by show _ = ((5 : Nat) : Int); decide) d6_1 rfl ?_
  refine s_aloadN (pc' := 3) A d6_2 rfl rfl rfl ?_
  refine s_arraylength (pc' := 4) (z := (7 : Int32)) A V' (by show _ = ((7 : Nat) : Int); decide) d6_3 rfl ?_
  refine s_icmpY (pc' := 34) A d6_4 (by decide) (by decide) (by decide) ?_
  refine s_iconst (pc' := 35) (z := (0 : Int32)) A d6_34 rfl (by decide) ?_
  exact r_bool A rfl (by decide) d6_35 (by decide) (by decide) (⟨rfl, rfl⟩)
set_option maxRecDepth 65536 in
set_option maxHeartbeats 40000000 in
theorem eq_21 (l : Launch) (Z : State) (a0 : Array Value) (hw : ∀ d ∈ tables_1, d.before a0 Z = true) (n0 : Nat) (h0 : Heap) (Z0 : n0 ≤ h0.size) (a a' b b' : Addr) (cz : Int32) (S : Sta Z h0 "java/lang/String" "COMPACT_STRINGS" "Z" (.int cz)) (ncz : ¬ cz = (0 : Int32)) (E : Exa Z h0 a "java/lang/String") (C : Fld Z h0 a "java/lang/String" "coder" "B" (.int 0)) (F : Fld Z h0 a "java/lang/String" "value" "[B" (.ref b)) (V : AA Z h0 b .byte [.int (97 : Int32), .int (100 : Int32), .int (109 : Int32), .int (105 : Int32), .int (110 : Int32)]) (E' : Exa Z h0 a' "java/lang/String") (C' : Fld Z h0 a' "java/lang/String" "coder" "B" (.int 0)) (F' : Fld Z h0 a' "java/lang/String" "value" "[B" (.ref b')) (V' : AA Z h0 b' .byte [.int (115 : Int32), .int (117 : Int32), .int (98 : Int32), .int (106 : Int32), .int (101 : Int32), .int (99 : Int32), .int (116 : Int32)]) :
    Met l Z n0 y5_equals jdk_42_method_66_code 3 (Option.some Jvm.ClassFile.FieldType.boolean) ({ frames := 1, cells := 0, slots := 0, locals := 14 } : Room) #[(.ref a), (.ref a')] h0 (fun v h => v = some (.int 0) ∧ h = h0) := by
  refine met_intro (own := c3_String) (plainFor_of_name pn_java_lang_String) rfl Z0 ?_
  intro p e s m below meth c T A hnm
  refine Wp.cast (g' := mkF m 0 #[rv a, rv a', U0] []) (by first | (simp [entryFrame, mkF, argsToLocals, Value.category, maxLocals, jv, S2, U0, iv, rv]; done) | rfl) ?_
  refine s_aloadN (pc' := 1) A d4_0 rfl rfl rfl ?_
  refine s_aloadN (pc' := 2) A d4_1 rfl rfl rfl ?_
  have hne : a ≠ a' := str_ne F V F' V' (by decide)
  refine s_acmpY (pc' := 7) A d4_2 rfl rfl (by simp [XT.acmp, hne]) (by decide) (by decide) ?_
  refine s_aloadN (pc' := 8) A d4_7 rfl rfl rfl ?_
  refine s_instY (pc' := 11) A (w42 hw) (exa_ins E' (w43 hw)) d4_8 rfl fun T A => ?_
  refine s_ifN (pc' := 14) A d4_11 rfl (by decide) ?_
  refine s_aloadN (pc' := 15) A d4_14 rfl rfl rfl ?_
  refine s_castY (pc' := 18) A (w42 hw) (exa_ins E' (w43 hw)) d4_15 rfl fun T A => ?_
  refine s_astoreN (pc' := 19) (Ls' := #[rv a, rv a', rv a']) A d4_18 rfl rfl rfl ?_
  refine s_getstatic (pc' := 22) (host := "") A (Or.inl (w44 hw)) Via.refl S d4_19 rfl fun T A => ?_
  refine s_ifN (pc' := 25) A d4_22 rfl ((if0 _ _).trans (feq ncz).1) ?_
  refine s_aloadN (pc' := 26) A d4_25 rfl rfl rfl ?_
  refine s_getfield (pc' := 29) (host := "") A (Or.inl (w45 hw)) Via.refl C d4_26 rfl fun T A => ?_
  refine s_aloadN (pc' := 30) A d4_29 rfl rfl rfl ?_
  refine s_getfield (pc' := 33) (host := "") A (Or.inl (w45 hw)) Via.refl C' d4_30 rfl fun T A => ?_
  refine s_icmpN (pc' := 36) A d4_33 rfl (by decide) ?_
  refine s_aloadN (pc' := 37) A d4_36 rfl rfl rfl ?_
  refine s_getfield (pc' := 40) (host := "") A (Or.inl (w46 hw)) Via.refl F d4_37 rfl fun T A => ?_
  refine s_aloadN (pc' := 41) A d4_40 rfl rfl rfl ?_
  refine s_getfield (pc' := 44) (host := "") A (Or.inl (w46 hw)) Via.refl F' d4_41 rfl fun T A => ?_
  refine s_static (pc' := 47) (y := y4_equals) (argsL := [(.ref b), (.ref b')]) (rest := []) A (l1_21 l Z a0 hw n0 h0 A.size b b' V V') (w47 hw) (w48 hw) (w49 hw) (w50 hw) (by decide) pd___B_B_Z rfl (W := 0) (by decide) (by decide) (Nat.le_of_eq rfl) (by decide) (by decide) rfl rfl d4_44 rfl fun T h1 v2 A Q3 => ?_
  obtain ⟨rfl, eh⟩ := Q3
  rw [eh] at A
  refine Wp.stk (st' := [(.int (0 : Int32))]) rfl ?_
  refine s_ifY (pc' := 54) A d4_47 (by decide) (by decide) (by decide) ?_
  refine s_iconst (pc' := 55) (z := (0 : Int32)) A d4_54 rfl (by decide) ?_
  exact r_bool A rfl (by decide) d4_55 (by decide) (by decide) (⟨rfl, rfl⟩)
set_option maxRecDepth 65536 in
set_option maxHeartbeats 40000000 in
theorem l1_22 (l : Launch) (Z : State) (a0 : Array Value) (hw : ∀ d ∈ tables_1, d.before a0 Z = true) (n0 : Nat) (h0 : Heap) (Z0 : n0 ≤ h0.size) (r r' : Addr) (V : AA Z h0 r .byte [.int (97 : Int32), .int (100 : Int32), .int (109 : Int32), .int (105 : Int32), .int (110 : Int32)]) (V' : AA Z h0 r' .byte [.int (97 : Int32), .int (100 : Int32), .int (109 : Int32), .int (105 : Int32), .int (110 : Int32)]) :
    Met l Z n0 y4_equals jdk_43_method_13_code 3 (Option.some Jvm.ClassFile.FieldType.boolean) ({ frames := 0, cells := 0, slots := 0, locals := 0 } : Room) #[(.ref r), (.ref r')] h0 (fun v h => v = some (.int 1) ∧ h = h0) := by
  refine met_intro (own := c2_StringLatin1) (plainFor_of_name pn_java_lang_StringLatin1) rfl Z0 ?_
  intro p e s m below meth c T A hnm
  refine Wp.cast (g' := mkF m 0 #[rv r, rv r', U0] []) (by first | (simp [entryFrame, mkF, argsToLocals, Value.category, maxLocals, jv, S2, U0, iv, rv]; done) | rfl) ?_
  refine s_aloadN (pc' := 1) A d6_0 rfl rfl rfl ?_
  refine s_arraylength (pc' := 2) (z := (5 : Int32)) A V (by show _ = ((5 : Nat) : Int); decide) d6_1 rfl ?_
  refine s_aloadN (pc' := 3) A d6_2 rfl rfl rfl ?_
  refine s_arraylength (pc' := 4) (z := (5 : Int32)) A V' (by show _ = ((5 : Nat) : Int); decide) d6_3 rfl ?_
  refine s_icmpN (pc' := 7) A d6_4 rfl (by decide) ?_
  refine s_iconst (pc' := 8) (z := (0 : Int32)) A d6_7 rfl (by decide) ?_
  refine s_istoreN (pc' := 9) (Ls' := #[rv r, rv r', iv 0]) A d6_8 rfl rfl ?_
  refine s_iloadN (pc' := 10) A d6_9 rfl rfl ?_
  refine s_aloadN (pc' := 11) A d6_10 rfl rfl rfl ?_
  refine s_arraylength (pc' := 12) (z := (5 : Int32)) A V (by show _ = ((5 : Nat) : Int); decide) d6_11 rfl ?_
  refine s_icmpN (pc' := 15) A d6_12 rfl (by decide) ?_
  refine s_aloadN (pc' := 16) A d6_15 rfl rfl rfl ?_
  refine s_iloadN (pc' := 17) A d6_16 rfl rfl ?_
  refine s_baload (pc' := 18) (i := 0) (v := (.int (97 : Int32))) A V (by decide) rfl d6_17 rfl ?_
  refine s_aloadN (pc' := 19) A d6_18 rfl rfl rfl ?_
  refine s_iloadN (pc' := 20) A d6_19 rfl rfl ?_
  refine s_baload (pc' := 21) (i := 0) (v := (.int (97 : Int32))) A V' (by decide) rfl d6_20 rfl ?_
  refine s_icmpY (pc' := 26) A d6_21 (by decide) (by decide) (by decide) ?_
  refine s_iinc (pc' := 29) (z := (1 : Int32)) (Ls' := #[rv r, rv r', iv 1]) A d6_26 rfl rfl (by decide) rfl ?_
  refine s_goto (pc' := 9) A d6_29 (by decide) (by decide) ?_
  refine s_iloadN (pc' := 10) A d6_9 rfl rfl ?_
  refine s_aloadN (pc' := 11) A d6_10 rfl rfl rfl ?_
  refine s_arraylength (pc' := 12) (z := (5 : Int32)) A V (by show _ = ((5 : Nat) : Int); decide) d6_11 rfl ?_
  refine s_icmpN (pc' := 15) A d6_12 rfl (by decide) ?_
  refine s_aloadN (pc' := 16) A d6_15 rfl rfl rfl ?_
  refine s_iloadN (pc' := 17) A d6_16 rfl rfl ?_
  refine s_baload (pc' := 18) (i := 1) (v := (.int (100 : Int32))) A V (by decide) rfl d6_17 rfl ?_
  refine s_aloadN (pc' := 19) A d6_18 rfl rfl rfl ?_
  refine s_iloadN (pc' := 20) A d6_19 rfl rfl ?_
  refine s_baload (pc' := 21) (i := 1) (v := (.int (100 : Int32))) A V' (by decide) rfl d6_20 rfl ?_
  refine s_icmpY (pc' := 26) A d6_21 (by decide) (by decide) (by decide) ?_
  refine s_iinc (pc' := 29) (z := (2 : Int32)) (Ls' := #[rv r, rv r', iv 2]) A d6_26 rfl rfl (by decide) rfl ?_
  refine s_goto (pc' := 9) A d6_29 (by decide) (by decide) ?_
  refine s_iloadN (pc' := 10) A d6_9 rfl rfl ?_
  refine s_aloadN (pc' := 11) A d6_10 rfl rfl rfl ?_
  refine s_arraylength (pc' := 12) (z := (5 : Int32)) A V (by show _ = ((5 : Nat) : Int); decide) d6_11 rfl ?_
  refine s_icmpN (pc' := 15) A d6_12 rfl (by decide) ?_
  refine s_aloadN (pc' := 16) A d6_15 rfl rfl rfl ?_
  refine s_iloadN (pc' := 17) A d6_16 rfl rfl ?_
  refine s_baload (pc' := 18) (i := 2) (v := (.int (109 : Int32))) A V (by decide) rfl d6_17 rfl ?_
  refine s_aloadN (pc' := 19) A d6_18 rfl rfl rfl ?_
  refine s_iloadN (pc' := 20) A d6_19 rfl rfl ?_
  refine s_baload (pc' := 21) (i := 2) (v := (.int (109 : Int32))) A V' (by decide) rfl d6_20 rfl ?_
  refine s_icmpY (pc' := 26) A d6_21 (by decide) (by decide) (by decide) ?_
  refine s_iinc (pc' := 29) (z := (3 : Int32)) (Ls' := #[rv r, rv r', iv 3]) A d6_26 rfl rfl (by decide) rfl ?_
  refine s_goto (pc' := 9) A d6_29 (by decide) (by decide) ?_
  refine s_iloadN (pc' := 10) A d6_9 rfl rfl ?_
  refine s_aloadN (pc' := 11) A d6_10 rfl rfl rfl ?_
  refine s_arraylength (pc' := 12) (z := (5 : Int32)) A V (by show _ = ((5 : Nat) : Int); decide) d6_11 rfl ?_
  refine s_icmpN (pc' := 15) A d6_12 rfl (by decide) ?_
  refine s_aloadN (pc' := 16) A d6_15 rfl rfl rfl ?_
  refine s_iloadN (pc' := 17) A d6_16 rfl rfl ?_
  refine s_baload (pc' := 18) (i := 3) (v := (.int (105 : Int32))) A V (by decide) rfl d6_17 rfl ?_
  refine s_aloadN (pc' := 19) A d6_18 rfl rfl rfl ?_
  refine s_iloadN (pc' := 20) A d6_19 rfl rfl ?_
  refine s_baload (pc' := 21) (i := 3) (v := (.int (105 : Int32))) A V' (by decide) rfl d6_20 rfl ?_
  refine s_icmpY (pc' := 26) A d6_21 (by decide) (by decide) (by decide) ?_
  refine s_iinc (pc' := 29) (z := (4 : Int32)) (Ls' := #[rv r, rv r', iv 4]) A d6_26 rfl rfl (by decide) rfl ?_
  refine s_goto (pc' := 9) A d6_29 (by decide) (by decide) ?_
  refine s_iloadN (pc' := 10) A d6_9 rfl rfl ?_
  refine s_aloadN (pc' := 11) A d6_10 rfl rfl rfl ?_
  refine s_arraylength (pc' := 12) (z := (5 : Int32)) A V (by show _ = ((5 : Nat) : Int); decide) d6_11 rfl ?_
  refine s_icmpN (pc' := 15) A d6_12 rfl (by decide) ?_
  refine s_aloadN (pc' := 16) A d6_15 rfl rfl rfl ?_
  refine s_iloadN (pc' := 17) A d6_16 rfl rfl ?_
  refine s_baload (pc' := 18) (i := 4) (v := (.int (110 : Int32))) A V (by decide) rfl d6_17 rfl ?_
  refine s_aloadN (pc' := 19) A d6_18 rfl rfl rfl ?_
  refine s_iloadN (pc' := 20) A d6_19 rfl rfl ?_
  refine s_baload (pc' := 21) (i := 4) (v := (.int (110 : Int32))) A V' (by decide) rfl d6_20 rfl ?_
  refine s_icmpY (pc' := 26) A d6_21 (by decide) (by decide) (by decide) ?_
  refine s_iinc (pc' := 29) (z := (5 : Int32)) (Ls' := #[rv r, rv r', iv 5]) A d6_26 rfl rfl (by decide) rfl ?_
  refine s_goto (pc' := 9) A d6_29 (by decide) (by decide) ?_
  refine s_iloadN (pc' := 10) A d6_9 rfl rfl ?_
  refine s_aloadN (pc' := 11) A d6_10 rfl rfl rfl ?_
  refine s_arraylength (pc' := 12) (z := (5 : Int32)) A V (by show _ = ((5 : Nat) : Int); decide) d6_11 rfl ?_
  refine s_icmpY (pc' := 32) A d6_12 (by decide) (by decide) (by decide) ?_
  refine s_iconst (pc' := 33) (z := (1 : Int32)) A d6_32 rfl (by decide) ?_
  exact r_bool A rfl (by decide) d6_33 (by decide) (by decide) (⟨rfl, rfl⟩)
set_option maxRecDepth 65536 in
set_option maxHeartbeats 40000000 in
theorem eq_22 (l : Launch) (Z : State) (a0 : Array Value) (hw : ∀ d ∈ tables_1, d.before a0 Z = true) (n0 : Nat) (h0 : Heap) (Z0 : n0 ≤ h0.size) (a a' b b' : Addr) (cz : Int32) (S : Sta Z h0 "java/lang/String" "COMPACT_STRINGS" "Z" (.int cz)) (ncz : ¬ cz = (0 : Int32)) (E : Exa Z h0 a "java/lang/String") (C : Fld Z h0 a "java/lang/String" "coder" "B" (.int 0)) (F : Fld Z h0 a "java/lang/String" "value" "[B" (.ref b)) (V : AA Z h0 b .byte [.int (97 : Int32), .int (100 : Int32), .int (109 : Int32), .int (105 : Int32), .int (110 : Int32)]) (E' : Exa Z h0 a' "java/lang/String") (C' : Fld Z h0 a' "java/lang/String" "coder" "B" (.int 0)) (F' : Fld Z h0 a' "java/lang/String" "value" "[B" (.ref b')) (V' : AA Z h0 b' .byte [.int (97 : Int32), .int (100 : Int32), .int (109 : Int32), .int (105 : Int32), .int (110 : Int32)]) :
    Met l Z n0 y5_equals jdk_42_method_66_code 3 (Option.some Jvm.ClassFile.FieldType.boolean) ({ frames := 1, cells := 0, slots := 0, locals := 14 } : Room) #[(.ref a), (.ref a')] h0 (fun v h => v = some (.int 1) ∧ h = h0) := by
  refine met_intro (own := c3_String) (plainFor_of_name pn_java_lang_String) rfl Z0 ?_
  intro p e s m below meth c T A hnm
  refine Wp.cast (g' := mkF m 0 #[rv a, rv a', U0] []) (by first | (simp [entryFrame, mkF, argsToLocals, Value.category, maxLocals, jv, S2, U0, iv, rv]; done) | rfl) ?_
  refine s_aloadN (pc' := 1) A d4_0 rfl rfl rfl ?_
  refine s_aloadN (pc' := 2) A d4_1 rfl rfl rfl ?_
  by_cases hne : a = a'
  ·
   subst hne
   refine Wp.stk (st' := [(.ref a), (.ref a)]) rfl ?_
   refine s_acmpN (pc' := 5) A d4_2 rfl rfl rfl (by simp [XT.acmp]) ?_
   refine s_iconst (pc' := 6) (z := (1 : Int32)) A d4_5 rfl (by decide) ?_
   exact r_bool A rfl (by decide) d4_6 (by decide) (by decide) (⟨rfl, rfl⟩)
  ·
   refine s_acmpY (pc' := 7) A d4_2 rfl rfl (by simp [XT.acmp, hne]) (by decide) (by decide) ?_
   refine s_aloadN (pc' := 8) A d4_7 rfl rfl rfl ?_
   refine s_instY (pc' := 11) A (w42 hw) (exa_ins E' (w43 hw)) d4_8 rfl fun T A => ?_
   refine s_ifN (pc' := 14) A d4_11 rfl (by decide) ?_
   refine s_aloadN (pc' := 15) A d4_14 rfl rfl rfl ?_
   refine s_castY (pc' := 18) A (w42 hw) (exa_ins E' (w43 hw)) d4_15 rfl fun T A => ?_
   refine s_astoreN (pc' := 19) (Ls' := #[rv a, rv a', rv a']) A d4_18 rfl rfl rfl ?_
   refine s_getstatic (pc' := 22) (host := "") A (Or.inl (w44 hw)) Via.refl S d4_19 rfl fun T A => ?_
   refine s_ifN (pc' := 25) A d4_22 rfl ((if0 _ _).trans (feq ncz).1) ?_
   refine s_aloadN (pc' := 26) A d4_25 rfl rfl rfl ?_
   refine s_getfield (pc' := 29) (host := "") A (Or.inl (w45 hw)) Via.refl C d4_26 rfl fun T A => ?_
   refine s_aloadN (pc' := 30) A d4_29 rfl rfl rfl ?_
   refine s_getfield (pc' := 33) (host := "") A (Or.inl (w45 hw)) Via.refl C' d4_30 rfl fun T A => ?_
   refine s_icmpN (pc' := 36) A d4_33 rfl (by decide) ?_
   refine s_aloadN (pc' := 37) A d4_36 rfl rfl rfl ?_
   refine s_getfield (pc' := 40) (host := "") A (Or.inl (w46 hw)) Via.refl F d4_37 rfl fun T A => ?_
   refine s_aloadN (pc' := 41) A d4_40 rfl rfl rfl ?_
   refine s_getfield (pc' := 44) (host := "") A (Or.inl (w46 hw)) Via.refl F' d4_41 rfl fun T A => ?_
   refine s_static (pc' := 47) (y := y4_equals) (argsL := [(.ref b), (.ref b')]) (rest := []) A (l1_22 l Z a0 hw n0 h0 A.size b b' V V') (w47 hw) (w48 hw) (w49 hw) (w50 hw) (by decide) pd___B_B_Z rfl (W := 0) (by decide) (by decide) (Nat.le_of_eq rfl) (by decide) (by decide) rfl rfl d4_44 rfl fun T h1 v2 A Q3 => ?_
   obtain ⟨rfl, eh⟩ := Q3
   rw [eh] at A
   refine Wp.stk (st' := [(.int (1 : Int32))]) rfl ?_
   refine s_ifN (pc' := 50) A d4_47 rfl (by decide) ?_
   refine s_iconst (pc' := 51) (z := (1 : Int32)) A d4_50 rfl (by decide) ?_
   refine s_goto (pc' := 55) A d4_51 (by decide) (by decide) ?_
   exact r_bool A rfl (by decide) d4_55 (by decide) (by decide) (⟨rfl, rfl⟩)
theorem own_k (x : Int32) : ((x &&& (2147483647 : Int32)) % (3 : Int32)) = 0 ∨ ((x &&& (2147483647 : Int32)) % (3 : Int32)) = 1 ∨ ((x &&& (2147483647 : Int32)) % (3 : Int32)) = 2 := by
  have _ := rng32 x
  have _ : (2147483647 : Int32).toInt = 2147483647 := (by decide)
  have _ := rng32 (x &&& (2147483647 : Int32))
  have _ : (x &&& (2147483647 : Int32)).toInt = x.toInt % 2147483648 := c_mask x (2147483647 : Int32) 31 (by decide) (by decide)
  have _ : (3 : Int32).toInt = 3 := (by decide)
  have _ := rng32 ((x &&& (2147483647 : Int32)) % (3 : Int32))
  have _ := c_irem (x &&& (2147483647 : Int32)) (3 : Int32) 3 (by decide)
  have q : ((x &&& (2147483647 : Int32)) % (3 : Int32)).toInt = 0 ∨ ((x &&& (2147483647 : Int32)) % (3 : Int32)).toInt = 1 ∨ ((x &&& (2147483647 : Int32)) % (3 : Int32)).toInt = 2 := by omega
  rcases q with q | q | q
  · exact Or.inl (Int32.toInt_inj.mp (q.trans (by decide)))
  · exact Or.inr (Or.inl (Int32.toInt_inj.mp (q.trans (by decide))))
  · exact Or.inr (Or.inr (Int32.toInt_inj.mp (q.trans (by decide))))
set_option maxRecDepth 65536 in
set_option maxHeartbeats 40000000 in
theorem rm0 (l : Launch) (Z : State) (a0 : Array Value) (hw : ∀ d ∈ tables_1, d.before a0 Z = true) (n0 : Nat) (h0 : Heap) (Z0 : n0 ≤ h0.size) (q0 q1 : Int32) (cz : Int32) (S_COMPACT_STRINGS : Sta Z h0 "java/lang/String" "COMPACT_STRINGS" "Z" (.int cz)) (ncz : ¬ cz = (0 : Int32)) (fv : Value) (hfv : fv.isRef = true) (S_SIOOBE_FORMATTER : Sta Z h0 "jdk/internal/util/Preconditions" "SIOOBE_FORMATTER" "Ljava/util/function/BiFunction;" fv) (z1 : Addr) (S_APPLICATION : Sta Z h0 "com/example/proctor/proctor/server/Holder$Role" "APPLICATION" "Lcom/example/proctor/proctor/server/Holder$Role;" (.ref z1)) (E_z1 : Exa Z h0 z1 "com/example/proctor/proctor/server/Holder$Role") (F_claim_z1 : Fld Z h0 z1 "com/example/proctor/proctor/server/Holder$Role" "claim" "Ljava/lang/String;" .null) (z2 : Addr) (S_ADMINISTRATOR : Sta Z h0 "com/example/proctor/proctor/server/Holder$Role" "ADMINISTRATOR" "Lcom/example/proctor/proctor/server/Holder$Role;" (.ref z2)) (E_z2 : Exa Z h0 z2 "com/example/proctor/proctor/server/Holder$Role") (z3 : Addr) (S_SUBJECT : Sta Z h0 "com/example/proctor/proctor/server/Holder$Role" "SUBJECT" "Lcom/example/proctor/proctor/server/Holder$Role;" (.ref z3)) (E_z3 : Exa Z h0 z3 "com/example/proctor/proctor/server/Holder$Role") (z4 : Addr) (F_claim_z2 : Fld Z h0 z2 "com/example/proctor/proctor/server/Holder$Role" "claim" "Ljava/lang/String;" (.ref z4)) (E_z4 : Exa Z h0 z4 "java/lang/String") (z5 : Addr) (F_claim_z3 : Fld Z h0 z3 "com/example/proctor/proctor/server/Holder$Role" "claim" "Ljava/lang/String;" (.ref z5)) (E_z5 : Exa Z h0 z5 "java/lang/String") (F_coder_z4 : Fld Z h0 z4 "java/lang/String" "coder" "B" (.int (0 : Int32))) (z6 : Addr) (F_value_z4 : Fld Z h0 z4 "java/lang/String" "value" "[B" (.ref z6)) (F_coder_z5 : Fld Z h0 z5 "java/lang/String" "coder" "B" (.int (0 : Int32))) (z7 : Addr) (F_value_z5 : Fld Z h0 z5 "java/lang/String" "value" "[B" (.ref z7)) (V_z6 : AA Z h0 z6 .byte [.int (97 : Int32), .int (100 : Int32), .int (109 : Int32), .int (105 : Int32), .int (110 : Int32)]) (V_z7 : AA Z h0 z7 .byte [.int (115 : Int32), .int (117 : Int32), .int (98 : Int32), .int (106 : Int32), .int (101 : Int32), .int (99 : Int32), .int (116 : Int32)]) :
    MetS l Z n0 x code maxLocals ret room_1 #[(.int q0), (.int q1)] h0 csts [] (fun v h vm => v = some (.int 1)) := by
  refine metS_intro (own := c0_RoleLabelPinLaw) (plainFor_of_name pn_com_example_proctor_proctor_server_RoleLabelPinLaw) rfl Z0 ?_
  intro p e s m below meth c T A B H hnm
  refine Wp.cast (g' := mkF m 0 #[iv q0, iv q1, U0, U0, U0, U0, U0, U0, U0, U0] []) (by first | (simp [entryFrame, mkF, argsToLocals, Value.category, maxLocals, jv, S2, U0, iv, rv]; done) | rfl) ?_
  refine s_iloadN (pc' := 1) A at_0 rfl rfl ?_
  refine s_ldcInt (pc' := 3) A at_1 rfl (w0 hw) ?_
  refine s_iand (pc' := 4) (z := (q0 &&& (2147483647 : Int32))) A at_3 rfl rfl ?_
  refine s_iconst (pc' := 5) (z := (3 : Int32)) A at_4 rfl (by decide) ?_
  obtain ⟨kkq0, hkkq0⟩ : ∃ z, z = ((q0 &&& (2147483647 : Int32)) % (3 : Int32)) := ⟨_, rfl⟩
  have ckq0 := own_k q0
  rw [← hkkq0] at ckq0
  rcases ckq0 with rfl | rfl | rfl
  ·
   refine s_irem (pc' := 6) (z := (0 : Int32)) A at_5 rfl (by decide) hkkq0.symm ?_
   refine s_istoreN (pc' := 7) (Ls' := #[iv q0, iv q1, iv 0, U0, U0, U0, U0, U0, U0, U0]) A at_6 rfl rfl ?_
   refine s_iloadN (pc' := 8) A at_7 rfl rfl ?_
   refine s_ldcInt (pc' := 10) A at_8 rfl (w0 hw) ?_
   refine s_iand (pc' := 11) (z := (q1 &&& (2147483647 : Int32))) A at_10 rfl rfl ?_
   refine s_iconst (pc' := 12) (z := (3 : Int32)) A at_11 rfl (by decide) ?_
   obtain ⟨kkq1, hkkq1⟩ : ∃ z, z = ((q1 &&& (2147483647 : Int32)) % (3 : Int32)) := ⟨_, rfl⟩
   have ckq1 := own_k q1
   rw [← hkkq1] at ckq1
   rcases ckq1 with rfl | rfl | rfl
   ·
    refine s_irem (pc' := 13) (z := (0 : Int32)) A at_12 rfl (by decide) hkkq1.symm ?_
    refine s_istoreN (pc' := 14) (Ls' := #[iv q0, iv q1, iv 0, iv 0, U0, U0, U0, U0, U0, U0]) A at_13 rfl rfl ?_
    refine s_iloadN (pc' := 15) A at_14 rfl rfl ?_
    refine s_static (pc' := 18) (y := y0_pick) (argsL := [(.int (0 : Int32))]) (rest := []) A (pick0 l Z a0 hw n0 h0 A.size z1 S_APPLICATION) (w1 hw) (w2 hw) (w3 hw) (w4 hw) (by decide) pd__I_Lcom_example_proctor_proctor_server_Holder_Role_ rfl (W := 0) (by decide) (by decide) (Nat.le_of_eq rfl) (by decide) (by decide) rfl rfl at_15 rfl fun T h1 v2 A Q3 => ?_
    obtain ⟨rfl, eh⟩ := Q3
    rw [eh] at A
    refine Wp.stk (st' := [(.ref z1)]) rfl ?_
    refine s_astore (pc' := 20) (Ls' := #[iv q0, iv q1, iv 0, iv 0, rv z1, U0, U0, U0, U0, U0]) A at_18 rfl rfl rfl ?_
    refine s_iloadN (pc' := 21) A at_20 rfl rfl ?_
    refine s_static (pc' := 24) (y := y0_pick) (argsL := [(.int (0 : Int32))]) (rest := []) A (pick0 l Z a0 hw n0 h0 A.size z1 S_APPLICATION) (w1 hw) (w2 hw) (w3 hw) (w4 hw) (by decide) pd__I_Lcom_example_proctor_proctor_server_Holder_Role_ rfl (W := 0) (by decide) (by decide) (Nat.le_of_eq rfl) (by decide) (by decide) rfl rfl at_21 rfl fun T h4 v5 A Q6 => ?_
    obtain ⟨rfl, eh⟩ := Q6
    rw [eh] at A
    refine Wp.stk (st' := [(.ref z1)]) rfl ?_
    refine s_astore (pc' := 26) (Ls' := #[iv q0, iv q1, iv 0, iv 0, rv z1, rv z1, U0, U0, U0, U0]) A at_24 rfl rfl rfl ?_
    refine s_aload (pc' := 28) A at_26 rfl rfl rfl ?_
    refine s_virtualS (pc' := 31) (y := y2_label) (argsL := []) (rest := []) (z := y2_label) A E_z1 B H (label0 l Z a0 hw n0 h0 A.size z1 F_claim_z1) (w8 hw) (w9 hw) (nf_same (C := "") (w11 hw)) (w11 hw) (w10 hw) (w6 hw) (w12 hw) (by decide) pd___Ljava_lang_String_ rfl (W := 0) (by decide) (by decide) (Nat.le_of_eq rfl) (by decide) (by decide) rfl rfl at_28 rfl fun s17 T h14 v15 A B Q16 => ?_
    obtain ⟨a7, b8, rfl, X9, E10, F11, F12, V13, H⟩ := Q16
    refine Wp.stk (st' := [(.ref a7)]) rfl ?_
    refine s_astore (pc' := 33) (Ls' := #[iv q0, iv q1, iv 0, iv 0, rv z1, rv z1, rv a7, U0, U0, U0]) A at_31 rfl rfl rfl ?_
    refine s_aload (pc' := 35) A at_33 rfl rfl rfl ?_
    have F18 := (F_claim_z1.ext X9)
    have E30 := (E_z1.ext X9)
    refine s_virtualS (pc' := 38) (y := y2_label) (argsL := []) (rest := []) (z := y2_label) A E30 B H (label0 l Z a0 hw n0 h14 A.size z1 F18) (w8 hw) (w9 hw) (nf_same (C := "") (w11 hw)) (w11 hw) (w10 hw) (w6 hw) (w12 hw) (by decide) pd___Ljava_lang_String_ rfl (W := 0) (by decide) (by decide) (Nat.le_of_eq rfl) (by decide) (by decide) rfl rfl at_35 rfl fun s29 T h26 v27 A B Q28 => ?_
    obtain ⟨a19, b20, rfl, X21, E22, F23, F24, V25, H⟩ := Q28
    refine Wp.stk (st' := [(.ref a19)]) rfl ?_
    refine s_astore (pc' := 40) (Ls' := #[iv q0, iv q1, iv 0, iv 0, rv z1, rv z1, rv a7, rv a19, U0, U0]) A at_38 rfl rfl rfl ?_
    refine s_aload (pc' := 42) A at_40 rfl rfl rfl ?_
    refine s_ifnullN (pc' := 45) A at_42 rfl ?_
    refine s_aload (pc' := 47) A at_45 rfl rfl rfl ?_
    refine s_ifnonnullY (pc' := 52) A at_47 (by decide) (by decide) ?_
    refine s_aload (pc' := 54) A at_52 rfl rfl rfl ?_
    refine s_iloadN (pc' := 55) A at_54 rfl rfl ?_
    refine s_staticS (pc' := 58) (y := y1_expected) (argsL := [(.int (0 : Int32))]) (rest := [(.ref a7)]) A B H (exp0 l Z a0 hw n0 h26 A.size) (w23 hw) (w24 hw) (w3 hw) (w25 hw) (by decide) pd__I_Ljava_lang_String_ rfl (W := 1) (by decide) (by decide) (Nat.le_of_eq rfl) (by decide) (by decide) rfl rfl at_55 rfl fun s41 T h38 v39 A B Q40 => ?_
    obtain ⟨a31, b32, rfl, X33, E34, F35, F36, V37, H⟩ := Q40
    refine Wp.stk (st' := [(.ref a31), (.ref a7)]) rfl ?_
    have S42 := (((S_COMPACT_STRINGS.ext X9).ext X21).ext X33)
    have E43 := ((E10.ext X21).ext X33)
    have F44 := ((F11.ext X21).ext X33)
    have F45 := ((F12.ext X21).ext X33)
    have V46 := ((V13.ext X21).ext X33)
    refine s_virtual (pc' := 61) (y := y5_equals) (argsL := [(.ref a31)]) (rest := []) (z := y5_equals) A E43 (eq_00 l Z a0 hw n0 h38 A.size a7 a31 b8 b32 cz S42 ncz E43 F44 F45 V46 E34 F35 F36 V37) (w27 hw) (w28 hw) (nf_same (C := "") (w30 hw)) (w30 hw) (w29 hw) (w16 hw) (w31 hw) (by decide) pd__Ljava_lang_Object__Z rfl (W := 0) (by decide) (by decide) (Nat.le_of_eq rfl) (by decide) (by decide) rfl rfl at_58 rfl fun T h47 v48 A Q49 => ?_
    obtain ⟨rfl, eh⟩ := Q49
    rw [eh] at A
    refine Wp.stk (st' := [(.int (1 : Int32))]) rfl ?_
    refine s_ifY (pc' := 66) A at_61 (by decide) (by decide) (by decide) ?_
    refine s_aload (pc' := 68) A at_66 rfl rfl rfl ?_
    have F50 := ((F18.ext X21).ext X33)
    have E54 := ((E30.ext X21).ext X33)
    refine s_virtual (pc' := 71) (y := y3_claim) (argsL := []) (rest := []) (z := y3_claim) A E54 (claim0 l Z a0 hw n0 h38 A.size z1 z1 F50) (w32 hw) (w33 hw) (nf_same (C := "") (w35 hw)) (w35 hw) (w34 hw) (w6 hw) (w36 hw) (by decide) pd___Ljava_lang_String_ rfl (W := 0) (by decide) (by decide) (Nat.le_of_eq rfl) (by decide) (by decide) rfl rfl at_68 rfl fun T h51 v52 A Q53 => ?_
    obtain ⟨rfl, eh⟩ := Q53
    rw [eh] at A
    refine Wp.stk (st' := [.null]) rfl ?_
    refine s_astore (pc' := 73) (Ls' := #[iv q0, iv q1, iv 0, iv 0, rv z1, rv z1, rv a7, rv a19, .val .null, U0]) A at_71 rfl rfl rfl ?_
    refine s_aload (pc' := 75) A at_73 rfl rfl rfl ?_
    refine s_ifnonnullN (pc' := 78) A at_75 rfl ?_
    refine s_aload (pc' := 80) A at_78 rfl rfl rfl ?_
    refine s_ldcS (pc' := 82) (i := 19) (nn := 44) A B H (List.mem_of_getElem? (i := 1) rfl) (satoms hw) tx1 tx1n (by decide) (by decide) (by decide) at_80 rfl fun s55 T h56 a57 b58 A B H X59 E60 F61 F62 V63 na64 nb65 => ?_
    have S66 := (S42.ext X59)
    have E67 := (E43.ext X59)
    have F68 := (F44.ext X59)
    have F69 := (F45.ext X59)
    have V70 := (V46.ext X59)
    refine s_virtual (pc' := 85) (y := y5_equals) (argsL := [(.ref a57)]) (rest := []) (z := y5_equals) A E67 (eq_00 l Z a0 hw n0 h56 A.size a7 a57 b8 b58 cz S66 ncz E67 F68 F69 V70 E60 F61 F62 V63) (w27 hw) (w28 hw) (nf_same (C := "") (w30 hw)) (w30 hw) (w29 hw) (w16 hw) (w31 hw) (by decide) pd__Ljava_lang_Object__Z rfl (W := 0) (by decide) (by decide) (Nat.le_of_eq rfl) (by decide) (by decide) rfl rfl at_82 rfl fun T h71 v72 A Q73 => ?_
    obtain ⟨rfl, eh⟩ := Q73
    rw [eh] at A
    refine Wp.stk (st' := [(.int (1 : Int32))]) rfl ?_
    refine s_goto (pc' := 95) A at_85 (by decide) (by decide) ?_
    refine s_istore (pc' := 97) (Ls' := #[iv q0, iv q1, iv 0, iv 0, rv z1, rv z1, rv a7, rv a19, .val .null, iv 1]) A at_95 rfl rfl ?_
    refine s_iload (pc' := 99) A at_97 rfl rfl ?_
    refine s_ifY (pc' := 104) A at_99 (by decide) (by decide) (by decide) ?_
    refine s_iloadN (pc' := 105) A at_104 rfl rfl ?_
    refine s_iloadN (pc' := 106) A at_105 rfl rfl ?_
    refine s_icmpN (pc' := 109) A at_106 rfl (by decide) ?_
    refine s_iconst (pc' := 110) (z := (1 : Int32)) A at_109 rfl (by decide) ?_
    refine s_goto (pc' := 114) A at_110 (by decide) (by decide) ?_
    refine s_aload (pc' := 116) A at_114 rfl rfl rfl ?_
    refine s_aload (pc' := 118) A at_116 rfl rfl rfl ?_
    have E74 := ((E22.ext X33).ext X59)
    have F75 := ((F23.ext X33).ext X59)
    have F76 := ((F24.ext X33).ext X59)
    have V77 := ((V25.ext X33).ext X59)
    refine s_virtual (pc' := 121) (y := y5_equals) (argsL := [(.ref a19)]) (rest := [(.int (1 : Int32))]) (z := y5_equals) A E67 (eq_00 l Z a0 hw n0 h56 A.size a7 a19 b8 b20 cz S66 ncz E67 F68 F69 V70 E74 F75 F76 V77) (w27 hw) (w28 hw) (nf_same (C := "") (w30 hw)) (w30 hw) (w29 hw) (w16 hw) (w31 hw) (by decide) pd__Ljava_lang_Object__Z rfl (W := 1) (by decide) (by decide) (Nat.le_of_eq rfl) (by decide) (by decide) rfl rfl at_118 rfl fun T h78 v79 A Q80 => ?_
    obtain ⟨rfl, eh⟩ := Q80
    rw [eh] at A
    refine Wp.stk (st' := [(.int (1 : Int32)), (.int (1 : Int32))]) rfl ?_
    refine s_icmpN (pc' := 124) A at_121 rfl (by decide) ?_
    refine s_iconst (pc' := 125) (z := (1 : Int32)) A at_124 rfl (by decide) ?_
    refine s_goto (pc' := 129) A at_125 (by decide) (by decide) ?_
    exact rS_bool A B rfl (by decide) at_129 (by decide) (by decide) (fun vm hv => rfl)
   ·
    refine s_irem (pc' := 13) (z := (1 : Int32)) A at_12 rfl (by decide) hkkq1.symm ?_
    refine s_istoreN (pc' := 14) (Ls' := #[iv q0, iv q1, iv 0, iv 1, U0, U0, U0, U0, U0, U0]) A at_13 rfl rfl ?_
    refine s_iloadN (pc' := 15) A at_14 rfl rfl ?_
    refine s_static (pc' := 18) (y := y0_pick) (argsL := [(.int (0 : Int32))]) (rest := []) A (pick0 l Z a0 hw n0 h0 A.size z1 S_APPLICATION) (w1 hw) (w2 hw) (w3 hw) (w4 hw) (by decide) pd__I_Lcom_example_proctor_proctor_server_Holder_Role_ rfl (W := 0) (by decide) (by decide) (Nat.le_of_eq rfl) (by decide) (by decide) rfl rfl at_15 rfl fun T h81 v82 A Q83 => ?_
    obtain ⟨rfl, eh⟩ := Q83
    rw [eh] at A
    refine Wp.stk (st' := [(.ref z1)]) rfl ?_
    refine s_astore (pc' := 20) (Ls' := #[iv q0, iv q1, iv 0, iv 1, rv z1, U0, U0, U0, U0, U0]) A at_18 rfl rfl rfl ?_
    refine s_iloadN (pc' := 21) A at_20 rfl rfl ?_
    refine s_static (pc' := 24) (y := y0_pick) (argsL := [(.int (1 : Int32))]) (rest := []) A (pick1 l Z a0 hw n0 h0 A.size z3 S_SUBJECT) (w1 hw) (w2 hw) (w3 hw) (w4 hw) (by decide) pd__I_Lcom_example_proctor_proctor_server_Holder_Role_ rfl (W := 0) (by decide) (by decide) (Nat.le_of_eq rfl) (by decide) (by decide) rfl rfl at_21 rfl fun T h84 v85 A Q86 => ?_
    obtain ⟨rfl, eh⟩ := Q86
    rw [eh] at A
    refine Wp.stk (st' := [(.ref z3)]) rfl ?_
    refine s_astore (pc' := 26) (Ls' := #[iv q0, iv q1, iv 0, iv 1, rv z1, rv z3, U0, U0, U0, U0]) A at_24 rfl rfl rfl ?_
    refine s_aload (pc' := 28) A at_26 rfl rfl rfl ?_
    refine s_virtualS (pc' := 31) (y := y2_label) (argsL := []) (rest := []) (z := y2_label) A E_z1 B H (label0 l Z a0 hw n0 h0 A.size z1 F_claim_z1) (w8 hw) (w9 hw) (nf_same (C := "") (w11 hw)) (w11 hw) (w10 hw) (w6 hw) (w12 hw) (by decide) pd___Ljava_lang_String_ rfl (W := 0) (by decide) (by decide) (Nat.le_of_eq rfl) (by decide) (by decide) rfl rfl at_28 rfl fun s97 T h94 v95 A B Q96 => ?_
    obtain ⟨a87, b88, rfl, X89, E90, F91, F92, V93, H⟩ := Q96
    refine Wp.stk (st' := [(.ref a87)]) rfl ?_
    refine s_astore (pc' := 33) (Ls' := #[iv q0, iv q1, iv 0, iv 1, rv z1, rv z3, rv a87, U0, U0, U0]) A at_31 rfl rfl rfl ?_
    refine s_aload (pc' := 35) A at_33 rfl rfl rfl ?_
    have F98 := (F_claim_z3.ext X89)
    have E102 := (E_z3.ext X89)
    refine s_virtual (pc' := 38) (y := y2_label) (argsL := []) (rest := []) (z := y2_label) A E102 (label1 l Z a0 hw n0 h94 A.size z3 z5 F98) (w8 hw) (w9 hw) (nf_same (C := "") (w11 hw)) (w11 hw) (w10 hw) (w6 hw) (w12 hw) (by decide) pd___Ljava_lang_String_ rfl (W := 0) (by decide) (by decide) (Nat.le_of_eq rfl) (by decide) (by decide) rfl rfl at_35 rfl fun T h99 v100 A Q101 => ?_
    obtain ⟨rfl, eh⟩ := Q101
    rw [eh] at A
    refine Wp.stk (st' := [(.ref z5)]) rfl ?_
    refine s_astore (pc' := 40) (Ls' := #[iv q0, iv q1, iv 0, iv 1, rv z1, rv z3, rv a87, rv z5, U0, U0]) A at_38 rfl rfl rfl ?_
    refine s_aload (pc' := 42) A at_40 rfl rfl rfl ?_
    refine s_ifnullN (pc' := 45) A at_42 rfl ?_
    refine s_aload (pc' := 47) A at_45 rfl rfl rfl ?_
    refine s_ifnonnullY (pc' := 52) A at_47 (by decide) (by decide) ?_
    refine s_aload (pc' := 54) A at_52 rfl rfl rfl ?_
    refine s_iloadN (pc' := 55) A at_54 rfl rfl ?_
    refine s_staticS (pc' := 58) (y := y1_expected) (argsL := [(.int (0 : Int32))]) (rest := [(.ref a87)]) A B H (exp0 l Z a0 hw n0 h94 A.size) (w23 hw) (w24 hw) (w3 hw) (w25 hw) (by decide) pd__I_Ljava_lang_String_ rfl (W := 1) (by decide) (by decide) (Nat.le_of_eq rfl) (by decide) (by decide) rfl rfl at_55 rfl fun s113 T h110 v111 A B Q112 => ?_
    obtain ⟨a103, b104, rfl, X105, E106, F107, F108, V109, H⟩ := Q112
    refine Wp.stk (st' := [(.ref a103), (.ref a87)]) rfl ?_
    have S114 := ((S_COMPACT_STRINGS.ext X89).ext X105)
    have E115 := (E90.ext X105)
    have F116 := (F91.ext X105)
    have F117 := (F92.ext X105)
    have V118 := (V93.ext X105)
    refine s_virtual (pc' := 61) (y := y5_equals) (argsL := [(.ref a103)]) (rest := []) (z := y5_equals) A E115 (eq_00 l Z a0 hw n0 h110 A.size a87 a103 b88 b104 cz S114 ncz E115 F116 F117 V118 E106 F107 F108 V109) (w27 hw) (w28 hw) (nf_same (C := "") (w30 hw)) (w30 hw) (w29 hw) (w16 hw) (w31 hw) (by decide) pd__Ljava_lang_Object__Z rfl (W := 0) (by decide) (by decide) (Nat.le_of_eq rfl) (by decide) (by decide) rfl rfl at_58 rfl fun T h119 v120 A Q121 => ?_
    obtain ⟨rfl, eh⟩ := Q121
    rw [eh] at A
    refine Wp.stk (st' := [(.int (1 : Int32))]) rfl ?_
    refine s_ifY (pc' := 66) A at_61 (by decide) (by decide) (by decide) ?_
    refine s_aload (pc' := 68) A at_66 rfl rfl rfl ?_
    have F122 := ((F_claim_z1.ext X89).ext X105)
    have E126 := ((E_z1.ext X89).ext X105)
    refine s_virtual (pc' := 71) (y := y3_claim) (argsL := []) (rest := []) (z := y3_claim) A E126 (claim0 l Z a0 hw n0 h110 A.size z1 z1 F122) (w32 hw) (w33 hw) (nf_same (C := "") (w35 hw)) (w35 hw) (w34 hw) (w6 hw) (w36 hw) (by decide) pd___Ljava_lang_String_ rfl (W := 0) (by decide) (by decide) (Nat.le_of_eq rfl) (by decide) (by decide) rfl rfl at_68 rfl fun T h123 v124 A Q125 => ?_
    obtain ⟨rfl, eh⟩ := Q125
    rw [eh] at A
    refine Wp.stk (st' := [.null]) rfl ?_
    refine s_astore (pc' := 73) (Ls' := #[iv q0, iv q1, iv 0, iv 1, rv z1, rv z3, rv a87, rv z5, .val .null, U0]) A at_71 rfl rfl rfl ?_
    refine s_aload (pc' := 75) A at_73 rfl rfl rfl ?_
    refine s_ifnonnullN (pc' := 78) A at_75 rfl ?_
    refine s_aload (pc' := 80) A at_78 rfl rfl rfl ?_
    refine s_ldcS (pc' := 82) (i := 19) (nn := 44) A B H (List.mem_of_getElem? (i := 1) rfl) (satoms hw) tx1 tx1n (by decide) (by decide) (by decide) at_80 rfl fun s127 T h128 a129 b130 A B H X131 E132 F133 F134 V135 na136 nb137 => ?_
    have S138 := (S114.ext X131)
    have E139 := (E115.ext X131)
    have F140 := (F116.ext X131)
    have F141 := (F117.ext X131)
    have V142 := (V118.ext X131)
    refine s_virtual (pc' := 85) (y := y5_equals) (argsL := [(.ref a129)]) (rest := []) (z := y5_equals) A E139 (eq_00 l Z a0 hw n0 h128 A.size a87 a129 b88 b130 cz S138 ncz E139 F140 F141 V142 E132 F133 F134 V135) (w27 hw) (w28 hw) (nf_same (C := "") (w30 hw)) (w30 hw) (w29 hw) (w16 hw) (w31 hw) (by decide) pd__Ljava_lang_Object__Z rfl (W := 0) (by decide) (by decide) (Nat.le_of_eq rfl) (by decide) (by decide) rfl rfl at_82 rfl fun T h143 v144 A Q145 => ?_
    obtain ⟨rfl, eh⟩ := Q145
    rw [eh] at A
    refine Wp.stk (st' := [(.int (1 : Int32))]) rfl ?_
    refine s_goto (pc' := 95) A at_85 (by decide) (by decide) ?_
    refine s_istore (pc' := 97) (Ls' := #[iv q0, iv q1, iv 0, iv 1, rv z1, rv z3, rv a87, rv z5, .val .null, iv 1]) A at_95 rfl rfl ?_
    refine s_iload (pc' := 99) A at_97 rfl rfl ?_
    refine s_ifY (pc' := 104) A at_99 (by decide) (by decide) (by decide) ?_
    refine s_iloadN (pc' := 105) A at_104 rfl rfl ?_
    refine s_iloadN (pc' := 106) A at_105 rfl rfl ?_
    refine s_icmpY (pc' := 113) A at_106 (by decide) (by decide) (by decide) ?_
    refine s_iconst (pc' := 114) (z := (0 : Int32)) A at_113 rfl (by decide) ?_
    refine s_aload (pc' := 116) A at_114 rfl rfl rfl ?_
    refine s_aload (pc' := 118) A at_116 rfl rfl rfl ?_
    have E146 := (((E_z5.ext X89).ext X105).ext X131)
    have F147 := (((F_coder_z5.ext X89).ext X105).ext X131)
    have F148 := (((F_value_z5.ext X89).ext X105).ext X131)
    have V149 := (((V_z7.ext X89).ext X105).ext X131)
    refine s_virtual (pc' := 121) (y := y5_equals) (argsL := [(.ref z5)]) (rest := [(.int (0 : Int32))]) (z := y5_equals) A E139 (eq_01 l Z a0 hw n0 h128 A.size a87 z5 b88 z7 cz S138 ncz E139 F140 F141 V142 E146 F147 F148 V149) (w27 hw) (w28 hw) (nf_same (C := "") (w30 hw)) (w30 hw) (w29 hw) (w16 hw) (w31 hw) (by decide) pd__Ljava_lang_Object__Z rfl (W := 1) (by decide) (by decide) (Nat.le_of_eq rfl) (by decide) (by decide) rfl rfl at_118 rfl fun T h150 v151 A Q152 => ?_
    obtain ⟨rfl, eh⟩ := Q152
    rw [eh] at A
    refine Wp.stk (st' := [(.int (0 : Int32)), (.int (0 : Int32))]) rfl ?_
    refine s_icmpN (pc' := 124) A at_121 rfl (by decide) ?_
    refine s_iconst (pc' := 125) (z := (1 : Int32)) A at_124 rfl (by decide) ?_
    refine s_goto (pc' := 129) A at_125 (by decide) (by decide) ?_
    exact rS_bool A B rfl (by decide) at_129 (by decide) (by decide) (fun vm hv => rfl)
   ·
    refine s_irem (pc' := 13) (z := (2 : Int32)) A at_12 rfl (by decide) hkkq1.symm ?_
    refine s_istoreN (pc' := 14) (Ls' := #[iv q0, iv q1, iv 0, iv 2, U0, U0, U0, U0, U0, U0]) A at_13 rfl rfl ?_
    refine s_iloadN (pc' := 15) A at_14 rfl rfl ?_
    refine s_static (pc' := 18) (y := y0_pick) (argsL := [(.int (0 : Int32))]) (rest := []) A (pick0 l Z a0 hw n0 h0 A.size z1 S_APPLICATION) (w1 hw) (w2 hw) (w3 hw) (w4 hw) (by decide) pd__I_Lcom_example_proctor_proctor_server_Holder_Role_ rfl (W := 0) (by decide) (by decide) (Nat.le_of_eq rfl) (by decide) (by decide) rfl rfl at_15 rfl fun T h153 v154 A Q155 => ?_
    obtain ⟨rfl, eh⟩ := Q155
    rw [eh] at A
    refine Wp.stk (st' := [(.ref z1)]) rfl ?_
    refine s_astore (pc' := 20) (Ls' := #[iv q0, iv q1, iv 0, iv 2, rv z1, U0, U0, U0, U0, U0]) A at_18 rfl rfl rfl ?_
    refine s_iloadN (pc' := 21) A at_20 rfl rfl ?_
    refine s_static (pc' := 24) (y := y0_pick) (argsL := [(.int (2 : Int32))]) (rest := []) A (pick2 l Z a0 hw n0 h0 A.size z2 S_ADMINISTRATOR) (w1 hw) (w2 hw) (w3 hw) (w4 hw) (by decide) pd__I_Lcom_example_proctor_proctor_server_Holder_Role_ rfl (W := 0) (by decide) (by decide) (Nat.le_of_eq rfl) (by decide) (by decide) rfl rfl at_21 rfl fun T h156 v157 A Q158 => ?_
    obtain ⟨rfl, eh⟩ := Q158
    rw [eh] at A
    refine Wp.stk (st' := [(.ref z2)]) rfl ?_
    refine s_astore (pc' := 26) (Ls' := #[iv q0, iv q1, iv 0, iv 2, rv z1, rv z2, U0, U0, U0, U0]) A at_24 rfl rfl rfl ?_
    refine s_aload (pc' := 28) A at_26 rfl rfl rfl ?_
    refine s_virtualS (pc' := 31) (y := y2_label) (argsL := []) (rest := []) (z := y2_label) A E_z1 B H (label0 l Z a0 hw n0 h0 A.size z1 F_claim_z1) (w8 hw) (w9 hw) (nf_same (C := "") (w11 hw)) (w11 hw) (w10 hw) (w6 hw) (w12 hw) (by decide) pd___Ljava_lang_String_ rfl (W := 0) (by decide) (by decide) (Nat.le_of_eq rfl) (by decide) (by decide) rfl rfl at_28 rfl fun s169 T h166 v167 A B Q168 => ?_
    obtain ⟨a159, b160, rfl, X161, E162, F163, F164, V165, H⟩ := Q168
    refine Wp.stk (st' := [(.ref a159)]) rfl ?_
    refine s_astore (pc' := 33) (Ls' := #[iv q0, iv q1, iv 0, iv 2, rv z1, rv z2, rv a159, U0, U0, U0]) A at_31 rfl rfl rfl ?_
    refine s_aload (pc' := 35) A at_33 rfl rfl rfl ?_
    have F170 := (F_claim_z2.ext X161)
    have E174 := (E_z2.ext X161)
    refine s_virtual (pc' := 38) (y := y2_label) (argsL := []) (rest := []) (z := y2_label) A E174 (label1 l Z a0 hw n0 h166 A.size z2 z4 F170) (w8 hw) (w9 hw) (nf_same (C := "") (w11 hw)) (w11 hw) (w10 hw) (w6 hw) (w12 hw) (by decide) pd___Ljava_lang_String_ rfl (W := 0) (by decide) (by decide) (Nat.le_of_eq rfl) (by decide) (by decide) rfl rfl at_35 rfl fun T h171 v172 A Q173 => ?_
    obtain ⟨rfl, eh⟩ := Q173
    rw [eh] at A
    refine Wp.stk (st' := [(.ref z4)]) rfl ?_
    refine s_astore (pc' := 40) (Ls' := #[iv q0, iv q1, iv 0, iv 2, rv z1, rv z2, rv a159, rv z4, U0, U0]) A at_38 rfl rfl rfl ?_
    refine s_aload (pc' := 42) A at_40 rfl rfl rfl ?_
    refine s_ifnullN (pc' := 45) A at_42 rfl ?_
    refine s_aload (pc' := 47) A at_45 rfl rfl rfl ?_
    refine s_ifnonnullY (pc' := 52) A at_47 (by decide) (by decide) ?_
    refine s_aload (pc' := 54) A at_52 rfl rfl rfl ?_
    refine s_iloadN (pc' := 55) A at_54 rfl rfl ?_
    refine s_staticS (pc' := 58) (y := y1_expected) (argsL := [(.int (0 : Int32))]) (rest := [(.ref a159)]) A B H (exp0 l Z a0 hw n0 h166 A.size) (w23 hw) (w24 hw) (w3 hw) (w25 hw) (by decide) pd__I_Ljava_lang_String_ rfl (W := 1) (by decide) (by decide) (Nat.le_of_eq rfl) (by decide) (by decide) rfl rfl at_55 rfl fun s185 T h182 v183 A B Q184 => ?_
    obtain ⟨a175, b176, rfl, X177, E178, F179, F180, V181, H⟩ := Q184
    refine Wp.stk (st' := [(.ref a175), (.ref a159)]) rfl ?_
    have S186 := ((S_COMPACT_STRINGS.ext X161).ext X177)
    have E187 := (E162.ext X177)
    have F188 := (F163.ext X177)
    have F189 := (F164.ext X177)
    have V190 := (V165.ext X177)
    refine s_virtual (pc' := 61) (y := y5_equals) (argsL := [(.ref a175)]) (rest := []) (z := y5_equals) A E187 (eq_00 l Z a0 hw n0 h182 A.size a159 a175 b160 b176 cz S186 ncz E187 F188 F189 V190 E178 F179 F180 V181) (w27 hw) (w28 hw) (nf_same (C := "") (w30 hw)) (w30 hw) (w29 hw) (w16 hw) (w31 hw) (by decide) pd__Ljava_lang_Object__Z rfl (W := 0) (by decide) (by decide) (Nat.le_of_eq rfl) (by decide) (by decide) rfl rfl at_58 rfl fun T h191 v192 A Q193 => ?_
    obtain ⟨rfl, eh⟩ := Q193
    rw [eh] at A
    refine Wp.stk (st' := [(.int (1 : Int32))]) rfl ?_
    refine s_ifY (pc' := 66) A at_61 (by decide) (by decide) (by decide) ?_
    refine s_aload (pc' := 68) A at_66 rfl rfl rfl ?_
    have F194 := ((F_claim_z1.ext X161).ext X177)
    have E198 := ((E_z1.ext X161).ext X177)
    refine s_virtual (pc' := 71) (y := y3_claim) (argsL := []) (rest := []) (z := y3_claim) A E198 (claim0 l Z a0 hw n0 h182 A.size z1 z1 F194) (w32 hw) (w33 hw) (nf_same (C := "") (w35 hw)) (w35 hw) (w34 hw) (w6 hw) (w36 hw) (by decide) pd___Ljava_lang_String_ rfl (W := 0) (by decide) (by decide) (Nat.le_of_eq rfl) (by decide) (by decide) rfl rfl at_68 rfl fun T h195 v196 A Q197 => ?_
    obtain ⟨rfl, eh⟩ := Q197
    rw [eh] at A
    refine Wp.stk (st' := [.null]) rfl ?_
    refine s_astore (pc' := 73) (Ls' := #[iv q0, iv q1, iv 0, iv 2, rv z1, rv z2, rv a159, rv z4, .val .null, U0]) A at_71 rfl rfl rfl ?_
    refine s_aload (pc' := 75) A at_73 rfl rfl rfl ?_
    refine s_ifnonnullN (pc' := 78) A at_75 rfl ?_
    refine s_aload (pc' := 80) A at_78 rfl rfl rfl ?_
    refine s_ldcS (pc' := 82) (i := 19) (nn := 44) A B H (List.mem_of_getElem? (i := 1) rfl) (satoms hw) tx1 tx1n (by decide) (by decide) (by decide) at_80 rfl fun s199 T h200 a201 b202 A B H X203 E204 F205 F206 V207 na208 nb209 => ?_
    have S210 := (S186.ext X203)
    have E211 := (E187.ext X203)
    have F212 := (F188.ext X203)
    have F213 := (F189.ext X203)
    have V214 := (V190.ext X203)
    refine s_virtual (pc' := 85) (y := y5_equals) (argsL := [(.ref a201)]) (rest := []) (z := y5_equals) A E211 (eq_00 l Z a0 hw n0 h200 A.size a159 a201 b160 b202 cz S210 ncz E211 F212 F213 V214 E204 F205 F206 V207) (w27 hw) (w28 hw) (nf_same (C := "") (w30 hw)) (w30 hw) (w29 hw) (w16 hw) (w31 hw) (by decide) pd__Ljava_lang_Object__Z rfl (W := 0) (by decide) (by decide) (Nat.le_of_eq rfl) (by decide) (by decide) rfl rfl at_82 rfl fun T h215 v216 A Q217 => ?_
    obtain ⟨rfl, eh⟩ := Q217
    rw [eh] at A
    refine Wp.stk (st' := [(.int (1 : Int32))]) rfl ?_
    refine s_goto (pc' := 95) A at_85 (by decide) (by decide) ?_
    refine s_istore (pc' := 97) (Ls' := #[iv q0, iv q1, iv 0, iv 2, rv z1, rv z2, rv a159, rv z4, .val .null, iv 1]) A at_95 rfl rfl ?_
    refine s_iload (pc' := 99) A at_97 rfl rfl ?_
    refine s_ifY (pc' := 104) A at_99 (by decide) (by decide) (by decide) ?_
    refine s_iloadN (pc' := 105) A at_104 rfl rfl ?_
    refine s_iloadN (pc' := 106) A at_105 rfl rfl ?_
    refine s_icmpY (pc' := 113) A at_106 (by decide) (by decide) (by decide) ?_
    refine s_iconst (pc' := 114) (z := (0 : Int32)) A at_113 rfl (by decide) ?_
    refine s_aload (pc' := 116) A at_114 rfl rfl rfl ?_
    refine s_aload (pc' := 118) A at_116 rfl rfl rfl ?_
    have E218 := (((E_z4.ext X161).ext X177).ext X203)
    have F219 := (((F_coder_z4.ext X161).ext X177).ext X203)
    have F220 := (((F_value_z4.ext X161).ext X177).ext X203)
    have V221 := (((V_z6.ext X161).ext X177).ext X203)
    refine s_virtual (pc' := 121) (y := y5_equals) (argsL := [(.ref z4)]) (rest := [(.int (0 : Int32))]) (z := y5_equals) A E211 (eq_02 l Z a0 hw n0 h200 A.size a159 z4 b160 z6 cz S210 ncz E211 F212 F213 V214 E218 F219 F220 V221) (w27 hw) (w28 hw) (nf_same (C := "") (w30 hw)) (w30 hw) (w29 hw) (w16 hw) (w31 hw) (by decide) pd__Ljava_lang_Object__Z rfl (W := 1) (by decide) (by decide) (Nat.le_of_eq rfl) (by decide) (by decide) rfl rfl at_118 rfl fun T h222 v223 A Q224 => ?_
    obtain ⟨rfl, eh⟩ := Q224
    rw [eh] at A
    refine Wp.stk (st' := [(.int (0 : Int32)), (.int (0 : Int32))]) rfl ?_
    refine s_icmpN (pc' := 124) A at_121 rfl (by decide) ?_
    refine s_iconst (pc' := 125) (z := (1 : Int32)) A at_124 rfl (by decide) ?_
    refine s_goto (pc' := 129) A at_125 (by decide) (by decide) ?_
    exact rS_bool A B rfl (by decide) at_129 (by decide) (by decide) (fun vm hv => rfl)
  ·
   refine s_irem (pc' := 6) (z := (1 : Int32)) A at_5 rfl (by decide) hkkq0.symm ?_
   refine s_istoreN (pc' := 7) (Ls' := #[iv q0, iv q1, iv 1, U0, U0, U0, U0, U0, U0, U0]) A at_6 rfl rfl ?_
   refine s_iloadN (pc' := 8) A at_7 rfl rfl ?_
   refine s_ldcInt (pc' := 10) A at_8 rfl (w0 hw) ?_
   refine s_iand (pc' := 11) (z := (q1 &&& (2147483647 : Int32))) A at_10 rfl rfl ?_
   refine s_iconst (pc' := 12) (z := (3 : Int32)) A at_11 rfl (by decide) ?_
   obtain ⟨kkq1, hkkq1⟩ : ∃ z, z = ((q1 &&& (2147483647 : Int32)) % (3 : Int32)) := ⟨_, rfl⟩
   have ckq1 := own_k q1
   rw [← hkkq1] at ckq1
   rcases ckq1 with rfl | rfl | rfl
   ·
    refine s_irem (pc' := 13) (z := (0 : Int32)) A at_12 rfl (by decide) hkkq1.symm ?_
    refine s_istoreN (pc' := 14) (Ls' := #[iv q0, iv q1, iv 1, iv 0, U0, U0, U0, U0, U0, U0]) A at_13 rfl rfl ?_
    refine s_iloadN (pc' := 15) A at_14 rfl rfl ?_
    refine s_static (pc' := 18) (y := y0_pick) (argsL := [(.int (1 : Int32))]) (rest := []) A (pick1 l Z a0 hw n0 h0 A.size z3 S_SUBJECT) (w1 hw) (w2 hw) (w3 hw) (w4 hw) (by decide) pd__I_Lcom_example_proctor_proctor_server_Holder_Role_ rfl (W := 0) (by decide) (by decide) (Nat.le_of_eq rfl) (by decide) (by decide) rfl rfl at_15 rfl fun T h225 v226 A Q227 => ?_
    obtain ⟨rfl, eh⟩ := Q227
    rw [eh] at A
    refine Wp.stk (st' := [(.ref z3)]) rfl ?_
    refine s_astore (pc' := 20) (Ls' := #[iv q0, iv q1, iv 1, iv 0, rv z3, U0, U0, U0, U0, U0]) A at_18 rfl rfl rfl ?_
    refine s_iloadN (pc' := 21) A at_20 rfl rfl ?_
    refine s_static (pc' := 24) (y := y0_pick) (argsL := [(.int (0 : Int32))]) (rest := []) A (pick0 l Z a0 hw n0 h0 A.size z1 S_APPLICATION) (w1 hw) (w2 hw) (w3 hw) (w4 hw) (by decide) pd__I_Lcom_example_proctor_proctor_server_Holder_Role_ rfl (W := 0) (by decide) (by decide) (Nat.le_of_eq rfl) (by decide) (by decide) rfl rfl at_21 rfl fun T h228 v229 A Q230 => ?_
    obtain ⟨rfl, eh⟩ := Q230
    rw [eh] at A
    refine Wp.stk (st' := [(.ref z1)]) rfl ?_
    refine s_astore (pc' := 26) (Ls' := #[iv q0, iv q1, iv 1, iv 0, rv z3, rv z1, U0, U0, U0, U0]) A at_24 rfl rfl rfl ?_
    refine s_aload (pc' := 28) A at_26 rfl rfl rfl ?_
    refine s_virtual (pc' := 31) (y := y2_label) (argsL := []) (rest := []) (z := y2_label) A E_z3 (label1 l Z a0 hw n0 h0 A.size z3 z5 F_claim_z3) (w8 hw) (w9 hw) (nf_same (C := "") (w11 hw)) (w11 hw) (w10 hw) (w6 hw) (w12 hw) (by decide) pd___Ljava_lang_String_ rfl (W := 0) (by decide) (by decide) (Nat.le_of_eq rfl) (by decide) (by decide) rfl rfl at_28 rfl fun T h231 v232 A Q233 => ?_
    obtain ⟨rfl, eh⟩ := Q233
    rw [eh] at A
    refine Wp.stk (st' := [(.ref z5)]) rfl ?_
    refine s_astore (pc' := 33) (Ls' := #[iv q0, iv q1, iv 1, iv 0, rv z3, rv z1, rv z5, U0, U0, U0]) A at_31 rfl rfl rfl ?_
    refine s_aload (pc' := 35) A at_33 rfl rfl rfl ?_
    refine s_virtualS (pc' := 38) (y := y2_label) (argsL := []) (rest := []) (z := y2_label) A E_z1 B H (label0 l Z a0 hw n0 h0 A.size z1 F_claim_z1) (w8 hw) (w9 hw) (nf_same (C := "") (w11 hw)) (w11 hw) (w10 hw) (w6 hw) (w12 hw) (by decide) pd___Ljava_lang_String_ rfl (W := 0) (by decide) (by decide) (Nat.le_of_eq rfl) (by decide) (by decide) rfl rfl at_35 rfl fun s244 T h241 v242 A B Q243 => ?_
    obtain ⟨a234, b235, rfl, X236, E237, F238, F239, V240, H⟩ := Q243
    refine Wp.stk (st' := [(.ref a234)]) rfl ?_
    refine s_astore (pc' := 40) (Ls' := #[iv q0, iv q1, iv 1, iv 0, rv z3, rv z1, rv z5, rv a234, U0, U0]) A at_38 rfl rfl rfl ?_
    refine s_aload (pc' := 42) A at_40 rfl rfl rfl ?_
    refine s_ifnullN (pc' := 45) A at_42 rfl ?_
    refine s_aload (pc' := 47) A at_45 rfl rfl rfl ?_
    refine s_ifnonnullY (pc' := 52) A at_47 (by decide) (by decide) ?_
    refine s_aload (pc' := 54) A at_52 rfl rfl rfl ?_
    refine s_iloadN (pc' := 55) A at_54 rfl rfl ?_
    refine s_staticS (pc' := 58) (y := y1_expected) (argsL := [(.int (1 : Int32))]) (rest := [(.ref z5)]) A B H (exp1 l Z a0 hw n0 h241 A.size) (w23 hw) (w24 hw) (w3 hw) (w25 hw) (by decide) pd__I_Ljava_lang_String_ rfl (W := 1) (by decide) (by decide) (Nat.le_of_eq rfl) (by decide) (by decide) rfl rfl at_55 rfl fun s255 T h252 v253 A B Q254 => ?_
    obtain ⟨a245, b246, rfl, X247, E248, F249, F250, V251, H⟩ := Q254
    refine Wp.stk (st' := [(.ref a245), (.ref z5)]) rfl ?_
    have S256 := ((S_COMPACT_STRINGS.ext X236).ext X247)
    have E257 := ((E_z5.ext X236).ext X247)
    have F258 := ((F_coder_z5.ext X236).ext X247)
    have F259 := ((F_value_z5.ext X236).ext X247)
    have V260 := ((V_z7.ext X236).ext X247)
    refine s_virtual (pc' := 61) (y := y5_equals) (argsL := [(.ref a245)]) (rest := []) (z := y5_equals) A E257 (eq_11 l Z a0 hw n0 h252 A.size z5 a245 z7 b246 cz S256 ncz E257 F258 F259 V260 E248 F249 F250 V251) (w27 hw) (w28 hw) (nf_same (C := "") (w30 hw)) (w30 hw) (w29 hw) (w16 hw) (w31 hw) (by decide) pd__Ljava_lang_Object__Z rfl (W := 0) (by decide) (by decide) (Nat.le_of_eq rfl) (by decide) (by decide) rfl rfl at_58 rfl fun T h261 v262 A Q263 => ?_
    obtain ⟨rfl, eh⟩ := Q263
    rw [eh] at A
    refine Wp.stk (st' := [(.int (1 : Int32))]) rfl ?_
    refine s_ifY (pc' := 66) A at_61 (by decide) (by decide) (by decide) ?_
    refine s_aload (pc' := 68) A at_66 rfl rfl rfl ?_
    have F264 := ((F_claim_z3.ext X236).ext X247)
    have E268 := ((E_z3.ext X236).ext X247)
    refine s_virtual (pc' := 71) (y := y3_claim) (argsL := []) (rest := []) (z := y3_claim) A E268 (claim1 l Z a0 hw n0 h252 A.size z3 z5 F264) (w32 hw) (w33 hw) (nf_same (C := "") (w35 hw)) (w35 hw) (w34 hw) (w6 hw) (w36 hw) (by decide) pd___Ljava_lang_String_ rfl (W := 0) (by decide) (by decide) (Nat.le_of_eq rfl) (by decide) (by decide) rfl rfl at_68 rfl fun T h265 v266 A Q267 => ?_
    obtain ⟨rfl, eh⟩ := Q267
    rw [eh] at A
    refine Wp.stk (st' := [(.ref z5)]) rfl ?_
    refine s_astore (pc' := 73) (Ls' := #[iv q0, iv q1, iv 1, iv 0, rv z3, rv z1, rv z5, rv a234, rv z5, U0]) A at_71 rfl rfl rfl ?_
    refine s_aload (pc' := 75) A at_73 rfl rfl rfl ?_
    refine s_ifnonnullY (pc' := 88) A at_75 (by decide) (by decide) ?_
    refine s_aload (pc' := 90) A at_88 rfl rfl rfl ?_
    refine s_aload (pc' := 92) A at_90 rfl rfl rfl ?_
    refine s_virtual (pc' := 95) (y := y5_equals) (argsL := [(.ref z5)]) (rest := []) (z := y5_equals) A E257 (eq_11 l Z a0 hw n0 h252 A.size z5 z5 z7 z7 cz S256 ncz E257 F258 F259 V260 E257 F258 F259 V260) (w27 hw) (w28 hw) (nf_same (C := "") (w30 hw)) (w30 hw) (w29 hw) (w16 hw) (w31 hw) (by decide) pd__Ljava_lang_Object__Z rfl (W := 0) (by decide) (by decide) (Nat.le_of_eq rfl) (by decide) (by decide) rfl rfl at_92 rfl fun T h269 v270 A Q271 => ?_
    obtain ⟨rfl, eh⟩ := Q271
    rw [eh] at A
    refine Wp.stk (st' := [(.int (1 : Int32))]) rfl ?_
    refine s_istore (pc' := 97) (Ls' := #[iv q0, iv q1, iv 1, iv 0, rv z3, rv z1, rv z5, rv a234, rv z5, iv 1]) A at_95 rfl rfl ?_
    refine s_iload (pc' := 99) A at_97 rfl rfl ?_
    refine s_ifY (pc' := 104) A at_99 (by decide) (by decide) (by decide) ?_
    refine s_iloadN (pc' := 105) A at_104 rfl rfl ?_
    refine s_iloadN (pc' := 106) A at_105 rfl rfl ?_
    refine s_icmpY (pc' := 113) A at_106 (by decide) (by decide) (by decide) ?_
    refine s_iconst (pc' := 114) (z := (0 : Int32)) A at_113 rfl (by decide) ?_
    refine s_aload (pc' := 116) A at_114 rfl rfl rfl ?_
    refine s_aload (pc' := 118) A at_116 rfl rfl rfl ?_
    have E272 := (E237.ext X247)
    have F273 := (F238.ext X247)
    have F274 := (F239.ext X247)
    have V275 := (V240.ext X247)
    refine s_virtual (pc' := 121) (y := y5_equals) (argsL := [(.ref a234)]) (rest := [(.int (0 : Int32))]) (z := y5_equals) A E257 (eq_10 l Z a0 hw n0 h252 A.size z5 a234 z7 b235 cz S256 ncz E257 F258 F259 V260 E272 F273 F274 V275) (w27 hw) (w28 hw) (nf_same (C := "") (w30 hw)) (w30 hw) (w29 hw) (w16 hw) (w31 hw) (by decide) pd__Ljava_lang_Object__Z rfl (W := 1) (by decide) (by decide) (Nat.le_of_eq rfl) (by decide) (by decide) rfl rfl at_118 rfl fun T h276 v277 A Q278 => ?_
    obtain ⟨rfl, eh⟩ := Q278
    rw [eh] at A
    refine Wp.stk (st' := [(.int (0 : Int32)), (.int (0 : Int32))]) rfl ?_
    refine s_icmpN (pc' := 124) A at_121 rfl (by decide) ?_
    refine s_iconst (pc' := 125) (z := (1 : Int32)) A at_124 rfl (by decide) ?_
    refine s_goto (pc' := 129) A at_125 (by decide) (by decide) ?_
    exact rS_bool A B rfl (by decide) at_129 (by decide) (by decide) (fun vm hv => rfl)
   ·
    refine s_irem (pc' := 13) (z := (1 : Int32)) A at_12 rfl (by decide) hkkq1.symm ?_
    refine s_istoreN (pc' := 14) (Ls' := #[iv q0, iv q1, iv 1, iv 1, U0, U0, U0, U0, U0, U0]) A at_13 rfl rfl ?_
    refine s_iloadN (pc' := 15) A at_14 rfl rfl ?_
    refine s_static (pc' := 18) (y := y0_pick) (argsL := [(.int (1 : Int32))]) (rest := []) A (pick1 l Z a0 hw n0 h0 A.size z3 S_SUBJECT) (w1 hw) (w2 hw) (w3 hw) (w4 hw) (by decide) pd__I_Lcom_example_proctor_proctor_server_Holder_Role_ rfl (W := 0) (by decide) (by decide) (Nat.le_of_eq rfl) (by decide) (by decide) rfl rfl at_15 rfl fun T h279 v280 A Q281 => ?_
    obtain ⟨rfl, eh⟩ := Q281
    rw [eh] at A
    refine Wp.stk (st' := [(.ref z3)]) rfl ?_
    refine s_astore (pc' := 20) (Ls' := #[iv q0, iv q1, iv 1, iv 1, rv z3, U0, U0, U0, U0, U0]) A at_18 rfl rfl rfl ?_
    refine s_iloadN (pc' := 21) A at_20 rfl rfl ?_
    refine s_static (pc' := 24) (y := y0_pick) (argsL := [(.int (1 : Int32))]) (rest := []) A (pick1 l Z a0 hw n0 h0 A.size z3 S_SUBJECT) (w1 hw) (w2 hw) (w3 hw) (w4 hw) (by decide) pd__I_Lcom_example_proctor_proctor_server_Holder_Role_ rfl (W := 0) (by decide) (by decide) (Nat.le_of_eq rfl) (by decide) (by decide) rfl rfl at_21 rfl fun T h282 v283 A Q284 => ?_
    obtain ⟨rfl, eh⟩ := Q284
    rw [eh] at A
    refine Wp.stk (st' := [(.ref z3)]) rfl ?_
    refine s_astore (pc' := 26) (Ls' := #[iv q0, iv q1, iv 1, iv 1, rv z3, rv z3, U0, U0, U0, U0]) A at_24 rfl rfl rfl ?_
    refine s_aload (pc' := 28) A at_26 rfl rfl rfl ?_
    refine s_virtual (pc' := 31) (y := y2_label) (argsL := []) (rest := []) (z := y2_label) A E_z3 (label1 l Z a0 hw n0 h0 A.size z3 z5 F_claim_z3) (w8 hw) (w9 hw) (nf_same (C := "") (w11 hw)) (w11 hw) (w10 hw) (w6 hw) (w12 hw) (by decide) pd___Ljava_lang_String_ rfl (W := 0) (by decide) (by decide) (Nat.le_of_eq rfl) (by decide) (by decide) rfl rfl at_28 rfl fun T h285 v286 A Q287 => ?_
    obtain ⟨rfl, eh⟩ := Q287
    rw [eh] at A
    refine Wp.stk (st' := [(.ref z5)]) rfl ?_
    refine s_astore (pc' := 33) (Ls' := #[iv q0, iv q1, iv 1, iv 1, rv z3, rv z3, rv z5, U0, U0, U0]) A at_31 rfl rfl rfl ?_
    refine s_aload (pc' := 35) A at_33 rfl rfl rfl ?_
    refine s_virtual (pc' := 38) (y := y2_label) (argsL := []) (rest := []) (z := y2_label) A E_z3 (label1 l Z a0 hw n0 h0 A.size z3 z5 F_claim_z3) (w8 hw) (w9 hw) (nf_same (C := "") (w11 hw)) (w11 hw) (w10 hw) (w6 hw) (w12 hw) (by decide) pd___Ljava_lang_String_ rfl (W := 0) (by decide) (by decide) (Nat.le_of_eq rfl) (by decide) (by decide) rfl rfl at_35 rfl fun T h288 v289 A Q290 => ?_
    obtain ⟨rfl, eh⟩ := Q290
    rw [eh] at A
    refine Wp.stk (st' := [(.ref z5)]) rfl ?_
    refine s_astore (pc' := 40) (Ls' := #[iv q0, iv q1, iv 1, iv 1, rv z3, rv z3, rv z5, rv z5, U0, U0]) A at_38 rfl rfl rfl ?_
    refine s_aload (pc' := 42) A at_40 rfl rfl rfl ?_
    refine s_ifnullN (pc' := 45) A at_42 rfl ?_
    refine s_aload (pc' := 47) A at_45 rfl rfl rfl ?_
    refine s_ifnonnullY (pc' := 52) A at_47 (by decide) (by decide) ?_
    refine s_aload (pc' := 54) A at_52 rfl rfl rfl ?_
    refine s_iloadN (pc' := 55) A at_54 rfl rfl ?_
    refine s_staticS (pc' := 58) (y := y1_expected) (argsL := [(.int (1 : Int32))]) (rest := [(.ref z5)]) A B H (exp1 l Z a0 hw n0 h0 A.size) (w23 hw) (w24 hw) (w3 hw) (w25 hw) (by decide) pd__I_Ljava_lang_String_ rfl (W := 1) (by decide) (by decide) (Nat.le_of_eq rfl) (by decide) (by decide) rfl rfl at_55 rfl fun s301 T h298 v299 A B Q300 => ?_
    obtain ⟨a291, b292, rfl, X293, E294, F295, F296, V297, H⟩ := Q300
    refine Wp.stk (st' := [(.ref a291), (.ref z5)]) rfl ?_
    have S302 := (S_COMPACT_STRINGS.ext X293)
    have E303 := (E_z5.ext X293)
    have F304 := (F_coder_z5.ext X293)
    have F305 := (F_value_z5.ext X293)
    have V306 := (V_z7.ext X293)
    refine s_virtual (pc' := 61) (y := y5_equals) (argsL := [(.ref a291)]) (rest := []) (z := y5_equals) A E303 (eq_11 l Z a0 hw n0 h298 A.size z5 a291 z7 b292 cz S302 ncz E303 F304 F305 V306 E294 F295 F296 V297) (w27 hw) (w28 hw) (nf_same (C := "") (w30 hw)) (w30 hw) (w29 hw) (w16 hw) (w31 hw) (by decide) pd__Ljava_lang_Object__Z rfl (W := 0) (by decide) (by decide) (Nat.le_of_eq rfl) (by decide) (by decide) rfl rfl at_58 rfl fun T h307 v308 A Q309 => ?_
    obtain ⟨rfl, eh⟩ := Q309
    rw [eh] at A
    refine Wp.stk (st' := [(.int (1 : Int32))]) rfl ?_
    refine s_ifY (pc' := 66) A at_61 (by decide) (by decide) (by decide) ?_
    refine s_aload (pc' := 68) A at_66 rfl rfl rfl ?_
    have F310 := (F_claim_z3.ext X293)
    have E314 := (E_z3.ext X293)
    refine s_virtual (pc' := 71) (y := y3_claim) (argsL := []) (rest := []) (z := y3_claim) A E314 (claim1 l Z a0 hw n0 h298 A.size z3 z5 F310) (w32 hw) (w33 hw) (nf_same (C := "") (w35 hw)) (w35 hw) (w34 hw) (w6 hw) (w36 hw) (by decide) pd___Ljava_lang_String_ rfl (W := 0) (by decide) (by decide) (Nat.le_of_eq rfl) (by decide) (by decide) rfl rfl at_68 rfl fun T h311 v312 A Q313 => ?_
    obtain ⟨rfl, eh⟩ := Q313
    rw [eh] at A
    refine Wp.stk (st' := [(.ref z5)]) rfl ?_
    refine s_astore (pc' := 73) (Ls' := #[iv q0, iv q1, iv 1, iv 1, rv z3, rv z3, rv z5, rv z5, rv z5, U0]) A at_71 rfl rfl rfl ?_
    refine s_aload (pc' := 75) A at_73 rfl rfl rfl ?_
    refine s_ifnonnullY (pc' := 88) A at_75 (by decide) (by decide) ?_
    refine s_aload (pc' := 90) A at_88 rfl rfl rfl ?_
    refine s_aload (pc' := 92) A at_90 rfl rfl rfl ?_
    refine s_virtual (pc' := 95) (y := y5_equals) (argsL := [(.ref z5)]) (rest := []) (z := y5_equals) A E303 (eq_11 l Z a0 hw n0 h298 A.size z5 z5 z7 z7 cz S302 ncz E303 F304 F305 V306 E303 F304 F305 V306) (w27 hw) (w28 hw) (nf_same (C := "") (w30 hw)) (w30 hw) (w29 hw) (w16 hw) (w31 hw) (by decide) pd__Ljava_lang_Object__Z rfl (W := 0) (by decide) (by decide) (Nat.le_of_eq rfl) (by decide) (by decide) rfl rfl at_92 rfl fun T h315 v316 A Q317 => ?_
    obtain ⟨rfl, eh⟩ := Q317
    rw [eh] at A
    refine Wp.stk (st' := [(.int (1 : Int32))]) rfl ?_
    refine s_istore (pc' := 97) (Ls' := #[iv q0, iv q1, iv 1, iv 1, rv z3, rv z3, rv z5, rv z5, rv z5, iv 1]) A at_95 rfl rfl ?_
    refine s_iload (pc' := 99) A at_97 rfl rfl ?_
    refine s_ifY (pc' := 104) A at_99 (by decide) (by decide) (by decide) ?_
    refine s_iloadN (pc' := 105) A at_104 rfl rfl ?_
    refine s_iloadN (pc' := 106) A at_105 rfl rfl ?_
    refine s_icmpN (pc' := 109) A at_106 rfl (by decide) ?_
    refine s_iconst (pc' := 110) (z := (1 : Int32)) A at_109 rfl (by decide) ?_
    refine s_goto (pc' := 114) A at_110 (by decide) (by decide) ?_
    refine s_aload (pc' := 116) A at_114 rfl rfl rfl ?_
    refine s_aload (pc' := 118) A at_116 rfl rfl rfl ?_
    refine s_virtual (pc' := 121) (y := y5_equals) (argsL := [(.ref z5)]) (rest := [(.int (1 : Int32))]) (z := y5_equals) A E303 (eq_11 l Z a0 hw n0 h298 A.size z5 z5 z7 z7 cz S302 ncz E303 F304 F305 V306 E303 F304 F305 V306) (w27 hw) (w28 hw) (nf_same (C := "") (w30 hw)) (w30 hw) (w29 hw) (w16 hw) (w31 hw) (by decide) pd__Ljava_lang_Object__Z rfl (W := 1) (by decide) (by decide) (Nat.le_of_eq rfl) (by decide) (by decide) rfl rfl at_118 rfl fun T h318 v319 A Q320 => ?_
    obtain ⟨rfl, eh⟩ := Q320
    rw [eh] at A
    refine Wp.stk (st' := [(.int (1 : Int32)), (.int (1 : Int32))]) rfl ?_
    refine s_icmpN (pc' := 124) A at_121 rfl (by decide) ?_
    refine s_iconst (pc' := 125) (z := (1 : Int32)) A at_124 rfl (by decide) ?_
    refine s_goto (pc' := 129) A at_125 (by decide) (by decide) ?_
    exact rS_bool A B rfl (by decide) at_129 (by decide) (by decide) (fun vm hv => rfl)
   ·
    refine s_irem (pc' := 13) (z := (2 : Int32)) A at_12 rfl (by decide) hkkq1.symm ?_
    refine s_istoreN (pc' := 14) (Ls' := #[iv q0, iv q1, iv 1, iv 2, U0, U0, U0, U0, U0, U0]) A at_13 rfl rfl ?_
    refine s_iloadN (pc' := 15) A at_14 rfl rfl ?_
    refine s_static (pc' := 18) (y := y0_pick) (argsL := [(.int (1 : Int32))]) (rest := []) A (pick1 l Z a0 hw n0 h0 A.size z3 S_SUBJECT) (w1 hw) (w2 hw) (w3 hw) (w4 hw) (by decide) pd__I_Lcom_example_proctor_proctor_server_Holder_Role_ rfl (W := 0) (by decide) (by decide) (Nat.le_of_eq rfl) (by decide) (by decide) rfl rfl at_15 rfl fun T h321 v322 A Q323 => ?_
    obtain ⟨rfl, eh⟩ := Q323
    rw [eh] at A
    refine Wp.stk (st' := [(.ref z3)]) rfl ?_
    refine s_astore (pc' := 20) (Ls' := #[iv q0, iv q1, iv 1, iv 2, rv z3, U0, U0, U0, U0, U0]) A at_18 rfl rfl rfl ?_
    refine s_iloadN (pc' := 21) A at_20 rfl rfl ?_
    refine s_static (pc' := 24) (y := y0_pick) (argsL := [(.int (2 : Int32))]) (rest := []) A (pick2 l Z a0 hw n0 h0 A.size z2 S_ADMINISTRATOR) (w1 hw) (w2 hw) (w3 hw) (w4 hw) (by decide) pd__I_Lcom_example_proctor_proctor_server_Holder_Role_ rfl (W := 0) (by decide) (by decide) (Nat.le_of_eq rfl) (by decide) (by decide) rfl rfl at_21 rfl fun T h324 v325 A Q326 => ?_
    obtain ⟨rfl, eh⟩ := Q326
    rw [eh] at A
    refine Wp.stk (st' := [(.ref z2)]) rfl ?_
    refine s_astore (pc' := 26) (Ls' := #[iv q0, iv q1, iv 1, iv 2, rv z3, rv z2, U0, U0, U0, U0]) A at_24 rfl rfl rfl ?_
    refine s_aload (pc' := 28) A at_26 rfl rfl rfl ?_
    refine s_virtual (pc' := 31) (y := y2_label) (argsL := []) (rest := []) (z := y2_label) A E_z3 (label1 l Z a0 hw n0 h0 A.size z3 z5 F_claim_z3) (w8 hw) (w9 hw) (nf_same (C := "") (w11 hw)) (w11 hw) (w10 hw) (w6 hw) (w12 hw) (by decide) pd___Ljava_lang_String_ rfl (W := 0) (by decide) (by decide) (Nat.le_of_eq rfl) (by decide) (by decide) rfl rfl at_28 rfl fun T h327 v328 A Q329 => ?_
    obtain ⟨rfl, eh⟩ := Q329
    rw [eh] at A
    refine Wp.stk (st' := [(.ref z5)]) rfl ?_
    refine s_astore (pc' := 33) (Ls' := #[iv q0, iv q1, iv 1, iv 2, rv z3, rv z2, rv z5, U0, U0, U0]) A at_31 rfl rfl rfl ?_
    refine s_aload (pc' := 35) A at_33 rfl rfl rfl ?_
    refine s_virtual (pc' := 38) (y := y2_label) (argsL := []) (rest := []) (z := y2_label) A E_z2 (label1 l Z a0 hw n0 h0 A.size z2 z4 F_claim_z2) (w8 hw) (w9 hw) (nf_same (C := "") (w11 hw)) (w11 hw) (w10 hw) (w6 hw) (w12 hw) (by decide) pd___Ljava_lang_String_ rfl (W := 0) (by decide) (by decide) (Nat.le_of_eq rfl) (by decide) (by decide) rfl rfl at_35 rfl fun T h330 v331 A Q332 => ?_
    obtain ⟨rfl, eh⟩ := Q332
    rw [eh] at A
    refine Wp.stk (st' := [(.ref z4)]) rfl ?_
    refine s_astore (pc' := 40) (Ls' := #[iv q0, iv q1, iv 1, iv 2, rv z3, rv z2, rv z5, rv z4, U0, U0]) A at_38 rfl rfl rfl ?_
    refine s_aload (pc' := 42) A at_40 rfl rfl rfl ?_
    refine s_ifnullN (pc' := 45) A at_42 rfl ?_
    refine s_aload (pc' := 47) A at_45 rfl rfl rfl ?_
    refine s_ifnonnullY (pc' := 52) A at_47 (by decide) (by decide) ?_
    refine s_aload (pc' := 54) A at_52 rfl rfl rfl ?_
    refine s_iloadN (pc' := 55) A at_54 rfl rfl ?_
    refine s_staticS (pc' := 58) (y := y1_expected) (argsL := [(.int (1 : Int32))]) (rest := [(.ref z5)]) A B H (exp1 l Z a0 hw n0 h0 A.size) (w23 hw) (w24 hw) (w3 hw) (w25 hw) (by decide) pd__I_Ljava_lang_String_ rfl (W := 1) (by decide) (by decide) (Nat.le_of_eq rfl) (by decide) (by decide) rfl rfl at_55 rfl fun s343 T h340 v341 A B Q342 => ?_
    obtain ⟨a333, b334, rfl, X335, E336, F337, F338, V339, H⟩ := Q342
    refine Wp.stk (st' := [(.ref a333), (.ref z5)]) rfl ?_
    have S344 := (S_COMPACT_STRINGS.ext X335)
    have E345 := (E_z5.ext X335)
    have F346 := (F_coder_z5.ext X335)
    have F347 := (F_value_z5.ext X335)
    have V348 := (V_z7.ext X335)
    refine s_virtual (pc' := 61) (y := y5_equals) (argsL := [(.ref a333)]) (rest := []) (z := y5_equals) A E345 (eq_11 l Z a0 hw n0 h340 A.size z5 a333 z7 b334 cz S344 ncz E345 F346 F347 V348 E336 F337 F338 V339) (w27 hw) (w28 hw) (nf_same (C := "") (w30 hw)) (w30 hw) (w29 hw) (w16 hw) (w31 hw) (by decide) pd__Ljava_lang_Object__Z rfl (W := 0) (by decide) (by decide) (Nat.le_of_eq rfl) (by decide) (by decide) rfl rfl at_58 rfl fun T h349 v350 A Q351 => ?_
    obtain ⟨rfl, eh⟩ := Q351
    rw [eh] at A
    refine Wp.stk (st' := [(.int (1 : Int32))]) rfl ?_
    refine s_ifY (pc' := 66) A at_61 (by decide) (by decide) (by decide) ?_
    refine s_aload (pc' := 68) A at_66 rfl rfl rfl ?_
    have F352 := (F_claim_z3.ext X335)
    have E356 := (E_z3.ext X335)
    refine s_virtual (pc' := 71) (y := y3_claim) (argsL := []) (rest := []) (z := y3_claim) A E356 (claim1 l Z a0 hw n0 h340 A.size z3 z5 F352) (w32 hw) (w33 hw) (nf_same (C := "") (w35 hw)) (w35 hw) (w34 hw) (w6 hw) (w36 hw) (by decide) pd___Ljava_lang_String_ rfl (W := 0) (by decide) (by decide) (Nat.le_of_eq rfl) (by decide) (by decide) rfl rfl at_68 rfl fun T h353 v354 A Q355 => ?_
    obtain ⟨rfl, eh⟩ := Q355
    rw [eh] at A
    refine Wp.stk (st' := [(.ref z5)]) rfl ?_
    refine s_astore (pc' := 73) (Ls' := #[iv q0, iv q1, iv 1, iv 2, rv z3, rv z2, rv z5, rv z4, rv z5, U0]) A at_71 rfl rfl rfl ?_
    refine s_aload (pc' := 75) A at_73 rfl rfl rfl ?_
    refine s_ifnonnullY (pc' := 88) A at_75 (by decide) (by decide) ?_
    refine s_aload (pc' := 90) A at_88 rfl rfl rfl ?_
    refine s_aload (pc' := 92) A at_90 rfl rfl rfl ?_
    refine s_virtual (pc' := 95) (y := y5_equals) (argsL := [(.ref z5)]) (rest := []) (z := y5_equals) A E345 (eq_11 l Z a0 hw n0 h340 A.size z5 z5 z7 z7 cz S344 ncz E345 F346 F347 V348 E345 F346 F347 V348) (w27 hw) (w28 hw) (nf_same (C := "") (w30 hw)) (w30 hw) (w29 hw) (w16 hw) (w31 hw) (by decide) pd__Ljava_lang_Object__Z rfl (W := 0) (by decide) (by decide) (Nat.le_of_eq rfl) (by decide) (by decide) rfl rfl at_92 rfl fun T h357 v358 A Q359 => ?_
    obtain ⟨rfl, eh⟩ := Q359
    rw [eh] at A
    refine Wp.stk (st' := [(.int (1 : Int32))]) rfl ?_
    refine s_istore (pc' := 97) (Ls' := #[iv q0, iv q1, iv 1, iv 2, rv z3, rv z2, rv z5, rv z4, rv z5, iv 1]) A at_95 rfl rfl ?_
    refine s_iload (pc' := 99) A at_97 rfl rfl ?_
    refine s_ifY (pc' := 104) A at_99 (by decide) (by decide) (by decide) ?_
    refine s_iloadN (pc' := 105) A at_104 rfl rfl ?_
    refine s_iloadN (pc' := 106) A at_105 rfl rfl ?_
    refine s_icmpY (pc' := 113) A at_106 (by decide) (by decide) (by decide) ?_
    refine s_iconst (pc' := 114) (z := (0 : Int32)) A at_113 rfl (by decide) ?_
    refine s_aload (pc' := 116) A at_114 rfl rfl rfl ?_
    refine s_aload (pc' := 118) A at_116 rfl rfl rfl ?_
    have E360 := (E_z4.ext X335)
    have F361 := (F_coder_z4.ext X335)
    have F362 := (F_value_z4.ext X335)
    have V363 := (V_z6.ext X335)
    refine s_virtual (pc' := 121) (y := y5_equals) (argsL := [(.ref z4)]) (rest := [(.int (0 : Int32))]) (z := y5_equals) A E345 (eq_12 l Z a0 hw n0 h340 A.size z5 z4 z7 z6 cz S344 ncz E345 F346 F347 V348 E360 F361 F362 V363) (w27 hw) (w28 hw) (nf_same (C := "") (w30 hw)) (w30 hw) (w29 hw) (w16 hw) (w31 hw) (by decide) pd__Ljava_lang_Object__Z rfl (W := 1) (by decide) (by decide) (Nat.le_of_eq rfl) (by decide) (by decide) rfl rfl at_118 rfl fun T h364 v365 A Q366 => ?_
    obtain ⟨rfl, eh⟩ := Q366
    rw [eh] at A
    refine Wp.stk (st' := [(.int (0 : Int32)), (.int (0 : Int32))]) rfl ?_
    refine s_icmpN (pc' := 124) A at_121 rfl (by decide) ?_
    refine s_iconst (pc' := 125) (z := (1 : Int32)) A at_124 rfl (by decide) ?_
    refine s_goto (pc' := 129) A at_125 (by decide) (by decide) ?_
    exact rS_bool A B rfl (by decide) at_129 (by decide) (by decide) (fun vm hv => rfl)
  ·
   refine s_irem (pc' := 6) (z := (2 : Int32)) A at_5 rfl (by decide) hkkq0.symm ?_
   refine s_istoreN (pc' := 7) (Ls' := #[iv q0, iv q1, iv 2, U0, U0, U0, U0, U0, U0, U0]) A at_6 rfl rfl ?_
   refine s_iloadN (pc' := 8) A at_7 rfl rfl ?_
   refine s_ldcInt (pc' := 10) A at_8 rfl (w0 hw) ?_
   refine s_iand (pc' := 11) (z := (q1 &&& (2147483647 : Int32))) A at_10 rfl rfl ?_
   refine s_iconst (pc' := 12) (z := (3 : Int32)) A at_11 rfl (by decide) ?_
   obtain ⟨kkq1, hkkq1⟩ : ∃ z, z = ((q1 &&& (2147483647 : Int32)) % (3 : Int32)) := ⟨_, rfl⟩
   have ckq1 := own_k q1
   rw [← hkkq1] at ckq1
   rcases ckq1 with rfl | rfl | rfl
   ·
    refine s_irem (pc' := 13) (z := (0 : Int32)) A at_12 rfl (by decide) hkkq1.symm ?_
    refine s_istoreN (pc' := 14) (Ls' := #[iv q0, iv q1, iv 2, iv 0, U0, U0, U0, U0, U0, U0]) A at_13 rfl rfl ?_
    refine s_iloadN (pc' := 15) A at_14 rfl rfl ?_
    refine s_static (pc' := 18) (y := y0_pick) (argsL := [(.int (2 : Int32))]) (rest := []) A (pick2 l Z a0 hw n0 h0 A.size z2 S_ADMINISTRATOR) (w1 hw) (w2 hw) (w3 hw) (w4 hw) (by decide) pd__I_Lcom_example_proctor_proctor_server_Holder_Role_ rfl (W := 0) (by decide) (by decide) (Nat.le_of_eq rfl) (by decide) (by decide) rfl rfl at_15 rfl fun T h367 v368 A Q369 => ?_
    obtain ⟨rfl, eh⟩ := Q369
    rw [eh] at A
    refine Wp.stk (st' := [(.ref z2)]) rfl ?_
    refine s_astore (pc' := 20) (Ls' := #[iv q0, iv q1, iv 2, iv 0, rv z2, U0, U0, U0, U0, U0]) A at_18 rfl rfl rfl ?_
    refine s_iloadN (pc' := 21) A at_20 rfl rfl ?_
    refine s_static (pc' := 24) (y := y0_pick) (argsL := [(.int (0 : Int32))]) (rest := []) A (pick0 l Z a0 hw n0 h0 A.size z1 S_APPLICATION) (w1 hw) (w2 hw) (w3 hw) (w4 hw) (by decide) pd__I_Lcom_example_proctor_proctor_server_Holder_Role_ rfl (W := 0) (by decide) (by decide) (Nat.le_of_eq rfl) (by decide) (by decide) rfl rfl at_21 rfl fun T h370 v371 A Q372 => ?_
    obtain ⟨rfl, eh⟩ := Q372
    rw [eh] at A
    refine Wp.stk (st' := [(.ref z1)]) rfl ?_
    refine s_astore (pc' := 26) (Ls' := #[iv q0, iv q1, iv 2, iv 0, rv z2, rv z1, U0, U0, U0, U0]) A at_24 rfl rfl rfl ?_
    refine s_aload (pc' := 28) A at_26 rfl rfl rfl ?_
    refine s_virtual (pc' := 31) (y := y2_label) (argsL := []) (rest := []) (z := y2_label) A E_z2 (label1 l Z a0 hw n0 h0 A.size z2 z4 F_claim_z2) (w8 hw) (w9 hw) (nf_same (C := "") (w11 hw)) (w11 hw) (w10 hw) (w6 hw) (w12 hw) (by decide) pd___Ljava_lang_String_ rfl (W := 0) (by decide) (by decide) (Nat.le_of_eq rfl) (by decide) (by decide) rfl rfl at_28 rfl fun T h373 v374 A Q375 => ?_
    obtain ⟨rfl, eh⟩ := Q375
    rw [eh] at A
    refine Wp.stk (st' := [(.ref z4)]) rfl ?_
    refine s_astore (pc' := 33) (Ls' := #[iv q0, iv q1, iv 2, iv 0, rv z2, rv z1, rv z4, U0, U0, U0]) A at_31 rfl rfl rfl ?_
    refine s_aload (pc' := 35) A at_33 rfl rfl rfl ?_
    refine s_virtualS (pc' := 38) (y := y2_label) (argsL := []) (rest := []) (z := y2_label) A E_z1 B H (label0 l Z a0 hw n0 h0 A.size z1 F_claim_z1) (w8 hw) (w9 hw) (nf_same (C := "") (w11 hw)) (w11 hw) (w10 hw) (w6 hw) (w12 hw) (by decide) pd___Ljava_lang_String_ rfl (W := 0) (by decide) (by decide) (Nat.le_of_eq rfl) (by decide) (by decide) rfl rfl at_35 rfl fun s386 T h383 v384 A B Q385 => ?_
    obtain ⟨a376, b377, rfl, X378, E379, F380, F381, V382, H⟩ := Q385
    refine Wp.stk (st' := [(.ref a376)]) rfl ?_
    refine s_astore (pc' := 40) (Ls' := #[iv q0, iv q1, iv 2, iv 0, rv z2, rv z1, rv z4, rv a376, U0, U0]) A at_38 rfl rfl rfl ?_
    refine s_aload (pc' := 42) A at_40 rfl rfl rfl ?_
    refine s_ifnullN (pc' := 45) A at_42 rfl ?_
    refine s_aload (pc' := 47) A at_45 rfl rfl rfl ?_
    refine s_ifnonnullY (pc' := 52) A at_47 (by decide) (by decide) ?_
    refine s_aload (pc' := 54) A at_52 rfl rfl rfl ?_
    refine s_iloadN (pc' := 55) A at_54 rfl rfl ?_
    refine s_staticS (pc' := 58) (y := y1_expected) (argsL := [(.int (2 : Int32))]) (rest := [(.ref z4)]) A B H (exp2 l Z a0 hw n0 h383 A.size) (w23 hw) (w24 hw) (w3 hw) (w25 hw) (by decide) pd__I_Ljava_lang_String_ rfl (W := 1) (by decide) (by decide) (Nat.le_of_eq rfl) (by decide) (by decide) rfl rfl at_55 rfl fun s397 T h394 v395 A B Q396 => ?_
    obtain ⟨a387, b388, rfl, X389, E390, F391, F392, V393, H⟩ := Q396
    refine Wp.stk (st' := [(.ref a387), (.ref z4)]) rfl ?_
    have S398 := ((S_COMPACT_STRINGS.ext X378).ext X389)
    have E399 := ((E_z4.ext X378).ext X389)
    have F400 := ((F_coder_z4.ext X378).ext X389)
    have F401 := ((F_value_z4.ext X378).ext X389)
    have V402 := ((V_z6.ext X378).ext X389)
    refine s_virtual (pc' := 61) (y := y5_equals) (argsL := [(.ref a387)]) (rest := []) (z := y5_equals) A E399 (eq_22 l Z a0 hw n0 h394 A.size z4 a387 z6 b388 cz S398 ncz E399 F400 F401 V402 E390 F391 F392 V393) (w27 hw) (w28 hw) (nf_same (C := "") (w30 hw)) (w30 hw) (w29 hw) (w16 hw) (w31 hw) (by decide) pd__Ljava_lang_Object__Z rfl (W := 0) (by decide) (by decide) (Nat.le_of_eq rfl) (by decide) (by decide) rfl rfl at_58 rfl fun T h403 v404 A Q405 => ?_
    obtain ⟨rfl, eh⟩ := Q405
    rw [eh] at A
    refine Wp.stk (st' := [(.int (1 : Int32))]) rfl ?_
    refine s_ifY (pc' := 66) A at_61 (by decide) (by decide) (by decide) ?_
    refine s_aload (pc' := 68) A at_66 rfl rfl rfl ?_
    have F406 := ((F_claim_z2.ext X378).ext X389)
    have E410 := ((E_z2.ext X378).ext X389)
    refine s_virtual (pc' := 71) (y := y3_claim) (argsL := []) (rest := []) (z := y3_claim) A E410 (claim1 l Z a0 hw n0 h394 A.size z2 z4 F406) (w32 hw) (w33 hw) (nf_same (C := "") (w35 hw)) (w35 hw) (w34 hw) (w6 hw) (w36 hw) (by decide) pd___Ljava_lang_String_ rfl (W := 0) (by decide) (by decide) (Nat.le_of_eq rfl) (by decide) (by decide) rfl rfl at_68 rfl fun T h407 v408 A Q409 => ?_
    obtain ⟨rfl, eh⟩ := Q409
    rw [eh] at A
    refine Wp.stk (st' := [(.ref z4)]) rfl ?_
    refine s_astore (pc' := 73) (Ls' := #[iv q0, iv q1, iv 2, iv 0, rv z2, rv z1, rv z4, rv a376, rv z4, U0]) A at_71 rfl rfl rfl ?_
    refine s_aload (pc' := 75) A at_73 rfl rfl rfl ?_
    refine s_ifnonnullY (pc' := 88) A at_75 (by decide) (by decide) ?_
    refine s_aload (pc' := 90) A at_88 rfl rfl rfl ?_
    refine s_aload (pc' := 92) A at_90 rfl rfl rfl ?_
    refine s_virtual (pc' := 95) (y := y5_equals) (argsL := [(.ref z4)]) (rest := []) (z := y5_equals) A E399 (eq_22 l Z a0 hw n0 h394 A.size z4 z4 z6 z6 cz S398 ncz E399 F400 F401 V402 E399 F400 F401 V402) (w27 hw) (w28 hw) (nf_same (C := "") (w30 hw)) (w30 hw) (w29 hw) (w16 hw) (w31 hw) (by decide) pd__Ljava_lang_Object__Z rfl (W := 0) (by decide) (by decide) (Nat.le_of_eq rfl) (by decide) (by decide) rfl rfl at_92 rfl fun T h411 v412 A Q413 => ?_
    obtain ⟨rfl, eh⟩ := Q413
    rw [eh] at A
    refine Wp.stk (st' := [(.int (1 : Int32))]) rfl ?_
    refine s_istore (pc' := 97) (Ls' := #[iv q0, iv q1, iv 2, iv 0, rv z2, rv z1, rv z4, rv a376, rv z4, iv 1]) A at_95 rfl rfl ?_
    refine s_iload (pc' := 99) A at_97 rfl rfl ?_
    refine s_ifY (pc' := 104) A at_99 (by decide) (by decide) (by decide) ?_
    refine s_iloadN (pc' := 105) A at_104 rfl rfl ?_
    refine s_iloadN (pc' := 106) A at_105 rfl rfl ?_
    refine s_icmpY (pc' := 113) A at_106 (by decide) (by decide) (by decide) ?_
    refine s_iconst (pc' := 114) (z := (0 : Int32)) A at_113 rfl (by decide) ?_
    refine s_aload (pc' := 116) A at_114 rfl rfl rfl ?_
    refine s_aload (pc' := 118) A at_116 rfl rfl rfl ?_
    have E414 := (E379.ext X389)
    have F415 := (F380.ext X389)
    have F416 := (F381.ext X389)
    have V417 := (V382.ext X389)
    refine s_virtual (pc' := 121) (y := y5_equals) (argsL := [(.ref a376)]) (rest := [(.int (0 : Int32))]) (z := y5_equals) A E399 (eq_20 l Z a0 hw n0 h394 A.size z4 a376 z6 b377 cz S398 ncz E399 F400 F401 V402 E414 F415 F416 V417) (w27 hw) (w28 hw) (nf_same (C := "") (w30 hw)) (w30 hw) (w29 hw) (w16 hw) (w31 hw) (by decide) pd__Ljava_lang_Object__Z rfl (W := 1) (by decide) (by decide) (Nat.le_of_eq rfl) (by decide) (by decide) rfl rfl at_118 rfl fun T h418 v419 A Q420 => ?_
    obtain ⟨rfl, eh⟩ := Q420
    rw [eh] at A
    refine Wp.stk (st' := [(.int (0 : Int32)), (.int (0 : Int32))]) rfl ?_
    refine s_icmpN (pc' := 124) A at_121 rfl (by decide) ?_
    refine s_iconst (pc' := 125) (z := (1 : Int32)) A at_124 rfl (by decide) ?_
    refine s_goto (pc' := 129) A at_125 (by decide) (by decide) ?_
    exact rS_bool A B rfl (by decide) at_129 (by decide) (by decide) (fun vm hv => rfl)
   ·
    refine s_irem (pc' := 13) (z := (1 : Int32)) A at_12 rfl (by decide) hkkq1.symm ?_
    refine s_istoreN (pc' := 14) (Ls' := #[iv q0, iv q1, iv 2, iv 1, U0, U0, U0, U0, U0, U0]) A at_13 rfl rfl ?_
    refine s_iloadN (pc' := 15) A at_14 rfl rfl ?_
    refine s_static (pc' := 18) (y := y0_pick) (argsL := [(.int (2 : Int32))]) (rest := []) A (pick2 l Z a0 hw n0 h0 A.size z2 S_ADMINISTRATOR) (w1 hw) (w2 hw) (w3 hw) (w4 hw) (by decide) pd__I_Lcom_example_proctor_proctor_server_Holder_Role_ rfl (W := 0) (by decide) (by decide) (Nat.le_of_eq rfl) (by decide) (by decide) rfl rfl at_15 rfl fun T h421 v422 A Q423 => ?_
    obtain ⟨rfl, eh⟩ := Q423
    rw [eh] at A
    refine Wp.stk (st' := [(.ref z2)]) rfl ?_
    refine s_astore (pc' := 20) (Ls' := #[iv q0, iv q1, iv 2, iv 1, rv z2, U0, U0, U0, U0, U0]) A at_18 rfl rfl rfl ?_
    refine s_iloadN (pc' := 21) A at_20 rfl rfl ?_
    refine s_static (pc' := 24) (y := y0_pick) (argsL := [(.int (1 : Int32))]) (rest := []) A (pick1 l Z a0 hw n0 h0 A.size z3 S_SUBJECT) (w1 hw) (w2 hw) (w3 hw) (w4 hw) (by decide) pd__I_Lcom_example_proctor_proctor_server_Holder_Role_ rfl (W := 0) (by decide) (by decide) (Nat.le_of_eq rfl) (by decide) (by decide) rfl rfl at_21 rfl fun T h424 v425 A Q426 => ?_
    obtain ⟨rfl, eh⟩ := Q426
    rw [eh] at A
    refine Wp.stk (st' := [(.ref z3)]) rfl ?_
    refine s_astore (pc' := 26) (Ls' := #[iv q0, iv q1, iv 2, iv 1, rv z2, rv z3, U0, U0, U0, U0]) A at_24 rfl rfl rfl ?_
    refine s_aload (pc' := 28) A at_26 rfl rfl rfl ?_
    refine s_virtual (pc' := 31) (y := y2_label) (argsL := []) (rest := []) (z := y2_label) A E_z2 (label1 l Z a0 hw n0 h0 A.size z2 z4 F_claim_z2) (w8 hw) (w9 hw) (nf_same (C := "") (w11 hw)) (w11 hw) (w10 hw) (w6 hw) (w12 hw) (by decide) pd___Ljava_lang_String_ rfl (W := 0) (by decide) (by decide) (Nat.le_of_eq rfl) (by decide) (by decide) rfl rfl at_28 rfl fun T h427 v428 A Q429 => ?_
    obtain ⟨rfl, eh⟩ := Q429
    rw [eh] at A
    refine Wp.stk (st' := [(.ref z4)]) rfl ?_
    refine s_astore (pc' := 33) (Ls' := #[iv q0, iv q1, iv 2, iv 1, rv z2, rv z3, rv z4, U0, U0, U0]) A at_31 rfl rfl rfl ?_
    refine s_aload (pc' := 35) A at_33 rfl rfl rfl ?_
    refine s_virtual (pc' := 38) (y := y2_label) (argsL := []) (rest := []) (z := y2_label) A E_z3 (label1 l Z a0 hw n0 h0 A.size z3 z5 F_claim_z3) (w8 hw) (w9 hw) (nf_same (C := "") (w11 hw)) (w11 hw) (w10 hw) (w6 hw) (w12 hw) (by decide) pd___Ljava_lang_String_ rfl (W := 0) (by decide) (by decide) (Nat.le_of_eq rfl) (by decide) (by decide) rfl rfl at_35 rfl fun T h430 v431 A Q432 => ?_
    obtain ⟨rfl, eh⟩ := Q432
    rw [eh] at A
    refine Wp.stk (st' := [(.ref z5)]) rfl ?_
    refine s_astore (pc' := 40) (Ls' := #[iv q0, iv q1, iv 2, iv 1, rv z2, rv z3, rv z4, rv z5, U0, U0]) A at_38 rfl rfl rfl ?_
    refine s_aload (pc' := 42) A at_40 rfl rfl rfl ?_
    refine s_ifnullN (pc' := 45) A at_42 rfl ?_
    refine s_aload (pc' := 47) A at_45 rfl rfl rfl ?_
    refine s_ifnonnullY (pc' := 52) A at_47 (by decide) (by decide) ?_
    refine s_aload (pc' := 54) A at_52 rfl rfl rfl ?_
    refine s_iloadN (pc' := 55) A at_54 rfl rfl ?_
    refine s_staticS (pc' := 58) (y := y1_expected) (argsL := [(.int (2 : Int32))]) (rest := [(.ref z4)]) A B H (exp2 l Z a0 hw n0 h0 A.size) (w23 hw) (w24 hw) (w3 hw) (w25 hw) (by decide) pd__I_Ljava_lang_String_ rfl (W := 1) (by decide) (by decide) (Nat.le_of_eq rfl) (by decide) (by decide) rfl rfl at_55 rfl fun s443 T h440 v441 A B Q442 => ?_
    obtain ⟨a433, b434, rfl, X435, E436, F437, F438, V439, H⟩ := Q442
    refine Wp.stk (st' := [(.ref a433), (.ref z4)]) rfl ?_
    have S444 := (S_COMPACT_STRINGS.ext X435)
    have E445 := (E_z4.ext X435)
    have F446 := (F_coder_z4.ext X435)
    have F447 := (F_value_z4.ext X435)
    have V448 := (V_z6.ext X435)
    refine s_virtual (pc' := 61) (y := y5_equals) (argsL := [(.ref a433)]) (rest := []) (z := y5_equals) A E445 (eq_22 l Z a0 hw n0 h440 A.size z4 a433 z6 b434 cz S444 ncz E445 F446 F447 V448 E436 F437 F438 V439) (w27 hw) (w28 hw) (nf_same (C := "") (w30 hw)) (w30 hw) (w29 hw) (w16 hw) (w31 hw) (by decide) pd__Ljava_lang_Object__Z rfl (W := 0) (by decide) (by decide) (Nat.le_of_eq rfl) (by decide) (by decide) rfl rfl at_58 rfl fun T h449 v450 A Q451 => ?_
    obtain ⟨rfl, eh⟩ := Q451
    rw [eh] at A
    refine Wp.stk (st' := [(.int (1 : Int32))]) rfl ?_
    refine s_ifY (pc' := 66) A at_61 (by decide) (by decide) (by decide) ?_
    refine s_aload (pc' := 68) A at_66 rfl rfl rfl ?_
    have F452 := (F_claim_z2.ext X435)
    have E456 := (E_z2.ext X435)
    refine s_virtual (pc' := 71) (y := y3_claim) (argsL := []) (rest := []) (z := y3_claim) A E456 (claim1 l Z a0 hw n0 h440 A.size z2 z4 F452) (w32 hw) (w33 hw) (nf_same (C := "") (w35 hw)) (w35 hw) (w34 hw) (w6 hw) (w36 hw) (by decide) pd___Ljava_lang_String_ rfl (W := 0) (by decide) (by decide) (Nat.le_of_eq rfl) (by decide) (by decide) rfl rfl at_68 rfl fun T h453 v454 A Q455 => ?_
    obtain ⟨rfl, eh⟩ := Q455
    rw [eh] at A
    refine Wp.stk (st' := [(.ref z4)]) rfl ?_
    refine s_astore (pc' := 73) (Ls' := #[iv q0, iv q1, iv 2, iv 1, rv z2, rv z3, rv z4, rv z5, rv z4, U0]) A at_71 rfl rfl rfl ?_
    refine s_aload (pc' := 75) A at_73 rfl rfl rfl ?_
    refine s_ifnonnullY (pc' := 88) A at_75 (by decide) (by decide) ?_
    refine s_aload (pc' := 90) A at_88 rfl rfl rfl ?_
    refine s_aload (pc' := 92) A at_90 rfl rfl rfl ?_
    refine s_virtual (pc' := 95) (y := y5_equals) (argsL := [(.ref z4)]) (rest := []) (z := y5_equals) A E445 (eq_22 l Z a0 hw n0 h440 A.size z4 z4 z6 z6 cz S444 ncz E445 F446 F447 V448 E445 F446 F447 V448) (w27 hw) (w28 hw) (nf_same (C := "") (w30 hw)) (w30 hw) (w29 hw) (w16 hw) (w31 hw) (by decide) pd__Ljava_lang_Object__Z rfl (W := 0) (by decide) (by decide) (Nat.le_of_eq rfl) (by decide) (by decide) rfl rfl at_92 rfl fun T h457 v458 A Q459 => ?_
    obtain ⟨rfl, eh⟩ := Q459
    rw [eh] at A
    refine Wp.stk (st' := [(.int (1 : Int32))]) rfl ?_
    refine s_istore (pc' := 97) (Ls' := #[iv q0, iv q1, iv 2, iv 1, rv z2, rv z3, rv z4, rv z5, rv z4, iv 1]) A at_95 rfl rfl ?_
    refine s_iload (pc' := 99) A at_97 rfl rfl ?_
    refine s_ifY (pc' := 104) A at_99 (by decide) (by decide) (by decide) ?_
    refine s_iloadN (pc' := 105) A at_104 rfl rfl ?_
    refine s_iloadN (pc' := 106) A at_105 rfl rfl ?_
    refine s_icmpY (pc' := 113) A at_106 (by decide) (by decide) (by decide) ?_
    refine s_iconst (pc' := 114) (z := (0 : Int32)) A at_113 rfl (by decide) ?_
    refine s_aload (pc' := 116) A at_114 rfl rfl rfl ?_
    refine s_aload (pc' := 118) A at_116 rfl rfl rfl ?_
    have E460 := (E_z5.ext X435)
    have F461 := (F_coder_z5.ext X435)
    have F462 := (F_value_z5.ext X435)
    have V463 := (V_z7.ext X435)
    refine s_virtual (pc' := 121) (y := y5_equals) (argsL := [(.ref z5)]) (rest := [(.int (0 : Int32))]) (z := y5_equals) A E445 (eq_21 l Z a0 hw n0 h440 A.size z4 z5 z6 z7 cz S444 ncz E445 F446 F447 V448 E460 F461 F462 V463) (w27 hw) (w28 hw) (nf_same (C := "") (w30 hw)) (w30 hw) (w29 hw) (w16 hw) (w31 hw) (by decide) pd__Ljava_lang_Object__Z rfl (W := 1) (by decide) (by decide) (Nat.le_of_eq rfl) (by decide) (by decide) rfl rfl at_118 rfl fun T h464 v465 A Q466 => ?_
    obtain ⟨rfl, eh⟩ := Q466
    rw [eh] at A
    refine Wp.stk (st' := [(.int (0 : Int32)), (.int (0 : Int32))]) rfl ?_
    refine s_icmpN (pc' := 124) A at_121 rfl (by decide) ?_
    refine s_iconst (pc' := 125) (z := (1 : Int32)) A at_124 rfl (by decide) ?_
    refine s_goto (pc' := 129) A at_125 (by decide) (by decide) ?_
    exact rS_bool A B rfl (by decide) at_129 (by decide) (by decide) (fun vm hv => rfl)
   ·
    refine s_irem (pc' := 13) (z := (2 : Int32)) A at_12 rfl (by decide) hkkq1.symm ?_
    refine s_istoreN (pc' := 14) (Ls' := #[iv q0, iv q1, iv 2, iv 2, U0, U0, U0, U0, U0, U0]) A at_13 rfl rfl ?_
    refine s_iloadN (pc' := 15) A at_14 rfl rfl ?_
    refine s_static (pc' := 18) (y := y0_pick) (argsL := [(.int (2 : Int32))]) (rest := []) A (pick2 l Z a0 hw n0 h0 A.size z2 S_ADMINISTRATOR) (w1 hw) (w2 hw) (w3 hw) (w4 hw) (by decide) pd__I_Lcom_example_proctor_proctor_server_Holder_Role_ rfl (W := 0) (by decide) (by decide) (Nat.le_of_eq rfl) (by decide) (by decide) rfl rfl at_15 rfl fun T h467 v468 A Q469 => ?_
    obtain ⟨rfl, eh⟩ := Q469
    rw [eh] at A
    refine Wp.stk (st' := [(.ref z2)]) rfl ?_
    refine s_astore (pc' := 20) (Ls' := #[iv q0, iv q1, iv 2, iv 2, rv z2, U0, U0, U0, U0, U0]) A at_18 rfl rfl rfl ?_
    refine s_iloadN (pc' := 21) A at_20 rfl rfl ?_
    refine s_static (pc' := 24) (y := y0_pick) (argsL := [(.int (2 : Int32))]) (rest := []) A (pick2 l Z a0 hw n0 h0 A.size z2 S_ADMINISTRATOR) (w1 hw) (w2 hw) (w3 hw) (w4 hw) (by decide) pd__I_Lcom_example_proctor_proctor_server_Holder_Role_ rfl (W := 0) (by decide) (by decide) (Nat.le_of_eq rfl) (by decide) (by decide) rfl rfl at_21 rfl fun T h470 v471 A Q472 => ?_
    obtain ⟨rfl, eh⟩ := Q472
    rw [eh] at A
    refine Wp.stk (st' := [(.ref z2)]) rfl ?_
    refine s_astore (pc' := 26) (Ls' := #[iv q0, iv q1, iv 2, iv 2, rv z2, rv z2, U0, U0, U0, U0]) A at_24 rfl rfl rfl ?_
    refine s_aload (pc' := 28) A at_26 rfl rfl rfl ?_
    refine s_virtual (pc' := 31) (y := y2_label) (argsL := []) (rest := []) (z := y2_label) A E_z2 (label1 l Z a0 hw n0 h0 A.size z2 z4 F_claim_z2) (w8 hw) (w9 hw) (nf_same (C := "") (w11 hw)) (w11 hw) (w10 hw) (w6 hw) (w12 hw) (by decide) pd___Ljava_lang_String_ rfl (W := 0) (by decide) (by decide) (Nat.le_of_eq rfl) (by decide) (by decide) rfl rfl at_28 rfl fun T h473 v474 A Q475 => ?_
    obtain ⟨rfl, eh⟩ := Q475
    rw [eh] at A
    refine Wp.stk (st' := [(.ref z4)]) rfl ?_
    refine s_astore (pc' := 33) (Ls' := #[iv q0, iv q1, iv 2, iv 2, rv z2, rv z2, rv z4, U0, U0, U0]) A at_31 rfl rfl rfl ?_
    refine s_aload (pc' := 35) A at_33 rfl rfl rfl ?_
    refine s_virtual (pc' := 38) (y := y2_label) (argsL := []) (rest := []) (z := y2_label) A E_z2 (label1 l Z a0 hw n0 h0 A.size z2 z4 F_claim_z2) (w8 hw) (w9 hw) (nf_same (C := "") (w11 hw)) (w11 hw) (w10 hw) (w6 hw) (w12 hw) (by decide) pd___Ljava_lang_String_ rfl (W := 0) (by decide) (by decide) (Nat.le_of_eq rfl) (by decide) (by decide) rfl rfl at_35 rfl fun T h476 v477 A Q478 => ?_
    obtain ⟨rfl, eh⟩ := Q478
    rw [eh] at A
    refine Wp.stk (st' := [(.ref z4)]) rfl ?_
    refine s_astore (pc' := 40) (Ls' := #[iv q0, iv q1, iv 2, iv 2, rv z2, rv z2, rv z4, rv z4, U0, U0]) A at_38 rfl rfl rfl ?_
    refine s_aload (pc' := 42) A at_40 rfl rfl rfl ?_
    refine s_ifnullN (pc' := 45) A at_42 rfl ?_
    refine s_aload (pc' := 47) A at_45 rfl rfl rfl ?_
    refine s_ifnonnullY (pc' := 52) A at_47 (by decide) (by decide) ?_
    refine s_aload (pc' := 54) A at_52 rfl rfl rfl ?_
    refine s_iloadN (pc' := 55) A at_54 rfl rfl ?_
    refine s_staticS (pc' := 58) (y := y1_expected) (argsL := [(.int (2 : Int32))]) (rest := [(.ref z4)]) A B H (exp2 l Z a0 hw n0 h0 A.size) (w23 hw) (w24 hw) (w3 hw) (w25 hw) (by decide) pd__I_Ljava_lang_String_ rfl (W := 1) (by decide) (by decide) (Nat.le_of_eq rfl) (by decide) (by decide) rfl rfl at_55 rfl fun s489 T h486 v487 A B Q488 => ?_
    obtain ⟨a479, b480, rfl, X481, E482, F483, F484, V485, H⟩ := Q488
    refine Wp.stk (st' := [(.ref a479), (.ref z4)]) rfl ?_
    have S490 := (S_COMPACT_STRINGS.ext X481)
    have E491 := (E_z4.ext X481)
    have F492 := (F_coder_z4.ext X481)
    have F493 := (F_value_z4.ext X481)
    have V494 := (V_z6.ext X481)
    refine s_virtual (pc' := 61) (y := y5_equals) (argsL := [(.ref a479)]) (rest := []) (z := y5_equals) A E491 (eq_22 l Z a0 hw n0 h486 A.size z4 a479 z6 b480 cz S490 ncz E491 F492 F493 V494 E482 F483 F484 V485) (w27 hw) (w28 hw) (nf_same (C := "") (w30 hw)) (w30 hw) (w29 hw) (w16 hw) (w31 hw) (by decide) pd__Ljava_lang_Object__Z rfl (W := 0) (by decide) (by decide) (Nat.le_of_eq rfl) (by decide) (by decide) rfl rfl at_58 rfl fun T h495 v496 A Q497 => ?_
    obtain ⟨rfl, eh⟩ := Q497
    rw [eh] at A
    refine Wp.stk (st' := [(.int (1 : Int32))]) rfl ?_
    refine s_ifY (pc' := 66) A at_61 (by decide) (by decide) (by decide) ?_
    refine s_aload (pc' := 68) A at_66 rfl rfl rfl ?_
    have F498 := (F_claim_z2.ext X481)
    have E502 := (E_z2.ext X481)
    refine s_virtual (pc' := 71) (y := y3_claim) (argsL := []) (rest := []) (z := y3_claim) A E502 (claim1 l Z a0 hw n0 h486 A.size z2 z4 F498) (w32 hw) (w33 hw) (nf_same (C := "") (w35 hw)) (w35 hw) (w34 hw) (w6 hw) (w36 hw) (by decide) pd___Ljava_lang_String_ rfl (W := 0) (by decide) (by decide) (Nat.le_of_eq rfl) (by decide) (by decide) rfl rfl at_68 rfl fun T h499 v500 A Q501 => ?_
    obtain ⟨rfl, eh⟩ := Q501
    rw [eh] at A
    refine Wp.stk (st' := [(.ref z4)]) rfl ?_
    refine s_astore (pc' := 73) (Ls' := #[iv q0, iv q1, iv 2, iv 2, rv z2, rv z2, rv z4, rv z4, rv z4, U0]) A at_71 rfl rfl rfl ?_
    refine s_aload (pc' := 75) A at_73 rfl rfl rfl ?_
    refine s_ifnonnullY (pc' := 88) A at_75 (by decide) (by decide) ?_
    refine s_aload (pc' := 90) A at_88 rfl rfl rfl ?_
    refine s_aload (pc' := 92) A at_90 rfl rfl rfl ?_
    refine s_virtual (pc' := 95) (y := y5_equals) (argsL := [(.ref z4)]) (rest := []) (z := y5_equals) A E491 (eq_22 l Z a0 hw n0 h486 A.size z4 z4 z6 z6 cz S490 ncz E491 F492 F493 V494 E491 F492 F493 V494) (w27 hw) (w28 hw) (nf_same (C := "") (w30 hw)) (w30 hw) (w29 hw) (w16 hw) (w31 hw) (by decide) pd__Ljava_lang_Object__Z rfl (W := 0) (by decide) (by decide) (Nat.le_of_eq rfl) (by decide) (by decide) rfl rfl at_92 rfl fun T h503 v504 A Q505 => ?_
    obtain ⟨rfl, eh⟩ := Q505
    rw [eh] at A
    refine Wp.stk (st' := [(.int (1 : Int32))]) rfl ?_
    refine s_istore (pc' := 97) (Ls' := #[iv q0, iv q1, iv 2, iv 2, rv z2, rv z2, rv z4, rv z4, rv z4, iv 1]) A at_95 rfl rfl ?_
    refine s_iload (pc' := 99) A at_97 rfl rfl ?_
    refine s_ifY (pc' := 104) A at_99 (by decide) (by decide) (by decide) ?_
    refine s_iloadN (pc' := 105) A at_104 rfl rfl ?_
    refine s_iloadN (pc' := 106) A at_105 rfl rfl ?_
    refine s_icmpN (pc' := 109) A at_106 rfl (by decide) ?_
    refine s_iconst (pc' := 110) (z := (1 : Int32)) A at_109 rfl (by decide) ?_
    refine s_goto (pc' := 114) A at_110 (by decide) (by decide) ?_
    refine s_aload (pc' := 116) A at_114 rfl rfl rfl ?_
    refine s_aload (pc' := 118) A at_116 rfl rfl rfl ?_
    refine s_virtual (pc' := 121) (y := y5_equals) (argsL := [(.ref z4)]) (rest := [(.int (1 : Int32))]) (z := y5_equals) A E491 (eq_22 l Z a0 hw n0 h486 A.size z4 z4 z6 z6 cz S490 ncz E491 F492 F493 V494 E491 F492 F493 V494) (w27 hw) (w28 hw) (nf_same (C := "") (w30 hw)) (w30 hw) (w29 hw) (w16 hw) (w31 hw) (by decide) pd__Ljava_lang_Object__Z rfl (W := 1) (by decide) (by decide) (Nat.le_of_eq rfl) (by decide) (by decide) rfl rfl at_118 rfl fun T h506 v507 A Q508 => ?_
    obtain ⟨rfl, eh⟩ := Q508
    rw [eh] at A
    refine Wp.stk (st' := [(.int (1 : Int32)), (.int (1 : Int32))]) rfl ?_
    refine s_icmpN (pc' := 124) A at_121 rfl (by decide) ?_
    refine s_iconst (pc' := 125) (z := (1 : Int32)) A at_124 rfl (by decide) ?_
    refine s_goto (pc' := 129) A at_125 (by decide) (by decide) ?_
    exact rS_bool A B rfl (by decide) at_129 (by decide) (by decide) (fun vm hv => rfl)
set_option maxRecDepth 65536 in
set_option maxHeartbeats 40000000 in
theorem comes_1 {Post : Tables → Env → Array Value → State → Outcome → State → Prop} (hpost : ∀ tb e args s v u, (limb_1_1.after args s (.returned v) u = true ∧ limb_1_2.after args s (.returned v) u = true ∧ True) → ReturnedEndW s (.returned v) u (Jvm.fieldLocs frame_1_writes args s ++ Jvm.arrayLocs frame_1_arrays args s ++ Jvm.staticLocs frame_1_statics s) 8 4160 → Post tb e args s (.returned v) u) :
    ArmFor flags0 classFile x code maxLocals ret World_1 tables_1 room_1 Calls_1 rest_1 Pre_1 Post := by
  intro l hfl _ _ p e ha hc hk s m args below hf hA hF happ hP
  obtain ⟨hcalls, hrest, hpre⟩ := hP
  obtain ⟨-, -, -, hnamed, -, -, -, hat⟩ := (Spec.applies_iff hf).mp happ
  obtain ⟨hg, hn⟩ := and_e (Cond.before_iff.mp (show (Jvm.Cond.and given_1 narrow_1).before args s = true from hpre))
  obtain ⟨hcnt, hg⟩ := and_e hg
  obtain ⟨w0, w1, rfl⟩ : ∃ w0 w1 : Value, args = #[w0, w1] := by
    have hs : args.size = 2 := by simpa [Cond.value, given_1] using hcnt
    obtain ⟨L⟩ := args
    match L, hs with
    | [w0, w1], _ => exact ⟨w0, w1, rfl⟩
  have hw := fun d (hd : d ∈ tables_1) => atoms_spec (ws := Jvm.Cond.code x code maxLocals ret :: tables_1) hat d (List.mem_cons_of_mem _ hd)
  have hfit : Fit s := fun {y c} hc i hi => by
    obtain ⟨ha, rfl⟩ := Array.getElem?_eq_some_iff.mp hc
    have q := List.all_eq_true.mp ((Array.all_eq_true_iff_forall_mem.mp hF) _ (Array.getElem_mem ha)) i (List.mem_range.mpr hi)
    simpa [Array.getElem?_eq_getElem hi] using q
  obtain ⟨g0, hg⟩ := and_e hg
  obtain ⟨x0, e0⟩ := is_v g0
  obtain rfl : w0 = (.int x0) := Option.some.inj e0
  obtain ⟨x1, e1⟩ := is_v hg
  obtain rfl : w1 = (.int x1) := Option.some.inj e1
  have hsets := (atoms_of jdkStatics_1 (own := restOwn_1) (by have q := hrest; rw [show rest_1 = Jvm.D.preC rest_1_c from rfl] at q; exact q)).1
  obtain ⟨cz, ecz⟩ := is_v (Cond.before_iff.mp (hsets _ (List.mem_of_getElem? (i := 1) rfl)))
  have S_COMPACT_STRINGS : Sta s s.heap "java/lang/String" "COMPACT_STRINGS" "Z" (.int cz) := Sta.start ecz (Or.inl (hsets _ (List.mem_of_getElem? (i := 0) rfl)))
  have ncz := x_neI ecz (Cond.before_iff.mp (hsets _ (List.mem_of_getElem? (i := 2) rfl)))
  obtain ⟨fv, efv, hfv⟩ := isR_v (Cond.before_iff.mp (hsets _ (List.mem_of_getElem? (i := 8) rfl)))
  have S_SIOOBE_FORMATTER : Sta s s.heap "jdk/internal/util/Preconditions" "SIOOBE_FORMATTER" "Ljava/util/function/BiFunction;" fv := Sta.start efv (Or.inl (hsets _ (List.mem_of_getElem? (i := 7) rfl)))
  obtain ⟨m0, hn⟩ := and_e hn
  obtain ⟨z1, ev1⟩ := exa_v m0
  have S_APPLICATION : Sta s s.heap "com/example/proctor/proctor/server/Holder$Role" "APPLICATION" "Lcom/example/proctor/proctor/server/Holder$Role;" (.ref z1) := Sta.start ev1 (Or.inr ⟨(w6 hw), (w7 hw)⟩)
  have E_z1 := Exa.start ev1 m0
  obtain ⟨m1, hn⟩ := and_e hn
  have F_claim_z1 := x_fld ev1 (null_v m1)
  obtain ⟨m2, hn⟩ := and_e hn
  obtain ⟨z2, ev2⟩ := exa_v m2
  have S_ADMINISTRATOR : Sta s s.heap "com/example/proctor/proctor/server/Holder$Role" "ADMINISTRATOR" "Lcom/example/proctor/proctor/server/Holder$Role;" (.ref z2) := Sta.start ev2 (Or.inr ⟨(w6 hw), (w38 hw)⟩)
  have E_z2 := Exa.start ev2 m2
  obtain ⟨m3, hn⟩ := and_e hn
  obtain ⟨z3, ev3⟩ := exa_v m3
  have S_SUBJECT : Sta s s.heap "com/example/proctor/proctor/server/Holder$Role" "SUBJECT" "Lcom/example/proctor/proctor/server/Holder$Role;" (.ref z3) := Sta.start ev3 (Or.inr ⟨(w6 hw), (w40 hw)⟩)
  have E_z3 := Exa.start ev3 m3
  obtain ⟨m4, hn⟩ := and_e hn
  obtain ⟨z4, ev4⟩ := exa_v m4
  have F_claim_z2 := x_fld ev2 ev4
  have E_z4 := Exa.start ev4 m4
  obtain ⟨m5, hn⟩ := and_e hn
  obtain ⟨z5, ev5⟩ := exa_v m5
  have F_claim_z3 := x_fld ev3 ev5
  have E_z5 := Exa.start ev5 m5
  obtain ⟨m6, hn⟩ := and_e hn
  have F_coder_z4 := x_fld ev4 (x_eqI m6)
  obtain ⟨m7, hn⟩ := and_e hn
  obtain ⟨z6, ev6⟩ := arr_v m7
  have F_value_z4 := x_fld ev4 ev6
  obtain ⟨c_z6, A_z6⟩ := Arr.start ev6 m7
  obtain ⟨m8, hn⟩ := and_e hn
  have L_z6 := x_len ev6 A_z6 (x_eqI m8)
  obtain ⟨m9, hn⟩ := and_e hn
  obtain ⟨m10, hn⟩ := and_e hn
  have F_coder_z5 := x_fld ev5 (x_eqI m10)
  obtain ⟨m11, hn⟩ := and_e hn
  obtain ⟨z7, ev7⟩ := arr_v m11
  have F_value_z5 := x_fld ev5 ev7
  obtain ⟨c_z7, A_z7⟩ := Arr.start ev7 m11
  obtain ⟨m12, hn⟩ := and_e hn
  have L_z7 := x_len ev7 A_z7 (x_eqI m12)
  obtain ⟨m13, hn⟩ := and_e hn
  have el_z6_0 := x_el ev6 A_z6 (x_eqI m13) (i := 0) (by decide)
  obtain ⟨m14, hn⟩ := and_e hn
  have el_z6_1 := x_el ev6 A_z6 (x_eqI m14) (i := 1) (by decide)
  obtain ⟨m15, hn⟩ := and_e hn
  have el_z6_2 := x_el ev6 A_z6 (x_eqI m15) (i := 2) (by decide)
  obtain ⟨m16, hn⟩ := and_e hn
  have el_z6_3 := x_el ev6 A_z6 (x_eqI m16) (i := 3) (by decide)
  obtain ⟨m17, hn⟩ := and_e hn
  have el_z6_4 := x_el ev6 A_z6 (x_eqI m17) (i := 4) (by decide)
  obtain ⟨m18, hn⟩ := and_e hn
  have el_z7_0 := x_el ev7 A_z7 (x_eqI m18) (i := 0) (by decide)
  obtain ⟨m19, hn⟩ := and_e hn
  have el_z7_1 := x_el ev7 A_z7 (x_eqI m19) (i := 1) (by decide)
  obtain ⟨m20, hn⟩ := and_e hn
  have el_z7_2 := x_el ev7 A_z7 (x_eqI m20) (i := 2) (by decide)
  obtain ⟨m21, hn⟩ := and_e hn
  have el_z7_3 := x_el ev7 A_z7 (x_eqI m21) (i := 3) (by decide)
  obtain ⟨m22, hn⟩ := and_e hn
  have el_z7_4 := x_el ev7 A_z7 (x_eqI m22) (i := 4) (by decide)
  obtain ⟨m23, hn⟩ := and_e hn
  have el_z7_5 := x_el ev7 A_z7 (x_eqI m23) (i := 5) (by decide)
  have el_z7_6 := x_el ev7 A_z7 (x_eqI hn) (i := 6) (by decide)
  have V_z6 : AA s s.heap z6 .byte [.int (97 : Int32), .int (100 : Int32), .int (109 : Int32), .int (105 : Int32), .int (110 : Int32)] := x_aa hfit A_z6 L_z6 (by decide) (by decide) (by decide) ⟨el_z6_0, el_z6_1, el_z6_2, el_z6_3, el_z6_4, trivial⟩
  have V_z7 : AA s s.heap z7 .byte [.int (115 : Int32), .int (117 : Int32), .int (98 : Int32), .int (106 : Int32), .int (101 : Int32), .int (99 : Int32), .int (116 : Int32)] := x_aa hfit A_z7 L_z7 (by decide) (by decide) (by decide) ⟨el_z7_0, el_z7_1, el_z7_2, el_z7_3, el_z7_4, el_z7_5, el_z7_6, trivial⟩
  have hLK := lkstart hw hcalls.1 (hsets _ (List.mem_of_getElem? (i := 2) rfl))
  obtain ⟨n, o, h1, h2, h3, _, L, rfl, ⟨N, rfl⟩, hq⟩ := rm0 l s _ hw s.heap.size s.heap (Nat.le_refl _) x0 x1 cz S_COMPACT_STRINGS ncz fv hfv S_SIOOBE_FORMATTER z1 S_APPLICATION E_z1 F_claim_z1 z2 S_ADMINISTRATOR E_z2 z3 S_SUBJECT E_z3 z4 F_claim_z2 E_z4 z5 F_claim_z3 E_z5 F_coder_z4 z6 F_value_z4 F_coder_z5 z7 F_value_z5 V_z6 V_z7 tables_1 p e ha hc hk s m _ below hf ((Spec.applies_iff_loose hf).mp happ).1 ⟨rfl, State.Warmed39.refl s, rfl, hLK⟩ trivial
  refine ⟨n, _, h1, h2, h3, hpost _ _ _ _ _ _ ⟨Cond.after_iff.mpr rfl, Cond.after_iff.mpr (eq_i res_at (Term.int_eval (1)) rfl), trivial⟩ ⟨hq.1, hq.2.1, hq.2.2.1, (hq.2.2.2.sift fun y hy => Or.inr (N y hy)).mono (by decide) (by decide)⟩⟩
theorem main_1_1 : Claimed_1_1 := comes_1 fun _ _ _ _ _ _ h hF => ⟨h.1, hF⟩
theorem main_1_2 : Claimed_1_2 := comes_1 fun _ _ _ _ _ _ h hF => ⟨h.2.1, hF⟩
end Jvm.Pilot.@@N@@
namespace Jvm.Pilot.@@N@@
open Jvm Jvm.ClassFile Sem Op Lib Jvm.Free Jvm.Stand Jvm.Pilot.@@N@@.Jvm.D
/-! MADE BY PROGRAM (witnessworld.py) out of the Statement's table words and the real class files: 18 classes; the members and pool entries that the words name. The judged class is class 1, her method 3. -/
namespace start1
open Jvm.ClassFile
def u (s : String) : CpInfo := .utf8 (stringToUtf16 s)
/-- a pool by its gaps: so many unusable entries, then the entry; so many at the end -/
def gap : Nat → List CpInfo → List CpInfo
  | 0, r => r
  | n + 1, r => .unusable :: gap n r
def poolList (es : List (Nat × CpInfo)) (last : Nat) : List CpInfo := es.foldr (fun e r => gap e.1 (e.2 :: r)) (gap last [])
def pool (es : List (Nat × CpInfo)) (last : Nat) : Array CpInfo := ⟨poolList es last⟩
def fileOf (pool : Array CpInfo) (this : Nat) (attrs : Array Attribute := #[]) (ms : Array MethodInfo := #[]) (fl : Nat := 33) (sup : Nat := 0) (ifs : Array Nat := #[]) (fds : Array FieldInfo := #[]) : ClassFile where
  minorVersion := 0
  majorVersion := 65
  constantPool := pool
  accessFlags := fl
  thisClass := this
  superClass := sup
  interfaces := ifs
  fields := fds
  methods := ms
  attributes := attrs
def plain (name : String) (sup : Option ClassId) : Class where
  name := name
  kind := .ordinary
  loader := none
  accessFlags := 33
  super := sup
  interfaces := #[]
  cf := none
  fields := #[]
  methods := #[]
  instanceTypes := #[]
  staticTypes := #[]
  resolved := #[]
  callSites := []
  init := .initialized
  statics := none
  mirror := none

def pool0 : Array CpInfo := pool [(5, u "<init>"), (0, u "()V"), (1, .class_ 10), (1, u "java/lang/Object")] 113

def k0m0 : Method := { name := "<init>", desc := "()V", sig := { parameters := [], returnType := none }, accessFlags := 1, code := none }
/-- java/lang/Object -/
def k0 : Class := { plain "java/lang/Object" none with
  accessFlags := 33
  interfaces := #[]
  cf := some (fileOf pool0 8 #[] #[{ accessFlags := 1, nameIndex := 5, descriptorIndex := 6, attributes := #[] }] 33 0 #[] #[])
  fields := #[]
  methods := #[k0m0]
  instanceTypes := #[]
  staticTypes := #[]
  resolved := Array.replicate 124 none
  statics := none }

def pool1 : Array CpInfo := pool [(2, .class_ 4), (1, u "java/lang/Object"), (0, u "<init>"), (0, u "()V"), (0, .fieldref 8 9), (0, .class_ 10), (0, .nameAndType 11 12), (0, u "com/example/proctor/proctor/server/Holder$Role"), (0, u "APPLICATION"), (0, u "Lcom/example/proctor/proctor/server/Holder$Role;"), (0, .fieldref 8 14), (0, .nameAndType 15 12), (0, u "SUBJECT"), (0, .fieldref 8 17), (0, .nameAndType 18 12), (0, u "ADMINISTRATOR"), (0, .string 20), (0, u "application"), (0, .string 22), (0, u "subject"), (0, .string 24), (0, u "admin"), (0, .integer 2147483647), (0, .methodref 27 28), (0, .class_ 29), (0, .nameAndType 30 31), (0, u "com/example/proctor/proctor/server/RoleLabelPinLaw"), (0, u "pick"), (0, u "(I)Lcom/example/proctor/proctor/server/Holder$Role;"), (0, .methodref 8 33), (0, .nameAndType 34 35), (0, u "label"), (0, u "()Ljava/lang/String;"), (0, .methodref 27 37), (0, .nameAndType 38 39), (0, u "expected"), (0, u "(I)Ljava/lang/String;"), (0, .methodref 41 42), (0, .class_ 43), (0, .nameAndType 44 45), (0, u "java/lang/String"), (0, u "equals"), (0, u "(Ljava/lang/Object;)Z"), (0, .methodref 8 47), (0, .nameAndType 48 35), (0, u "claim"), (3, u "law"), (0, u "(II)Z")] 6

def k1m0 : Method := { name := "<init>", desc := "()V", sig := { parameters := [], returnType := none }, accessFlags := 1, code := none }
def k1c1 : Code := { maxStack := 2, maxLocals := 1, code := method_2_code, exceptionTable := #[], attributes := #[] }
def k1m1 : Method := { name := "pick", desc := "(I)Lcom/example/proctor/proctor/server/Holder$Role;", sig := { parameters := [.int], returnType := some (.object "com/example/proctor/proctor/server/Holder$Role") }, accessFlags := 10, code := some k1c1 }
def k1c2 : Code := { maxStack := 2, maxLocals := 1, code := method_3_code, exceptionTable := #[], attributes := #[] }
def k1m2 : Method := { name := "expected", desc := "(I)Ljava/lang/String;", sig := { parameters := [.int], returnType := some (.object "java/lang/String") }, accessFlags := 10, code := some k1c2 }
def k1c3 : Code := { maxStack := 3, maxLocals := 10, code := code, exceptionTable := #[], attributes := #[] }
def k1m3 : Method := { name := "law", desc := "(II)Z", sig := { parameters := [.int, .int], returnType := some .boolean }, accessFlags := 9, code := some k1c3 }
/-- com/example/proctor/proctor/server/RoleLabelPinLaw -/
def k1 : Class := { plain "com/example/proctor/proctor/server/RoleLabelPinLaw" (some 0) with
  accessFlags := 49
  interfaces := #[]
  cf := some (fileOf pool1 27 #[] #[{ accessFlags := 1, nameIndex := 5, descriptorIndex := 6, attributes := #[] }, { accessFlags := 10, nameIndex := 30, descriptorIndex := 31, attributes := #[] }, { accessFlags := 10, nameIndex := 38, descriptorIndex := 39, attributes := #[] }, { accessFlags := 9, nameIndex := 52, descriptorIndex := 53, attributes := #[] }] 49 2 #[] #[])
  fields := #[]
  methods := #[k1m0, k1m1, k1m2, k1m3]
  instanceTypes := #[]
  staticTypes := #[]
  resolved := Array.replicate 60 none
  statics := none }

def pool2 : Array CpInfo := pool [(1, .class_ 2), (0, u "java/lang/constant/Constable"), (0, .class_ 4), (0, u "java/lang/Object")] 6

/-- java/lang/constant/Constable -/
def k2 : Class := { plain "java/lang/constant/Constable" (some 0) with
  accessFlags := 1537
  interfaces := #[]
  cf := some (fileOf pool2 1 #[] #[] 1537 3 #[] #[])
  fields := #[]
  methods := #[]
  instanceTypes := #[]
  staticTypes := #[]
  resolved := Array.replicate 11 none
  statics := none }

def pool3 : Array CpInfo := pool [(1, .class_ 2), (0, u "java/lang/Comparable"), (0, .class_ 4), (0, u "java/lang/Object")] 7

/-- java/lang/Comparable -/
def k3 : Class := { plain "java/lang/Comparable" (some 0) with
  accessFlags := 1537
  interfaces := #[]
  cf := some (fileOf pool3 1 #[] #[] 1537 3 #[] #[])
  fields := #[]
  methods := #[]
  instanceTypes := #[]
  staticTypes := #[]
  resolved := Array.replicate 12 none
  statics := none }

def pool4 : Array CpInfo := pool [(1, .class_ 2), (0, u "java/io/Serializable"), (0, .class_ 4), (0, u "java/lang/Object")] 2

/-- java/io/Serializable -/
def k4 : Class := { plain "java/io/Serializable" (some 0) with
  accessFlags := 1537
  interfaces := #[]
  cf := some (fileOf pool4 1 #[] #[] 1537 3 #[] #[])
  fields := #[]
  methods := #[]
  instanceTypes := #[]
  staticTypes := #[]
  resolved := Array.replicate 7 none
  statics := none }

def pool5 : Array CpInfo := pool [(2, .class_ 4), (1, u "java/lang/Enum"), (0, u "name"), (0, u "Ljava/lang/String;"), (2, u "ordinal"), (0, u "I"), (1, .class_ 14), (1, u "java/lang/Object"), (4, u "hash"), (86, .class_ 108), (1, u "java/lang/Enum$EnumDesc"), (2, .class_ 112), (0, u "java/lang/constant/Constable"), (0, .class_ 114), (0, u "java/lang/Comparable"), (0, .class_ 116), (0, u "java/io/Serializable")] 87

/-- java/lang/Enum -/
def k5 : Class := { plain "java/lang/Enum" (some 0) with
  accessFlags := 1057
  interfaces := #[2, 3, 4]
  cf := some (fileOf pool5 2 #[.nestMembers #[106]] #[] 1057 12 #[111, 113, 115] #[{ accessFlags := 18, nameIndex := 5, descriptorIndex := 6, attributes := #[] }, { accessFlags := 18, nameIndex := 9, descriptorIndex := 10, attributes := #[] }, { accessFlags := 2, nameIndex := 19, descriptorIndex := 10, attributes := #[] }])
  fields := #[{ name := "name", type := (.object "java/lang/String"), accessFlags := 18, slot := 0, constantValue := 0 }, { name := "ordinal", type := .int, accessFlags := 18, slot := 1, constantValue := 0 }, { name := "hash", type := .int, accessFlags := 2, slot := 2, constantValue := 0 }]
  methods := #[]
  instanceTypes := #[(.object "java/lang/String"), .int, .int]
  staticTypes := #[]
  resolved := Array.replicate 204 none
  statics := none }

def pool6 : Array CpInfo := pool [(1, .class_ 2), (0, u "com/example/proctor/proctor/server/Holder$Role"), (2, u "APPLICATION"), (0, u "Lcom/example/proctor/proctor/server/Holder$Role;"), (2, u "SUBJECT"), (2, u "ADMINISTRATOR"), (2, u "$VALUES"), (0, u "[Lcom/example/proctor/proctor/server/Holder$Role;"), (6, .class_ 25), (1, u "java/lang/Enum"), (6, .fieldref 1 33), (0, .nameAndType 34 35), (0, u "claim"), (0, u "Ljava/lang/String;"), (0, .string 37), (0, u "application"), (39, u "()Ljava/lang/String;"), (0, u "label"), (10, .class_ 90), (0, u "com/example/proctor/proctor/server/Holder")] 2

def k6c0 : Code := { maxStack := 1, maxLocals := 1, code := prog_52_method_4_code, exceptionTable := #[], attributes := #[] }
def k6m0 : Method := { name := "claim", desc := "()Ljava/lang/String;", sig := { parameters := [], returnType := some (.object "java/lang/String") }, accessFlags := 0, code := some k6c0 }
def k6c1 : Code := { maxStack := 1, maxLocals := 1, code := prog_52_method_5_code, exceptionTable := #[], attributes := #[] }
def k6m1 : Method := { name := "label", desc := "()Ljava/lang/String;", sig := { parameters := [], returnType := some (.object "java/lang/String") }, accessFlags := 0, code := some k6c1 }
/-- com/example/proctor/proctor/server/Holder$Role -/
def k6 : Class := { plain "com/example/proctor/proctor/server/Holder$Role" (some 5) with
  accessFlags := 16432
  interfaces := #[]
  cf := some (fileOf pool6 1 #[.nestHost 89] #[{ accessFlags := 0, nameIndex := 34, descriptorIndex := 77, attributes := #[] }, { accessFlags := 0, nameIndex := 78, descriptorIndex := 77, attributes := #[] }] 16432 23 #[] #[{ accessFlags := 16409, nameIndex := 5, descriptorIndex := 6, attributes := #[] }, { accessFlags := 16409, nameIndex := 9, descriptorIndex := 6, attributes := #[] }, { accessFlags := 16409, nameIndex := 12, descriptorIndex := 6, attributes := #[] }, { accessFlags := 18, nameIndex := 34, descriptorIndex := 35, attributes := #[] }, { accessFlags := 4122, nameIndex := 15, descriptorIndex := 16, attributes := #[] }])
  fields := #[{ name := "APPLICATION", type := (.object "com/example/proctor/proctor/server/Holder$Role"), accessFlags := 16409, slot := 0, constantValue := 0 }, { name := "SUBJECT", type := (.object "com/example/proctor/proctor/server/Holder$Role"), accessFlags := 16409, slot := 1, constantValue := 0 }, { name := "ADMINISTRATOR", type := (.object "com/example/proctor/proctor/server/Holder$Role"), accessFlags := 16409, slot := 2, constantValue := 0 }, { name := "claim", type := (.object "java/lang/String"), accessFlags := 18, slot := 3, constantValue := 0 }, { name := "$VALUES", type := (.array (.object "com/example/proctor/proctor/server/Holder$Role")), accessFlags := 4122, slot := 3, constantValue := 0 }]
  methods := #[k6m0, k6m1]
  instanceTypes := #[(.object "java/lang/String"), .int, .int, (.object "java/lang/String")]
  staticTypes := #[(.object "com/example/proctor/proctor/server/Holder$Role"), (.object "com/example/proctor/proctor/server/Holder$Role"), (.object "com/example/proctor/proctor/server/Holder$Role"), (.array (.object "com/example/proctor/proctor/server/Holder$Role"))]
  resolved := Array.replicate 93 none
  statics := some 0 }

def pool7 : Array CpInfo := pool [(2, .class_ 4), (1, u "java/lang/CharSequence"), (42, .class_ 48), (0, u "java/lang/CharSequence$1CodePointIterator"), (10, .class_ 60), (0, u "java/lang/CharSequence$1CharIterator"), (5, .class_ 67), (0, u "java/lang/Object")] 63

/-- java/lang/CharSequence -/
def k7 : Class := { plain "java/lang/CharSequence" (some 0) with
  accessFlags := 1537
  interfaces := #[]
  cf := some (fileOf pool7 2 #[.nestMembers #[47, 59]] #[] 1537 66 #[] #[])
  fields := #[]
  methods := #[]
  instanceTypes := #[]
  staticTypes := #[]
  resolved := Array.replicate 131 none
  statics := none }

def pool8 : Array CpInfo := pool [(1, .class_ 2), (0, u "java/lang/constant/ConstantDesc"), (0, .class_ 4), (0, u "java/lang/Object")] 32

/-- java/lang/constant/ConstantDesc -/
def k8 : Class := { plain "java/lang/constant/ConstantDesc" (some 0) with
  accessFlags := 1537
  interfaces := #[]
  cf := some (fileOf pool8 1 #[] #[] 1537 3 #[] #[])
  fields := #[]
  methods := #[]
  instanceTypes := #[]
  staticTypes := #[]
  resolved := Array.replicate 37 none
  statics := none }

def pool9 : Array CpInfo := pool [(2, .class_ 4), (1, u "java/lang/Object"), (0, u "<init>"), (0, u "()V"), (2, .fieldref 10 11), (0, .class_ 12), (0, .nameAndType 13 14), (0, u "java/lang/String"), (0, u "value"), (0, u "[B"), (0, .fieldref 10 16), (0, .nameAndType 17 18), (0, u "coder"), (0, u "B"), (2, u "hash"), (0, u "I"), (2, u "hashIsZero"), (0, u "Z"), (11, .fieldref 10 39), (0, .nameAndType 40 26), (0, u "COMPACT_STRINGS"), (66, .class_ 109), (1, u "java/lang/StringLatin1"), (431, .methodref 107 542), (0, .nameAndType 543 544), (0, u "equals"), (0, u "([B[B)Z"), (28, u "(Ljava/lang/Object;)Z"), (1, .class_ 576), (0, u "java/lang/CharSequence"), (22, u "CASE_INSENSITIVE_ORDER"), (0, u "Ljava/util/Comparator;"), (500, u "serialPersistentFields"), (0, u "[Ljava/io/ObjectStreamField;"), (0, .class_ 1104), (0, u "java/lang/String$CaseInsensitiveComparator"), (1, .class_ 1107), (0, u "java/io/Serializable"), (0, .class_ 1109), (0, u "java/lang/Comparable"), (0, .class_ 1111), (0, u "java/lang/constant/Constable"), (0, .class_ 1113), (0, u "java/lang/constant/ConstantDesc"), (2, u "serialVersionUID"), (0, u "J"), (3, u "REPL"), (0, u "C"), (2, u "LATIN1"), (1, u "UTF16")] 323

def k9m0 : Method := { name := "<init>", desc := "()V", sig := { parameters := [], returnType := none }, accessFlags := 1, code := none }
def k9c1 : Code := { maxStack := 2, maxLocals := 3, code := jdk_42_method_66_code, exceptionTable := #[], attributes := #[] }
def k9m1 : Method := { name := "equals", desc := "(Ljava/lang/Object;)Z", sig := { parameters := [(.object "java/lang/Object")], returnType := some .boolean }, accessFlags := 1, code := some k9c1 }
/-- java/lang/String -/
def k9 : Class := { plain "java/lang/String" (some 0) with
  accessFlags := 49
  interfaces := #[4, 3, 7, 2, 8]
  cf := some (fileOf pool9 10 #[.nestMembers #[1103]] #[{ accessFlags := 1, nameIndex := 5, descriptorIndex := 6, attributes := #[] }, { accessFlags := 1, nameIndex := 543, descriptorIndex := 573, attributes := #[] }] 49 2 #[1106, 1108, 575, 1110, 1112] #[{ accessFlags := 18, nameIndex := 13, descriptorIndex := 14, attributes := #[] }, { accessFlags := 18, nameIndex := 17, descriptorIndex := 18, attributes := #[] }, { accessFlags := 2, nameIndex := 21, descriptorIndex := 22, attributes := #[] }, { accessFlags := 2, nameIndex := 25, descriptorIndex := 26, attributes := #[] }, { accessFlags := 26, nameIndex := 1116, descriptorIndex := 1117, attributes := #[] }, { accessFlags := 24, nameIndex := 40, descriptorIndex := 26, attributes := #[] }, { accessFlags := 26, nameIndex := 1101, descriptorIndex := 1102, attributes := #[] }, { accessFlags := 26, nameIndex := 1121, descriptorIndex := 1122, attributes := #[] }, { accessFlags := 25, nameIndex := 599, descriptorIndex := 600, attributes := #[] }, { accessFlags := 24, nameIndex := 1125, descriptorIndex := 18, attributes := #[] }, { accessFlags := 24, nameIndex := 1127, descriptorIndex := 18, attributes := #[] }])
  fields := #[{ name := "value", type := (.array .byte), accessFlags := 18, slot := 0, constantValue := 0 }, { name := "coder", type := .byte, accessFlags := 18, slot := 1, constantValue := 0 }, { name := "hash", type := .int, accessFlags := 2, slot := 2, constantValue := 0 }, { name := "hashIsZero", type := .boolean, accessFlags := 2, slot := 3, constantValue := 0 }, { name := "serialVersionUID", type := .long, accessFlags := 26, slot := 0, constantValue := 0 }, { name := "COMPACT_STRINGS", type := .boolean, accessFlags := 24, slot := 1, constantValue := 0 }, { name := "serialPersistentFields", type := (.array (.object "java/io/ObjectStreamField")), accessFlags := 26, slot := 2, constantValue := 0 }, { name := "REPL", type := .char, accessFlags := 26, slot := 3, constantValue := 0 }, { name := "CASE_INSENSITIVE_ORDER", type := (.object "java/util/Comparator"), accessFlags := 25, slot := 4, constantValue := 0 }, { name := "LATIN1", type := .byte, accessFlags := 24, slot := 5, constantValue := 0 }, { name := "UTF16", type := .byte, accessFlags := 24, slot := 6, constantValue := 0 }]
  methods := #[k9m0, k9m1]
  instanceTypes := #[(.array .byte), .byte, .int, .boolean]
  staticTypes := #[.long, .boolean, (.array (.object "java/io/ObjectStreamField")), .char, (.object "java/util/Comparator"), .byte, .byte]
  resolved := Array.replicate 1451 none
  statics := some 1 }

def pool10 : Array CpInfo := pool [(4, .class_ 6), (1, u "java/lang/Object"), (0, u "<init>"), (0, u "()V"), (5, .class_ 16), (1, u "java/lang/StringLatin1"), (104, u "$assertionsDisabled"), (0, u "Z"), (98, .class_ 223), (1, u "java/lang/StringLatin1$LinesSpliterator"), (57, u "equals"), (0, u "([B[B)Z"), (107, .class_ 391), (0, u "java/lang/StringLatin1$CharsSpliterator")] 3

def k10m0 : Method := { name := "<init>", desc := "()V", sig := { parameters := [], returnType := none }, accessFlags := 0, code := none }
def k10c1 : Code := { maxStack := 3, maxLocals := 3, code := jdk_43_method_13_code, exceptionTable := #[], attributes := #[] }
def k10m1 : Method := { name := "equals", desc := "([B[B)Z", sig := { parameters := [(.array .byte), (.array .byte)], returnType := some .boolean }, accessFlags := 9, code := some k10c1 }
/-- java/lang/StringLatin1 -/
def k10 : Class := { plain "java/lang/StringLatin1" (some 0) with
  accessFlags := 48
  interfaces := #[]
  cf := some (fileOf pool10 14 #[.nestMembers #[390, 221]] #[{ accessFlags := 0, nameIndex := 7, descriptorIndex := 8, attributes := #[] }, { accessFlags := 9, nameIndex := 281, descriptorIndex := 282, attributes := #[] }] 48 4 #[] #[{ accessFlags := 4120, nameIndex := 121, descriptorIndex := 122, attributes := #[] }])
  fields := #[{ name := "$assertionsDisabled", type := .boolean, accessFlags := 4120, slot := 0, constantValue := 0 }]
  methods := #[k10m0, k10m1]
  instanceTypes := #[]
  staticTypes := #[.boolean]
  resolved := Array.replicate 395 none
  statics := none }

def pool11 : Array CpInfo := pool [(2, .class_ 4), (1, u "java/lang/Object"), (0, u "<init>"), (0, u "()V"), (17, .class_ 26), (1, u "jdk/internal/util/Preconditions"), (28, .class_ 56), (0, u "jdk/internal/util/Preconditions$4"), (57, .class_ 115), (0, u "jdk/internal/util/Preconditions$1"), (7, u "SIOOBE_FORMATTER"), (0, u "Ljava/util/function/BiFunction;"), (0, .class_ 126), (0, u "jdk/internal/util/Preconditions$2"), (3, u "AIOOBE_FORMATTER"), (0, .class_ 132), (0, u "jdk/internal/util/Preconditions$3"), (3, u "IOOBE_FORMATTER")] 57

def k11m0 : Method := { name := "<init>", desc := "()V", sig := { parameters := [], returnType := none }, accessFlags := 1, code := none }
/-- jdk/internal/util/Preconditions -/
def k11 : Class := { plain "jdk/internal/util/Preconditions" (some 0) with
  accessFlags := 33
  interfaces := #[]
  cf := some (fileOf pool11 24 #[.nestMembers #[55, 131, 125, 114]] #[{ accessFlags := 1, nameIndex := 5, descriptorIndex := 6, attributes := #[] }] 33 2 #[] #[{ accessFlags := 25, nameIndex := 123, descriptorIndex := 124, attributes := #[] }, { accessFlags := 25, nameIndex := 130, descriptorIndex := 124, attributes := #[] }, { accessFlags := 25, nameIndex := 136, descriptorIndex := 124, attributes := #[] }])
  fields := #[{ name := "SIOOBE_FORMATTER", type := (.object "java/util/function/BiFunction"), accessFlags := 25, slot := 0, constantValue := 0 }, { name := "AIOOBE_FORMATTER", type := (.object "java/util/function/BiFunction"), accessFlags := 25, slot := 1, constantValue := 0 }, { name := "IOOBE_FORMATTER", type := (.object "java/util/function/BiFunction"), accessFlags := 25, slot := 2, constantValue := 0 }]
  methods := #[k11m0]
  instanceTypes := #[]
  staticTypes := #[(.object "java/util/function/BiFunction"), (.object "java/util/function/BiFunction"), (.object "java/util/function/BiFunction")]
  resolved := Array.replicate 194 none
  statics := some 2 }

def pool12 : Array CpInfo := pool [(9, u "<init>"), (6, .class_ 18), (1, u "java/lang/Object"), (0, u "()V"), (1, .class_ 23), (1, u "jdk/internal/util/ArraysSupport"), (0, u "LOG2_ARRAY_LONG_INDEX_SCALE"), (0, u "I"), (2, u "U"), (0, u "Ljdk/internal/misc/Unsafe;"), (8, u "BIG_ENDIAN"), (0, u "Z"), (8, u "LOG2_BYTE_BIT_SIZE"), (4, u "LOG2_ARRAY_INT_INDEX_SCALE"), (54, u "JLA"), (0, u "Ljdk/internal/access/JavaLangAccess;"), (11, u "LOG2_ARRAY_BOOLEAN_INDEX_SCALE"), (9, u "LOG2_ARRAY_BYTE_INDEX_SCALE"), (5, u "LOG2_ARRAY_CHAR_INDEX_SCALE"), (5, u "LOG2_ARRAY_SHORT_INDEX_SCALE"), (18, u "LOG2_ARRAY_FLOAT_INDEX_SCALE"), (24, u "LOG2_ARRAY_DOUBLE_INDEX_SCALE"), (89, u "T_BOOLEAN"), (2, u "T_CHAR"), (1, u "T_FLOAT"), (1, u "T_DOUBLE"), (1, u "T_BYTE"), (1, u "T_SHORT"), (1, u "T_INT"), (1, u "T_LONG"), (1, u "SOFT_MAX_ARRAY_LENGTH")] 83

def k12m0 : Method := { name := "<init>", desc := "()V", sig := { parameters := [], returnType := none }, accessFlags := 2, code := none }
/-- jdk/internal/util/ArraysSupport -/
def k12 : Class := { plain "jdk/internal/util/ArraysSupport" (some 0) with
  accessFlags := 33
  interfaces := #[]
  cf := some (fileOf pool12 21 #[] #[{ accessFlags := 2, nameIndex := 9, descriptorIndex := 19, attributes := #[] }] 33 16 #[] #[{ accessFlags := 24, nameIndex := 28, descriptorIndex := 29, attributes := #[] }, { accessFlags := 26, nameIndex := 38, descriptorIndex := 39, attributes := #[] }, { accessFlags := 25, nameIndex := 121, descriptorIndex := 25, attributes := #[] }, { accessFlags := 25, nameIndex := 131, descriptorIndex := 25, attributes := #[] }, { accessFlags := 25, nameIndex := 137, descriptorIndex := 25, attributes := #[] }, { accessFlags := 25, nameIndex := 143, descriptorIndex := 25, attributes := #[] }, { accessFlags := 25, nameIndex := 53, descriptorIndex := 25, attributes := #[] }, { accessFlags := 25, nameIndex := 24, descriptorIndex := 25, attributes := #[] }, { accessFlags := 25, nameIndex := 162, descriptorIndex := 25, attributes := #[] }, { accessFlags := 25, nameIndex := 187, descriptorIndex := 25, attributes := #[] }, { accessFlags := 26, nameIndex := 48, descriptorIndex := 25, attributes := #[] }, { accessFlags := 25, nameIndex := 277, descriptorIndex := 25, attributes := #[] }, { accessFlags := 25, nameIndex := 280, descriptorIndex := 25, attributes := #[] }, { accessFlags := 25, nameIndex := 282, descriptorIndex := 25, attributes := #[] }, { accessFlags := 25, nameIndex := 284, descriptorIndex := 25, attributes := #[] }, { accessFlags := 25, nameIndex := 286, descriptorIndex := 25, attributes := #[] }, { accessFlags := 25, nameIndex := 288, descriptorIndex := 25, attributes := #[] }, { accessFlags := 25, nameIndex := 290, descriptorIndex := 25, attributes := #[] }, { accessFlags := 25, nameIndex := 292, descriptorIndex := 25, attributes := #[] }, { accessFlags := 26, nameIndex := 108, descriptorIndex := 109, attributes := #[] }, { accessFlags := 25, nameIndex := 294, descriptorIndex := 25, attributes := #[] }])
  fields := #[{ name := "U", type := (.object "jdk/internal/misc/Unsafe"), accessFlags := 24, slot := 0, constantValue := 0 }, { name := "BIG_ENDIAN", type := .boolean, accessFlags := 26, slot := 1, constantValue := 0 }, { name := "LOG2_ARRAY_BOOLEAN_INDEX_SCALE", type := .int, accessFlags := 25, slot := 2, constantValue := 0 }, { name := "LOG2_ARRAY_BYTE_INDEX_SCALE", type := .int, accessFlags := 25, slot := 3, constantValue := 0 }, { name := "LOG2_ARRAY_CHAR_INDEX_SCALE", type := .int, accessFlags := 25, slot := 4, constantValue := 0 }, { name := "LOG2_ARRAY_SHORT_INDEX_SCALE", type := .int, accessFlags := 25, slot := 5, constantValue := 0 }, { name := "LOG2_ARRAY_INT_INDEX_SCALE", type := .int, accessFlags := 25, slot := 6, constantValue := 0 }, { name := "LOG2_ARRAY_LONG_INDEX_SCALE", type := .int, accessFlags := 25, slot := 7, constantValue := 0 }, { name := "LOG2_ARRAY_FLOAT_INDEX_SCALE", type := .int, accessFlags := 25, slot := 8, constantValue := 0 }, { name := "LOG2_ARRAY_DOUBLE_INDEX_SCALE", type := .int, accessFlags := 25, slot := 9, constantValue := 0 }, { name := "LOG2_BYTE_BIT_SIZE", type := .int, accessFlags := 26, slot := 10, constantValue := 0 }, { name := "T_BOOLEAN", type := .int, accessFlags := 25, slot := 11, constantValue := 0 }, { name := "T_CHAR", type := .int, accessFlags := 25, slot := 12, constantValue := 0 }, { name := "T_FLOAT", type := .int, accessFlags := 25, slot := 13, constantValue := 0 }, { name := "T_DOUBLE", type := .int, accessFlags := 25, slot := 14, constantValue := 0 }, { name := "T_BYTE", type := .int, accessFlags := 25, slot := 15, constantValue := 0 }, { name := "T_SHORT", type := .int, accessFlags := 25, slot := 16, constantValue := 0 }, { name := "T_INT", type := .int, accessFlags := 25, slot := 17, constantValue := 0 }, { name := "T_LONG", type := .int, accessFlags := 25, slot := 18, constantValue := 0 }, { name := "JLA", type := (.object "jdk/internal/access/JavaLangAccess"), accessFlags := 26, slot := 19, constantValue := 0 }, { name := "SOFT_MAX_ARRAY_LENGTH", type := .int, accessFlags := 25, slot := 20, constantValue := 0 }]
  methods := #[k12m0]
  instanceTypes := #[]
  staticTypes := #[(.object "jdk/internal/misc/Unsafe"), .boolean, .int, .int, .int, .int, .int, .int, .int, .int, .int, .int, .int, .int, .int, .int, .int, .int, .int, (.object "jdk/internal/access/JavaLangAccess"), .int]
  resolved := Array.replicate 378 none
  statics := none }

def pool13 : Array CpInfo := pool [(1, u "java/lang/Cloneable"), (0, .class_ 1), (0, u "java/lang/Object"), (0, .class_ 3)] 3

/-- java/lang/Cloneable -/
def k13 : Class := { plain "java/lang/Cloneable" (some 0) with
  accessFlags := 1537
  interfaces := #[]
  cf := some (fileOf pool13 2 #[] #[] 1537 4 #[] #[])
  fields := #[]
  methods := #[]
  instanceTypes := #[]
  staticTypes := #[]
  resolved := Array.replicate 8 none
  statics := none }

/-- the primitive byte -/
def k14 : Class := { plain "byte" none with kind := .primitive 'B', accessFlags := 0x411 }
/-- [B -/
def k15 : Class := { plain "[B" (some 0) with kind := .array 14 .byte, interfaces := #[13, 4], accessFlags := 1041 }

/-- the primitive int -/
def k16 : Class := { plain "int" none with kind := .primitive 'I', accessFlags := 0x411 }
/-- [I -/
def k17 : Class := { plain "[I" (some 0) with kind := .array 16 .int, interfaces := #[13, 4], accessFlags := 1041 }

def heap : Heap := #[{ cls := 6, slots := #[.ref 5, .ref 8, .ref 11, .null], vm := .statics 6 },
  { cls := 9, slots := #[.long 0, .int 1, .null, .int 0, .null, .int 0, .int 0], vm := .statics 9 },
  { cls := 11, slots := #[.null, .null, .null], vm := .statics 11 },
  { cls := 15, slots := #[.int 97, .int 112, .int 112, .int 108, .int 105, .int 99, .int 97, .int 116, .int 105, .int 111, .int 110], vm := .none },
  { cls := 9, slots := #[.ref 3, .int 0, .int 0, .int 0], vm := .none },
  { cls := 6, slots := #[.null, .int 0, .int 0, .null], vm := .none },
  { cls := 15, slots := #[.int 115, .int 117, .int 98, .int 106, .int 101, .int 99, .int 116], vm := .none },
  { cls := 9, slots := #[.ref 6, .int 0, .int 0, .int 0], vm := .none },
  { cls := 6, slots := #[.null, .int 1, .int 0, .ref 7], vm := .none },
  { cls := 15, slots := #[.int 97, .int 100, .int 109, .int 105, .int 110], vm := .none },
  { cls := 9, slots := #[.ref 9, .int 0, .int 0, .int 0], vm := .none },
  { cls := 6, slots := #[.null, .int 2, .int 0, .ref 10], vm := .none }]
def classes : Array Class := #[k0, k1, k2, k3, k4, k5, k6, k7, k8, k9, k10, k11, k12, k13, k14, k15, k16, k17]
def interned : List (Array UInt16 × Addr) := []
def slotsUsed : Nat := 61
def theMethod : MethodId := ⟨1, 3⟩
def args0 : Array Value := #[.int 5, .int 4]
def aboutOver (below : List Frame) : State where
  vm := { classes := classes, interned := interned.toArray }
  heap := heap
  slotsUsed := slotsUsed
  threads := #[{ frames := .invoking theMethod args0 :: below }]
def below0 : List Frame := [.native { method := ⟨0, 0⟩, args := #[] }]
def about1 : State := aboutOver below0
def p0 : Program := .bare "" "" ""
def e0 : Env := launch0.env 0 0 0
theorem w_frames : about1.frames = Frame.invoking theMethod args0 :: below0 := rfl
set_option maxRecDepth 65536 in
theorem w_args : argsFit about1.vm theMethod args0 = true := by decide +kernel
set_option maxRecDepth 65536 in
theorem w_heap : heapFits about1 = true := by decide +kernel
set_option maxRecDepth 65536 in
theorem w_runnable : about1.curStatus? = some .runnable := by decide +kernel
set_option maxRecDepth 65536 in
theorem w_alone : about1.alone = true := by decide +kernel
set_option maxRecDepth 65536 in
theorem w_named : about1.methodNamed? x = some theMethod := by decide +kernel
set_option maxRecDepth 65536 in
theorem w_hears : about1.hears theMethod below0 = true := by decide +kernel
set_option maxRecDepth 65536 in
theorem w_ripe : about1.ripe theMethod args0 below0 = true := by decide +kernel
theorem w_running : about1.status = .running := rfl
set_option maxRecDepth 65536 in
theorem w_room : about1.hasRoom e0.platform room_1 = true :=
  launch0.hasRoom_least _ room_1 (by decide +kernel) (by decide +kernel) (by decide +kernel) (by decide +kernel) (by decide +kernel) (by decide +kernel)
theorem allAtoms_all (ts : List Jvm.Cond) (a : Array Jvm.Value) (st : Jvm.State) : (allAtoms ts).before a st = ts.all (fun c => c.before a st) := by
  induction ts with
  | nil => rfl
  | cons c t ih =>
    show (Jvm.Cond.and c (allAtoms t)).before a st = _
    rw [Jvm.Cond.before_and, ih, List.all_cons]
def words1 : List Jvm.Cond := Jvm.Cond.code x code maxLocals ret :: tables_1
/-- a 'code' word, met by the world's own term for the bytes: nothing is compared byte by byte -/
theorem code_word {y : MethodName} {bytes : ByteArray} {mx : Nat} {rt : Option FieldType} {a : Array Value} {s : State} {m : MethodId} {meth : Method} {c : Code} (h1 : s.methodNamed? y = some m) (h2 : s.vm.method? m = some meth) (h3 : meth.code = some c) (h4 : c.code = bytes)
    (h5 : (c.maxLocals == mx && c.exceptionTable.isEmpty && decide (c.maxStack ≤ mostOperands) && decide (meth.sig.returnType = rt) && !meth.locks && decide (parseMethodDescriptor y.desc = some meth.sig)) = true) : (Jvm.Cond.code y bytes mx rt).before a s = true := by
  simp only [Bool.and_eq_true, beq_iff_eq, Bool.not_eq_true', decide_eq_true_eq] at h5
  obtain ⟨⟨⟨⟨⟨g1, g2⟩, g3⟩, g4⟩, g5⟩, g6⟩ := h5
  simp [Cond.before, Cond.holds, Cond.value, h1, h2, h3, h4, g1, g2, g3, g4, g5, g6]
def isCode : Jvm.Cond → Bool
  | .code _ _ _ _ => true
  | _ => false
theorem all_split {L : List Jvm.Cond} {P : Jvm.Cond → Bool} (h1 : L.all (fun c => isCode c || P c) = true) (h2 : ∀ c ∈ L.filter isCode, P c = true) : L.all P = true := by
  refine List.all_eq_true.mpr fun c hc => ?_
  have h := List.all_eq_true.mp h1 c hc
  rcases Bool.eq_false_or_eq_true (isCode c) with hi | hi
  · exact h2 c (List.mem_filter.mpr ⟨hc, hi⟩)
  · simpa [hi] using h
set_option maxRecDepth 65536 in
theorem w_c0 : (Jvm.Cond.code x code maxLocals ret).before args0 about1 = true := code_word (m := ⟨1, 3⟩) (meth := k1m3) (c := k1c3) (by decide +kernel) rfl rfl rfl (by decide +kernel)
set_option maxRecDepth 65536 in
theorem w_c1 : (Jvm.Cond.code ({ cls := "com/example/proctor/proctor/server/RoleLabelPinLaw", name := "pick", desc := "(I)Lcom/example/proctor/proctor/server/Holder$Role;" } : Jvm.MethodName) method_2_code (1 : Nat) (Option.some (Jvm.ClassFile.FieldType.object "com/example/proctor/proctor/server/Holder$Role"))).before args0 about1 = true := code_word (m := ⟨1, 1⟩) (meth := k1m1) (c := k1c1) (by decide +kernel) rfl rfl rfl (by decide +kernel)
set_option maxRecDepth 65536 in
theorem w_c2 : (Jvm.Cond.code ({ cls := "com/example/proctor/proctor/server/Holder$Role", name := "label", desc := "()Ljava/lang/String;" } : Jvm.MethodName) prog_52_method_5_code (1 : Nat) (Option.some (Jvm.ClassFile.FieldType.object "java/lang/String"))).before args0 about1 = true := code_word (m := ⟨6, 1⟩) (meth := k6m1) (c := k6c1) (by decide +kernel) rfl rfl rfl (by decide +kernel)
set_option maxRecDepth 65536 in
theorem w_c3 : (Jvm.Cond.code ({ cls := "com/example/proctor/proctor/server/RoleLabelPinLaw", name := "expected", desc := "(I)Ljava/lang/String;" } : Jvm.MethodName) method_3_code (1 : Nat) (Option.some (Jvm.ClassFile.FieldType.object "java/lang/String"))).before args0 about1 = true := code_word (m := ⟨1, 2⟩) (meth := k1m2) (c := k1c2) (by decide +kernel) rfl rfl rfl (by decide +kernel)
set_option maxRecDepth 65536 in
theorem w_c4 : (Jvm.Cond.code ({ cls := "java/lang/String", name := "equals", desc := "(Ljava/lang/Object;)Z" } : Jvm.MethodName) jdk_42_method_66_code (3 : Nat) (Option.some Jvm.ClassFile.FieldType.boolean)).before args0 about1 = true := code_word (m := ⟨9, 1⟩) (meth := k9m1) (c := k9c1) (by decide +kernel) rfl rfl rfl (by decide +kernel)
set_option maxRecDepth 65536 in
theorem w_c5 : (Jvm.Cond.code ({ cls := "com/example/proctor/proctor/server/Holder$Role", name := "claim", desc := "()Ljava/lang/String;" } : Jvm.MethodName) prog_52_method_4_code (1 : Nat) (Option.some (Jvm.ClassFile.FieldType.object "java/lang/String"))).before args0 about1 = true := code_word (m := ⟨6, 0⟩) (meth := k6m0) (c := k6c0) (by decide +kernel) rfl rfl rfl (by decide +kernel)
set_option maxRecDepth 65536 in
theorem w_c6 : (Jvm.Cond.code ({ cls := "java/lang/StringLatin1", name := "equals", desc := "([B[B)Z" } : Jvm.MethodName) jdk_43_method_13_code (3 : Nat) (Option.some Jvm.ClassFile.FieldType.boolean)).before args0 about1 = true := code_word (m := ⟨10, 1⟩) (meth := k10m1) (c := k10c1) (by decide +kernel) rfl rfl rfl (by decide +kernel)
def codes1 : List Jvm.Cond := [Jvm.Cond.code x code maxLocals ret, Jvm.Cond.code ({ cls := "com/example/proctor/proctor/server/RoleLabelPinLaw", name := "pick", desc := "(I)Lcom/example/proctor/proctor/server/Holder$Role;" } : Jvm.MethodName) method_2_code (1 : Nat) (Option.some (Jvm.ClassFile.FieldType.object "com/example/proctor/proctor/server/Holder$Role")), Jvm.Cond.code ({ cls := "com/example/proctor/proctor/server/Holder$Role", name := "label", desc := "()Ljava/lang/String;" } : Jvm.MethodName) prog_52_method_5_code (1 : Nat) (Option.some (Jvm.ClassFile.FieldType.object "java/lang/String")), Jvm.Cond.code ({ cls := "com/example/proctor/proctor/server/RoleLabelPinLaw", name := "expected", desc := "(I)Ljava/lang/String;" } : Jvm.MethodName) method_3_code (1 : Nat) (Option.some (Jvm.ClassFile.FieldType.object "java/lang/String")), Jvm.Cond.code ({ cls := "java/lang/String", name := "equals", desc := "(Ljava/lang/Object;)Z" } : Jvm.MethodName) jdk_42_method_66_code (3 : Nat) (Option.some Jvm.ClassFile.FieldType.boolean), Jvm.Cond.code ({ cls := "com/example/proctor/proctor/server/Holder$Role", name := "claim", desc := "()Ljava/lang/String;" } : Jvm.MethodName) prog_52_method_4_code (1 : Nat) (Option.some (Jvm.ClassFile.FieldType.object "java/lang/String")), Jvm.Cond.code ({ cls := "java/lang/StringLatin1", name := "equals", desc := "([B[B)Z" } : Jvm.MethodName) jdk_43_method_13_code (3 : Nat) (Option.some Jvm.ClassFile.FieldType.boolean)]
set_option maxRecDepth 65536 in
theorem codes_eq : words1.filter isCode = codes1 := rfl
theorem w_codes : ∀ c ∈ words1.filter isCode, c.before args0 about1 = true := by
  rw [codes_eq]
  intro c hc
  simp only [codes1, List.mem_cons, List.not_mem_nil, or_false] at hc
  rcases hc with rfl | rfl | rfl | rfl | rfl | rfl | rfl
  · exact w_c0
  · exact w_c1
  · exact w_c2
  · exact w_c3
  · exact w_c4
  · exact w_c5
  · exact w_c6
set_option maxRecDepth 65536 in
theorem w_t1 : (words1.take 24).all (fun c => isCode c || c.before args0 about1) = true := by decide +kernel
set_option maxRecDepth 65536 in
theorem w_t2 : ((words1.drop 24).take 24).all (fun c => isCode c || c.before args0 about1) = true := by decide +kernel
set_option maxRecDepth 65536 in
theorem w_t3 : ((words1.drop 24).drop 24).all (fun c => isCode c || c.before args0 about1) = true := by decide +kernel
theorem w_tables : (allAtoms (Jvm.Cond.code x code maxLocals ret :: tables_1)).before args0 about1 = true := by
  rw [allAtoms_all]
  show words1.all (fun c => c.before args0 about1) = true
  refine all_split ?_ w_codes
  rw [← List.take_append_drop 24 words1, List.all_append, w_t1, ← List.take_append_drop 24 (words1.drop 24), List.all_append, w_t2, w_t3]
  rfl
set_option maxRecDepth 65536 in
theorem w_rest : rest_1_c.before args0 about1 = true := by decide +kernel
set_option maxRecDepth 65536 in
theorem w_case : (Jvm.Cond.and given_1 narrow_1).before args0 about1 = true := by decide +kernel
set_option maxRecDepth 65536 in
theorem w_consts : constsHeld consts_1 about1 := Jvm.Lit.constsHeldB_iff.mp (by decide +kernel)
theorem w_applies : (headSpec (Jvm.Cond.code x code maxLocals ret :: tables_1) room_1).applies x e0.platform about1 = true :=
  (Spec.applies_iff w_frames).mpr ⟨w_running, w_runnable, w_alone, w_named, w_hears, w_ripe, w_room, w_tables⟩
theorem atStart : AtStart classFile x code maxLocals ret World_1 tables_1 room_1 Calls_1 rest_1 Pre_1 launch0 p0 e0 about1 theMethod args0 below0 :=
  ⟨lists_1, trivial, launch0.admits_env _ _ _, launch0.least_env, fairChoices_fair.cas, fairChoices_fair.clock, w_frames, w_args, w_heap, w_applies, ⟨w_consts, trivial⟩, w_rest, w_case⟩
end start1
theorem witness_1 : WitnessClaimed_1 := ⟨start1.p0, start1.e0, start1.about1, start1.theMethod, start1.args0, start1.below0, start1.atStart⟩
end Jvm.Pilot.@@N@@
