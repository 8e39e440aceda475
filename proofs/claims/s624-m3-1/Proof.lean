import JvmDerived
import JvmDerived.Pilot.@@N@@Statement
import JvmDerived.Pilot.@@N@@Code
set_option linter.unusedVariables false
set_option linter.unusedSimpArgs false
namespace Jvm.Ow
open Sem ClassFile Op Lib Jvm.Stand Jvm.Free Jvm.LawKit Jvm.RoadKit
abbrev jv (x : Int64) : Slot := .val (.long x)
abbrev U0 : Slot := .unset
abbrev S2 : Slot := .second
def On (l : Launch) (Z : State) (n0 : Nat) (own : String) (bytes : ByteArray) (maxL : Nat) (ret : Option FieldType) (R : Room) (p : Program) (e : Env) (s : State) (m : MethodId) (args : Array Value) (below : List Frame) (meth : Method) (c : Code) (T : State) (h : Heap) (k n : Nat) : Prop :=
  ∃ locs, Stand p l e R s m args below meth c T locs k n ∧ Fr n0 locs ∧ T.heap = h ∧ p.tables.exec = Jvm.exec ∧ Z.Warmed39 s.vm ∧ c.code = bytes ∧ c.maxLocals = maxL ∧ s.vm.findClass own = some m.cls ∧ meth.sig.returnType = ret ∧ meth.locks = false ∧ n0 ≤ s.heap.size
def Wp (p : Program) (e : Env) (below : List Frame) (Φ : Outcome → State → Prop) (U : State) : Prop :=
  ∃ t o, Steps p.tables e below U t ∧ t.status = .running ∧ Ended t below o ∧ Φ o t
abbrev EndH (s : State) (n0 ck cs : Nat) (Q : Option Value → Heap → Prop) : Outcome → State → Prop := fun o t => ∃ v L, o = .returned v ∧ (Fr n0 L ∧ Q v t.heap) ∧ FrameEnd s o t L ck cs
abbrev EndS (s : State) (n0 ck cs : Nat) (Q : Option Value → Heap → Vm → Prop) : Outcome → State → Prop := fun o t => ∃ v L, o = .returned v ∧ (Fr n0 L ∧ Q v t.heap t.vm) ∧ ReturnedEndW s o t L ck cs
def Met (l : Launch) (Z : State) (n0 : Nat) (y : MethodName) (bytes : ByteArray) (maxL : Nat) (ret : Option FieldType) (rm : Room) (as : Array Value) (h : Heap) (Q : Option Value → Heap → Prop) : Prop :=
  ∀ ws, MetFree l y (head1 (Cond.code y bytes maxL ret :: ws) rm) (fun a U => a = as ∧ Z.Warmed39 U.vm ∧ U.heap = h) (fun _ _ _ _ _ => True) (fun _ U o U' => ∃ v L, o = .returned v ∧ (Fr n0 L ∧ Q v U'.heap) ∧ FrameEnd U o U' L rm.cells rm.slots)
def AA (Z : State) (h : Heap) (a : Addr) (ty : FieldType) (vs : List Value) : Prop := ∃ c : Cell, Arr Z h a c ty ∧ c.slots = vs.toArray ∧ vs.length < 2147483648
section Kit
variable {l : Launch} {Z : State} {n0 : Nat} {own : String} {bytes : ByteArray} {maxL : Nat} {ret : Option FieldType} {R : Room} {p : Program} {e : Env} {s : State} {m : MethodId} {args : Array Value} {below : List Frame} {meth : Method} {c : Code} {T : State} {h h' : Heap} {k n ck cs : Nat} {Q : Option Value → Heap → Prop} {pc pc' : Nat} {Ls Ls' : Array Slot} {st : List Value} {a0 : Array Value} {a b : Addr} {ty : FieldType} {vs : List Value} {sl : Nat} {v w : Value} {ws : List Addr} {Φ : Outcome → State → Prop}
theorem AA.ext (F : AA Z h a ty vs) (E : Ext h h') : AA Z h' a ty vs := by obtain ⟨c, A, r⟩ := F; exact ⟨c, A.ext E, r⟩
theorem AA.other (F : AA Z h b ty vs) (W : Wr h h' a sl v) (q : b ≠ a) : AA Z h' b ty vs := by obtain ⟨c, A, r⟩ := F; exact ⟨c, A.other W q, r⟩
theorem AA.keep (F : AA Z h a ty vs) (K : Keep h h' ws) (q : a ∉ ws) : AA Z h' a ty vs := by obtain ⟨c, A, r⟩ := F; exact ⟨c, ⟨K.2.1 a c A.1 q, A.2⟩, r⟩
theorem AA.set (F : AA Z h a ty vs) (W : Wr h h' a sl v) : AA Z h' a ty (vs.set sl v) := by
  obtain ⟨c, A, r1, r2⟩ := F
  exact ⟨_, A.same W, by simp [Cell.setSlot, r1], by simpa using r2⟩
theorem AA.lt (F : AA Z h a ty vs) : a < h.size := by obtain ⟨c, A, -⟩ := F; exact A.lt
theorem AA.cast {vs' : List Value} (F : AA Z h a ty vs) (q : vs = vs') : AA Z h a ty vs' := q ▸ F
theorem Fld.cast {C f d : String} (F : Fld Z h a C f d v) (q : v = w) : Fld Z h a C f d w := q ▸ F
theorem AA.new {cA : ClassId} {z : Int32} {i : Nat} (A : Arr Z h a (newA cA ty z) ty) (hz : z.toInt = (i : Int)) : AA Z h a ty (List.replicate i (defaultValue ty)) := by
  have q : z.toNatClampNeg = i := by show z.toInt.toNat = i; omega
  have := z.toInt_lt
  refine ⟨_, A, ?_, ?_⟩
  · simp [newA, q]
  · simp; omega
theorem AA.ne_exa {C : String} {kk : Nat} (F : AA Z h a ty vs) (E : Exa Z h b C) (wi : (Cond.instantiable C kk).before a0 Z = true) : b ≠ a := by obtain ⟨c, A, -⟩ := F; exact ne_arr E wi A
theorem lt_ne {x y z : Nat} (q : x < y) (r : y = z) : x ≠ z := by omega
theorem le_eq {x y z : Nat} (q : x ≤ y) (r : y = z) : x ≤ z := by omega
theorem On.size(A : On l Z n0 own bytes maxL ret R p e s m args below meth c T h k n) : n0 ≤ h.size := by
  obtain ⟨locs, X, N, eT, hx, hZ, hby, hml, hown, hret, hlk, hsz⟩ := A
  have := X.same.2.1
  subst eT
  exact Nat.le_trans hsz this
theorem Wp.goo {U U' : State} (f : ∀ t, Steps p.tables e below U' t → Steps p.tables e below U t) (K : Wp p e below Φ U') : Wp p e below Φ U := by
  obtain ⟨t, o, q, r⟩ := K; exact ⟨t, o, f t q, r⟩
theorem Wp.cast {g g' : JFrame} (q : g = g') (K : Wp p e below Φ (T.setTop g')) : Wp p e below Φ (T.setTop g) := q ▸ K
theorem Wp.stk {st' : List Value} (q : st = st') (K : Wp p e below Φ (T.setTop (mkF m pc Ls st'))) : Wp p e below Φ (T.setTop (mkF m pc Ls st)) := q ▸ K
theorem met_intro {y : MethodName} {rm : Room} {as : Array Value} (hpl : plainFor y = true) (ho : y.cls = own) (hsz : n0 ≤ h.size)
    (body : ∀ p e s m below meth c T, On l Z n0 own bytes maxL ret rm p e s m as below meth c T h 0 0 → meth.name = y.name → Wp p e below (EndH s n0 rm.cells rm.slots Q) (T.setTop (entryFrame m as maxL))) : Met l Z n0 y bytes maxL ret rm as h Q := by
  subst ho
  intro ws
  refine MetFree.of_bodySF hpl hisR ?_
  intro p e s m args below meth c s₁ Bd hml0 hP hK
  obtain ⟨rfl, hZ, hh⟩ := hP
  have X0 : Stand p l e rm s m args below meth c s₁ [] 0 0 := Stand.of_body Bd
  have e0 : s₁.heap = h := by rw [← hh, Bd.state]; rfl
  exact body p e s m below meth c s₁ ⟨[], X0, Fr.nil n0, e0, Bd.exec, hZ, Bd.bytes, hml0, findClass_of_methodNamed Bd.named, Bd.returns, Bd.notSynchronized, by rw [hh]; exact hsz⟩ (name_of_methodNamed Bd.named Bd.method).1
theorem Met.mono {y : MethodName} {rm : Room} {as : Array Value} {Q' : Option Value → Heap → Prop} (M : Met l Z n0 y bytes maxL ret rm as h Q) (q : ∀ v h, Q v h → Q' v h) : Met l Z n0 y bytes maxL ret rm as h Q' := by
  intro ws p e ha hc hk s m args below hf happ hP hK
  obtain ⟨n, o, h1, h2, h3, v, L, h4, ⟨h5, h6⟩, h7⟩ := M ws p e ha hc hk s m args below hf happ hP hK
  exact ⟨n, o, h1, h2, h3, v, L, h4, ⟨h5, q _ _ h6⟩, h7⟩
theorem s_iloadN (A : On l Z n0 own bytes maxL ret R p e s m args below meth c T h k n) {i : Fin 4} {z : Int32} (hd : decode bytes pc = .ok (.iload_n i, 1)) (hp : pc + 1 = pc') (hl : Ls[i.val]? = some (.val (.int z))) (K : Wp p e below Φ (T.setTop (mkF m pc' Ls (.int z :: st)))) : Wp p e below Φ (T.setTop (mkF m pc Ls st)) := by
  obtain ⟨locs, X, N, eT, hx, hZ, hby, hml, hown, hret, hlk, hsz⟩ := A
  subst hp
  exact K.goo fun t q => XS.iloadN X.here hx rfl (hb hby hd) hl q
theorem s_aloadN (A : On l Z n0 own bytes maxL ret R p e s m args below meth c T h k n) {i : Fin 4} (hd : decode bytes pc = .ok (.aload_n i, 1)) (hp : pc + 1 = pc') (hl : Ls[i.val]? = some (.val v)) (hv : v.isRef = true) (K : Wp p e below Φ (T.setTop (mkF m pc' Ls (v :: st)))) : Wp p e below Φ (T.setTop (mkF m pc Ls st)) := by
  obtain ⟨locs, X, N, eT, hx, hZ, hby, hml, hown, hret, hlk, hsz⟩ := A
  subst hp
  exact K.goo fun t q => XS.aloadN X.here hx rfl (hb hby hd) hl hv q
theorem s_istoreN (A : On l Z n0 own bytes maxL ret R p e s m args below meth c T h k n) {i : Fin 4} {z : Int32} (hd : decode bytes pc = .ok (.istore_n i, 1)) (hp : pc + 1 = pc') (hl : storeLocals Ls i.val (.int z) = some Ls') (K : Wp p e below Φ (T.setTop (mkF m pc' Ls' st))) : Wp p e below Φ (T.setTop (mkF m pc Ls (.int z :: st))) := by
  obtain ⟨locs, X, N, eT, hx, hZ, hby, hml, hown, hret, hlk, hsz⟩ := A
  subst hp
  exact K.goo fun t q => XS.istoreN X.here hx rfl (hb hby hd) rfl hl q
theorem s_iload (A : On l Z n0 own bytes maxL ret R p e s m args below meth c T h k n) {i : Nat} {z : Int32} (hd : decode bytes pc = .ok (.iload i, 2)) (hp : pc + 2 = pc') (hl : Ls[i]? = some (.val (.int z))) (K : Wp p e below Φ (T.setTop (mkF m pc' Ls (.int z :: st)))) : Wp p e below Φ (T.setTop (mkF m pc Ls st)) := by
  obtain ⟨locs, X, N, eT, hx, hZ, hby, hml, hown, hret, hlk, hsz⟩ := A
  subst hp
  exact K.goo fun t q => XS.iload X.here hx rfl (hb hby hd) hl q
theorem s_aload (A : On l Z n0 own bytes maxL ret R p e s m args below meth c T h k n) {i : Nat} (hd : decode bytes pc = .ok (.aload i, 2)) (hp : pc + 2 = pc') (hl : Ls[i]? = some (.val v)) (hv : v.isRef = true) (K : Wp p e below Φ (T.setTop (mkF m pc' Ls (v :: st)))) : Wp p e below Φ (T.setTop (mkF m pc Ls st)) := by
  obtain ⟨locs, X, N, eT, hx, hZ, hby, hml, hown, hret, hlk, hsz⟩ := A
  subst hp
  exact K.goo fun t q => XS.aload X.here hx rfl (hb hby hd) hl hv q
theorem s_istore (A : On l Z n0 own bytes maxL ret R p e s m args below meth c T h k n) {i : Nat} {z : Int32} (hd : decode bytes pc = .ok (.istore i, 2)) (hp : pc + 2 = pc') (hl : storeLocals Ls i (.int z) = some Ls') (K : Wp p e below Φ (T.setTop (mkF m pc' Ls' st))) : Wp p e below Φ (T.setTop (mkF m pc Ls (.int z :: st))) := by
  obtain ⟨locs, X, N, eT, hx, hZ, hby, hml, hown, hret, hlk, hsz⟩ := A
  subst hp
  exact K.goo fun t q => XS.istore X.here hx rfl (hb hby hd) rfl hl q
theorem s_astore (A : On l Z n0 own bytes maxL ret R p e s m args below meth c T h k n) {i : Nat} (hd : decode bytes pc = .ok (.astore i, 2)) (hp : pc + 2 = pc') (hv : v.isRef = true) (hl : storeLocals Ls i v = some Ls') (K : Wp p e below Φ (T.setTop (mkF m pc' Ls' st))) : Wp p e below Φ (T.setTop (mkF m pc Ls (v :: st))) := by
  obtain ⟨locs, X, N, eT, hx, hZ, hby, hml, hown, hret, hlk, hsz⟩ := A
  subst hp
  exact K.goo fun t q => XS.astore X.here hx rfl (hb hby hd) rfl hv hl q
theorem s_iconst (A : On l Z n0 own bytes maxL ret R p e s m args below meth c T h k n) {i : Int} {z : Int32} (hd : decode bytes pc = .ok (.iconst i, 1)) (hp : pc + 1 = pc') (hz : Int32.ofInt i = z) (K : Wp p e below Φ (T.setTop (mkF m pc' Ls (.int z :: st)))) : Wp p e below Φ (T.setTop (mkF m pc Ls st)) := by
  obtain ⟨locs, X, N, eT, hx, hZ, hby, hml, hown, hret, hlk, hsz⟩ := A
  subst hp
  subst hz
  exact K.goo fun t q => XS.iconst X.here hx rfl (hb hby hd) q
theorem s_bipush (A : On l Z n0 own bytes maxL ret R p e s m args below meth c T h k n) {i : Int} {z : Int32} (hd : decode bytes pc = .ok (.bipush i, 2)) (hp : pc + 2 = pc') (hz : (Int8.ofInt i).toInt32 = z) (K : Wp p e below Φ (T.setTop (mkF m pc' Ls (.int z :: st)))) : Wp p e below Φ (T.setTop (mkF m pc Ls st)) := by
  obtain ⟨locs, X, N, eT, hx, hZ, hby, hml, hown, hret, hlk, hsz⟩ := A
  subst hp
  subst hz
  exact K.goo fun t q => XS.bipush X.here hx rfl (hb hby hd) q
theorem s_sipush (A : On l Z n0 own bytes maxL ret R p e s m args below meth c T h k n) {i : Int} {z : Int32} (hd : decode bytes pc = .ok (.sipush i, 3)) (hp : pc + 3 = pc') (hz : (Int16.ofInt i).toInt32 = z) (K : Wp p e below Φ (T.setTop (mkF m pc' Ls (.int z :: st)))) : Wp p e below Φ (T.setTop (mkF m pc Ls st)) := by
  obtain ⟨locs, X, N, eT, hx, hZ, hby, hml, hown, hret, hlk, hsz⟩ := A
  subst hp
  subst hz
  exact K.goo fun t q => XS.sipush X.here hx rfl (hb hby hd) q
theorem s_aconstNull (A : On l Z n0 own bytes maxL ret R p e s m args below meth c T h k n)  (hd : decode bytes pc = .ok (.aconst_null, 1)) (hp : pc + 1 = pc') (K : Wp p e below Φ (T.setTop (mkF m pc' Ls (.null :: st)))) : Wp p e below Φ (T.setTop (mkF m pc Ls st)) := by
  obtain ⟨locs, X, N, eT, hx, hZ, hby, hml, hown, hret, hlk, hsz⟩ := A
  subst hp
  exact K.goo fun t q => XS.aconstNull X.here hx rfl (hb hby hd) q
theorem s_iand (A : On l Z n0 own bytes maxL ret R p e s m args below meth c T h k n) {x y z : Int32} (hd : decode bytes pc = .ok (.iand, 1)) (hp : pc + 1 = pc') (hz : x &&& y = z) (K : Wp p e below Φ (T.setTop (mkF m pc' Ls (.int z :: st)))) : Wp p e below Φ (T.setTop (mkF m pc Ls (.int y :: .int x :: st))) := by
  obtain ⟨locs, X, N, eT, hx, hZ, hby, hml, hown, hret, hlk, hsz⟩ := A
  subst hp
  subst hz
  exact K.goo fun t q => XS.iand X.here hx rfl (hb hby hd) rfl q
theorem s_ixor (A : On l Z n0 own bytes maxL ret R p e s m args below meth c T h k n) {x y z : Int32} (hd : decode bytes pc = .ok (.ixor, 1)) (hp : pc + 1 = pc') (hz : x ^^^ y = z) (K : Wp p e below Φ (T.setTop (mkF m pc' Ls (.int z :: st)))) : Wp p e below Φ (T.setTop (mkF m pc Ls (.int y :: .int x :: st))) := by
  obtain ⟨locs, X, N, eT, hx, hZ, hby, hml, hown, hret, hlk, hsz⟩ := A
  subst hp
  subst hz
  exact K.goo fun t q => XS.ixor X.here hx rfl (hb hby hd) rfl q
theorem s_ishr (A : On l Z n0 own bytes maxL ret R p e s m args below meth c T h k n) {x y z : Int32} (hd : decode bytes pc = .ok (.ishr, 1)) (hp : pc + 1 = pc') (hz : x >>> (y &&& 31) = z) (K : Wp p e below Φ (T.setTop (mkF m pc' Ls (.int z :: st)))) : Wp p e below Φ (T.setTop (mkF m pc Ls (.int y :: .int x :: st))) := by
  obtain ⟨locs, X, N, eT, hx, hZ, hby, hml, hown, hret, hlk, hsz⟩ := A
  subst hp
  subst hz
  exact K.goo fun t q => XS.ishr X.here hx rfl (hb hby hd) rfl q
theorem s_i2b (A : On l Z n0 own bytes maxL ret R p e s m args below meth c T h k n) {x z : Int32} (hd : decode bytes pc = .ok (.i2b, 1)) (hp : pc + 1 = pc') (hz : x.toInt8.toInt32 = z) (K : Wp p e below Φ (T.setTop (mkF m pc' Ls (.int z :: st)))) : Wp p e below Φ (T.setTop (mkF m pc Ls (.int x :: st))) := by
  obtain ⟨locs, X, N, eT, hx, hZ, hby, hml, hown, hret, hlk, hsz⟩ := A
  subst hp
  subst hz
  exact K.goo fun t q => XS.i2b X.here hx rfl (hb hby hd) rfl q
theorem s_i2c (A : On l Z n0 own bytes maxL ret R p e s m args below meth c T h k n) {x z : Int32} (hd : decode bytes pc = .ok (.i2c, 1)) (hp : pc + 1 = pc') (hz : x.toUInt32.toUInt16.toUInt32.toInt32 = z) (K : Wp p e below Φ (T.setTop (mkF m pc' Ls (.int z :: st)))) : Wp p e below Φ (T.setTop (mkF m pc Ls (.int x :: st))) := by
  obtain ⟨locs, X, N, eT, hx, hZ, hby, hml, hown, hret, hlk, hsz⟩ := A
  subst hp
  subst hz
  exact K.goo fun t q => XS.i2c X.here hx rfl (hb hby hd) rfl q
theorem s_dup (A : On l Z n0 own bytes maxL ret R p e s m args below meth c T h k n)  (hd : decode bytes pc = .ok (.dup, 1)) (hp : pc + 1 = pc') (hc : v.category = 1) (K : Wp p e below Φ (T.setTop (mkF m pc' Ls (v :: v :: st)))) : Wp p e below Φ (T.setTop (mkF m pc Ls (v :: st))) := by
  obtain ⟨locs, X, N, eT, hx, hZ, hby, hml, hown, hret, hlk, hsz⟩ := A
  subst hp
  exact K.goo fun t q => XS.dup X.here hx rfl (hb hby hd) rfl hc q
theorem s_pop (A : On l Z n0 own bytes maxL ret R p e s m args below meth c T h k n)  (hd : decode bytes pc = .ok (.pop, 1)) (hp : pc + 1 = pc') (hc : v.category = 1) (K : Wp p e below Φ (T.setTop (mkF m pc' Ls st))) : Wp p e below Φ (T.setTop (mkF m pc Ls (v :: st))) := by
  obtain ⟨locs, X, N, eT, hx, hZ, hby, hml, hown, hret, hlk, hsz⟩ := A
  subst hp
  exact K.goo fun t q => XS.pop X.here hx rfl (hb hby hd) rfl hc q
theorem s_iinc (A : On l Z n0 own bytes maxL ret R p e s m args below meth c T h k n) {i : Nat} {j : Int} {x z : Int32} (hd : decode bytes pc = .ok (.iinc i j, 3)) (hp : pc + 3 = pc') (hl : Ls[i]? = some (.val (.int x))) (hz : x + Int32.ofInt j = z) (hs : storeLocals Ls i (.int z) = some Ls') (K : Wp p e below Φ (T.setTop (mkF m pc' Ls' st))) : Wp p e below Φ (T.setTop (mkF m pc Ls st)) := by
  obtain ⟨locs, X, N, eT, hx, hZ, hby, hml, hown, hret, hlk, hsz⟩ := A
  subst hp
  subst hz
  exact K.goo fun t q => XS.iinc X.here hx rfl (hb hby hd) hl hs q
theorem s_goto (A : On l Z n0 own bytes maxL ret R p e s m args below meth c T h k n)  {o : Int} (hd : decode bytes pc = .ok (.goto o, 3))  (ho : 0 ≤ (pc : Int) + o) (hp : ((pc : Int) + o).toNat = pc') (K : Wp p e below Φ (T.setTop (mkF m pc' Ls st))) : Wp p e below Φ (T.setTop (mkF m pc Ls st)) := by
  obtain ⟨locs, X, N, eT, hx, hZ, hby, hml, hown, hret, hlk, hsz⟩ := A
  exact K.goo fun t q => XS.goto X.here hx rfl (pc0 := pc) rfl (hb hby hd) ho hp q
theorem s_ifY (A : On l Z n0 own bytes maxL ret R p e s m args below meth c T h k n) {cd : ClassFile.Cond} {x : Int32} {o : Int} (hd : decode bytes pc = .ok (.ifCond cd o, 3)) (hc : ifCond.holds cd x = true) (ho : 0 ≤ (pc : Int) + o) (hp : ((pc : Int) + o).toNat = pc') (K : Wp p e below Φ (T.setTop (mkF m pc' Ls st))) : Wp p e below Φ (T.setTop (mkF m pc Ls (.int x :: st))) := by
  obtain ⟨locs, X, N, eT, hx, hZ, hby, hml, hown, hret, hlk, hsz⟩ := A
  exact K.goo fun t q => XS.ifYes X.here hx rfl (pc0 := pc) rfl (hb hby hd) rfl hc ho hp q
theorem s_icmpY (A : On l Z n0 own bytes maxL ret R p e s m args below meth c T h k n) {cd : ClassFile.Cond} {x y : Int32} {o : Int} (hd : decode bytes pc = .ok (.if_icmp cd o, 3)) (hc : if_icmp.holds cd x y = true) (ho : 0 ≤ (pc : Int) + o) (hp : ((pc : Int) + o).toNat = pc') (K : Wp p e below Φ (T.setTop (mkF m pc' Ls st))) : Wp p e below Φ (T.setTop (mkF m pc Ls (.int y :: .int x :: st))) := by
  obtain ⟨locs, X, N, eT, hx, hZ, hby, hml, hown, hret, hlk, hsz⟩ := A
  exact K.goo fun t q => XS.icmpYes X.here hx rfl (pc0 := pc) rfl (hb hby hd) rfl hc ho hp q
theorem s_ifnullY (A : On l Z n0 own bytes maxL ret R p e s m args below meth c T h k n)  {o : Int} (hd : decode bytes pc = .ok (.ifnull o, 3))  (ho : 0 ≤ (pc : Int) + o) (hp : ((pc : Int) + o).toNat = pc') (K : Wp p e below Φ (T.setTop (mkF m pc' Ls st))) : Wp p e below Φ (T.setTop (mkF m pc Ls (.null :: st))) := by
  obtain ⟨locs, X, N, eT, hx, hZ, hby, hml, hown, hret, hlk, hsz⟩ := A
  exact K.goo fun t q => XS.ifnullYes X.here hx rfl (pc0 := pc) rfl (hb hby hd) rfl ho hp q
theorem s_ifnonnullY (A : On l Z n0 own bytes maxL ret R p e s m args below meth c T h k n)  {o : Int} (hd : decode bytes pc = .ok (.ifnonnull o, 3))  (ho : 0 ≤ (pc : Int) + o) (hp : ((pc : Int) + o).toNat = pc') (K : Wp p e below Φ (T.setTop (mkF m pc' Ls st))) : Wp p e below Φ (T.setTop (mkF m pc Ls (.ref b :: st))) := by
  obtain ⟨locs, X, N, eT, hx, hZ, hby, hml, hown, hret, hlk, hsz⟩ := A
  exact K.goo fun t q => XS.ifnonnullYes X.here hx rfl (pc0 := pc) rfl (hb hby hd) rfl ho hp q
theorem s_acmpY (A : On l Z n0 own bytes maxL ret R p e s m args below meth c T h k n) {cd : ACond} {o : Int} (hd : decode bytes pc = .ok (.if_acmp cd o, 3)) (hv : v.isRef = true) (hw : w.isRef = true) (hc : XT.acmp cd v w = true) (ho : 0 ≤ (pc : Int) + o) (hp : ((pc : Int) + o).toNat = pc') (K : Wp p e below Φ (T.setTop (mkF m pc' Ls st))) : Wp p e below Φ (T.setTop (mkF m pc Ls (w :: v :: st))) := by
  obtain ⟨locs, X, N, eT, hx, hZ, hby, hml, hown, hret, hlk, hsz⟩ := A
  exact K.goo fun t q => XT.acmpYes X.here hx rfl (pc0 := pc) rfl (hb hby hd) rfl hv hw hc ho hp q
theorem s_ifN (A : On l Z n0 own bytes maxL ret R p e s m args below meth c T h k n) {cd : ClassFile.Cond} {x : Int32} {o : Int} (hd : decode bytes pc = .ok (.ifCond cd o, 3)) (hp : pc + 3 = pc') (hc : ifCond.holds cd x = false) (K : Wp p e below Φ (T.setTop (mkF m pc' Ls st))) : Wp p e below Φ (T.setTop (mkF m pc Ls (.int x :: st))) := by
  obtain ⟨locs, X, N, eT, hx, hZ, hby, hml, hown, hret, hlk, hsz⟩ := A
  subst hp
  exact K.goo fun t q => XS.ifNo X.here hx rfl (hb hby hd) rfl hc q
theorem s_icmpN (A : On l Z n0 own bytes maxL ret R p e s m args below meth c T h k n) {cd : ClassFile.Cond} {x y : Int32} {o : Int} (hd : decode bytes pc = .ok (.if_icmp cd o, 3)) (hp : pc + 3 = pc') (hc : if_icmp.holds cd x y = false) (K : Wp p e below Φ (T.setTop (mkF m pc' Ls st))) : Wp p e below Φ (T.setTop (mkF m pc Ls (.int y :: .int x :: st))) := by
  obtain ⟨locs, X, N, eT, hx, hZ, hby, hml, hown, hret, hlk, hsz⟩ := A
  subst hp
  exact K.goo fun t q => XS.icmpNo X.here hx rfl (hb hby hd) rfl hc q
theorem s_ifnullN (A : On l Z n0 own bytes maxL ret R p e s m args below meth c T h k n) {o : Int} (hd : decode bytes pc = .ok (.ifnull o, 3)) (hp : pc + 3 = pc') (K : Wp p e below Φ (T.setTop (mkF m pc' Ls st))) : Wp p e below Φ (T.setTop (mkF m pc Ls (.ref b :: st))) := by
  obtain ⟨locs, X, N, eT, hx, hZ, hby, hml, hown, hret, hlk, hsz⟩ := A
  subst hp
  exact K.goo fun t q => XS.ifnullNo X.here hx rfl (hb hby hd) rfl q
theorem s_ifnonnullN (A : On l Z n0 own bytes maxL ret R p e s m args below meth c T h k n) {o : Int} (hd : decode bytes pc = .ok (.ifnonnull o, 3)) (hp : pc + 3 = pc') (K : Wp p e below Φ (T.setTop (mkF m pc' Ls st))) : Wp p e below Φ (T.setTop (mkF m pc Ls (.null :: st))) := by
  obtain ⟨locs, X, N, eT, hx, hZ, hby, hml, hown, hret, hlk, hsz⟩ := A
  subst hp
  exact K.goo fun t q => XS.ifnonnullNo X.here hx rfl (hb hby hd) rfl q
theorem s_acmpN (A : On l Z n0 own bytes maxL ret R p e s m args below meth c T h k n) {cd : ACond} {o : Int} (hd : decode bytes pc = .ok (.if_acmp cd o, 3)) (hp : pc + 3 = pc') (hv : v.isRef = true) (hw : w.isRef = true) (hc : XT.acmp cd v w = false) (K : Wp p e below Φ (T.setTop (mkF m pc' Ls st))) : Wp p e below Φ (T.setTop (mkF m pc Ls (w :: v :: st))) := by
  obtain ⟨locs, X, N, eT, hx, hZ, hby, hml, hown, hret, hlk, hsz⟩ := A
  subst hp
  exact K.goo fun t q => XT.acmpNo X.here hx rfl (hb hby hd) rfl hv hw hc q
theorem idx_ok {j : Int32} {i : Nat} (hj : j.toInt = (i : Int)) : j.toNatClampNeg = i := by show j.toInt.toNat = i; omega
theorem idx_in' {j : Int32} {i : Nat} {N : Nat} (hj : j.toInt = (i : Int)) (hi : i < N) : ¬ (j < 0 ∨ N ≤ j.toNatClampNeg) := by
  rw [idx_ok hj, Int32.lt_iff_toInt_lt, hj]
  have : (0 : Int32).toInt = 0 := by decide
  omega
theorem s_getfield (A : On l Z n0 own bytes maxL ret R p e s m args below meth c T h k n) {index : Nat} {R0 O f d host : String} (w0 : (Cond.fieldLink own index R0 f d).before a0 Z = true ∨ (Cond.fieldLinkNest own index R0 f d host).before a0 Z = true) (via : Via Z R0 O f d) (F : Fld Z h a O f d v) (hd : decode bytes pc = .ok (.getfield index, 3)) (hp : pc + 3 = pc') (K : ∀ T' , On l Z n0 own bytes maxL ret R p e s m args below meth c T' h k n → Wp p e below Φ (T'.setTop (mkF m pc' Ls (v :: st)))) : Wp p e below Φ (T.setTop (mkF m pc Ls (.ref a :: st))) := by
  obtain ⟨locs, X, N, eT, hx, hZ, hby, hml, hown, hret, hlk, hsz⟩ := A
  subst hp
  obtain ⟨T', X', e', q⟩ := getF X hx hZ hown w0 via eT F (g := mkF m pc Ls (.ref a :: st)) rfl rfl (hb hby hd)
  exact (K T' ⟨_, X', N, e', hx, hZ, hby, hml, hown, hret, hlk, hsz⟩).goo q
theorem s_getstatic (A : On l Z n0 own bytes maxL ret R p e s m args below meth c T h k n) {index : Nat} {R0 O f d host : String} (w0 : (Cond.fieldLink own index R0 f d).before a0 Z = true ∨ (Cond.fieldLinkNest own index R0 f d host).before a0 Z = true) (via : Via Z R0 O f d) (F : Sta Z h O f d v) (hd : decode bytes pc = .ok (.getstatic index, 3)) (hp : pc + 3 = pc') (K : ∀ T' , On l Z n0 own bytes maxL ret R p e s m args below meth c T' h k n → Wp p e below Φ (T'.setTop (mkF m pc' Ls (v :: st)))) : Wp p e below Φ (T.setTop (mkF m pc Ls st)) := by
  obtain ⟨locs, X, N, eT, hx, hZ, hby, hml, hown, hret, hlk, hsz⟩ := A
  subst hp
  obtain ⟨T', X', e', q⟩ := getS2 X hx hZ hown w0 via eT F (g := mkF m pc Ls st) rfl (hb hby hd)
  exact (K T' ⟨_, X', N, e', hx, hZ, hby, hml, hown, hret, hlk, hsz⟩).goo q
theorem s_putfield (A : On l Z n0 own bytes maxL ret R p e s m args below meth c T h k n) {index kk : Nat} {R0 O f d host C : String} (w0 : (Cond.fieldLink own index R0 f d).before a0 Z = true ∨ (Cond.fieldLinkNest own index R0 f d host).before a0 Z = true) (via : Via Z R0 O f d) (F : Fld Z h a O f d w) (E : Exa Z h a C) (L : (Cond.lays C O f d).before a0 Z = true ∨ ((Cond.laysFinal C O f d).before a0 Z = true ∧ own = O ∧ meth.name = "<init>")) (wi : (Cond.instantiable C kk).before a0 Z = true) (hty : parseFieldDescriptor d = some ty) (hnar : narrow ty v = v) (hfit : fits ty v = true) (ha : n0 ≤ a) (hd : decode bytes pc = .ok (.putfield index, 3)) (hp : pc + 3 = pc') (K : ∀ T' h', On l Z n0 own bytes maxL ret R p e s m args below meth c T' h' k n → Wr h h' a (Jvm.RoadKit.slotOf Z O f d) v → Wp p e below Φ (T'.setTop (mkF m pc' Ls st))) : Wp p e below Φ (T.setTop (mkF m pc Ls (v :: .ref a :: st))) := by
  obtain ⟨locs, X, N, eT, hx, hZ, hby, hml, hown, hret, hlk, hsz⟩ := A
  subst hp
  obtain ⟨T', h', X', e', W, q⟩ := putF X hx hZ hown w0 via eT F E L wi hty hnar hfit (g := mkF m pc Ls (v :: .ref a :: st)) rfl rfl (hb hby hd)
  exact (K T' h' ⟨_, X', Fr.snoc X' N ha, e', hx, hZ, hby, hml, hown, hret, hlk, hsz⟩ W).goo q
theorem s_new (A : On l Z n0 own bytes maxL ret R p e s m args below meth c T h k n) {index ns : Nat} {C : String} (w0 : (Cond.classLink own index C).before a0 Z = true) (wi : (Cond.instantiable C ns).before a0 Z = true) (wz : (Cond.initialized C).before a0 Z = true) (hc : k + 1 ≤ R.cells) (hs : n + ns ≤ R.slots) (hd : decode bytes pc = .ok (.new index, 3)) (hp : pc + 3 = pc') (K : ∀ T' h' b, On l Z n0 own bytes maxL ret R p e s m args below meth c T' h' (k + 1) (n + ns) → h.size = b → n0 ≤ b → Ext h h' → Exa Z h' b C → (∀ {O nm d : String} {ty : FieldType}, Laid Z a0 C O nm d → parseFieldDescriptor d = some ty → Fld Z h' b O nm d (defaultValue ty)) → Wp p e below Φ (T'.setTop (mkF m pc' Ls (.ref b :: st)))) : Wp p e below Φ (T.setTop (mkF m pc Ls st)) := by
  obtain ⟨locs, X, N, eT, hx, hZ, hby, hml, hown, hret, hlk, hsz⟩ := A
  subst hp
  obtain ⟨T', h', X', e', E, A', D, -, q⟩ := newO X hx hZ hown w0 wi wz eT (g := mkF m pc Ls st) rfl (hb hby hd) hc hs
  have hz : n0 ≤ h.size := by rw [← eT]; exact Nat.le_trans hsz X.same.2.1
  exact (K T' h' _ ⟨_, X', N, e', hx, hZ, hby, hml, hown, hret, hlk, hsz⟩ rfl hz E A' D).goo q
theorem s_bastore (A : On l Z n0 own bytes maxL ret R p e s m args below meth c T h k n) {x : Int32} {j : Int32} {i : Nat} (V : AA Z h a .byte vs) (hj : j.toInt = (i : Int)) (hi : i < vs.length) (ha : n0 ≤ a) (hd : decode bytes pc = .ok (.bastore, 1)) (hp : pc + 1 = pc') (K : ∀ T' h', On l Z n0 own bytes maxL ret R p e s m args below meth c T' h' k n → Wr h h' a i (.int x.toInt8.toInt32) → AA Z h' a .byte (vs.set i (.int x.toInt8.toInt32)) → Wp p e below Φ (T'.setTop (mkF m pc' Ls st))) : Wp p e below Φ (T.setTop (mkF m pc Ls (.int x :: .int j :: .ref a :: st))) := by
  obtain ⟨locs, X, N, eT, hx, hZ, hby, hml, hown, hret, hlk, hsz⟩ := A
  subst hp
  have V0 := V
  obtain ⟨cl, Ar, r1, r2⟩ := V0
  obtain ⟨T', h', X', e', W, q⟩ := stB X hx hZ eT Ar (j := j) (idx_in' hj (by rw [r1]; simpa using hi)) (g := mkF m pc Ls (.int x :: .int j :: .ref a :: st)) rfl rfl (hb hby hd)
  have W' := W
  rw [idx_ok hj] at W'
  exact (K T' h' ⟨_, X', Fr.snoc X' N ha, e', hx, hZ, hby, hml, hown, hret, hlk, hsz⟩ W' (V.set W')).goo q
theorem s_baload (A : On l Z n0 own bytes maxL ret R p e s m args below meth c T h k n) {j : Int32} {i : Nat} (V : AA Z h a .byte vs) (hj : j.toInt = (i : Int)) (hv : vs[i]? = some v) (hd : decode bytes pc = .ok (.baload, 1)) (hp : pc + 1 = pc') (K : Wp p e below Φ (T.setTop (mkF m pc' Ls (v :: st)))) : Wp p e below Φ (T.setTop (mkF m pc Ls (.int j :: .ref a :: st))) := by
  obtain ⟨locs, X, N, eT, hx, hZ, hby, hml, hown, hret, hlk, hsz⟩ := A
  subst hp
  obtain ⟨cl, Ar, r1, r2⟩ := V
  have hi : i < vs.length := (List.getElem?_eq_some_iff.mp hv).1
  exact K.goo fun t q => X.baloadBytes hx (j := j) (v := v) (by rw [eT]; exact Ar.1) (State.isArrayOf_alike hZ.alike Ar.2.1) Ar.2.2 (idx_in' hj (by rw [r1]; simpa using hi)) (by rw [idx_ok hj, r1]; simpa using hv) (g := mkF m pc Ls (.int j :: .ref a :: st)) rfl rfl (hb hby hd) t q
theorem s_arraylength (A : On l Z n0 own bytes maxL ret R p e s m args below meth c T h k n) {z : Int32} (V : AA Z h a ty vs) (hz : z.toInt = (vs.length : Int)) (hd : decode bytes pc = .ok (.arraylength, 1)) (hp : pc + 1 = pc') (K : Wp p e below Φ (T.setTop (mkF m pc' Ls (.int z :: st)))) : Wp p e below Φ (T.setTop (mkF m pc Ls (.ref a :: st))) := by
  obtain ⟨locs, X, N, eT, hx, hZ, hby, hml, hown, hret, hlk, hsz⟩ := A
  subst hp
  obtain ⟨cl, Ar, r1, r2⟩ := V
  have q0 : cl.slots.size.toInt32 = z := by
    rw [r1]; apply Int32.toInt_inj.mp; rw [len_toInt (by simpa using r2), hz]; simp
  exact K.goo fun t q => X.arraylength hx (by rw [eT]; exact Ar.1) (State.isArrayOf_alike hZ.alike Ar.2.1) (g := mkF m pc Ls (.ref a :: st)) rfl rfl (hb hby hd) t (by rw [q0]; exact q)
theorem s_static (A : On l Z n0 own bytes maxL ret R p e s m args below meth c T h k n) {index : Nat} {y : MethodName} {bytes' : ByteArray} {maxL' : Nat} {ret' : Option FieldType} {rm : Room} {argsL rest : List Value} {Q' : Option Value → Heap → Prop} (M : Met l Z n0 y bytes' maxL' ret' rm argsL.toArray h Q') (wl : (Cond.methodLink own index y).before a0 Z = true) (ws : (Cond.static y).before a0 Z = true) (wz : (Cond.initialized y.cls).before a0 Z = true) (wc : (Cond.code y bytes' maxL' ret').before a0 Z = true) (hy : y.cls ≠ "java/lang/invoke/MethodHandle" ∧ y.cls ≠ "java/lang/invoke/VarHandle") {sig : MethodDescriptor} (hsig : parseMethodDescriptor y.desc = some sig) (hlen : argsL.length = sig.parameters.length) {W : Nat} (hf : rm.frames + 1 ≤ R.frames) (hl : W + (maxL' + 11) + rm.locals ≤ R.locals) (hW : (rest.map fun v => v.category).sum ≤ W) (hc : k + rm.cells ≤ R.cells) (hs : n + rm.slots ≤ R.slots) (hLs : Ls.size = maxL) {stk : List Value} (hst : stk = argsL.reverse ++ rest) (hd : decode bytes pc = .ok (.invokestatic index, 3)) (hp : pc + 3 = pc') (K : ∀ T' h' v, On l Z n0 own bytes maxL ret R p e s m args below meth c T' h' (k + rm.cells) (n + rm.slots) → Q' v h' → Wp p e below Φ (T'.setTop (mkF m pc' Ls (v.toList ++ rest)))) : Wp p e below Φ (T.setTop (mkF m pc Ls stk)) := by
  obtain ⟨locs, X, N, eT, hx, hZ, hby, hml, hown, hret, hlk, hsz⟩ := A
  subst hp
  obtain ⟨v, _, ⟨T', L', k', n'⟩, -, X', ⟨Lc, ⟨Nq, hQ⟩, l1, l2, l3⟩, q⟩ := Jvm.LawKit.callS X hx (y := y) hown (mvT hZ wl) (mvT hZ ws) (mvT hZ wz) (mvT hZ wc) hy (backOf (Q := fun v h L => Fr n0 L ∧ Q' v h) (W := W) (M []) hZ wc wz hf hl) (g := mkF m pc Ls stk) rfl (by rw [hml]; exact hLs) (argsL := argsL) (rest := rest) (lenOf hsig hlen) hst (by show 2 * 0 + _ ≤ _; simpa using hW) (hb hby hd) (fun _ _ => ⟨rfl, eT, hc, hs⟩)
  dsimp only [Pt.U, Pt.locs, Pt.cells, Pt.slots] at X' l1 l2 l3 q hQ Nq
  subst l1 l2 l3
  exact (K T' T'.heap v ⟨_, X', Fr.app N Nq, rfl, hx, hZ, hby, hml, hown, hret, hlk, hsz⟩ hQ).goo q
theorem s_virtual (A : On l Z n0 own bytes maxL ret R p e s m args below meth c T h k n) {index : Nat} {y : MethodName} {bytes' : ByteArray} {maxL' : Nat} {ret' : Option FieldType} {rm : Room} {argsL rest : List Value} {Q' : Option Value → Heap → Prop} {C : String} {z : MethodName} (E : Exa Z h b C) (M : Met l Z n0 z bytes' maxL' ret' rm (.ref b :: argsL).toArray h Q') (wl : (Cond.methodLink own index y).before a0 Z = true) (wd : (Cond.declares y).before a0 Z = true) (wn : ∀ (args : Array Value) (s : State), Z.Warmed39 s.vm → NotFace s y) (wsel : (Cond.selects C y z).before a0 Z = true) (wim : (Cond.instanceMethod z).before a0 Z = true) (wz : (Cond.initialized z.cls).before a0 Z = true) (wc : (Cond.code z bytes' maxL' ret').before a0 Z = true) (hy : y.cls ≠ "java/lang/invoke/MethodHandle" ∧ y.cls ≠ "java/lang/invoke/VarHandle") {sig : MethodDescriptor} (hsig : parseMethodDescriptor y.desc = some sig) (hlen : argsL.length = sig.parameters.length) {W : Nat} (hf : rm.frames + 1 ≤ R.frames) (hl : W + (maxL' + 11) + rm.locals ≤ R.locals) (hW : (rest.map fun v => v.category).sum ≤ W) (hc : k + rm.cells ≤ R.cells) (hs : n + rm.slots ≤ R.slots) (hLs : Ls.size = maxL) {stk : List Value} (hst : stk = argsL.reverse ++ .ref b :: rest) (hd : decode bytes pc = .ok (.invokevirtual index, 3)) (hp : pc + 3 = pc') (K : ∀ T' h' v, On l Z n0 own bytes maxL ret R p e s m args below meth c T' h' (k + rm.cells) (n + rm.slots) → Q' v h' → Wp p e below Φ (T'.setTop (mkF m pc' Ls (v.toList ++ rest)))) : Wp p e below Φ (T.setTop (mkF m pc Ls stk)) := by
  obtain ⟨locs, X, N, eT, hx, hZ, hby, hml, hown, hret, hlk, hsz⟩ := A
  subst hp
  obtain ⟨cq, kq, qa, qb, qc⟩ := isOf hZ eT E
  obtain ⟨v, _, ⟨T', L', k', n'⟩, -, X', ⟨Lc, ⟨Nq, hQ⟩, l1, l2, l3⟩, q⟩ := X.virtualBack hx (y := y) (z := z) hown (mvT hZ wl) (mvT hZ wd) (wn #[] s hZ) (mvT hZ wsel) (mvT hZ wim) hy (backOf (Q := fun v h L => Fr n0 L ∧ Q' v h) (W := W) (M []) hZ wc wz hf hl) qa qc (g := mkF m pc Ls stk) rfl (by rw [hml]; exact hLs) (Steps.refl _) (argsL := argsL) (rest := rest) (lenOf hsig hlen) hst (by show 2 * 0 + _ ≤ _; simpa using hW) (hb hby hd) (fun _ _ => ⟨rfl, eT, hc, hs⟩)
  dsimp only [Pt.U, Pt.locs, Pt.cells, Pt.slots] at X' l1 l2 l3 q hQ Nq
  subst l1 l2 l3
  exact (K T' T'.heap v ⟨_, X', Fr.app N Nq, rfl, hx, hZ, hby, hml, hown, hret, hlk, hsz⟩ hQ).goo (fun t r => q.trans r)
theorem nf_same {y : MethodName} {C : String} (wsel : (Cond.selects y.cls y y).before a0 Z = true) : ∀ (args : Array Value) (s : State), Z.Warmed39 s.vm → NotFace s y := fun args s hZ => notFace_of_selects (args := #[]) (mvT hZ wsel)
theorem s_initO (A : On l Z n0 own bytes maxL ret R p e s m args below meth c T h k n) {index : Nat} (w1 : (Cond.methodLink own index Lib.objectInit).before a0 Z = true) (w2 : (Cond.instanceMethod Lib.objectInit).before a0 Z = true) (w3 : (Cond.code Lib.objectInit ⟨#[0xb1]⟩ 1 none).before a0 Z = true) {W : Nat} (hf : 1 ≤ R.frames) (hW : (st.map fun v => v.category).sum ≤ W) (hl : W + 12 ≤ R.locals) (hLs : Ls.size = maxL) (hd : decode bytes pc = .ok (.invokespecial index, 3)) (hp : pc + 3 = pc') (K : ∀ T', On l Z n0 own bytes maxL ret R p e s m args below meth c T' h k n → Wp p e below Φ (T'.setTop (mkF m pc' Ls st))) : Wp p e below Φ (T.setTop (mkF m pc Ls (.ref a :: st))) := by
  obtain ⟨locs, X, N, eT, hx, hZ, hby, hml, hown, hret, hlk, hsz⟩ := A
  subst hp
  obtain ⟨T', X', e', q⟩ := initO X hx hZ hown w1 w2 w3 eT (g := mkF m pc Ls (.ref a :: st)) rfl (by rw [hml]; exact hLs) rfl (hb hby hd) hf (W := W) (by show 2 * 0 + _ ≤ _; simpa using hW) hl
  exact (K T' ⟨_, X', N, e', hx, hZ, hby, hml, hown, hret, hlk, hsz⟩).goo q
theorem aa_of_arv {kc : ClassId} {z : Int32} {dv : Value} (F : Arv Z h a kc ty z vs dv) (hl : z.toInt = (vs.length : Int)) : AA Z h a ty vs := by
  obtain ⟨c, A, q, S, N, H, G⟩ := F
  rw [idx_ok hl] at S
  refine ⟨c, A, ?_, ?_⟩
  · apply Array.ext
    · simp [S]
    · intro i h1 h2
      have := H i h1
      rw [Array.getElem?_eq_getElem h1] at this
      have h3 : i < vs.length := by simpa using h2
      simpa [List.getD_eq_getElem?_getD, h3] using this
  · have := z.toInt_lt; omega
theorem r_void (A : On l Z n0 own bytes maxL ret R p e s m args below meth c T h k n) (hr : ret = none) (hd : decode bytes pc = .ok (.return_, 1)) (hk : k ≤ ck) (hn : n ≤ cs) (q : Q none h) : Wp p e below (EndH s n0 ck cs Q) (T.setTop (mkF m pc Ls [])) := by
  obtain ⟨locs, X, N, eT, hx, hZ, hby, hml, hown, hret, hlk, hsz⟩ := A
  have hR : meth.sig.returnType = none := hret.trans hr
  obtain ⟨fs, h1, hrun, hended, hW, hsame⟩ := X.leave (v := none) (fun _ => rfl) hlk
  exact ⟨_, _, X.returnOut hx hR (hb hby hd) h1, hrun, hended, _, _, rfl, ⟨N, by show Q none T.heap; rw [eT]; exact q⟩, ⟨_, rfl⟩, hW, hsame.mono hk hn⟩
theorem r_val (A : On l Z n0 own bytes maxL ret R p e s m args below meth c T h k n) {i : Instr} {t : FieldType} (hr : ret = some t) (hn0 : narrow t v = v) (hi : (i = .ireturn ∧ (t = .int ∨ t = .boolean ∨ t = .byte ∨ t = .char ∨ t = .short) ∧ ∃ z, v = .int z) ∨ (i = .lreturn ∧ t = .long ∧ ∃ z, v = .long z) ∨ (i = .dreturn ∧ t = .double ∧ ∃ z, v = .double z) ∨ (i = .freturn ∧ t = .float ∧ ∃ z, v = .float z) ∨ (i = .areturn ∧ t.isReference = true ∧ v.isRef = true)) (hd : decode bytes pc = .ok (i, 1)) (hk : k ≤ ck) (hn : n ≤ cs) (q : Q (some v) h) : Wp p e below (EndH s n0 ck cs Q) (T.setTop (mkF m pc Ls (v :: st))) := by
  obtain ⟨locs, X, N, eT, hx, hZ, hby, hml, hown, hret, hlk, hsz⟩ := A
  have hR : meth.sig.returnType = some t := hret.trans hr
  obtain ⟨fs, h1, hrun, hended, hW, hsame⟩ := X.leave (v := some v) (fun z => by rw [hR] at z; cases z) hlk
  exact ⟨_, _, retOut X hx hR hn0 hi (hb hby hd) h1, hrun, hended, _, _, rfl, ⟨N, by show Q (some v) T.heap; rw [eT]; exact q⟩, ⟨_, rfl⟩, hW, hsame.mono hk hn⟩
theorem r_int (A : On l Z n0 own bytes maxL ret R p e s m args below meth c T h k n) {z : Int32} (hr : ret = some .int) (hd : decode bytes pc = .ok (.ireturn, 1)) (hk : k ≤ ck) (hn : n ≤ cs) (q : Q (some (.int z)) h) : Wp p e below (EndH s n0 ck cs Q) (T.setTop (mkF m pc Ls (.int z :: st))) := r_val A hr rfl (Or.inl ⟨rfl, Or.inl rfl, _, rfl⟩) hd hk hn q
theorem r_bool (A : On l Z n0 own bytes maxL ret R p e s m args below meth c T h k n) {z : Int32} (hr : ret = some .boolean) (hz : z = 0 ∨ z = 1) (hd : decode bytes pc = .ok (.ireturn, 1)) (hk : k ≤ ck) (hn : n ≤ cs) (q : Q (some (.int z)) h) : Wp p e below (EndH s n0 ck cs Q) (T.setTop (mkF m pc Ls (.int z :: st))) := r_val A hr (by rcases hz with rfl | rfl <;> rfl) (Or.inl ⟨rfl, Or.inr (Or.inl rfl), _, rfl⟩) hd hk hn q
theorem r_ref (A : On l Z n0 own bytes maxL ret R p e s m args below meth c T h k n) {t : FieldType} (hr : ret = some t) (ht : t.isReference = true) (hv : v.isRef = true) (hd : decode bytes pc = .ok (.areturn, 1)) (hk : k ≤ ck) (hn : n ≤ cs) (q : Q (some v) h) : Wp p e below (EndH s n0 ck cs Q) (T.setTop (mkF m pc Ls (v :: st))) := r_val A hr (by cases t <;> first | rfl | cases ht) (Or.inr (Or.inr (Or.inr (Or.inr ⟨rfl, ht, hv⟩)))) hd hk hn q
theorem r_small (A : On l Z n0 own bytes maxL ret R p e s m args below meth c T h k n) {z : Int32} {t : FieldType} (hr : ret = some t) (ht : t = .byte ∨ t = .char ∨ t = .short) (hz : narrow t (.int z) = .int z) (hd : decode bytes pc = .ok (.ireturn, 1)) (hk : k ≤ ck) (hn : n ≤ cs) (q : Q (some (.int z)) h) : Wp p e below (EndH s n0 ck cs Q) (T.setTop (mkF m pc Ls (.int z :: st))) := r_val A hr hz (Or.inl ⟨rfl, Or.inr (Or.inr (by rcases ht with h | h | h <;> simp [h])), _, rfl⟩) hd hk hn q
section Lit
open Jvm.Free.SB Jvm.Free.SBG Bundle
def st3 (Z : State) (vm : Vm) (h : Heap) : State := { Z with vm := vm, heap := h }
def SlX (W : State) (a : Addr) (u : Array UInt16) (ws : List Addr) : Prop :=
  ∃ (q : SQ) (cS : ClassId), q.sa = a ∧ Sl q cS W ∧ (∃ kS : Class, W.vm.classes[cS]? = some kS ∧ kS.kind = .ordinary ∧ q.sC.slots.size = kS.instanceTypes.size) ∧ W.vm.findClass "[B" = some q.SA.cls ∧ q.SA.slots = stringBytes u ∧ q.sa ∉ ws ∧ q.sd ∉ ws
theorem SlX.slOf {W : State} {a : Addr} {u : Array UInt16} {ws : List Addr} (h : SlX W a u ws) : SlOf W a u := by
  obtain ⟨q, cS, h1, h2, h3, h4, h5, -⟩ := h; exact ⟨q, cS, h1, h2, h3, h4, h5⟩
theorem SlX.of {W : State} {a : Addr} {u : Array UInt16} (h : SlOf W a u) : SlX W a u [] := by
  obtain ⟨q, cS, h1, h2, h3, h4, h5⟩ := h; exact ⟨q, cS, h1, h2, h3, h4, h5, List.not_mem_nil, List.not_mem_nil⟩
theorem SlX.move {W W' : State} {a : Addr} {u : Array UInt16} {ws : List Addr} (h : SlX W a u ws) (hal : W.vm.Alike W'.vm) (hk : ∀ (y : Addr) (c : Cell), y ∉ ws → W.heap[y]? = some c → W'.heap[y]? = some c) : SlX W' a u ws := by
  obtain ⟨q, cS, h1, h2, ⟨kS, k1, k2, k3⟩, h4, h5, h6, h7⟩ := h
  obtain ⟨kS', hk', ek⟩ := hal.2.2 _ _ k1
  exact ⟨q, cS, h1, h2.carry hal (hk _ _ h6 h2.1.1) (hk _ _ h7 h2.1.2.2.2.2.2.2.2.2.2.1), ⟨kS', hk', by rw [ek]; exact k2, by rw [ek]; exact k3⟩, by rw [hal.findClass]; exact h4, h5, h6, h7⟩
theorem SlX.owns {W : State} {a b : Addr} {u : Array UInt16} {ws : List Addr} (h : SlX W a u ws) (hb : W.heap.size ≤ b) : SlX W a u (b :: ws) := by
  obtain ⟨q, cS, h1, h2, h3, h4, h5, h6, h7⟩ := h
  have e1 := (Array.getElem?_eq_some_iff.mp h2.1.1).1
  have e2 := (Array.getElem?_eq_some_iff.mp h2.1.2.2.2.2.2.2.2.2.2.1).1
  refine ⟨q, cS, h1, h2, h3, h4, h5, ?_, ?_⟩
  · rw [List.mem_cons]; rintro (z | z)
    · exact absurd (z ▸ e1) (Nat.not_lt.mpr hb)
    · exact h6 z
  · rw [List.mem_cons]; rintro (z | z)
    · exact absurd (z ▸ e2) (Nat.not_lt.mpr hb)
    · exact h7 z
def ConstX (W : State) (own : String) (index : Nat) (ws : List Addr) : Prop :=
  ∀ (c : ClassId) (k : Class) (cf : ClassFile) (i : Nat) (units : Array UInt16) (a : Addr), W.vm.findClass own = some c → W.vm.classes[c]? = some k → k.cf = some cf →
    cf.constantPool[index]? = some (.string i) → cf.constantPool[i]? = some (.utf8 units) →
    (k.resolved[index]? = some (some (.string a)) ∨ (k.resolved[index]? = some none ∧ W.vm.interned.find? (fun p => p.1 == units) = some (units, a))) → SlX W a units ws
def LK (Z : State) (cs : List (String × Nat × String)) (vm : Vm) (h : Heap) (ws : List Addr) : Prop :=
  Z.Warmed39 vm ∧ (∀ y ∈ ws, y < h.size) ∧ ∀ x ∈ cs, (∀ ch ∈ x.2.2.toList, ch.toNat < 256) ∧ (Cond.stringLink x.1 x.2.1 x.2.2).before #[] Z = true ∧ ConstX (st3 Z vm h) x.1 x.2.1 ws
variable {cs : List (String × Nat × String)} {vm vm' : Vm} {ws : List Addr}
theorem LK.move (H : LK Z cs vm h ws) (hs : h.size ≤ h'.size) (hk : ∀ (y : Addr) (c : Cell), y ∉ ws → h[y]? = some c → h'[y]? = some c) : LK Z cs vm h' ws :=
  ⟨H.1, fun y hy => Nat.lt_of_lt_of_le (H.2.1 y hy) hs, fun x hx => ⟨(H.2.2 x hx).1, (H.2.2 x hx).2.1, fun c k cf i units a q1 q2 q3 q4 q5 q6 => ((H.2.2 x hx).2.2 c k cf i units a q1 q2 q3 q4 q5 q6).move (W := st3 Z vm h) (W' := st3 Z vm h') (Vm.Alike.refl _) hk⟩⟩
theorem LK.ext (H : LK Z cs vm h ws) (E : Ext h h') : LK Z cs vm h' ws := H.move E.1 fun y c _ q => E.2 y c q
theorem LK.keep {vs : List Addr} (H : LK Z cs vm h ws) (K : Keep h h' vs) (q : ∀ x ∈ vs, x ∈ ws) : LK Z cs vm h' ws := H.move K.1 fun y c n r => K.2.1 y c r fun z => n (q y z)
theorem LK.wr {sl : Nat} {v : Value} (H : LK Z cs vm h ws) (W : Wr h h' a sl v) (q : a ∈ ws) : LK Z cs vm h' ws := by
  obtain ⟨cell, h1, -, -, rfl⟩ := W
  refine H.move (by simp) fun y c n r => ?_
  have : a ≠ y := fun z => n (z ▸ q)
  rw [Array.getElem?_setIfInBounds_ne this]; exact r
theorem LK.born (H : LK Z cs vm h ws) (E : Ext h h') (hb : h.size ≤ b) (hb' : b < h'.size) : LK Z cs vm h' (b :: ws) :=
  ⟨H.1, fun y hy => by
    rcases List.mem_cons.mp hy with rfl | hy
    · exact hb'
    · exact Nat.lt_of_lt_of_le (H.2.1 y hy) E.1, fun x hx => ⟨(H.2.2 x hx).1, (H.2.2 x hx).2.1, fun c k cf i units a q1 q2 q3 q4 q5 q6 => (((H.2.2 x hx).2.2 c k cf i units a q1 q2 q3 q4 q5 q6).owns (W := st3 Z vm h) hb).move (W := st3 Z vm h) (W' := st3 Z vm h') (Vm.Alike.refl _) fun y c _ q => E.2 y c q⟩⟩
theorem slX_facts {units : Array UInt16} (H : SlX (st3 Z vm h) a units ws) (hal : Z.vm.Alike vm) (hlat : units.all (· < 256) = true) :
    Exa Z h a "java/lang/String" ∧ Fld Z h a "java/lang/String" "coder" "B" (.int 0) ∧ ∃ b, Fld Z h a "java/lang/String" "value" "[B" (.ref b) ∧ AA Z h b .byte (units.toList.map fun u => Value.int (Jvm.Lit.byteI u)) ∧ a ∉ ws ∧ b ∉ ws := by
  obtain ⟨q, cS, rfl, ⟨S, hfS, hcS⟩, ⟨kS, k1, k2, k3⟩, hB, hby, n1, n2⟩ := H
  obtain ⟨s1, s2, s3, ⟨cv, kv, iv, s4, s4'⟩, ⟨cc, kc, ic, s5, s5'⟩, s6, s7, s8, s9, s10, s11, s12, s13, s14, s15, s16⟩ := S
  have e1 : ∀ {n d : String} {c i : Nat} {k : Class} {f : Field}, (st3 Z vm h).fieldFound? STR n d = some (c, k, i, f) → ∃ k', Z.fieldFound? "java/lang/String" n d = some (c, k', i, f) := fun hf => ff_back (U := st3 Z vm h) hal hf
  obtain ⟨kv', z4⟩ := e1 s4
  obtain ⟨kc', z5⟩ := e1 s5
  have hfZ : Z.vm.findClass "java/lang/String" = some q.sC.cls := by rw [hcS, ← hal.findClass]; exact hfS
  obtain ⟨kz, hkz, -⟩ := Vm.findClass_spec hfZ
  obtain ⟨kz', hkz', ekz⟩ := hal.2.2 _ _ hkz
  have ekS : kz' = kS := Option.some.inj (hkz'.symm.trans (show vm.classes[q.sC.cls]? = some kS from hcS ▸ k1))
  refine ⟨⟨q.sC, kz, s1, hfZ, hkz, s3, fun _ => by rw [k3, ← ekS, ekz]⟩, ⟨q.sC, cc, kc', ic, q.fSC, s1, z5, s7, s2, s3, by rw [← hal.assignable]; exact s5', s9⟩, q.sd, ⟨q.sC, cv, kv', iv, q.fSV, s1, z4, s6, s2, s3, by rw [← hal.assignable]; exact s4', s8⟩, ⟨q.SA, ⟨s10, ?_, s12⟩, ?_, ?_⟩, n1, n2⟩
  · obtain ⟨t1, t2, t3, comp, t4⟩ := s11
    have hBZ : Z.vm.findClass "[B" = some q.SA.cls := by rw [← hal.findClass]; exact hB
    obtain ⟨kb, hkb, -⟩ := Vm.findClass_spec hBZ
    obtain ⟨kb', hkb', ekb⟩ := hal.2.2 _ _ hkb
    have e9 : t2 = kb' := Option.some.inj (t3.symm.trans hkb')
    exact ⟨t1, kb, hkb, comp, by rw [e9, ekb] at t4; exact t4⟩
  · rw [hby, SBG.stringBytes_lat hlat]
    apply Array.ext'
    simp [Array.toList_map]
    intro u _
    rfl
  · have e2 : q.SA.slots.size = units.size := by rw [hby, SBG.stringBytes_lat hlat, Array.size_map]
    simp only [List.length_map, Array.length_toList]
    have := s14
    omega
theorem LK.start {a0 : Array Value} (hh : ∀ x ∈ cs, Jvm.Lit.constHeld Z x.1 x.2.1 ∧ (Cond.stringLink x.1 x.2.1 x.2.2).before a0 Z = true ∧ (∀ ch ∈ x.2.2.toList, ch.toNat < 256)) (hcw : Jvm.Lit.compactW.before a0 Z = true) (wa : (Cond.arrayClass .byte).before a0 Z = true) (wi : (Cond.instantiable "java/lang/String" 4).before a0 Z = true) : LK Z cs Z.vm Z.heap [] := by
  refine ⟨State.Warmed39.refl Z, fun _ q => (List.not_mem_nil q).elim, fun x hx => ?_⟩
  obtain ⟨h1, h2, h3⟩ := hh x hx
  exact ⟨h3, h2, fun c k cf i units a q1 q2 q3 q4 q5 q6 => SlX.of (heldStart h1 h2 h3 hcw wa wi c k cf i units a q1 q2 q3 q4 q5 q6)⟩
theorem LK.warm (H : LK Z cs s.vm h ws) (hW : s.WarmedH vm') : LK Z cs vm' h ws := by
  obtain ⟨hZ, hb, H⟩ := H
  have hal := hW.wide.alike
  refine ⟨State.Warmed39.trans hZ hW.wide, hb, fun x hx => ?_⟩
  obtain ⟨h1, h2, h3⟩ := H x hx
  refine ⟨h1, h2, fun c k' cf i units a q1 q2 q3 q4 q5 q6 => ?_⟩
  have q1' : s.vm.findClass x.1 = some c := by rw [← hal.findClass]; exact q1
  have w2 := Cond.stringLink_warmed39 hZ h2
  obtain ⟨k, cf0, i0, units0, hk, hcf, hp0, hu0, hnm, htext, -⟩ := Cond.stringLink_spec (s := Z.setVm s.vm) q1' w2
  obtain ⟨k2, hk2, ek2⟩ := hal.2.2 _ _ hk
  cases (show vm'.classes[c]? = some k' from q2).symm.trans hk2
  have q3' : k.cf = some cf := by rw [ek2] at q3; exact q3
  have hi : vm'.interned = s.vm.interned := hW.interned_eq
  have key : k'.resolved[x.2.1]? = k.resolved[x.2.1]? := by
    rcases hW.entry hk hk2 x.2.1 with e | ⟨e, r, e1, hr⟩
    · exact e
    · exfalso
      cases r <;> simp [State.rightAt, show s.vm.classes[c]? = some k from hk, hcf, hnm] at hr
  exact (h3 c k cf i units a q1' hk q3' q4 q5 (by show _ ∨ _ ∧ s.vm.interned.find? _ = _; rw [← key, ← hi]; exact q6)).move (W := st3 Z s.vm h) (W' := st3 Z vm' h) hal fun _ _ _ q => q
theorem rebase (X : Stand p l e R s m args below meth c T locs k n) (hk : k ≤ R.cells) (hn : n ≤ R.slots) :
    Stand p l e { R with cells := R.cells - k, slots := R.slots - n } ({ s.setVm T.vm with heap := T.heap, slotsUsed := T.slotsUsed } : State) m args below meth c T [] 0 0 := by
  have Y : Stand p l e R (s.setVm T.vm) m args below meth c (T.setVm T.vm) locs k n := X.retabled X.warmed.wide
  have h1 := Y.heapSize
  have h2 := Y.used
  have h3 := Y.room
  have h4 := X.book
  refine ⟨Y.admits, Y.cas, Y.clock, Y.frames, ?_, Y.hears, Y.method, Y.code, X.here, X.tail, State.WarmedH.refl _, Y.limits, Y.bytes, ?_⟩
  · have hl : ({ s.setVm T.vm with heap := T.heap, slotsUsed := T.slotsUsed } : State).localsInUse = (s.setVm T.vm).localsInUse := by
      rw [State.localsInUse_invoking Y.frames Y.method Y.code]
      exact State.localsInUse_invoking (s := ({ s.setVm T.vm with heap := T.heap, slotsUsed := T.slotsUsed } : State)) Y.frames Y.method Y.code
    unfold State.hasRoom at h3 ⊢
    rw [hl]
    simp only [Bool.and_eq_true, decide_eq_true_eq] at h3 ⊢
    obtain ⟨⟨⟨⟨a1, a2⟩, a3⟩, a4⟩, a5⟩ := h3
    refine ⟨⟨⟨⟨a1, a2⟩, ?_⟩, ?_⟩, h4⟩
    · have e1 : (T.setVm T.vm).heap.size = T.heap.size := rfl
      show T.heap.size + (R.cells - k) ≤ _
      omega
    · have e1 : (T.setVm T.vm).slotsUsed = T.slotsUsed := rfl
      show T.slotsUsed + (R.slots - n) ≤ _
      omega
  · have e := Y.same.1
    refine ⟨?_, Nat.le_refl _, Nat.le_refl _, ?_, ?_, fun a c hc => ⟨c, hc, rfl, rfl, fun _ _ => rfl⟩⟩
    · exact e
    · show T.slotsUsed = T.slotsUsed + ((T.heap.toList.drop T.heap.size).map (·.slots.size)).sum
      rw [List.drop_eq_nil_of_le (by simp)]; simp
    · show ((T.heap.toList.drop T.heap.size).map (·.slots.size)).sum ≤ 0
      rw [List.drop_eq_nil_of_le (by simp)]; simp
def Bk (s0 s : State) (h : Heap) : Prop := s = s0.setVm s.vm ∧ ∃ k0, s0.Since s.vm k0 ∧ k0 ≤ h.size
variable {s0 : State}
theorem Bk.grow (B : Bk s0 s h) (q : h.size ≤ h'.size) : Bk s0 s h' := by obtain ⟨e, k0, h1, h2⟩ := B; exact ⟨e, k0, h1, Nat.le_trans h2 q⟩
theorem Bk.ext (B : Bk s0 s h) (E : Ext h h') : Bk s0 s h' := B.grow E.1
theorem Bk.keep {vs : List Addr} (B : Bk s0 s h) (K : Keep h h' vs) : Bk s0 s h' := B.grow K.1
theorem Bk.wr {sl : Nat} {v : Value} (B : Bk s0 s h) (W : Wr h h' a sl v) : Bk s0 s h' := B.grow (by obtain ⟨cell, -, -, -, rfl⟩ := W; simp)
theorem Bk.start : Bk s s h := ⟨rfl, h.size, (State.WarmedH.refl s).since _, Nat.le_refl _⟩
theorem atoms_mv {args : Array Value} (hZ : Z.Warmed39 s.vm) (wS : ∀ a ∈ Bundle.stringAtoms, a.before a0 Z = true) : ∀ a ∈ Bundle.stringAtoms, a.before args s = true := fun d hd => by
  have q := wS d hd
  simp only [Bundle.stringAtoms, List.mem_cons, List.not_mem_nil, or_false] at hd
  rcases hd with rfl | rfl | rfl | rfl | rfl | rfl | rfl
  · exact mv hZ q
  · exact mv hZ q
  · exact mvA hZ q
  · exact mv hZ q
  · exact mv hZ q
  · exact mv hZ q
  · exact mv hZ q
theorem find_push {A : Array (Array UInt16 × Addr)} {u v : Array UInt16} {x y : Addr} (hf : (A.push (u, x)).find? (fun p => p.1 == v) = some (v, y)) : A.find? (fun p => p.1 == v) = some (v, y) ∨ (A.find? (fun p => p.1 == v) = none ∧ u = v ∧ x = y) := by
  rw [Array.find?_push] at hf
  cases h : A.find? (fun p => p.1 == v) with
  | some z => rw [h] at hf; left; simpa using hf
  | none =>
    rw [h] at hf
    right
    by_cases e : u = v
    · subst e; simp at hf; exact ⟨rfl, rfl, hf⟩
    · simp [e] at hf
theorem setFr {T s : State} {F G : List Frame} {H : Heap} {N : Nat} {V : Vm} (d : T = { s.setFrames F with heap := H, slotsUsed := N, vm := V }) : T.setFrames G = { s.setFrames G with heap := H, slotsUsed := N, vm := V } := by
  subst d
  show ({ (s.setFrames F).setFrames G with heap := H, slotsUsed := N, vm := V } : State) = _
  rw [State.setFrames_setFrames]
theorem ldc_core (A : On l Z n0 own bytes maxL ret R p e s m args below meth c T h k n) (H : LK Z cs s.vm h ws) {i nn : Nat} {text : String} (hm : (own, i, text) ∈ cs) (wS : ∀ a ∈ Bundle.stringAtoms, a.before a0 Z = true) (hn : 4 * text.toList.length ≤ nn) (hbig : nn ≤ 536870912) (hc : k + 2 ≤ R.cells) (hl : n + (nn + 4) ≤ R.slots) (hd : decode bytes pc = .ok (.ldc i, 2)) :
    ∃ s' T' h' a units, On l Z n0 own bytes maxL ret R p e s' m args below meth c T' h' (k + 2) (n + (nn + 4)) ∧ s' = s.setVm s'.vm ∧ s.Since s'.vm h'.size ∧ LK Z cs s'.vm h' ws ∧ Ext h h' ∧ utf16ToString? units = some text ∧ SlX (st3 Z s'.vm h') a units ws ∧
      ∀ t, Steps p.tables e below (T'.setTop (mkF m (pc + 2) Ls (.ref a :: st))) t → Steps p.tables e below (T.setTop (mkF m pc Ls st)) t := by
  obtain ⟨locs, X, N, eT, hx, hZ, hby, hml, hown, hret, hlk, hsz⟩ := A
  subst eT
  have H' : LK Z cs T.vm T.heap ws := H.warm X.warmed
  have halT := X.warmed.wide.alike
  obtain ⟨hch, hwl, hcon⟩ := H'.2.2 _ hm
  have hownT : T.vm.findClass own = some m.cls := by rw [halT.findClass]; exact hown
  have w2 := Cond.stringLink_warmed39 H'.1 hwl
  obtain ⟨k0, cf, i0, units, hk, hcf, hp, hu, hnm, htext, hres⟩ := Cond.stringLink_spec (s := Z.setVm T.vm) hownT w2
  have hlat := Jvm.ClassFile.lat_of_text htext hch
  rcases hres with hopen | ⟨a, hr⟩
  · have X1 := rebase X (by omega) (by omega)
    obtain ⟨S1, hS1⟩ : ∃ z, z = ({ s.setVm T.vm with heap := T.heap, slotsUsed := T.slotsUsed } : State) := ⟨_, rfl⟩
    rw [← hS1] at X1
    have v1 : S1.vm = T.vm := by rw [hS1]; rfl
    have v2 : S1.heap = T.heap := by rw [hS1]
    have hZ1 : Z.Warmed39 S1.vm := by rw [v1]; exact H'.1
    have held : ConstHeldL S1 own i := fun c' k' cf' i' u' a' q1 q2 q3 q4 q5 q6 => by
      rw [v1] at q1 q2 q6
      refine ((hcon c' k' cf' i' u' a' q1 q2 q3 q4 q5 q6).move (W := st3 Z T.vm T.heap) (W' := S1) ?_ ?_).slOf
      · rw [v1]; exact Vm.Alike.refl _
      · intro y cc _ q; rw [v2]; exact q
    obtain ⟨a, T2, X2, hS2, ⟨k2, hk2, hr2⟩, hkeep, hone, hint, ⟨u2, htext2, hin⟩, stp⟩ := X1.ldcColdF (fun _ _ q => by rw [← v2]; exact q) hx (own := own) (text := text) (by rw [v1]; exact hownT) (mvS (s := S1) (vm0 := S1.vm) hZ1 hwl) (atoms_mv hZ1 wS) held (fun units hu => Jvm.ClassFile.lat_of_text hu hch) (g := mkF m pc Ls st) rfl (hb hby hd) hn hbig (by show 0 + 2 ≤ R.cells - k; omega) (by show 0 + (nn + 4) ≤ R.slots - n; omega)
    have hW2 : T.Warmed39 T2.vm := by
      have q := hS2.1
      rw [hS1] at q; exact q
    have hB2 : T.Booked T2.vm T2.heap.size := fun j q h1 h2 => by
      have := hS2.2 j q (by rw [v1]; exact h1) h2
      rw [v2] at this; exact this
    have hsame : T.sameButNew (T2.setVm T.vm) [] 2 (nn + 4) := by
      obtain ⟨e1, e2, e3, e4, e5, e6⟩ := X2.same
      have d1 : T = { s.setFrames T.frames with heap := T.heap, slotsUsed := T.slotsUsed, vm := T.vm } := congrArg (fun z : State => z.setVm T.vm) X.same.1
      rw [hS1] at e1 e2 e3 e4 e5 e6
      rw [Nat.zero_add] at e3 e5
      refine ⟨?_, e2, e3, e4, e5, e6⟩
      have d2 := setFr (G := T2.frames) d1
      have d3 := congrArg (fun z : State => z.setVm T.vm) e1
      show T2.setVm T.vm = { T.setFrames T2.frames with heap := T2.heap, slotsUsed := T2.slotsUsed }
      rw [d2]
      exact d3
    obtain ⟨X3, hS3⟩ := X.movedW (T₂ := T2) X2.here X2.tail (by rw [X2.limits, X.limits, hS1]; rfl) (by rw [X2.bytes, X.bytes, hS1]; rfl) hW2 hB2 hsame
    rw [List.append_nil] at X3
    have hal2 := hW2.alike
    have E2 : Ext T.heap T2.heap := ext_of hkeep
    have hZ2 : Z.Warmed39 T2.vm := State.Warmed39.trans H'.1 hW2
    have hu2 : u2 = units := Array.ext' (by rw [Jvm.ClassFile.units_of_text htext2 hch, Jvm.ClassFile.units_of_text htext hch])
    have hk2' : T2.vm.classes[m.cls]? = some k2 := hk2
    have hfind : T2.vm.interned.find? (fun p => p.1 == units) = some (units, a) := by
      obtain ⟨k3, hk3, -, -, ee, -⟩ := hW2.2.2.2 m.cls k0 hk
      cases hk2'.symm.trans hk3
      rcases ee i with e0 | ⟨-, r, e1, hr' | ⟨a3, t, si, us, rfl, -, q3, q4, q5⟩⟩
      · rw [hr2, hopen] at e0; cases e0
      · exfalso
        have := e1.symm.trans hr2
        cases this
        simp [State.rightAt, show T.vm.classes[m.cls]? = some k0 from hk, hcf, hnm] at hr'
      · have := e1.symm.trans hr2
        cases this
        rw [hcf] at q3 q4
        have e3 : si = i0 := by
          have := q3.symm.trans hp
          simpa using this
        subst e3
        have e4 : us = units := by simpa [ConstantPool.utf8?, hu] using q4.symm
        subst e4
        exact q5
    obtain ⟨qq, cS, z1, z2, z3, z4, z5, z6⟩ := hin
    have hslx : (T.vm.interned.find? (fun p => p.1 == units) = some (units, a) ∨ T.heap.size ≤ a) → SlX (st3 Z T2.vm T2.heap) a units ws := by
      intro hor
      rcases hor with hf | hge
      · exact (hcon _ k0 cf i0 units a hownT hk hcf hp hu (Or.inr ⟨hopen, hf⟩)).move (W := st3 Z T.vm T.heap) (W' := st3 Z T2.vm T2.heap) hal2 fun y cc _ q => E2.2 y cc q
      · have h0 := H'.2.1
        have b1 : T.heap.size ≤ qq.sa ∧ T.heap.size ≤ qq.sd := by
          rcases z6 with ⟨y1, y2⟩ | y
          · exfalso; rw [v2] at y1; rw [z1] at y1; exact absurd y1 (Nat.not_lt.mpr hge)
          · exact y
        exact ⟨qq, cS, z1, z2.carry (U := T2) (U' := st3 Z T2.vm T2.heap) (Vm.Alike.refl _) z2.1.1 z2.1.2.2.2.2.2.2.2.2.2.1, z3, z4, by rw [z5, hu2], fun y => absurd (h0 _ y) (Nat.not_lt.mpr b1.1), fun y => absurd (h0 _ y) (Nat.not_lt.mpr b1.2)⟩
    have hnew : ∀ u' a', T2.vm.interned = T.vm.interned.push (u', a') → utf16ToString? u' = some text → u' = units ∧ (T.vm.interned.find? (fun p => p.1 == units) = some (units, a) ∨ (a' = a ∧ T.heap.size ≤ a)) := by
      intro u' a' e1 e2
      have e3 : u' = units := Array.ext' (by rw [Jvm.ClassFile.units_of_text e2 hch, Jvm.ClassFile.units_of_text htext hch])
      refine ⟨e3, ?_⟩
      have e4 := hfind
      rw [e1] at e4
      rcases find_push e4 with e5 | ⟨-, -, e6⟩
      · exact Or.inl e5
      · refine Or.inr ⟨e6, ?_⟩
        rcases hone.2 with e7 | ⟨u7, a7, e7, e8, -⟩
        · have := congrArg Array.size (e1.symm.trans e7); simp at this
        · have := e1.symm.trans e7
          have : (u', a') = (u7, a7) := by
            have := congrArg Array.back? this
            simpa using this
          cases this
          rw [← e6]; exact e8
    have hSL : SlX (st3 Z T2.vm T2.heap) a units ws := by
      apply hslx
      rcases hint with e1 | ⟨u', a', e1, e2⟩
      · left; rw [← e1]; exact hfind
      · rcases (hnew u' a' e2 e1).2 with e3 | e3
        · exact Or.inl e3
        · exact Or.inr e3.2
    have hLK : LK Z cs T2.vm T2.heap ws := by
      refine ⟨hZ2, fun y hy => Nat.lt_of_lt_of_le (H'.2.1 y hy) E2.1, fun x hx => ?_⟩
      obtain ⟨g1, g2, g3⟩ := H'.2.2 x hx
      refine ⟨g1, g2, fun c' k' cf' i' u' a' q1 q2 q3 q4 q5 q6 => ?_⟩
      have q1' : T.vm.findClass x.1 = some c' := by rw [← hal2.findClass]; exact q1
      obtain ⟨kT, cfT, iT, uT, gk, gcf, gp, gu, gnm, gtext, -⟩ := Cond.stringLink_spec (s := Z.setVm T.vm) q1' (Cond.stringLink_warmed39 H'.1 g2)
      obtain ⟨k3, hk3, ek3, -, ee, -⟩ := hW2.2.2.2 c' kT gk
      cases (show T2.vm.classes[c']? = some k' from q2).symm.trans hk3
      have q3' : kT.cf = some cf' := by rw [ek3] at q3; exact q3
      cases q3'.symm.trans gcf
      cases q4.symm.trans gp
      cases q5.symm.trans gu
      have mvd : SlX (st3 Z T.vm T.heap) a' u' ws → SlX (st3 Z T2.vm T2.heap) a' u' ws := fun z => z.move (W := st3 Z T.vm T.heap) (W' := st3 Z T2.vm T2.heap) hal2 fun y cc _ q => E2.2 y cc q
      have viaF : kT.resolved[x.2.1]? = some none → T2.vm.interned.find? (fun p => p.1 == u') = some (u', a') → SlX (st3 Z T2.vm T2.heap) a' u' ws := by
        intro o1 o2
        rcases hint with e1 | ⟨v', b', e1, e2⟩
        · exact mvd (g3 c' kT cf' i' u' a' q1' gk q3' q4 q5 (Or.inr ⟨o1, by show T.vm.interned.find? _ = _; rw [← e1]; exact o2⟩))
        · have o3 := o2
          rw [e2] at o3
          rcases find_push o3 with o4 | ⟨-, o5, -⟩
          · exact mvd (g3 c' kT cf' i' u' a' q1' gk q3' q4 q5 (Or.inr ⟨o1, o4⟩))
          · have e3 := (hnew v' b' e2 e1).1
            subst o5
            subst e3
            have := o2.symm.trans hfind
            cases this
            exact hSL
      rcases ee x.2.1 with e0 | ⟨hop, r, e1, hr' | ⟨a3, t, si, us, rfl, -, p3, p4, p5⟩⟩
      · rw [e0] at q6
        rcases q6 with q6 | ⟨q6, q7⟩
        · exact mvd (g3 c' kT cf' i' u' a' q1' gk q3' q4 q5 (Or.inl q6))
        · exact viaF q6 q7
      · exfalso
        cases r <;> simp [State.rightAt, show T.vm.classes[c']? = some kT from gk, gcf, gnm] at hr'
      · rcases q6 with q6 | ⟨q6, q7⟩
        · have := e1.symm.trans q6
          cases this
          rw [gcf] at p3 p4
          have e3 : si = i' := by
            have := p3.symm.trans gp
            simpa using this
          subst e3
          have e4 : us = u' := by simpa [ConstantPool.utf8?, gu] using p4.symm
          subst e4
          exact viaF hop p5
        · rw [e1] at q6; cases q6
    refine ⟨s.setVm T2.vm, T2, T2.heap, a, units, ⟨locs, X3, N, rfl, hx, hZ2, hby, hml, ?_, hret, hlk, hsz⟩, rfl, hS3, hLK, E2, htext, hSL, fun t q => stp t q⟩
    show T2.vm.findClass own = _
    rw [hal2.findClass]; exact hownT
  · have Y : Stand p l e R (s.setVm T.vm) m args below meth c T locs (k + 2) (n + (nn + 4)) := (X.mono (by omega) (by omega)).retabled X.warmed.wide
    have L : Lit (s.setVm T.vm) own i a := by
      simp [Lit, State.resolvedAt?, hownT, show T.vm.classes[m.cls]? = some k0 from hk, show k0.resolved[i]? = some (some (.string a)) from hr]
    have wl : (Cond.stringLink own i text).before a0 (s.setVm T.vm) = true := mvS H'.1 hwl
    refine ⟨s.setVm T.vm, T, T.heap, a, units, ⟨locs, Y, N, rfl, hx, H'.1, hby, hml, hownT, hret, hlk, hsz⟩, rfl, X.warmed.since _, H', ⟨Nat.le_refl _, fun _ _ q => q⟩, htext, hcon _ k0 cf i0 units a hownT hk hcf hp hu (Or.inl hr), fun t q => ?_⟩
    exact ldcR Y hx (State.Warmed39.refl _) hownT (refOfLit wl L) L (g := mkF m pc Ls st) rfl (hb hby hd) t q
end Lit
theorem exa_ins {C K : String} (E : Exa Z h a C) (w : (Cond.castable C K).before a0 Z = true) : Ins Z h a K true := by
  obtain ⟨cell, k, e1, e2, e3, e4, -⟩ := E
  obtain ⟨c3, t3, w1, w2, w3⟩ := Cond.castable_spec w
  cases e2.symm.trans w1
  exact ⟨cell, t3, e1, w2, by simp [e4, w3]⟩
theorem s_castY (A : On l Z n0 own bytes maxL ret R p e s m args below meth c T h k n) {index : Nat} {K' : String} (w0 : (Cond.classLink own index K').before a0 Z = true) (F : Ins Z h a K' true) (hd : decode bytes pc = .ok (.checkcast index, 3)) (hp : pc + 3 = pc') (K : ∀ T', On l Z n0 own bytes maxL ret R p e s m args below meth c T' h k n → Wp p e below Φ (T'.setTop (mkF m pc' Ls (.ref a :: st)))) : Wp p e below Φ (T.setTop (mkF m pc Ls (.ref a :: st))) := by
  obtain ⟨locs, X, N, eT, hx, hZ, hby, hml, hown, hret, hlk, hsz⟩ := A
  subst hp
  obtain ⟨T', X', e', q⟩ := castY X hx hZ hown w0 eT F (g := mkF m pc Ls (.ref a :: st)) rfl rfl (hb hby hd)
  exact (K T' ⟨_, X', N, e', hx, hZ, hby, hml, hown, hret, hlk, hsz⟩).goo q
theorem s_newarrayE (A : On l Z n0 own bytes maxL ret R p e s m args below meth c T h k n) {aty : ArrayType} {dv : Value} {z : Int32} {i cap : Nat} {ad : String} (hty : newarray.typeOf aty = ty) (had : "[" ++ ty.toString = ad) (hdv : defaultValue ty = dv) (wa : (Cond.arrayClass ty).before a0 Z = true) (hz : z.toInt = (i : Int)) (hcap : i ≤ cap) (hbig : cap * 8 ≤ 536870912) (hc : k + 1 ≤ R.cells) (hs : n + cap ≤ R.slots) (hd : decode bytes pc = .ok (.newarray aty, 2)) (hp : pc + 2 = pc') (K : ∀ T' h' b, On l Z n0 own bytes maxL ret R p e s m args below meth c T' h' (k + 1) (n + cap) → h.size = b → n0 ≤ b → Ext h h' → AA Z h' b ty (List.replicate i dv) → Exa Z h' b ad → Wp p e below Φ (T'.setTop (mkF m pc' Ls (.ref b :: st)))) : Wp p e below Φ (T.setTop (mkF m pc Ls (.int z :: st))) := by
  obtain ⟨locs, X, N, eT, hx, hZ, hby, hml, hown, hret, hlk, hsz⟩ := A
  subst hp
  subst hty hdv
  have z0 : ¬ z < 0 := by rw [Int32.lt_iff_toInt_lt, hz]; have : (0 : Int32).toInt = 0 := by decide
                          omega
  obtain ⟨T', h', cA, X', e', E, A', Ex, q⟩ := newPE X hx hZ wa eT (g := mkF m pc Ls (.int z :: st)) rfl (hb hby hd) rfl z0 (cap := cap) (by rw [idx_ok hz]; exact hcap) hbig hc hs had
  have hz' : n0 ≤ h.size := by rw [← eT]; exact Nat.le_trans hsz X.same.2.1
  exact (K T' h' _ ⟨_, X', N, e', hx, hZ, hby, hml, hown, hret, hlk, hsz⟩ rfl hz' E (AA.new A' hz) Ex).goo q
theorem s_clone (A : On l Z n0 own bytes maxL ret R p e s m args below meth c T h k n) {index cap W : Nat} {ad : String} (w1 : (Cond.methodLink own index ⟨ad, "clone", "()Ljava/lang/Object;"⟩).before a0 Z = true) (w2 : (Cond.sameMethod ad "java/lang/Object" "clone" "()Ljava/lang/Object;").before a0 Z = true) (w3 : (Cond.native ⟨"java/lang/Object", "clone", "()Ljava/lang/Object;"⟩).before a0 Z = true) (w4 : (Cond.instanceMethod ⟨"java/lang/Object", "clone", "()Ljava/lang/Object;"⟩).before a0 Z = true) (w5 : (Cond.selects ad ⟨ad, "clone", "()Ljava/lang/Object;"⟩ ⟨"java/lang/Object", "clone", "()Ljava/lang/Object;"⟩).before a0 Z = true) (w6 : (Cond.castable ad "java/lang/Cloneable").before a0 Z = true) (V : AA Z h a ty vs) (E : Exa Z h a ad) (fit : ∀ v ∈ vs, fits ty v = true) (hcap : vs.length ≤ cap) (hf : 1 ≤ R.frames) (hW : (st.map fun v => v.category).sum ≤ W) (hl : W + 14 ≤ R.locals) (hc : k + 1 ≤ R.cells) (hs : n + cap ≤ R.slots) (hLs : Ls.size = maxL) (hd : decode bytes pc = .ok (.invokevirtual index, 3)) (hp : pc + 3 = pc') (K : ∀ T' h' b, On l Z n0 own bytes maxL ret R p e s m args below meth c T' h' (k + 1) (n + cap) → h.size = b → n0 ≤ b → Ext h h' → AA Z h' b ty vs → Exa Z h' b ad → Wp p e below Φ (T'.setTop (mkF m pc' Ls (.ref b :: st)))) : Wp p e below Φ (T.setTop (mkF m pc Ls (.ref a :: st))) := by
  obtain ⟨locs, X, N, eT, hx, hZ, hby, hml, hown, hret, hlk, hsz⟩ := A
  subst hp
  obtain ⟨cl, Aa, q1, q2⟩ := V
  have FC : FitC Z cl := fitC_of Aa fun i hi v hv => by
    rw [q1] at hv
    exact fit v (by have := Array.mem_of_getElem? hv; simpa using this)
  obtain ⟨T', h', X', e', ex, A', E', q⟩ := cloneA X hx hZ hown w1 w2 w3 w4 w5 w6 eT Aa E FC (g := mkF m pc Ls (.ref a :: st)) rfl (by rw [hml]; exact hLs) rfl (hb hby hd) hf (W := W) (by show 2 * 0 + _ ≤ _; simpa using hW) hl (cap := cap) (by rw [q1]; simpa using hcap) hc hs
  have hz' : n0 ≤ h.size := by rw [← eT]; exact Nat.le_trans hsz X.same.2.1
  exact (K T' h' _ ⟨_, X', N, e', hx, hZ, hby, hml, hown, hret, hlk, hsz⟩ rfl hz' ex ⟨_, A', q1, q2⟩ E').goo q
theorem s_face (A : On l Z n0 own bytes maxL ret R p e s m args below meth c T h k n) {index count : Nat} {y z : MethodName} {bytes' : ByteArray} {maxL' : Nat} {ret' : Option FieldType} {rm : Room} {argsL rest : List Value} {Q' : Option Value → Heap → Prop} {C : String} (E : Exa Z h b C) (M : Met l Z n0 z bytes' maxL' ret' rm (.ref b :: argsL).toArray h Q') (wl : (Cond.methodLink own index y).before a0 Z = true) (wd : (Cond.declares y).before a0 Z = true) (wf : ∀ (args : Array Value) (s : State), Z.Warmed39 s.vm → (Cond.interfaceMethod y.cls y.cls y.name y.desc).before args s = true) (wsel : (Cond.selects C y z).before a0 Z = true) (wim : (Cond.instanceMethod z).before a0 Z = true) (wp : (Cond.publicMethod z).before a0 Z = true) (wu : (Cond.unhidden C y.name y.desc).before a0 Z = true) (wca : (Cond.castable C y.cls).before a0 Z = true) (wz : (Cond.initialized z.cls).before a0 Z = true) (wc : (Cond.code z bytes' maxL' ret').before a0 Z = true) (hy : y.cls ≠ "java/lang/invoke/MethodHandle" ∧ y.cls ≠ "java/lang/invoke/VarHandle") {sig : MethodDescriptor} (hsig : parseMethodDescriptor y.desc = some sig) (hlen : argsL.length = sig.parameters.length) {W : Nat} (hf : rm.frames + 1 ≤ R.frames) (hl : W + (maxL' + 11) + rm.locals ≤ R.locals) (hW : (rest.map fun v => v.category).sum ≤ W) (hc : k + rm.cells ≤ R.cells) (hs : n + rm.slots ≤ R.slots) (hLs : Ls.size = maxL) {stk : List Value} (hst : stk = argsL.reverse ++ .ref b :: rest) (hd : decode bytes pc = .ok (.invokeinterface index count, 5)) (hp : pc + 5 = pc') (K : ∀ T' h' v, On l Z n0 own bytes maxL ret R p e s m args below meth c T' h' (k + rm.cells) (n + rm.slots) → Q' v h' → Wp p e below Φ (T'.setTop (mkF m pc' Ls (v.toList ++ rest)))) : Wp p e below Φ (T.setTop (mkF m pc Ls stk)) := by
  obtain ⟨locs, X, N, eT, hx, hZ, hby, hml, hown, hret, hlk, hsz⟩ := A
  subst hp
  obtain ⟨cq, kq, qa, qb, qc⟩ := isOf hZ eT E
  obtain ⟨v, _, ⟨T', L', k', n'⟩, -, X', ⟨Lc, ⟨Nq, hQ⟩, l1, l2, l3⟩, q⟩ := X.interfaceBack hx (xi := y) (y := z) hown (mvT hZ wl) (mvT hZ wd) (wf args s hZ) (mvT hZ wsel) (mvT hZ wim) (mvT hZ wp) (mvT hZ wu) (mvT hZ wca) hy (backOf (Q := fun v h L => Fr n0 L ∧ Q' v h) (W := W) (M []) hZ wc wz hf hl) qa qb qc (g := mkF m pc Ls stk) rfl (by rw [hml]; exact hLs) (Steps.refl _) (argsL := argsL) (rest := rest) (lenOf hsig hlen) hst (by show 2 * 0 + _ ≤ _; simpa using hW) (hb hby hd) (fun _ _ => ⟨rfl, eT, hc, hs⟩)
  dsimp only [Pt.U, Pt.locs, Pt.cells, Pt.slots] at X' l1 l2 l3 q hQ Nq
  subst l1 l2 l3
  exact (K T' T'.heap v ⟨_, X', Fr.app N Nq, rfl, hx, hZ, hby, hml, hown, hret, hlk, hsz⟩ hQ).goo (fun t r => q.trans r)
section LitS
open Bundle
variable {cs : List (String × Nat × String)} {vm vm' : Vm} {ws : List Addr} {s0 : State} {cs' : Nat} {QS : Option Value → Heap → Vm → Prop}
def MetS (l : Launch) (Z : State) (n0 : Nat) (y : MethodName) (bytes : ByteArray) (maxL : Nat) (ret : Option FieldType) (rm : Room) (as : Array Value) (h : Heap) (cs : List (String × Nat × String)) (ws : List Addr) (QS : Option Value → Heap → Vm → Prop) : Prop :=
  ∀ wds, MetFree l y (head1 (Cond.code y bytes maxL ret :: wds) rm) (fun a U => a = as ∧ Z.Warmed39 U.vm ∧ U.heap = h ∧ LK Z cs U.vm h ws) (fun _ _ _ _ _ => True) (fun _ U o U' => ∃ v L, o = .returned v ∧ (Fr n0 L ∧ QS v U'.heap U'.vm) ∧ ReturnedEndW U o U' L rm.cells rm.slots)
theorem metS_intro {y : MethodName} {rm : Room} {as : Array Value} (hpl : plainFor y = true) (ho : y.cls = own) (hsz : n0 ≤ h.size)
    (body : ∀ p e s m below meth c T, On l Z n0 own bytes maxL ret rm p e s m as below meth c T h 0 0 → Bk s s h → LK Z cs s.vm h ws → meth.name = y.name → Wp p e below (EndS s n0 rm.cells rm.slots QS) (T.setTop (entryFrame m as maxL))) : MetS l Z n0 y bytes maxL ret rm as h cs ws QS := by
  subst ho
  intro ws
  refine MetFree.of_bodySF hpl hisR ?_
  intro p e s m args below meth c s₁ Bd hml0 hP hK
  obtain ⟨rfl, hZ, hh, hL⟩ := hP
  have X0 : Stand p l e rm s m args below meth c s₁ [] 0 0 := Stand.of_body Bd
  have e0 : s₁.heap = h := by rw [← hh, Bd.state]; rfl
  exact body p e s m below meth c s₁ ⟨[], X0, Fr.nil n0, e0, Bd.exec, hZ, Bd.bytes, hml0, findClass_of_methodNamed Bd.named, Bd.returns, Bd.notSynchronized, by rw [hh]; exact hsz⟩ Bk.start hL (name_of_methodNamed Bd.named Bd.method).1
theorem rS_void (A : On l Z n0 own bytes maxL ret R p e s m args below meth c T h k n) (B : Bk s0 s h) (hr : ret = none) (hd : decode bytes pc = .ok (.return_, 1)) (hk : k ≤ ck) (hn : n ≤ cs') (q : ∀ vm, s.WarmedH vm → QS none h vm) : Wp p e below (EndS s0 n0 ck cs' QS) (T.setTop (mkF m pc Ls [])) := by
  obtain ⟨locs, X, N, eT, hx, hZ, hby, hml, hown, hret, hlk, hsz⟩ := A
  subst eT
  obtain ⟨eS, k0, hS, hk0⟩ := B
  have X' := X
  rw [eS] at X'
  have hR : meth.sig.returnType = none := hret.trans hr
  obtain ⟨fs, h1, hrun, hended, hend⟩ := X'.leaveW hS hk0 (v := none) (fun _ => rfl) hlk
  exact ⟨_, _, X.returnOut hx hR (hb hby hd) h1, hrun, hended, _, _, rfl, ⟨N, q _ X.warmed⟩, hend.1, hend.2.1, hend.2.2.1, hend.2.2.2.mono hk hn⟩
theorem rS_val (A : On l Z n0 own bytes maxL ret R p e s m args below meth c T h k n) (B : Bk s0 s h) {i : Instr} {t : FieldType} (hr : ret = some t) (hn0 : narrow t v = v) (hi : (i = .ireturn ∧ (t = .int ∨ t = .boolean ∨ t = .byte ∨ t = .char ∨ t = .short) ∧ ∃ z, v = .int z) ∨ (i = .lreturn ∧ t = .long ∧ ∃ z, v = .long z) ∨ (i = .dreturn ∧ t = .double ∧ ∃ z, v = .double z) ∨ (i = .freturn ∧ t = .float ∧ ∃ z, v = .float z) ∨ (i = .areturn ∧ t.isReference = true ∧ v.isRef = true)) (hd : decode bytes pc = .ok (i, 1)) (hk : k ≤ ck) (hn : n ≤ cs') (q : ∀ vm, s.WarmedH vm → QS (some v) h vm) : Wp p e below (EndS s0 n0 ck cs' QS) (T.setTop (mkF m pc Ls (v :: st))) := by
  obtain ⟨locs, X, N, eT, hx, hZ, hby, hml, hown, hret, hlk, hsz⟩ := A
  subst eT
  obtain ⟨eS, k0, hS, hk0⟩ := B
  have X' := X
  rw [eS] at X'
  have hR : meth.sig.returnType = some t := hret.trans hr
  obtain ⟨fs, h1, hrun, hended, hend⟩ := X'.leaveW hS hk0 (v := some v) (fun z => by rw [hR] at z; cases z) hlk
  exact ⟨_, _, retOut X hx hR hn0 hi (hb hby hd) h1, hrun, hended, _, _, rfl, ⟨N, q _ X.warmed⟩, hend.1, hend.2.1, hend.2.2.1, hend.2.2.2.mono hk hn⟩
theorem rS_bool (A : On l Z n0 own bytes maxL ret R p e s m args below meth c T h k n) (B : Bk s0 s h) {z : Int32} (hr : ret = some .boolean) (hz : z = 0 ∨ z = 1) (hd : decode bytes pc = .ok (.ireturn, 1)) (hk : k ≤ ck) (hn : n ≤ cs') (q : ∀ vm, s.WarmedH vm → QS (some (.int z)) h vm) : Wp p e below (EndS s0 n0 ck cs' QS) (T.setTop (mkF m pc Ls (.int z :: st))) := rS_val A B hr (by rcases hz with rfl | rfl <;> rfl) (Or.inl ⟨rfl, Or.inr (Or.inl rfl), _, rfl⟩) hd hk hn q
theorem s_ldcS (A : On l Z n0 own bytes maxL ret R p e s m args below meth c T h k n) (B : Bk s0 s h) (H : LK Z cs s.vm h ws) {i nn : Nat} {text : String} (hm : (own, i, text) ∈ cs) (wS : ∀ a ∈ Bundle.stringAtoms, a.before a0 Z = true) (hvs : text.toList.map (fun c => Value.int (Jvm.Lit.byteI c.toNat.toUInt16)) = vs) (hn : 4 * text.toList.length ≤ nn) (hbig : nn ≤ 536870912) (hc : k + 2 ≤ R.cells) (hl : n + (nn + 4) ≤ R.slots) (hd : decode bytes pc = .ok (.ldc i, 2)) (hp : pc + 2 = pc')
    (K : ∀ s' T' h' a b, On l Z n0 own bytes maxL ret R p e s' m args below meth c T' h' (k + 2) (n + (nn + 4)) → Bk s0 s' h' → LK Z cs s'.vm h' ws → Ext h h' → Exa Z h' a "java/lang/String" → Fld Z h' a "java/lang/String" "coder" "B" (.int 0) → Fld Z h' a "java/lang/String" "value" "[B" (.ref b) → AA Z h' b .byte vs → a ∉ ws → b ∉ ws → Wp p e below Φ (T'.setTop (mkF m pc' Ls (.ref a :: st)))) : Wp p e below Φ (T.setTop (mkF m pc Ls st)) := by
  subst hp
  obtain ⟨s', T', h', a, units, A', e1, hS', L', E, htext, hsl, q⟩ := ldc_core (pc := pc) (Ls := Ls) (st := st) A H hm wS hn hbig hc hl hd
  have hch := (H.2.2 _ hm).1
  obtain ⟨F1, F2, b, F3, F4, n1, n2⟩ := slX_facts hsl L'.1.alike (Jvm.ClassFile.lat_of_text htext hch)
  obtain ⟨eS, k0, hS, hk0⟩ := B
  have F4' : AA Z h' b .byte vs := F4.cast (by rw [Jvm.ClassFile.units_of_text htext hch, List.map_map, ← hvs]; rfl)
  have hS2 := hS'
  rw [eS] at hS2
  exact (K s' T' h' a b A' ⟨by rw [e1, eS]; rfl, h'.size, hS.trans hS2 (Nat.le_trans hk0 E.1), Nat.le_refl _⟩ L' E F1 F2 F3 F4' n1 n2).goo q
theorem backS_of {y : MethodName} {bytes : ByteArray} {maxL : Nat} {ret : Option FieldType} {rm : Room} {len W : Nat} {as' : Array Value} (M : MetS l Z n0 y bytes maxL ret rm as' h cs ws QS)
    (hZ : Z.Warmed39 s.vm) (H : LK Z cs s.vm h ws) (wc : (Cond.code y bytes maxL ret).before a0 Z = true) (wz : (Cond.initialized y.cls).before a0 Z = true) (hf : rm.frames + 1 ≤ R.frames) (hl : W + (maxL + 11) + rm.locals ≤ R.locals) :
    BackS l R p e below s args y len W (fun A a => a = as' ∧ A.U.heap = h ∧ A.cells + rm.cells ≤ R.cells ∧ A.slots + rm.slots ≤ R.slots)
      (fun A _ v B => ∃ L, (Fr n0 L ∧ QS v B.U.heap B.U.vm) ∧ B.locs = A.locs ++ L ∧ B.cells = A.cells + rm.cells ∧ B.slots = A.slots + rm.slots) :=
  BackS.of_freeW (bytes := bytes) (maxL := maxL) (ret := ret) (E := fun _ _ o t L k n => k = rm.cells ∧ n = rm.slots ∧ ∃ v, o = .returned v ∧ (Fr n0 L ∧ QS v t.heap t.vm)) (M []) hf hl
    (fun m meth c A a Y hp => have hU : Z.Warmed39 A.U.vm := wtrans hZ Y.warmed
      ⟨by show (Cond.and _ .tt).before a A.U = true; rw [Cond.before_and, mv hU wc]; rfl, mv hU wc, mv hU wz, hp.2.2.1, hp.2.2.2⟩)
    (fun m meth c A a g mk Y hp => ⟨hp.1, wtrans hZ Y.warmed, hp.2.1, H.warm Y.warmed⟩) (fun _ _ _ _ _ _ _ _ _ => trivial)
    (fun _ _ _ _ ⟨v, L, h1, h2, h3⟩ => ⟨L, _, _, h3, rfl, rfl, v, h1, h2⟩)
    (fun m meth c A a g mk v t L k n Y hp _ _ ⟨e1, e2, v', e3, e4⟩ => by cases e3; subst e1 e2; exact ⟨L, e4, rfl, rfl, rfl⟩)
theorem onS {T' : State} {L' : List Loc} {k' n' : Nat} (hZ : Z.Warmed39 s.vm) (hown : s.vm.findClass own = some m.cls) (B : Bk s0 s T.heap) (X' : Stand p l e R (s.setVm T'.vm) m args below meth c T' L' k' n') (N : Fr n0 L') (hx : p.tables.exec = Jvm.exec) (hby : c.code = bytes) (hml : c.maxLocals = maxL) (hret : meth.sig.returnType = ret) (hlk : meth.locks = false) (hsz : n0 ≤ s.heap.size) (hS : s.Since T'.vm T'.heap.size) (hge : T.heap.size ≤ T'.heap.size) :
    On l Z n0 own bytes maxL ret R p e (s.setVm T'.vm) m args below meth c T' T'.heap k' n' ∧ Bk s0 (s.setVm T'.vm) T'.heap := by
  obtain ⟨eS, k0, h1, h2⟩ := B
  refine ⟨⟨L', X', N, rfl, hx, State.Warmed39.trans hZ hS.1, hby, hml, ?_, hret, hlk, hsz⟩, ?_, T'.heap.size, ?_, Nat.le_refl _⟩
  · show T'.vm.findClass own = _; rw [hS.1.alike.findClass]; exact hown
  · rw [eS]; rfl
  · have h3 := hS; rw [eS] at h3; exact h1.trans h3 (Nat.le_trans h2 hge)
theorem s_specialS (A : On l Z n0 own bytes maxL ret R p e s m args below meth c T h k n) {index : Nat} {y : MethodName} {bytes' : ByteArray} {maxL' : Nat} {rm : Room} {argsL rest : List Value} {Q' : Option Value → Heap → Vm → Prop} (B : Bk s0 s h) (H : LK Z cs s.vm h ws) (M : MetS l Z n0 y bytes' maxL' none rm (.ref b :: argsL).toArray h cs ws Q') (hy1 : y.name = "<init>") (wl : (Cond.methodLink own index y).before a0 Z = true) (wim : (Cond.instanceMethod y).before a0 Z = true) (wz : (Cond.initialized y.cls).before a0 Z = true) (wc : (Cond.code y bytes' maxL' none).before a0 Z = true) (hy : y.cls ≠ "java/lang/invoke/MethodHandle" ∧ y.cls ≠ "java/lang/invoke/VarHandle") {sig : MethodDescriptor} (hsig : parseMethodDescriptor y.desc = some sig) (hlen : argsL.length = sig.parameters.length) {W : Nat} (hf : rm.frames + 1 ≤ R.frames) (hl : W + (maxL' + 11) + rm.locals ≤ R.locals) (hW : (rest.map fun v => v.category).sum ≤ W) (hc : k + rm.cells ≤ R.cells) (hs : n + rm.slots ≤ R.slots) (hLs : Ls.size = maxL) {stk : List Value} (hst : stk = argsL.reverse ++ .ref b :: rest) (hd : decode bytes pc = .ok (.invokespecial index, 3)) (hp : pc + 3 = pc') (K : ∀ s' T' h' v, On l Z n0 own bytes maxL ret R p e s' m args below meth c T' h' (k + rm.cells) (n + rm.slots) → Bk s0 s' h' → Q' v h' s'.vm → Wp p e below Φ (T'.setTop (mkF m pc' Ls (v.toList ++ rest)))) : Wp p e below Φ (T.setTop (mkF m pc Ls stk)) := by
  obtain ⟨locs, X, N, eT, hx, hZ, hby, hml, hown, hret, hlk, hsz⟩ := A
  subst hp
  obtain ⟨v, _, ⟨T', L', k', n'⟩, -, X', hS', hge, ⟨Lc, ⟨Nq, hQ⟩, l1, l2, l3⟩, q⟩ := X.specialBackS hx (y := y) hy1 hown (mvT hZ wl) (mvT hZ wim) (mvT hZ wc) hy (backS_of (W := W) M hZ H wc wz hf hl) (g := mkF m pc Ls stk) rfl (by rw [hml]; exact hLs) (Steps.refl _) (a := b) (argsL := argsL) (rest := rest) (lenOf hsig hlen) hst (by show 2 * 0 + _ ≤ _; simpa using hW) (hb hby hd) (fun _ _ => ⟨rfl, eT, hc, hs⟩)
  dsimp only [Pt.U, Pt.locs, Pt.cells, Pt.slots] at X' l1 l2 l3 q hQ Nq hS' hge
  subst l1 l2 l3
  subst eT
  obtain ⟨o1, o2⟩ := onS hZ hown B X' (Fr.app N Nq) hx hby hml hret hlk hsz hS' hge
  exact (K _ T' T'.heap v o1 o2 hQ).goo (fun t r => q.trans r)
end LitS
end Kit
end Jvm.Ow
namespace Jvm.Pilot.@@N@@
open Jvm Jvm.ClassFile Sem Op Lib Jvm.Free Jvm.Stand Jvm.LawKit Jvm.RoadKit Jvm.Ow Bundle Jvm.Pilot.@@N@@.Jvm.D
theorem w5 {Z : State} {a0 : Array Value} (hw : ∀ d ∈ tables_1, d.before a0 Z = true) : (Jvm.Cond.initialized "java/lang/String").before a0 Z = true := hw _ (List.mem_of_getElem? (i := 5) rfl)
theorem w6 {Z : State} {a0 : Array Value} (hw : ∀ d ∈ tables_1, d.before a0 Z = true) : (Jvm.Cond.instantiable "java/lang/String" (4 : Nat)).before a0 Z = true := hw _ (List.mem_of_getElem? (i := 6) rfl)
theorem w0 {Z : State} {a0 : Array Value} (hw : ∀ d ∈ tables_1, d.before a0 Z = true) : (Jvm.Cond.arrayClass Jvm.ClassFile.FieldType.byte).before a0 Z = true := hw _ (List.mem_of_getElem? (i := 0) rfl)
theorem w7 {Z : State} {a0 : Array Value} (hw : ∀ d ∈ tables_1, d.before a0 Z = true) : (Jvm.Cond.laysFinal "java/lang/String" "java/lang/String" "value" "[B").before a0 Z = true := hw _ (List.mem_of_getElem? (i := 7) rfl)
theorem w8 {Z : State} {a0 : Array Value} (hw : ∀ d ∈ tables_1, d.before a0 Z = true) : (Jvm.Cond.laysFinal "java/lang/String" "java/lang/String" "coder" "B").before a0 Z = true := hw _ (List.mem_of_getElem? (i := 8) rfl)
theorem w9 {Z : State} {a0 : Array Value} (hw : ∀ d ∈ tables_1, d.before a0 Z = true) : (Jvm.Cond.soleField "java/lang/String" "value").before a0 Z = true := hw _ (List.mem_of_getElem? (i := 9) rfl)
theorem w10 {Z : State} {a0 : Array Value} (hw : ∀ d ∈ tables_1, d.before a0 Z = true) : (Jvm.Cond.soleField "java/lang/String" "coder").before a0 Z = true := hw _ (List.mem_of_getElem? (i := 10) rfl)
theorem w4 {Z : State} {a0 : Array Value} (hw : ∀ d ∈ tables_1, d.before a0 Z = true) : (Jvm.Cond.stringLink "com/example/tailorbird/tailorbird/FormRequestBodyPinLaw" (20 : Nat) "POST").before a0 Z = true := hw _ (List.mem_of_getElem? (i := 4) rfl)
theorem w11 {Z : State} {a0 : Array Value} (hw : ∀ d ∈ tables_1, d.before a0 Z = true) : (Jvm.Cond.stringLink "com/example/tailorbird/tailorbird/FormRequestBodyPinLaw" (11 : Nat) "http://h/p").before a0 Z = true := hw _ (List.mem_of_getElem? (i := 11) rfl)
theorem w12 {Z : State} {a0 : Array Value} (hw : ∀ d ∈ tables_1, d.before a0 Z = true) : (Jvm.Cond.stringLink "com/example/tailorbird/tailorbird/FormRequestBodyPinLaw" (22 : Nat) "text/plain").before a0 Z = true := hw _ (List.mem_of_getElem? (i := 12) rfl)
theorem w31 {Z : State} {a0 : Array Value} (hw : ∀ d ∈ tables_1, d.before a0 Z = true) : (Jvm.Cond.stringLink "com/example/tailorbird/tailorbird/FormRequest" (18 : Nat) "method").before a0 Z = true := hw _ (List.mem_of_getElem? (i := 31) rfl)
theorem w84 {Z : State} {a0 : Array Value} (hw : ∀ d ∈ tables_1, d.before a0 Z = true) : (Jvm.Cond.stringLink "com/example/tailorbird/tailorbird/FormRequest" (35 : Nat) "url").before a0 Z = true := hw _ (List.mem_of_getElem? (i := 84) rfl)
theorem w97 {Z : State} {a0 : Array Value} (hw : ∀ d ∈ tables_1, d.before a0 Z = true) : (Jvm.Cond.stringLink "com/example/tailorbird/tailorbird/FormRequest" (54 : Nat) "contentType").before a0 Z = true := hw _ (List.mem_of_getElem? (i := 97) rfl)
theorem w114 {Z : State} {a0 : Array Value} (hw : ∀ d ∈ tables_1, d.before a0 Z = true) : (Jvm.Cond.stringLink "com/example/tailorbird/tailorbird/FormRequestBodyPinLaw" (9 : Nat) "GET").before a0 Z = true := hw _ (List.mem_of_getElem? (i := 114) rfl)
theorem d8_0 : decode jdk_42_method_152_code 0 = .ok (.getstatic 38, 3) := by decide +kernel
theorem w55 {Z : State} {a0 : Array Value} (hw : ∀ d ∈ tables_1, d.before a0 Z = true) : (Jvm.Cond.fieldLink "java/lang/String" (38 : Nat) "java/lang/String" "COMPACT_STRINGS" "Z").before a0 Z = true := hw _ (List.mem_of_getElem? (i := 55) rfl)
theorem d8_3 : decode jdk_42_method_152_code 3 = .ok (.ifCond .eq 10, 3) := by decide +kernel
theorem d8_6 : decode jdk_42_method_152_code 6 = .ok (.aload_n 0, 1) := by decide +kernel
theorem d8_7 : decode jdk_42_method_152_code 7 = .ok (.getfield 15, 3) := by decide +kernel
theorem w56 {Z : State} {a0 : Array Value} (hw : ∀ d ∈ tables_1, d.before a0 Z = true) : (Jvm.Cond.fieldLink "java/lang/String" (15 : Nat) "java/lang/String" "coder" "B").before a0 Z = true := hw _ (List.mem_of_getElem? (i := 56) rfl)
theorem d8_10 : decode jdk_42_method_152_code 10 = .ok (.goto 4, 3) := by decide +kernel
theorem d8_14 : decode jdk_42_method_152_code 14 = .ok (.ireturn, 1) := by decide +kernel
abbrev y0_coder : MethodName := ⟨"java/lang/String", "coder", "()B"⟩
theorem pn_java_lang_String : plainName "java/lang/String" = true := by first | (simp [plainName, overriddenIn]; done) | decide +kernel
abbrev c0_String : String := "java/lang/String"
theorem d10_0 : decode jdk_42_method_154_code 0 = .ok (.getstatic 38, 3) := by decide +kernel
theorem d10_3 : decode jdk_42_method_154_code 3 = .ok (.ifCond .eq 14, 3) := by decide +kernel
theorem d10_6 : decode jdk_42_method_154_code 6 = .ok (.aload_n 0, 1) := by decide +kernel
theorem d10_7 : decode jdk_42_method_154_code 7 = .ok (.getfield 15, 3) := by decide +kernel
theorem d10_10 : decode jdk_42_method_154_code 10 = .ok (.ifCond .ne 7, 3) := by decide +kernel
theorem d10_13 : decode jdk_42_method_154_code 13 = .ok (.iconst 1, 1) := by decide +kernel
theorem d10_14 : decode jdk_42_method_154_code 14 = .ok (.goto 4, 3) := by decide +kernel
theorem d10_18 : decode jdk_42_method_154_code 18 = .ok (.ireturn, 1) := by decide +kernel
abbrev y1_isLatin1 : MethodName := ⟨"java/lang/String", "isLatin1", "()Z"⟩
theorem d13_0 : decode jdk_41_method_11_code 0 = .ok (.iload_n 0, 1) := by decide +kernel
theorem d13_1 : decode jdk_41_method_11_code 1 = .ok (.ifCond .lt 8, 3) := by decide +kernel
theorem d13_4 : decode jdk_41_method_11_code 4 = .ok (.iload_n 0, 1) := by decide +kernel
theorem d13_5 : decode jdk_41_method_11_code 5 = .ok (.iload_n 1, 1) := by decide +kernel
theorem d13_6 : decode jdk_41_method_11_code 6 = .ok (.if_icmp .lt 10, 3) := by decide +kernel
theorem d13_16 : decode jdk_41_method_11_code 16 = .ok (.iload_n 0, 1) := by decide +kernel
theorem d13_17 : decode jdk_41_method_11_code 17 = .ok (.ireturn, 1) := by decide +kernel
abbrev y2_checkIndex : MethodName := ⟨"jdk/internal/util/Preconditions", "checkIndex", "(IILjava/util/function/BiFunction;)I"⟩
theorem pn_jdk_internal_util_Preconditions : plainName "jdk/internal/util/Preconditions" = true := by first | (simp [plainName, overriddenIn]; done) | decide +kernel
abbrev c1_Preconditions : String := "jdk/internal/util/Preconditions"
theorem d12_0 : decode jdk_42_method_155_code 0 = .ok (.iload_n 0, 1) := by decide +kernel
theorem d12_1 : decode jdk_42_method_155_code 1 = .ok (.iload_n 1, 1) := by decide +kernel
theorem d12_2 : decode jdk_42_method_155_code 2 = .ok (.getstatic 1053, 3) := by decide +kernel
theorem w74 {Z : State} {a0 : Array Value} (hw : ∀ d ∈ tables_1, d.before a0 Z = true) : (Jvm.Cond.fieldLink "java/lang/String" (1053 : Nat) "jdk/internal/util/Preconditions" "SIOOBE_FORMATTER" "Ljava/util/function/BiFunction;").before a0 Z = true := hw _ (List.mem_of_getElem? (i := 74) rfl)
theorem d12_5 : decode jdk_42_method_155_code 5 = .ok (.invokestatic 1059, 3) := by decide +kernel
theorem w76 {Z : State} {a0 : Array Value} (hw : ∀ d ∈ tables_1, d.before a0 Z = true) : (Jvm.Cond.methodLink "java/lang/String" (1059 : Nat) ({ cls := "jdk/internal/util/Preconditions", name := "checkIndex", desc := "(IILjava/util/function/BiFunction;)I" } : Jvm.MethodName)).before a0 Z = true := hw _ (List.mem_of_getElem? (i := 76) rfl)
theorem pd__IILjava_util_function_BiFunction__I : parseMethodDescriptor "(IILjava/util/function/BiFunction;)I" = some ⟨[.int, .int, (.object "java/util/function/BiFunction")], some .int⟩ := by decide +kernel
theorem w75 {Z : State} {a0 : Array Value} (hw : ∀ d ∈ tables_1, d.before a0 Z = true) : (Jvm.Cond.initialized "jdk/internal/util/Preconditions").before a0 Z = true := hw _ (List.mem_of_getElem? (i := 75) rfl)
theorem w78 {Z : State} {a0 : Array Value} (hw : ∀ d ∈ tables_1, d.before a0 Z = true) : (Jvm.Cond.code ({ cls := "jdk/internal/util/Preconditions", name := "checkIndex", desc := "(IILjava/util/function/BiFunction;)I" } : Jvm.MethodName) jdk_41_method_11_code (3 : Nat) (Option.some Jvm.ClassFile.FieldType.int)).before a0 Z = true := hw _ (List.mem_of_getElem? (i := 78) rfl)
theorem w77 {Z : State} {a0 : Array Value} (hw : ∀ d ∈ tables_1, d.before a0 Z = true) : (Jvm.Cond.static ({ cls := "jdk/internal/util/Preconditions", name := "checkIndex", desc := "(IILjava/util/function/BiFunction;)I" } : Jvm.MethodName)).before a0 Z = true := hw _ (List.mem_of_getElem? (i := 77) rfl)
theorem d12_8 : decode jdk_42_method_155_code 8 = .ok (.pop, 1) := by decide +kernel
theorem d12_9 : decode jdk_42_method_155_code 9 = .ok (.return_, 1) := by decide +kernel
abbrev y3_checkIndex : MethodName := ⟨"java/lang/String", "checkIndex", "(II)V"⟩
theorem d14_0 : decode prog_13_method_6_code 0 = .ok (.iload_n 0, 1) := by decide +kernel
theorem d14_1 : decode prog_13_method_6_code 1 = .ok (.bipush 32, 2) := by decide +kernel
theorem d14_3 : decode prog_13_method_6_code 3 = .ok (.if_icmp .lt 9, 3) := by decide +kernel
theorem d14_6 : decode prog_13_method_6_code 6 = .ok (.iload_n 0, 1) := by decide +kernel
theorem d14_7 : decode prog_13_method_6_code 7 = .ok (.bipush 127, 2) := by decide +kernel
theorem d14_9 : decode prog_13_method_6_code 9 = .ok (.if_icmp .ne 7, 3) := by decide +kernel
theorem d14_16 : decode prog_13_method_6_code 16 = .ok (.iconst 0, 1) := by decide +kernel
theorem d14_17 : decode prog_13_method_6_code 17 = .ok (.ireturn, 1) := by decide +kernel
abbrev y4_isControlCharacter : MethodName := ⟨"com/example/tailorbird/tailorbird/FormRequest", "isControlCharacter", "(I)Z"⟩
theorem pn_com_example_tailorbird_tailorbird_FormRequest : plainName "com/example/tailorbird/tailorbird/FormRequest" = true := by first | (simp [plainName, overriddenIn]; done) | decide +kernel
abbrev c2_FormRequest : String := "com/example/tailorbird/tailorbird/FormRequest"
theorem d4_0 : decode jdk_31_method_11_code 0 = .ok (.aload_n 0, 1) := by decide +kernel
theorem d4_1 : decode jdk_31_method_11_code 1 = .ok (.ifnonnull 12, 3) := by decide +kernel
theorem d4_13 : decode jdk_31_method_11_code 13 = .ok (.aload_n 0, 1) := by decide +kernel
theorem d4_14 : decode jdk_31_method_11_code 14 = .ok (.areturn, 1) := by decide +kernel
abbrev y5_requireNonNull : MethodName := ⟨"java/util/Objects", "requireNonNull", "(Ljava/lang/Object;Ljava/lang/String;)Ljava/lang/Object;"⟩
theorem pn_java_util_Objects : plainName "java/util/Objects" = true := by first | (simp [plainName, overriddenIn]; done) | decide +kernel
abbrev c3_Objects : String := "java/util/Objects"
theorem d15_0 : decode jdk_42_method_126_code 0 = .ok (.aload_n 0, 1) := by decide +kernel
theorem d15_1 : decode jdk_42_method_126_code 1 = .ok (.areturn, 1) := by decide +kernel
abbrev y6_toString : MethodName := ⟨"java/lang/String", "toString", "()Ljava/lang/String;"⟩
theorem d7_0 : decode jdk_42_method_54_code 0 = .ok (.aload_n 0, 1) := by decide +kernel
theorem d7_1 : decode jdk_42_method_54_code 1 = .ok (.getfield 9, 3) := by decide +kernel
theorem w49 {Z : State} {a0 : Array Value} (hw : ∀ d ∈ tables_1, d.before a0 Z = true) : (Jvm.Cond.fieldLink "java/lang/String" (9 : Nat) "java/lang/String" "value" "[B").before a0 Z = true := hw _ (List.mem_of_getElem? (i := 49) rfl)
theorem d7_4 : decode jdk_42_method_54_code 4 = .ok (.arraylength, 1) := by decide +kernel
theorem d7_5 : decode jdk_42_method_54_code 5 = .ok (.aload_n 0, 1) := by decide +kernel
theorem d7_6 : decode jdk_42_method_54_code 6 = .ok (.invokevirtual 335, 3) := by decide +kernel
theorem w50 {Z : State} {a0 : Array Value} (hw : ∀ d ∈ tables_1, d.before a0 Z = true) : (Jvm.Cond.methodLink "java/lang/String" (335 : Nat) ({ cls := "java/lang/String", name := "coder", desc := "()B" } : Jvm.MethodName)).before a0 Z = true := hw _ (List.mem_of_getElem? (i := 50) rfl)
theorem pd___B : parseMethodDescriptor "()B" = some ⟨[], some .byte⟩ := by decide +kernel
theorem w54 {Z : State} {a0 : Array Value} (hw : ∀ d ∈ tables_1, d.before a0 Z = true) : (Jvm.Cond.code ({ cls := "java/lang/String", name := "coder", desc := "()B" } : Jvm.MethodName) jdk_42_method_152_code (1 : Nat) (Option.some Jvm.ClassFile.FieldType.byte)).before a0 Z = true := hw _ (List.mem_of_getElem? (i := 54) rfl)
theorem w53 {Z : State} {a0 : Array Value} (hw : ∀ d ∈ tables_1, d.before a0 Z = true) : (Jvm.Cond.selects "java/lang/String" ({ cls := "java/lang/String", name := "coder", desc := "()B" } : Jvm.MethodName) ({ cls := "java/lang/String", name := "coder", desc := "()B" } : Jvm.MethodName)).before a0 Z = true := hw _ (List.mem_of_getElem? (i := 53) rfl)
theorem w51 {Z : State} {a0 : Array Value} (hw : ∀ d ∈ tables_1, d.before a0 Z = true) : (Jvm.Cond.declares ({ cls := "java/lang/String", name := "coder", desc := "()B" } : Jvm.MethodName)).before a0 Z = true := hw _ (List.mem_of_getElem? (i := 51) rfl)
theorem w52 {Z : State} {a0 : Array Value} (hw : ∀ d ∈ tables_1, d.before a0 Z = true) : (Jvm.Cond.instanceMethod ({ cls := "java/lang/String", name := "coder", desc := "()B" } : Jvm.MethodName)).before a0 Z = true := hw _ (List.mem_of_getElem? (i := 52) rfl)
theorem d7_9 : decode jdk_42_method_54_code 9 = .ok (.ishr, 1) := by decide +kernel
theorem d7_10 : decode jdk_42_method_54_code 10 = .ok (.ireturn, 1) := by decide +kernel
abbrev y7_length : MethodName := ⟨"java/lang/String", "length", "()I"⟩
theorem d11_0 : decode jdk_43_method_2_code 0 = .ok (.iload_n 1, 1) := by decide +kernel
theorem d11_1 : decode jdk_43_method_2_code 1 = .ok (.aload_n 0, 1) := by decide +kernel
theorem d11_2 : decode jdk_43_method_2_code 2 = .ok (.arraylength, 1) := by decide +kernel
theorem d11_3 : decode jdk_43_method_2_code 3 = .ok (.invokestatic 9, 3) := by decide +kernel
theorem w71 {Z : State} {a0 : Array Value} (hw : ∀ d ∈ tables_1, d.before a0 Z = true) : (Jvm.Cond.methodLink "java/lang/StringLatin1" (9 : Nat) ({ cls := "java/lang/String", name := "checkIndex", desc := "(II)V" } : Jvm.MethodName)).before a0 Z = true := hw _ (List.mem_of_getElem? (i := 71) rfl)
theorem pd__II_V : parseMethodDescriptor "(II)V" = some ⟨[.int, .int], none⟩ := by decide +kernel
theorem w73 {Z : State} {a0 : Array Value} (hw : ∀ d ∈ tables_1, d.before a0 Z = true) : (Jvm.Cond.code ({ cls := "java/lang/String", name := "checkIndex", desc := "(II)V" } : Jvm.MethodName) jdk_42_method_155_code (2 : Nat) (Option.none : Option Jvm.ClassFile.FieldType)).before a0 Z = true := hw _ (List.mem_of_getElem? (i := 73) rfl)
theorem w72 {Z : State} {a0 : Array Value} (hw : ∀ d ∈ tables_1, d.before a0 Z = true) : (Jvm.Cond.static ({ cls := "java/lang/String", name := "checkIndex", desc := "(II)V" } : Jvm.MethodName)).before a0 Z = true := hw _ (List.mem_of_getElem? (i := 72) rfl)
theorem d11_6 : decode jdk_43_method_2_code 6 = .ok (.aload_n 0, 1) := by decide +kernel
theorem d11_7 : decode jdk_43_method_2_code 7 = .ok (.iload_n 1, 1) := by decide +kernel
theorem d11_8 : decode jdk_43_method_2_code 8 = .ok (.baload, 1) := by decide +kernel
theorem d11_9 : decode jdk_43_method_2_code 9 = .ok (.sipush 255, 3) := by decide +kernel
theorem d11_12 : decode jdk_43_method_2_code 12 = .ok (.iand, 1) := by decide +kernel
theorem d11_13 : decode jdk_43_method_2_code 13 = .ok (.i2c, 1) := by decide +kernel
theorem d11_14 : decode jdk_43_method_2_code 14 = .ok (.ireturn, 1) := by decide +kernel
abbrev y8_charAt : MethodName := ⟨"java/lang/StringLatin1", "charAt", "([BI)C"⟩
theorem pn_java_lang_StringLatin1 : plainName "java/lang/StringLatin1" = true := by first | (simp [plainName, overriddenIn]; done) | decide +kernel
abbrev c4_StringLatin1 : String := "java/lang/StringLatin1"
theorem d9_0 : decode jdk_42_method_56_code 0 = .ok (.aload_n 0, 1) := by decide +kernel
theorem d9_1 : decode jdk_42_method_56_code 1 = .ok (.invokevirtual 492, 3) := by decide +kernel
theorem w62 {Z : State} {a0 : Array Value} (hw : ∀ d ∈ tables_1, d.before a0 Z = true) : (Jvm.Cond.methodLink "java/lang/String" (492 : Nat) ({ cls := "java/lang/String", name := "isLatin1", desc := "()Z" } : Jvm.MethodName)).before a0 Z = true := hw _ (List.mem_of_getElem? (i := 62) rfl)
theorem pd___Z : parseMethodDescriptor "()Z" = some ⟨[], some .boolean⟩ := by decide +kernel
theorem w66 {Z : State} {a0 : Array Value} (hw : ∀ d ∈ tables_1, d.before a0 Z = true) : (Jvm.Cond.code ({ cls := "java/lang/String", name := "isLatin1", desc := "()Z" } : Jvm.MethodName) jdk_42_method_154_code (1 : Nat) (Option.some Jvm.ClassFile.FieldType.boolean)).before a0 Z = true := hw _ (List.mem_of_getElem? (i := 66) rfl)
theorem w65 {Z : State} {a0 : Array Value} (hw : ∀ d ∈ tables_1, d.before a0 Z = true) : (Jvm.Cond.selects "java/lang/String" ({ cls := "java/lang/String", name := "isLatin1", desc := "()Z" } : Jvm.MethodName) ({ cls := "java/lang/String", name := "isLatin1", desc := "()Z" } : Jvm.MethodName)).before a0 Z = true := hw _ (List.mem_of_getElem? (i := 65) rfl)
theorem w63 {Z : State} {a0 : Array Value} (hw : ∀ d ∈ tables_1, d.before a0 Z = true) : (Jvm.Cond.declares ({ cls := "java/lang/String", name := "isLatin1", desc := "()Z" } : Jvm.MethodName)).before a0 Z = true := hw _ (List.mem_of_getElem? (i := 63) rfl)
theorem w64 {Z : State} {a0 : Array Value} (hw : ∀ d ∈ tables_1, d.before a0 Z = true) : (Jvm.Cond.instanceMethod ({ cls := "java/lang/String", name := "isLatin1", desc := "()Z" } : Jvm.MethodName)).before a0 Z = true := hw _ (List.mem_of_getElem? (i := 64) rfl)
theorem d9_4 : decode jdk_42_method_56_code 4 = .ok (.ifCond .eq 12, 3) := by decide +kernel
theorem d9_7 : decode jdk_42_method_56_code 7 = .ok (.aload_n 0, 1) := by decide +kernel
theorem d9_8 : decode jdk_42_method_56_code 8 = .ok (.getfield 9, 3) := by decide +kernel
theorem d9_11 : decode jdk_42_method_56_code 11 = .ok (.iload_n 1, 1) := by decide +kernel
theorem d9_12 : decode jdk_42_method_56_code 12 = .ok (.invokestatic 495, 3) := by decide +kernel
theorem w67 {Z : State} {a0 : Array Value} (hw : ∀ d ∈ tables_1, d.before a0 Z = true) : (Jvm.Cond.methodLink "java/lang/String" (495 : Nat) ({ cls := "java/lang/StringLatin1", name := "charAt", desc := "([BI)C" } : Jvm.MethodName)).before a0 Z = true := hw _ (List.mem_of_getElem? (i := 67) rfl)
theorem pd___BI_C : parseMethodDescriptor "([BI)C" = some ⟨[(.array .byte), .int], some .char⟩ := by decide +kernel
theorem w69 {Z : State} {a0 : Array Value} (hw : ∀ d ∈ tables_1, d.before a0 Z = true) : (Jvm.Cond.initialized "java/lang/StringLatin1").before a0 Z = true := hw _ (List.mem_of_getElem? (i := 69) rfl)
theorem w70 {Z : State} {a0 : Array Value} (hw : ∀ d ∈ tables_1, d.before a0 Z = true) : (Jvm.Cond.code ({ cls := "java/lang/StringLatin1", name := "charAt", desc := "([BI)C" } : Jvm.MethodName) jdk_43_method_2_code (2 : Nat) (Option.some Jvm.ClassFile.FieldType.char)).before a0 Z = true := hw _ (List.mem_of_getElem? (i := 70) rfl)
theorem w68 {Z : State} {a0 : Array Value} (hw : ∀ d ∈ tables_1, d.before a0 Z = true) : (Jvm.Cond.static ({ cls := "java/lang/StringLatin1", name := "charAt", desc := "([BI)C" } : Jvm.MethodName)).before a0 Z = true := hw _ (List.mem_of_getElem? (i := 68) rfl)
theorem d9_15 : decode jdk_42_method_56_code 15 = .ok (.ireturn, 1) := by decide +kernel
abbrev y9_charAt : MethodName := ⟨"java/lang/String", "charAt", "(I)C"⟩
theorem d6_0 : decode prog_13_method_4_code 0 = .ok (.iconst 0, 1) := by decide +kernel
theorem d6_1 : decode prog_13_method_4_code 1 = .ok (.istore_n 1, 1) := by decide +kernel
theorem d6_2 : decode prog_13_method_4_code 2 = .ok (.iload_n 1, 1) := by decide +kernel
theorem d6_3 : decode prog_13_method_4_code 3 = .ok (.aload_n 0, 1) := by decide +kernel
theorem d6_4 : decode prog_13_method_4_code 4 = .ok (.invokevirtual 61, 3) := by decide +kernel
theorem w44 {Z : State} {a0 : Array Value} (hw : ∀ d ∈ tables_1, d.before a0 Z = true) : (Jvm.Cond.methodLink "com/example/tailorbird/tailorbird/FormRequest" (61 : Nat) ({ cls := "java/lang/String", name := "length", desc := "()I" } : Jvm.MethodName)).before a0 Z = true := hw _ (List.mem_of_getElem? (i := 44) rfl)
theorem pd___I : parseMethodDescriptor "()I" = some ⟨[], some .int⟩ := by decide +kernel
theorem w48 {Z : State} {a0 : Array Value} (hw : ∀ d ∈ tables_1, d.before a0 Z = true) : (Jvm.Cond.code ({ cls := "java/lang/String", name := "length", desc := "()I" } : Jvm.MethodName) jdk_42_method_54_code (1 : Nat) (Option.some Jvm.ClassFile.FieldType.int)).before a0 Z = true := hw _ (List.mem_of_getElem? (i := 48) rfl)
theorem w47 {Z : State} {a0 : Array Value} (hw : ∀ d ∈ tables_1, d.before a0 Z = true) : (Jvm.Cond.selects "java/lang/String" ({ cls := "java/lang/String", name := "length", desc := "()I" } : Jvm.MethodName) ({ cls := "java/lang/String", name := "length", desc := "()I" } : Jvm.MethodName)).before a0 Z = true := hw _ (List.mem_of_getElem? (i := 47) rfl)
theorem w45 {Z : State} {a0 : Array Value} (hw : ∀ d ∈ tables_1, d.before a0 Z = true) : (Jvm.Cond.declares ({ cls := "java/lang/String", name := "length", desc := "()I" } : Jvm.MethodName)).before a0 Z = true := hw _ (List.mem_of_getElem? (i := 45) rfl)
theorem w46 {Z : State} {a0 : Array Value} (hw : ∀ d ∈ tables_1, d.before a0 Z = true) : (Jvm.Cond.instanceMethod ({ cls := "java/lang/String", name := "length", desc := "()I" } : Jvm.MethodName)).before a0 Z = true := hw _ (List.mem_of_getElem? (i := 46) rfl)
theorem d6_7 : decode prog_13_method_4_code 7 = .ok (.if_icmp .ge 22, 3) := by decide +kernel
theorem d6_10 : decode prog_13_method_4_code 10 = .ok (.aload_n 0, 1) := by decide +kernel
theorem d6_11 : decode prog_13_method_4_code 11 = .ok (.iload_n 1, 1) := by decide +kernel
theorem d6_12 : decode prog_13_method_4_code 12 = .ok (.invokevirtual 65, 3) := by decide +kernel
theorem w57 {Z : State} {a0 : Array Value} (hw : ∀ d ∈ tables_1, d.before a0 Z = true) : (Jvm.Cond.methodLink "com/example/tailorbird/tailorbird/FormRequest" (65 : Nat) ({ cls := "java/lang/String", name := "charAt", desc := "(I)C" } : Jvm.MethodName)).before a0 Z = true := hw _ (List.mem_of_getElem? (i := 57) rfl)
theorem pd__I_C : parseMethodDescriptor "(I)C" = some ⟨[.int], some .char⟩ := by decide +kernel
theorem w61 {Z : State} {a0 : Array Value} (hw : ∀ d ∈ tables_1, d.before a0 Z = true) : (Jvm.Cond.code ({ cls := "java/lang/String", name := "charAt", desc := "(I)C" } : Jvm.MethodName) jdk_42_method_56_code (2 : Nat) (Option.some Jvm.ClassFile.FieldType.char)).before a0 Z = true := hw _ (List.mem_of_getElem? (i := 61) rfl)
theorem w60 {Z : State} {a0 : Array Value} (hw : ∀ d ∈ tables_1, d.before a0 Z = true) : (Jvm.Cond.selects "java/lang/String" ({ cls := "java/lang/String", name := "charAt", desc := "(I)C" } : Jvm.MethodName) ({ cls := "java/lang/String", name := "charAt", desc := "(I)C" } : Jvm.MethodName)).before a0 Z = true := hw _ (List.mem_of_getElem? (i := 60) rfl)
theorem w58 {Z : State} {a0 : Array Value} (hw : ∀ d ∈ tables_1, d.before a0 Z = true) : (Jvm.Cond.declares ({ cls := "java/lang/String", name := "charAt", desc := "(I)C" } : Jvm.MethodName)).before a0 Z = true := hw _ (List.mem_of_getElem? (i := 58) rfl)
theorem w59 {Z : State} {a0 : Array Value} (hw : ∀ d ∈ tables_1, d.before a0 Z = true) : (Jvm.Cond.instanceMethod ({ cls := "java/lang/String", name := "charAt", desc := "(I)C" } : Jvm.MethodName)).before a0 Z = true := hw _ (List.mem_of_getElem? (i := 59) rfl)
theorem d6_15 : decode prog_13_method_4_code 15 = .ok (.invokestatic 69, 3) := by decide +kernel
theorem w79 {Z : State} {a0 : Array Value} (hw : ∀ d ∈ tables_1, d.before a0 Z = true) : (Jvm.Cond.methodLink "com/example/tailorbird/tailorbird/FormRequest" (69 : Nat) ({ cls := "com/example/tailorbird/tailorbird/FormRequest", name := "isControlCharacter", desc := "(I)Z" } : Jvm.MethodName)).before a0 Z = true := hw _ (List.mem_of_getElem? (i := 79) rfl)
theorem pd__I_Z : parseMethodDescriptor "(I)Z" = some ⟨[.int], some .boolean⟩ := by decide +kernel
theorem w3 {Z : State} {a0 : Array Value} (hw : ∀ d ∈ tables_1, d.before a0 Z = true) : (Jvm.Cond.initialized "com/example/tailorbird/tailorbird/FormRequest").before a0 Z = true := hw _ (List.mem_of_getElem? (i := 3) rfl)
theorem w81 {Z : State} {a0 : Array Value} (hw : ∀ d ∈ tables_1, d.before a0 Z = true) : (Jvm.Cond.code ({ cls := "com/example/tailorbird/tailorbird/FormRequest", name := "isControlCharacter", desc := "(I)Z" } : Jvm.MethodName) prog_13_method_6_code (1 : Nat) (Option.some Jvm.ClassFile.FieldType.boolean)).before a0 Z = true := hw _ (List.mem_of_getElem? (i := 81) rfl)
theorem w80 {Z : State} {a0 : Array Value} (hw : ∀ d ∈ tables_1, d.before a0 Z = true) : (Jvm.Cond.static ({ cls := "com/example/tailorbird/tailorbird/FormRequest", name := "isControlCharacter", desc := "(I)Z" } : Jvm.MethodName)).before a0 Z = true := hw _ (List.mem_of_getElem? (i := 80) rfl)
theorem d6_18 : decode prog_13_method_4_code 18 = .ok (.ifCond .eq 5, 3) := by decide +kernel
theorem d6_23 : decode prog_13_method_4_code 23 = .ok (.iinc 1 1, 3) := by decide +kernel
theorem d6_26 : decode prog_13_method_4_code 26 = .ok (.goto (-24), 3) := by decide +kernel
theorem d6_29 : decode prog_13_method_4_code 29 = .ok (.iconst (-1), 1) := by decide +kernel
theorem d6_30 : decode prog_13_method_4_code 30 = .ok (.ireturn, 1) := by decide +kernel
abbrev y10_indexOfControlCharacter : MethodName := ⟨"com/example/tailorbird/tailorbird/FormRequest", "indexOfControlCharacter", "(Ljava/lang/String;)I"⟩
theorem d5_0 : decode prog_13_method_7_code 0 = .ok (.aload_n 0, 1) := by decide +kernel
theorem d5_1 : decode prog_13_method_7_code 1 = .ok (.invokestatic 84, 3) := by decide +kernel
theorem w41 {Z : State} {a0 : Array Value} (hw : ∀ d ∈ tables_1, d.before a0 Z = true) : (Jvm.Cond.methodLink "com/example/tailorbird/tailorbird/FormRequest" (84 : Nat) ({ cls := "com/example/tailorbird/tailorbird/FormRequest", name := "indexOfControlCharacter", desc := "(Ljava/lang/String;)I" } : Jvm.MethodName)).before a0 Z = true := hw _ (List.mem_of_getElem? (i := 41) rfl)
theorem pd__Ljava_lang_String__I : parseMethodDescriptor "(Ljava/lang/String;)I" = some ⟨[(.object "java/lang/String")], some .int⟩ := by decide +kernel
theorem w43 {Z : State} {a0 : Array Value} (hw : ∀ d ∈ tables_1, d.before a0 Z = true) : (Jvm.Cond.code ({ cls := "com/example/tailorbird/tailorbird/FormRequest", name := "indexOfControlCharacter", desc := "(Ljava/lang/String;)I" } : Jvm.MethodName) prog_13_method_4_code (2 : Nat) (Option.some Jvm.ClassFile.FieldType.int)).before a0 Z = true := hw _ (List.mem_of_getElem? (i := 43) rfl)
theorem w42 {Z : State} {a0 : Array Value} (hw : ∀ d ∈ tables_1, d.before a0 Z = true) : (Jvm.Cond.static ({ cls := "com/example/tailorbird/tailorbird/FormRequest", name := "indexOfControlCharacter", desc := "(Ljava/lang/String;)I" } : Jvm.MethodName)).before a0 Z = true := hw _ (List.mem_of_getElem? (i := 42) rfl)
theorem d5_4 : decode prog_13_method_7_code 4 = .ok (.istore_n 2, 1) := by decide +kernel
theorem d5_5 : decode prog_13_method_7_code 5 = .ok (.iload_n 2, 1) := by decide +kernel
theorem d5_6 : decode prog_13_method_7_code 6 = .ok (.ifCond .lt 42, 3) := by decide +kernel
theorem d5_48 : decode prog_13_method_7_code 48 = .ok (.aload_n 0, 1) := by decide +kernel
theorem d5_49 : decode prog_13_method_7_code 49 = .ok (.areturn, 1) := by decide +kernel
abbrev y11_requireNoControlCharacter : MethodName := ⟨"com/example/tailorbird/tailorbird/FormRequest", "requireNoControlCharacter", "(Ljava/lang/String;Ljava/lang/String;)Ljava/lang/String;"⟩
theorem w2 {Z : State} {a0 : Array Value} (hw : ∀ d ∈ tables_1, d.before a0 Z = true) : (Jvm.Cond.instantiable "com/example/tailorbird/tailorbird/FormRequest" (5 : Nat)).before a0 Z = true := hw _ (List.mem_of_getElem? (i := 2) rfl)
theorem d2_0 : decode prog_13_method_2_code 0 = .ok (.aload_n 0, 1) := by decide +kernel
theorem d2_1 : decode prog_13_method_2_code 1 = .ok (.invokespecial 13, 3) := by decide +kernel
theorem w28 {Z : State} {a0 : Array Value} (hw : ∀ d ∈ tables_1, d.before a0 Z = true) : (Jvm.Cond.methodLink "com/example/tailorbird/tailorbird/FormRequest" (13 : Nat) ({ cls := "java/lang/Object", name := "<init>", desc := "()V" } : Jvm.MethodName)).before a0 Z = true := hw _ (List.mem_of_getElem? (i := 28) rfl)
theorem w29 {Z : State} {a0 : Array Value} (hw : ∀ d ∈ tables_1, d.before a0 Z = true) : (Jvm.Cond.instanceMethod ({ cls := "java/lang/Object", name := "<init>", desc := "()V" } : Jvm.MethodName)).before a0 Z = true := hw _ (List.mem_of_getElem? (i := 29) rfl)
theorem w30 {Z : State} {a0 : Array Value} (hw : ∀ d ∈ tables_1, d.before a0 Z = true) : (Jvm.Cond.code ({ cls := "java/lang/Object", name := "<init>", desc := "()V" } : Jvm.MethodName) object_method_1_code (1 : Nat) (Option.none : Option Jvm.ClassFile.FieldType)).before a0 Z = true := hw _ (List.mem_of_getElem? (i := 30) rfl)
theorem d2_4 : decode prog_13_method_2_code 4 = .ok (.aload_n 0, 1) := by decide +kernel
theorem d2_5 : decode prog_13_method_2_code 5 = .ok (.iload 5, 2) := by decide +kernel
theorem d2_7 : decode prog_13_method_2_code 7 = .ok (.ifCond .eq 20, 3) := by decide +kernel
theorem d2_10 : decode prog_13_method_2_code 10 = .ok (.aload_n 1, 1) := by decide +kernel
theorem d2_11 : decode prog_13_method_2_code 11 = .ok (.ldc 18, 2) := by decide +kernel
theorem d2_13 : decode prog_13_method_2_code 13 = .ok (.invokestatic 20, 3) := by decide +kernel
theorem w32 {Z : State} {a0 : Array Value} (hw : ∀ d ∈ tables_1, d.before a0 Z = true) : (Jvm.Cond.methodLink "com/example/tailorbird/tailorbird/FormRequest" (20 : Nat) ({ cls := "java/util/Objects", name := "requireNonNull", desc := "(Ljava/lang/Object;Ljava/lang/String;)Ljava/lang/Object;" } : Jvm.MethodName)).before a0 Z = true := hw _ (List.mem_of_getElem? (i := 32) rfl)
theorem pd__Ljava_lang_Object_Ljava_lang_String__Ljava_lang_Object_ : parseMethodDescriptor "(Ljava/lang/Object;Ljava/lang/String;)Ljava/lang/Object;" = some ⟨[(.object "java/lang/Object"), (.object "java/lang/String")], some (.object "java/lang/Object")⟩ := by decide +kernel
theorem w34 {Z : State} {a0 : Array Value} (hw : ∀ d ∈ tables_1, d.before a0 Z = true) : (Jvm.Cond.initialized "java/util/Objects").before a0 Z = true := hw _ (List.mem_of_getElem? (i := 34) rfl)
theorem w35 {Z : State} {a0 : Array Value} (hw : ∀ d ∈ tables_1, d.before a0 Z = true) : (Jvm.Cond.code ({ cls := "java/util/Objects", name := "requireNonNull", desc := "(Ljava/lang/Object;Ljava/lang/String;)Ljava/lang/Object;" } : Jvm.MethodName) jdk_31_method_11_code (2 : Nat) (Option.some (Jvm.ClassFile.FieldType.object "java/lang/Object"))).before a0 Z = true := hw _ (List.mem_of_getElem? (i := 35) rfl)
theorem w33 {Z : State} {a0 : Array Value} (hw : ∀ d ∈ tables_1, d.before a0 Z = true) : (Jvm.Cond.static ({ cls := "java/util/Objects", name := "requireNonNull", desc := "(Ljava/lang/Object;Ljava/lang/String;)Ljava/lang/Object;" } : Jvm.MethodName)).before a0 Z = true := hw _ (List.mem_of_getElem? (i := 33) rfl)
theorem d2_16 : decode prog_13_method_2_code 16 = .ok (.checkcast 26, 3) := by decide +kernel
theorem w36 {Z : State} {a0 : Array Value} (hw : ∀ d ∈ tables_1, d.before a0 Z = true) : (Jvm.Cond.classLink "com/example/tailorbird/tailorbird/FormRequest" (26 : Nat) "java/lang/String").before a0 Z = true := hw _ (List.mem_of_getElem? (i := 36) rfl)
theorem w37 {Z : State} {a0 : Array Value} (hw : ∀ d ∈ tables_1, d.before a0 Z = true) : (Jvm.Cond.castable "java/lang/String" "java/lang/String").before a0 Z = true := hw _ (List.mem_of_getElem? (i := 37) rfl)
theorem d2_19 : decode prog_13_method_2_code 19 = .ok (.ldc 18, 2) := by decide +kernel
theorem d2_21 : decode prog_13_method_2_code 21 = .ok (.invokestatic 28, 3) := by decide +kernel
theorem w38 {Z : State} {a0 : Array Value} (hw : ∀ d ∈ tables_1, d.before a0 Z = true) : (Jvm.Cond.methodLink "com/example/tailorbird/tailorbird/FormRequest" (28 : Nat) ({ cls := "com/example/tailorbird/tailorbird/FormRequest", name := "requireNoControlCharacter", desc := "(Ljava/lang/String;Ljava/lang/String;)Ljava/lang/String;" } : Jvm.MethodName)).before a0 Z = true := hw _ (List.mem_of_getElem? (i := 38) rfl)
theorem pd__Ljava_lang_String_Ljava_lang_String__Ljava_lang_String_ : parseMethodDescriptor "(Ljava/lang/String;Ljava/lang/String;)Ljava/lang/String;" = some ⟨[(.object "java/lang/String"), (.object "java/lang/String")], some (.object "java/lang/String")⟩ := by decide +kernel
theorem w40 {Z : State} {a0 : Array Value} (hw : ∀ d ∈ tables_1, d.before a0 Z = true) : (Jvm.Cond.code ({ cls := "com/example/tailorbird/tailorbird/FormRequest", name := "requireNoControlCharacter", desc := "(Ljava/lang/String;Ljava/lang/String;)Ljava/lang/String;" } : Jvm.MethodName) prog_13_method_7_code (3 : Nat) (Option.some (Jvm.ClassFile.FieldType.object "java/lang/String"))).before a0 Z = true := hw _ (List.mem_of_getElem? (i := 40) rfl)
theorem w39 {Z : State} {a0 : Array Value} (hw : ∀ d ∈ tables_1, d.before a0 Z = true) : (Jvm.Cond.static ({ cls := "com/example/tailorbird/tailorbird/FormRequest", name := "requireNoControlCharacter", desc := "(Ljava/lang/String;Ljava/lang/String;)Ljava/lang/String;" } : Jvm.MethodName)).before a0 Z = true := hw _ (List.mem_of_getElem? (i := 39) rfl)
theorem d2_24 : decode prog_13_method_2_code 24 = .ok (.goto 4, 3) := by decide +kernel
theorem d2_28 : decode prog_13_method_2_code 28 = .ok (.putfield 32, 3) := by decide +kernel
theorem w82 {Z : State} {a0 : Array Value} (hw : ∀ d ∈ tables_1, d.before a0 Z = true) : (Jvm.Cond.fieldLink "com/example/tailorbird/tailorbird/FormRequest" (32 : Nat) "com/example/tailorbird/tailorbird/FormRequest" "method" "Ljava/lang/String;").before a0 Z = true := hw _ (List.mem_of_getElem? (i := 82) rfl)
theorem w83 {Z : State} {a0 : Array Value} (hw : ∀ d ∈ tables_1, d.before a0 Z = true) : (Jvm.Cond.laysFinal "com/example/tailorbird/tailorbird/FormRequest" "com/example/tailorbird/tailorbird/FormRequest" "method" "Ljava/lang/String;").before a0 Z = true := hw _ (List.mem_of_getElem? (i := 83) rfl)
theorem d2_31 : decode prog_13_method_2_code 31 = .ok (.aload_n 0, 1) := by decide +kernel
theorem d2_32 : decode prog_13_method_2_code 32 = .ok (.iload 5, 2) := by decide +kernel
theorem d2_34 : decode prog_13_method_2_code 34 = .ok (.ifCond .eq 25, 3) := by decide +kernel
theorem d2_37 : decode prog_13_method_2_code 37 = .ok (.aload_n 2, 1) := by decide +kernel
theorem d2_38 : decode prog_13_method_2_code 38 = .ok (.ldc 35, 2) := by decide +kernel
theorem d2_40 : decode prog_13_method_2_code 40 = .ok (.invokestatic 20, 3) := by decide +kernel
theorem d2_43 : decode prog_13_method_2_code 43 = .ok (.checkcast 37, 3) := by decide +kernel
theorem w85 {Z : State} {a0 : Array Value} (hw : ∀ d ∈ tables_1, d.before a0 Z = true) : (Jvm.Cond.classLink "com/example/tailorbird/tailorbird/FormRequest" (37 : Nat) "java/lang/CharSequence").before a0 Z = true := hw _ (List.mem_of_getElem? (i := 85) rfl)
theorem w86 {Z : State} {a0 : Array Value} (hw : ∀ d ∈ tables_1, d.before a0 Z = true) : (Jvm.Cond.castable "java/lang/String" "java/lang/CharSequence").before a0 Z = true := hw _ (List.mem_of_getElem? (i := 86) rfl)
theorem d2_46 : decode prog_13_method_2_code 46 = .ok (.invokeinterface 39 1, 5) := by decide +kernel
theorem w87 {Z : State} {a0 : Array Value} (hw : ∀ d ∈ tables_1, d.before a0 Z = true) : (Jvm.Cond.methodLink "com/example/tailorbird/tailorbird/FormRequest" (39 : Nat) ({ cls := "java/lang/CharSequence", name := "toString", desc := "()Ljava/lang/String;" } : Jvm.MethodName)).before a0 Z = true := hw _ (List.mem_of_getElem? (i := 87) rfl)
abbrev y12_toString : MethodName := ⟨"java/lang/CharSequence", "toString", "()Ljava/lang/String;"⟩
theorem w88 {Z : State} {a0 : Array Value} (hw : ∀ d ∈ tables_1, d.before a0 Z = true) : (Jvm.Cond.declares ({ cls := "java/lang/CharSequence", name := "toString", desc := "()Ljava/lang/String;" } : Jvm.MethodName)).before a0 Z = true := hw _ (List.mem_of_getElem? (i := 88) rfl)
theorem w89 {Z : State} {a0 : Array Value} (hw : ∀ d ∈ tables_1, d.before a0 Z = true) : (Jvm.Cond.interfaceMethod "java/lang/CharSequence" "java/lang/CharSequence" "toString" "()Ljava/lang/String;").before a0 Z = true := hw _ (List.mem_of_getElem? (i := 89) rfl)
theorem w90 {Z : State} {a0 : Array Value} (hw : ∀ d ∈ tables_1, d.before a0 Z = true) : (Jvm.Cond.selects "java/lang/String" ({ cls := "java/lang/CharSequence", name := "toString", desc := "()Ljava/lang/String;" } : Jvm.MethodName) ({ cls := "java/lang/String", name := "toString", desc := "()Ljava/lang/String;" } : Jvm.MethodName)).before a0 Z = true := hw _ (List.mem_of_getElem? (i := 90) rfl)
theorem w91 {Z : State} {a0 : Array Value} (hw : ∀ d ∈ tables_1, d.before a0 Z = true) : (Jvm.Cond.instanceMethod ({ cls := "java/lang/String", name := "toString", desc := "()Ljava/lang/String;" } : Jvm.MethodName)).before a0 Z = true := hw _ (List.mem_of_getElem? (i := 91) rfl)
theorem w92 {Z : State} {a0 : Array Value} (hw : ∀ d ∈ tables_1, d.before a0 Z = true) : (Jvm.Cond.publicMethod ({ cls := "java/lang/String", name := "toString", desc := "()Ljava/lang/String;" } : Jvm.MethodName)).before a0 Z = true := hw _ (List.mem_of_getElem? (i := 92) rfl)
theorem w93 {Z : State} {a0 : Array Value} (hw : ∀ d ∈ tables_1, d.before a0 Z = true) : (Jvm.Cond.unhidden "java/lang/String" "toString" "()Ljava/lang/String;").before a0 Z = true := hw _ (List.mem_of_getElem? (i := 93) rfl)
theorem w94 {Z : State} {a0 : Array Value} (hw : ∀ d ∈ tables_1, d.before a0 Z = true) : (Jvm.Cond.code ({ cls := "java/lang/String", name := "toString", desc := "()Ljava/lang/String;" } : Jvm.MethodName) jdk_42_method_126_code (1 : Nat) (Option.some (Jvm.ClassFile.FieldType.object "java/lang/String"))).before a0 Z = true := hw _ (List.mem_of_getElem? (i := 94) rfl)
theorem pd___Ljava_lang_String_ : parseMethodDescriptor "()Ljava/lang/String;" = some ⟨[], some (.object "java/lang/String")⟩ := by decide +kernel
theorem d2_51 : decode prog_13_method_2_code 51 = .ok (.ldc 35, 2) := by decide +kernel
theorem d2_53 : decode prog_13_method_2_code 53 = .ok (.invokestatic 28, 3) := by decide +kernel
theorem d2_56 : decode prog_13_method_2_code 56 = .ok (.goto 4, 3) := by decide +kernel
theorem d2_60 : decode prog_13_method_2_code 60 = .ok (.putfield 43, 3) := by decide +kernel
theorem w95 {Z : State} {a0 : Array Value} (hw : ∀ d ∈ tables_1, d.before a0 Z = true) : (Jvm.Cond.fieldLink "com/example/tailorbird/tailorbird/FormRequest" (43 : Nat) "com/example/tailorbird/tailorbird/FormRequest" "urlText" "Ljava/lang/CharSequence;").before a0 Z = true := hw _ (List.mem_of_getElem? (i := 95) rfl)
theorem w96 {Z : State} {a0 : Array Value} (hw : ∀ d ∈ tables_1, d.before a0 Z = true) : (Jvm.Cond.laysFinal "com/example/tailorbird/tailorbird/FormRequest" "com/example/tailorbird/tailorbird/FormRequest" "urlText" "Ljava/lang/CharSequence;").before a0 Z = true := hw _ (List.mem_of_getElem? (i := 96) rfl)
theorem sn_FormRequest_urlText_method {Z : State} {a0 : Array Value} (hw : ∀ d ∈ tables_1, d.before a0 Z = true) : Jvm.RoadKit.slotOf Z "com/example/tailorbird/tailorbird/FormRequest" "urlText" "Ljava/lang/CharSequence;" ≠ Jvm.RoadKit.slotOf Z "com/example/tailorbird/tailorbird/FormRequest" "method" "Ljava/lang/String;" := slot_ne (a0 := a0) (C := "com/example/tailorbird/tailorbird/FormRequest") (Or.inr (w96 hw)) (Or.inr (w83 hw)) (by decide) (t := (.object "java/lang/CharSequence")) (t' := (.object "java/lang/String")) (by decide) (by decide)
theorem d2_63 : decode prog_13_method_2_code 63 = .ok (.aload_n 3, 1) := by decide +kernel
theorem d2_64 : decode prog_13_method_2_code 64 = .ok (.ifnonnull 7, 3) := by decide +kernel
theorem d2_67 : decode prog_13_method_2_code 67 = .ok (.iconst 1, 1) := by decide +kernel
theorem d2_68 : decode prog_13_method_2_code 68 = .ok (.goto 4, 3) := by decide +kernel
theorem d2_72 : decode prog_13_method_2_code 72 = .ok (.aload 4, 2) := by decide +kernel
theorem d2_74 : decode prog_13_method_2_code 74 = .ok (.ifnonnull 7, 3) := by decide +kernel
theorem d2_77 : decode prog_13_method_2_code 77 = .ok (.iconst 1, 1) := by decide +kernel
theorem d2_78 : decode prog_13_method_2_code 78 = .ok (.goto 4, 3) := by decide +kernel
theorem d2_82 : decode prog_13_method_2_code 82 = .ok (.if_icmp .eq 13, 3) := by decide +kernel
theorem d2_95 : decode prog_13_method_2_code 95 = .ok (.aload_n 0, 1) := by decide +kernel
theorem d2_96 : decode prog_13_method_2_code 96 = .ok (.iload 5, 2) := by decide +kernel
theorem d2_98 : decode prog_13_method_2_code 98 = .ok (.ifCond .eq 16, 3) := by decide +kernel
theorem d2_101 : decode prog_13_method_2_code 101 = .ok (.aload_n 3, 1) := by decide +kernel
theorem d2_102 : decode prog_13_method_2_code 102 = .ok (.ifnull 12, 3) := by decide +kernel
theorem d2_114 : decode prog_13_method_2_code 114 = .ok (.aload_n 3, 1) := by decide +kernel
theorem d2_115 : decode prog_13_method_2_code 115 = .ok (.putfield 56, 3) := by decide +kernel
theorem w98 {Z : State} {a0 : Array Value} (hw : ∀ d ∈ tables_1, d.before a0 Z = true) : (Jvm.Cond.fieldLink "com/example/tailorbird/tailorbird/FormRequest" (56 : Nat) "com/example/tailorbird/tailorbird/FormRequest" "contentType" "Ljava/lang/String;").before a0 Z = true := hw _ (List.mem_of_getElem? (i := 98) rfl)
theorem w99 {Z : State} {a0 : Array Value} (hw : ∀ d ∈ tables_1, d.before a0 Z = true) : (Jvm.Cond.laysFinal "com/example/tailorbird/tailorbird/FormRequest" "com/example/tailorbird/tailorbird/FormRequest" "contentType" "Ljava/lang/String;").before a0 Z = true := hw _ (List.mem_of_getElem? (i := 99) rfl)
theorem sn_FormRequest_contentType_method {Z : State} {a0 : Array Value} (hw : ∀ d ∈ tables_1, d.before a0 Z = true) : Jvm.RoadKit.slotOf Z "com/example/tailorbird/tailorbird/FormRequest" "contentType" "Ljava/lang/String;" ≠ Jvm.RoadKit.slotOf Z "com/example/tailorbird/tailorbird/FormRequest" "method" "Ljava/lang/String;" := slot_ne (a0 := a0) (C := "com/example/tailorbird/tailorbird/FormRequest") (Or.inr (w99 hw)) (Or.inr (w83 hw)) (by decide) (t := (.object "java/lang/String")) (t' := (.object "java/lang/String")) (by decide) (by decide)
theorem sn_FormRequest_contentType_urlText {Z : State} {a0 : Array Value} (hw : ∀ d ∈ tables_1, d.before a0 Z = true) : Jvm.RoadKit.slotOf Z "com/example/tailorbird/tailorbird/FormRequest" "contentType" "Ljava/lang/String;" ≠ Jvm.RoadKit.slotOf Z "com/example/tailorbird/tailorbird/FormRequest" "urlText" "Ljava/lang/CharSequence;" := slot_ne (a0 := a0) (C := "com/example/tailorbird/tailorbird/FormRequest") (Or.inr (w99 hw)) (Or.inr (w96 hw)) (by decide) (t := (.object "java/lang/String")) (t' := (.object "java/lang/CharSequence")) (by decide) (by decide)
theorem d2_118 : decode prog_13_method_2_code 118 = .ok (.aload_n 0, 1) := by decide +kernel
theorem d2_119 : decode prog_13_method_2_code 119 = .ok (.aload 4, 2) := by decide +kernel
theorem d2_121 : decode prog_13_method_2_code 121 = .ok (.putfield 58, 3) := by decide +kernel
theorem w100 {Z : State} {a0 : Array Value} (hw : ∀ d ∈ tables_1, d.before a0 Z = true) : (Jvm.Cond.fieldLink "com/example/tailorbird/tailorbird/FormRequest" (58 : Nat) "com/example/tailorbird/tailorbird/FormRequest" "body" "[B").before a0 Z = true := hw _ (List.mem_of_getElem? (i := 100) rfl)
theorem w101 {Z : State} {a0 : Array Value} (hw : ∀ d ∈ tables_1, d.before a0 Z = true) : (Jvm.Cond.laysFinal "com/example/tailorbird/tailorbird/FormRequest" "com/example/tailorbird/tailorbird/FormRequest" "body" "[B").before a0 Z = true := hw _ (List.mem_of_getElem? (i := 101) rfl)
theorem sn_FormRequest_body_method {Z : State} {a0 : Array Value} (hw : ∀ d ∈ tables_1, d.before a0 Z = true) : Jvm.RoadKit.slotOf Z "com/example/tailorbird/tailorbird/FormRequest" "body" "[B" ≠ Jvm.RoadKit.slotOf Z "com/example/tailorbird/tailorbird/FormRequest" "method" "Ljava/lang/String;" := slot_ne (a0 := a0) (C := "com/example/tailorbird/tailorbird/FormRequest") (Or.inr (w101 hw)) (Or.inr (w83 hw)) (by decide) (t := (.array .byte)) (t' := (.object "java/lang/String")) (by decide) (by decide)
theorem sn_FormRequest_body_urlText {Z : State} {a0 : Array Value} (hw : ∀ d ∈ tables_1, d.before a0 Z = true) : Jvm.RoadKit.slotOf Z "com/example/tailorbird/tailorbird/FormRequest" "body" "[B" ≠ Jvm.RoadKit.slotOf Z "com/example/tailorbird/tailorbird/FormRequest" "urlText" "Ljava/lang/CharSequence;" := slot_ne (a0 := a0) (C := "com/example/tailorbird/tailorbird/FormRequest") (Or.inr (w101 hw)) (Or.inr (w96 hw)) (by decide) (t := (.array .byte)) (t' := (.object "java/lang/CharSequence")) (by decide) (by decide)
theorem sn_FormRequest_body_contentType {Z : State} {a0 : Array Value} (hw : ∀ d ∈ tables_1, d.before a0 Z = true) : Jvm.RoadKit.slotOf Z "com/example/tailorbird/tailorbird/FormRequest" "body" "[B" ≠ Jvm.RoadKit.slotOf Z "com/example/tailorbird/tailorbird/FormRequest" "contentType" "Ljava/lang/String;" := slot_ne (a0 := a0) (C := "com/example/tailorbird/tailorbird/FormRequest") (Or.inr (w101 hw)) (Or.inr (w99 hw)) (by decide) (t := (.array .byte)) (t' := (.object "java/lang/String")) (by decide) (by decide)
theorem d2_124 : decode prog_13_method_2_code 124 = .ok (.return_, 1) := by decide +kernel
abbrev y13_init : MethodName := ⟨"com/example/tailorbird/tailorbird/FormRequest", "<init>", "(Ljava/lang/String;Ljava/lang/CharSequence;Ljava/lang/String;[BZ)V"⟩
theorem d2_71 : decode prog_13_method_2_code 71 = .ok (.iconst 0, 1) := by decide +kernel
theorem d2_81 : decode prog_13_method_2_code 81 = .ok (.iconst 0, 1) := by decide +kernel
theorem d2_105 : decode prog_13_method_2_code 105 = .ok (.aload_n 3, 1) := by decide +kernel
theorem d2_106 : decode prog_13_method_2_code 106 = .ok (.ldc 54, 2) := by decide +kernel
theorem d2_108 : decode prog_13_method_2_code 108 = .ok (.invokestatic 28, 3) := by decide +kernel
theorem d2_111 : decode prog_13_method_2_code 111 = .ok (.goto 4, 3) := by decide +kernel
theorem d1_0 : decode prog_13_method_1_code 0 = .ok (.aload_n 0, 1) := by decide +kernel
theorem d1_1 : decode prog_13_method_1_code 1 = .ok (.aload_n 1, 1) := by decide +kernel
theorem d1_2 : decode prog_13_method_1_code 2 = .ok (.aload_n 2, 1) := by decide +kernel
theorem d1_3 : decode prog_13_method_1_code 3 = .ok (.aload_n 3, 1) := by decide +kernel
theorem d1_4 : decode prog_13_method_1_code 4 = .ok (.aload 4, 2) := by decide +kernel
theorem d1_6 : decode prog_13_method_1_code 6 = .ok (.ifnonnull 7, 3) := by decide +kernel
theorem d1_9 : decode prog_13_method_1_code 9 = .ok (.aconst_null, 1) := by decide +kernel
theorem d1_10 : decode prog_13_method_1_code 10 = .ok (.goto 11, 3) := by decide +kernel
theorem d1_21 : decode prog_13_method_1_code 21 = .ok (.iconst 1, 1) := by decide +kernel
theorem d1_22 : decode prog_13_method_1_code 22 = .ok (.invokespecial 7, 3) := by decide +kernel
theorem w25 {Z : State} {a0 : Array Value} (hw : ∀ d ∈ tables_1, d.before a0 Z = true) : (Jvm.Cond.methodLink "com/example/tailorbird/tailorbird/FormRequest" (7 : Nat) ({ cls := "com/example/tailorbird/tailorbird/FormRequest", name := "<init>", desc := "(Ljava/lang/String;Ljava/lang/CharSequence;Ljava/lang/String;[BZ)V" } : Jvm.MethodName)).before a0 Z = true := hw _ (List.mem_of_getElem? (i := 25) rfl)
theorem pd__Ljava_lang_String_Ljava_lang_CharSequence_Ljava_lang_String__BZ_V : parseMethodDescriptor "(Ljava/lang/String;Ljava/lang/CharSequence;Ljava/lang/String;[BZ)V" = some ⟨[(.object "java/lang/String"), (.object "java/lang/CharSequence"), (.object "java/lang/String"), (.array .byte), .boolean], none⟩ := by decide +kernel
theorem w27 {Z : State} {a0 : Array Value} (hw : ∀ d ∈ tables_1, d.before a0 Z = true) : (Jvm.Cond.code ({ cls := "com/example/tailorbird/tailorbird/FormRequest", name := "<init>", desc := "(Ljava/lang/String;Ljava/lang/CharSequence;Ljava/lang/String;[BZ)V" } : Jvm.MethodName) prog_13_method_2_code (6 : Nat) (Option.none : Option Jvm.ClassFile.FieldType)).before a0 Z = true := hw _ (List.mem_of_getElem? (i := 27) rfl)
theorem w26 {Z : State} {a0 : Array Value} (hw : ∀ d ∈ tables_1, d.before a0 Z = true) : (Jvm.Cond.instanceMethod ({ cls := "com/example/tailorbird/tailorbird/FormRequest", name := "<init>", desc := "(Ljava/lang/String;Ljava/lang/CharSequence;Ljava/lang/String;[BZ)V" } : Jvm.MethodName)).before a0 Z = true := hw _ (List.mem_of_getElem? (i := 26) rfl)
theorem d1_25 : decode prog_13_method_1_code 25 = .ok (.return_, 1) := by decide +kernel
abbrev y14_init : MethodName := ⟨"com/example/tailorbird/tailorbird/FormRequest", "<init>", "(Ljava/lang/String;Ljava/lang/String;Ljava/lang/String;[B)V"⟩
theorem d1_13 : decode prog_13_method_1_code 13 = .ok (.aload 4, 2) := by decide +kernel
theorem d1_15 : decode prog_13_method_1_code 15 = .ok (.invokevirtual 1, 3) := by decide +kernel
theorem w16 {Z : State} {a0 : Array Value} (hw : ∀ d ∈ tables_1, d.before a0 Z = true) : (Jvm.Cond.methodLink "com/example/tailorbird/tailorbird/FormRequest" (1 : Nat) ({ cls := "[B", name := "clone", desc := "()Ljava/lang/Object;" } : Jvm.MethodName)).before a0 Z = true := hw _ (List.mem_of_getElem? (i := 16) rfl)
theorem w17 {Z : State} {a0 : Array Value} (hw : ∀ d ∈ tables_1, d.before a0 Z = true) : (Jvm.Cond.sameMethod "[B" "java/lang/Object" "clone" "()Ljava/lang/Object;").before a0 Z = true := hw _ (List.mem_of_getElem? (i := 17) rfl)
theorem w21 {Z : State} {a0 : Array Value} (hw : ∀ d ∈ tables_1, d.before a0 Z = true) : (Jvm.Cond.native ({ cls := "java/lang/Object", name := "clone", desc := "()Ljava/lang/Object;" } : Jvm.MethodName)).before a0 Z = true := hw _ (List.mem_of_getElem? (i := 21) rfl)
theorem w19 {Z : State} {a0 : Array Value} (hw : ∀ d ∈ tables_1, d.before a0 Z = true) : (Jvm.Cond.instanceMethod ({ cls := "java/lang/Object", name := "clone", desc := "()Ljava/lang/Object;" } : Jvm.MethodName)).before a0 Z = true := hw _ (List.mem_of_getElem? (i := 19) rfl)
theorem w20 {Z : State} {a0 : Array Value} (hw : ∀ d ∈ tables_1, d.before a0 Z = true) : (Jvm.Cond.selects "[B" ({ cls := "[B", name := "clone", desc := "()Ljava/lang/Object;" } : Jvm.MethodName) ({ cls := "java/lang/Object", name := "clone", desc := "()Ljava/lang/Object;" } : Jvm.MethodName)).before a0 Z = true := hw _ (List.mem_of_getElem? (i := 20) rfl)
theorem w22 {Z : State} {a0 : Array Value} (hw : ∀ d ∈ tables_1, d.before a0 Z = true) : (Jvm.Cond.castable "[B" "java/lang/Cloneable").before a0 Z = true := hw _ (List.mem_of_getElem? (i := 22) rfl)
theorem d1_18 : decode prog_13_method_1_code 18 = .ok (.checkcast 2, 3) := by decide +kernel
theorem w23 {Z : State} {a0 : Array Value} (hw : ∀ d ∈ tables_1, d.before a0 Z = true) : (Jvm.Cond.classLink "com/example/tailorbird/tailorbird/FormRequest" (2 : Nat) "[B").before a0 Z = true := hw _ (List.mem_of_getElem? (i := 23) rfl)
theorem w24 {Z : State} {a0 : Array Value} (hw : ∀ d ∈ tables_1, d.before a0 Z = true) : (Jvm.Cond.castable "[B" "[B").before a0 Z = true := hw _ (List.mem_of_getElem? (i := 24) rfl)
theorem d16_0 : decode prog_13_method_11_code 0 = .ok (.aload_n 0, 1) := by decide +kernel
theorem d16_1 : decode prog_13_method_11_code 1 = .ok (.getfield 58, 3) := by decide +kernel
theorem d16_4 : decode prog_13_method_11_code 4 = .ok (.ifnonnull 7, 3) := by decide +kernel
theorem d16_7 : decode prog_13_method_11_code 7 = .ok (.aconst_null, 1) := by decide +kernel
theorem d16_8 : decode prog_13_method_11_code 8 = .ok (.goto 13, 3) := by decide +kernel
theorem d16_21 : decode prog_13_method_11_code 21 = .ok (.areturn, 1) := by decide +kernel
abbrev y15_body : MethodName := ⟨"com/example/tailorbird/tailorbird/FormRequest", "body", "()[B"⟩
theorem d16_11 : decode prog_13_method_11_code 11 = .ok (.aload_n 0, 1) := by decide +kernel
theorem d16_12 : decode prog_13_method_11_code 12 = .ok (.getfield 58, 3) := by decide +kernel
theorem d16_15 : decode prog_13_method_11_code 15 = .ok (.invokevirtual 1, 3) := by decide +kernel
theorem d16_18 : decode prog_13_method_11_code 18 = .ok (.checkcast 2, 3) := by decide +kernel
theorem d17_0 : decode method_3_code 0 = .ok (.aload_n 0, 1) := by decide +kernel
theorem d17_1 : decode method_3_code 1 = .ok (.arraylength, 1) := by decide +kernel
theorem d17_2 : decode method_3_code 2 = .ok (.iload_n 1, 1) := by decide +kernel
theorem d17_3 : decode method_3_code 3 = .ok (.if_icmp .eq 5, 3) := by decide +kernel
theorem d17_8 : decode method_3_code 8 = .ok (.iconst 1, 1) := by decide +kernel
theorem d17_9 : decode method_3_code 9 = .ok (.istore 5, 2) := by decide +kernel
theorem d17_11 : decode method_3_code 11 = .ok (.iload_n 1, 1) := by decide +kernel
theorem d17_12 : decode method_3_code 12 = .ok (.ifCond .le 23, 3) := by decide +kernel
theorem d17_35 : decode method_3_code 35 = .ok (.iload_n 1, 1) := by decide +kernel
theorem d17_36 : decode method_3_code 36 = .ok (.iconst 1, 1) := by decide +kernel
theorem d17_37 : decode method_3_code 37 = .ok (.if_icmp .le 23, 3) := by decide +kernel
theorem d17_60 : decode method_3_code 60 = .ok (.iload_n 1, 1) := by decide +kernel
theorem d17_61 : decode method_3_code 61 = .ok (.iconst 2, 1) := by decide +kernel
theorem d17_62 : decode method_3_code 62 = .ok (.if_icmp .le 24, 3) := by decide +kernel
theorem d17_86 : decode method_3_code 86 = .ok (.iload 5, 2) := by decide +kernel
theorem d17_88 : decode method_3_code 88 = .ok (.ireturn, 1) := by decide +kernel
abbrev y16_holds : MethodName := ⟨"com/example/tailorbird/tailorbird/FormRequestBodyPinLaw", "holds", "([BIIII)Z"⟩
theorem pn_com_example_tailorbird_tailorbird_FormRequestBodyPinLaw : plainName "com/example/tailorbird/tailorbird/FormRequestBodyPinLaw" = true := by first | (simp [plainName, overriddenIn]; done) | decide +kernel
abbrev c5_FormRequestBodyPinLaw : String := "com/example/tailorbird/tailorbird/FormRequestBodyPinLaw"
theorem d18_0 : decode method_4_code 0 = .ok (.aload_n 0, 1) := by decide +kernel
theorem d18_1 : decode method_4_code 1 = .ok (.arraylength, 1) := by decide +kernel
theorem d18_2 : decode method_4_code 2 = .ok (.ifCond .le 12, 3) := by decide +kernel
theorem d18_14 : decode method_4_code 14 = .ok (.aload_n 0, 1) := by decide +kernel
theorem d18_15 : decode method_4_code 15 = .ok (.arraylength, 1) := by decide +kernel
theorem d18_16 : decode method_4_code 16 = .ok (.iconst 1, 1) := by decide +kernel
theorem d18_17 : decode method_4_code 17 = .ok (.if_icmp .le 12, 3) := by decide +kernel
theorem d18_29 : decode method_4_code 29 = .ok (.aload_n 0, 1) := by decide +kernel
theorem d18_30 : decode method_4_code 30 = .ok (.arraylength, 1) := by decide +kernel
theorem d18_31 : decode method_4_code 31 = .ok (.iconst 2, 1) := by decide +kernel
theorem d18_32 : decode method_4_code 32 = .ok (.if_icmp .le 12, 3) := by decide +kernel
theorem d18_44 : decode method_4_code 44 = .ok (.return_, 1) := by decide +kernel
abbrev y17_flip : MethodName := ⟨"com/example/tailorbird/tailorbird/FormRequestBodyPinLaw", "flip", "([B)V"⟩
theorem d17_15 : decode method_3_code 15 = .ok (.iload 5, 2) := by decide +kernel
theorem d17_17 : decode method_3_code 17 = .ok (.ifCond .eq 15, 3) := by decide +kernel
theorem d17_20 : decode method_3_code 20 = .ok (.aload_n 0, 1) := by decide +kernel
theorem d17_21 : decode method_3_code 21 = .ok (.iconst 0, 1) := by decide +kernel
theorem d17_22 : decode method_3_code 22 = .ok (.baload, 1) := by decide +kernel
theorem d17_23 : decode method_3_code 23 = .ok (.iload_n 2, 1) := by decide +kernel
theorem d17_24 : decode method_3_code 24 = .ok (.i2b, 1) := by decide +kernel
theorem d17_25 : decode method_3_code 25 = .ok (.if_icmp .ne 7, 3) := by decide +kernel
theorem d17_28 : decode method_3_code 28 = .ok (.iconst 1, 1) := by decide +kernel
theorem d17_29 : decode method_3_code 29 = .ok (.goto 4, 3) := by decide +kernel
theorem d17_33 : decode method_3_code 33 = .ok (.istore 5, 2) := by decide +kernel
theorem d18_5 : decode method_4_code 5 = .ok (.aload_n 0, 1) := by decide +kernel
theorem d18_6 : decode method_4_code 6 = .ok (.iconst 0, 1) := by decide +kernel
theorem d18_7 : decode method_4_code 7 = .ok (.aload_n 0, 1) := by decide +kernel
theorem d18_8 : decode method_4_code 8 = .ok (.iconst 0, 1) := by decide +kernel
theorem d18_9 : decode method_4_code 9 = .ok (.baload, 1) := by decide +kernel
theorem d18_10 : decode method_4_code 10 = .ok (.iconst (-1), 1) := by decide +kernel
theorem d18_11 : decode method_4_code 11 = .ok (.ixor, 1) := by decide +kernel
theorem d18_12 : decode method_4_code 12 = .ok (.i2b, 1) := by decide +kernel
theorem d18_13 : decode method_4_code 13 = .ok (.bastore, 1) := by decide +kernel
theorem d17_40 : decode method_3_code 40 = .ok (.iload 5, 2) := by decide +kernel
theorem d17_42 : decode method_3_code 42 = .ok (.ifCond .eq 15, 3) := by decide +kernel
theorem d17_45 : decode method_3_code 45 = .ok (.aload_n 0, 1) := by decide +kernel
theorem d17_46 : decode method_3_code 46 = .ok (.iconst 1, 1) := by decide +kernel
theorem d17_47 : decode method_3_code 47 = .ok (.baload, 1) := by decide +kernel
theorem d17_48 : decode method_3_code 48 = .ok (.iload_n 3, 1) := by decide +kernel
theorem d17_49 : decode method_3_code 49 = .ok (.i2b, 1) := by decide +kernel
theorem d17_50 : decode method_3_code 50 = .ok (.if_icmp .ne 7, 3) := by decide +kernel
theorem d17_53 : decode method_3_code 53 = .ok (.iconst 1, 1) := by decide +kernel
theorem d17_54 : decode method_3_code 54 = .ok (.goto 4, 3) := by decide +kernel
theorem d17_58 : decode method_3_code 58 = .ok (.istore 5, 2) := by decide +kernel
theorem d18_20 : decode method_4_code 20 = .ok (.aload_n 0, 1) := by decide +kernel
theorem d18_21 : decode method_4_code 21 = .ok (.iconst 1, 1) := by decide +kernel
theorem d18_22 : decode method_4_code 22 = .ok (.aload_n 0, 1) := by decide +kernel
theorem d18_23 : decode method_4_code 23 = .ok (.iconst 1, 1) := by decide +kernel
theorem d18_24 : decode method_4_code 24 = .ok (.baload, 1) := by decide +kernel
theorem d18_25 : decode method_4_code 25 = .ok (.iconst (-1), 1) := by decide +kernel
theorem d18_26 : decode method_4_code 26 = .ok (.ixor, 1) := by decide +kernel
theorem d18_27 : decode method_4_code 27 = .ok (.i2b, 1) := by decide +kernel
theorem d18_28 : decode method_4_code 28 = .ok (.bastore, 1) := by decide +kernel
theorem d17_65 : decode method_3_code 65 = .ok (.iload 5, 2) := by decide +kernel
theorem d17_67 : decode method_3_code 67 = .ok (.ifCond .eq 16, 3) := by decide +kernel
theorem d17_70 : decode method_3_code 70 = .ok (.aload_n 0, 1) := by decide +kernel
theorem d17_71 : decode method_3_code 71 = .ok (.iconst 2, 1) := by decide +kernel
theorem d17_72 : decode method_3_code 72 = .ok (.baload, 1) := by decide +kernel
theorem d17_73 : decode method_3_code 73 = .ok (.iload 4, 2) := by decide +kernel
theorem d17_75 : decode method_3_code 75 = .ok (.i2b, 1) := by decide +kernel
theorem d17_76 : decode method_3_code 76 = .ok (.if_icmp .ne 7, 3) := by decide +kernel
theorem d17_79 : decode method_3_code 79 = .ok (.iconst 1, 1) := by decide +kernel
theorem d17_80 : decode method_3_code 80 = .ok (.goto 4, 3) := by decide +kernel
theorem d17_84 : decode method_3_code 84 = .ok (.istore 5, 2) := by decide +kernel
theorem d18_35 : decode method_4_code 35 = .ok (.aload_n 0, 1) := by decide +kernel
theorem d18_36 : decode method_4_code 36 = .ok (.iconst 2, 1) := by decide +kernel
theorem d18_37 : decode method_4_code 37 = .ok (.aload_n 0, 1) := by decide +kernel
theorem d18_38 : decode method_4_code 38 = .ok (.iconst 2, 1) := by decide +kernel
theorem d18_39 : decode method_4_code 39 = .ok (.baload, 1) := by decide +kernel
theorem d18_40 : decode method_4_code 40 = .ok (.iconst (-1), 1) := by decide +kernel
theorem d18_41 : decode method_4_code 41 = .ok (.ixor, 1) := by decide +kernel
theorem d18_42 : decode method_4_code 42 = .ok (.i2b, 1) := by decide +kernel
theorem d18_43 : decode method_4_code 43 = .ok (.bastore, 1) := by decide +kernel
theorem w1 {Z : State} {a0 : Array Value} (hw : ∀ d ∈ tables_1, d.before a0 Z = true) : (Jvm.Cond.classLink "com/example/tailorbird/tailorbird/FormRequestBodyPinLaw" (7 : Nat) "com/example/tailorbird/tailorbird/FormRequest").before a0 Z = true := hw _ (List.mem_of_getElem? (i := 1) rfl)
theorem w13 {Z : State} {a0 : Array Value} (hw : ∀ d ∈ tables_1, d.before a0 Z = true) : (Jvm.Cond.methodLink "com/example/tailorbird/tailorbird/FormRequestBodyPinLaw" (13 : Nat) ({ cls := "com/example/tailorbird/tailorbird/FormRequest", name := "<init>", desc := "(Ljava/lang/String;Ljava/lang/String;Ljava/lang/String;[B)V" } : Jvm.MethodName)).before a0 Z = true := hw _ (List.mem_of_getElem? (i := 13) rfl)
theorem pd__Ljava_lang_String_Ljava_lang_String_Ljava_lang_String__B_V : parseMethodDescriptor "(Ljava/lang/String;Ljava/lang/String;Ljava/lang/String;[B)V" = some ⟨[(.object "java/lang/String"), (.object "java/lang/String"), (.object "java/lang/String"), (.array .byte)], none⟩ := by decide +kernel
theorem w15 {Z : State} {a0 : Array Value} (hw : ∀ d ∈ tables_1, d.before a0 Z = true) : (Jvm.Cond.code ({ cls := "com/example/tailorbird/tailorbird/FormRequest", name := "<init>", desc := "(Ljava/lang/String;Ljava/lang/String;Ljava/lang/String;[B)V" } : Jvm.MethodName) prog_13_method_1_code (5 : Nat) (Option.none : Option Jvm.ClassFile.FieldType)).before a0 Z = true := hw _ (List.mem_of_getElem? (i := 15) rfl)
theorem w14 {Z : State} {a0 : Array Value} (hw : ∀ d ∈ tables_1, d.before a0 Z = true) : (Jvm.Cond.instanceMethod ({ cls := "com/example/tailorbird/tailorbird/FormRequest", name := "<init>", desc := "(Ljava/lang/String;Ljava/lang/String;Ljava/lang/String;[B)V" } : Jvm.MethodName)).before a0 Z = true := hw _ (List.mem_of_getElem? (i := 14) rfl)
theorem w102 {Z : State} {a0 : Array Value} (hw : ∀ d ∈ tables_1, d.before a0 Z = true) : (Jvm.Cond.methodLink "com/example/tailorbird/tailorbird/FormRequestBodyPinLaw" (16 : Nat) ({ cls := "com/example/tailorbird/tailorbird/FormRequest", name := "body", desc := "()[B" } : Jvm.MethodName)).before a0 Z = true := hw _ (List.mem_of_getElem? (i := 102) rfl)
theorem pd____B : parseMethodDescriptor "()[B" = some ⟨[], some (.array .byte)⟩ := by decide +kernel
theorem w106 {Z : State} {a0 : Array Value} (hw : ∀ d ∈ tables_1, d.before a0 Z = true) : (Jvm.Cond.code ({ cls := "com/example/tailorbird/tailorbird/FormRequest", name := "body", desc := "()[B" } : Jvm.MethodName) prog_13_method_11_code (1 : Nat) (Option.some (Jvm.ClassFile.FieldType.array Jvm.ClassFile.FieldType.byte))).before a0 Z = true := hw _ (List.mem_of_getElem? (i := 106) rfl)
theorem w105 {Z : State} {a0 : Array Value} (hw : ∀ d ∈ tables_1, d.before a0 Z = true) : (Jvm.Cond.selects "com/example/tailorbird/tailorbird/FormRequest" ({ cls := "com/example/tailorbird/tailorbird/FormRequest", name := "body", desc := "()[B" } : Jvm.MethodName) ({ cls := "com/example/tailorbird/tailorbird/FormRequest", name := "body", desc := "()[B" } : Jvm.MethodName)).before a0 Z = true := hw _ (List.mem_of_getElem? (i := 105) rfl)
theorem w103 {Z : State} {a0 : Array Value} (hw : ∀ d ∈ tables_1, d.before a0 Z = true) : (Jvm.Cond.declares ({ cls := "com/example/tailorbird/tailorbird/FormRequest", name := "body", desc := "()[B" } : Jvm.MethodName)).before a0 Z = true := hw _ (List.mem_of_getElem? (i := 103) rfl)
theorem w104 {Z : State} {a0 : Array Value} (hw : ∀ d ∈ tables_1, d.before a0 Z = true) : (Jvm.Cond.instanceMethod ({ cls := "com/example/tailorbird/tailorbird/FormRequest", name := "body", desc := "()[B" } : Jvm.MethodName)).before a0 Z = true := hw _ (List.mem_of_getElem? (i := 104) rfl)
theorem w107 {Z : State} {a0 : Array Value} (hw : ∀ d ∈ tables_1, d.before a0 Z = true) : (Jvm.Cond.methodLink "com/example/tailorbird/tailorbird/FormRequestBodyPinLaw" (24 : Nat) ({ cls := "com/example/tailorbird/tailorbird/FormRequestBodyPinLaw", name := "holds", desc := "([BIIII)Z" } : Jvm.MethodName)).before a0 Z = true := hw _ (List.mem_of_getElem? (i := 107) rfl)
theorem pd___BIIII_Z : parseMethodDescriptor "([BIIII)Z" = some ⟨[(.array .byte), .int, .int, .int, .int], some .boolean⟩ := by decide +kernel
theorem w109 {Z : State} {a0 : Array Value} (hw : ∀ d ∈ tables_1, d.before a0 Z = true) : (Jvm.Cond.initialized "com/example/tailorbird/tailorbird/FormRequestBodyPinLaw").before a0 Z = true := hw _ (List.mem_of_getElem? (i := 109) rfl)
theorem w110 {Z : State} {a0 : Array Value} (hw : ∀ d ∈ tables_1, d.before a0 Z = true) : (Jvm.Cond.code ({ cls := "com/example/tailorbird/tailorbird/FormRequestBodyPinLaw", name := "holds", desc := "([BIIII)Z" } : Jvm.MethodName) method_3_code (6 : Nat) (Option.some Jvm.ClassFile.FieldType.boolean)).before a0 Z = true := hw _ (List.mem_of_getElem? (i := 110) rfl)
theorem w108 {Z : State} {a0 : Array Value} (hw : ∀ d ∈ tables_1, d.before a0 Z = true) : (Jvm.Cond.static ({ cls := "com/example/tailorbird/tailorbird/FormRequestBodyPinLaw", name := "holds", desc := "([BIIII)Z" } : Jvm.MethodName)).before a0 Z = true := hw _ (List.mem_of_getElem? (i := 108) rfl)
theorem w111 {Z : State} {a0 : Array Value} (hw : ∀ d ∈ tables_1, d.before a0 Z = true) : (Jvm.Cond.methodLink "com/example/tailorbird/tailorbird/FormRequestBodyPinLaw" (30 : Nat) ({ cls := "com/example/tailorbird/tailorbird/FormRequestBodyPinLaw", name := "flip", desc := "([B)V" } : Jvm.MethodName)).before a0 Z = true := hw _ (List.mem_of_getElem? (i := 111) rfl)
theorem pd___B_V : parseMethodDescriptor "([B)V" = some ⟨[(.array .byte)], none⟩ := by decide +kernel
theorem w113 {Z : State} {a0 : Array Value} (hw : ∀ d ∈ tables_1, d.before a0 Z = true) : (Jvm.Cond.code ({ cls := "com/example/tailorbird/tailorbird/FormRequestBodyPinLaw", name := "flip", desc := "([B)V" } : Jvm.MethodName) method_4_code (1 : Nat) (Option.none : Option Jvm.ClassFile.FieldType)).before a0 Z = true := hw _ (List.mem_of_getElem? (i := 113) rfl)
theorem w112 {Z : State} {a0 : Array Value} (hw : ∀ d ∈ tables_1, d.before a0 Z = true) : (Jvm.Cond.static ({ cls := "com/example/tailorbird/tailorbird/FormRequestBodyPinLaw", name := "flip", desc := "([B)V" } : Jvm.MethodName)).before a0 Z = true := hw _ (List.mem_of_getElem? (i := 112) rfl)
section Ex
variable {args : Array Value} {s : State}
theorem x_eqI {t : Term} {k : Int32} (h : (Jvm.Cond.eq t (Jvm.Term.int k)).value args s none s [] = some true) : t.eval args s none [] s = some (.int k) := by
  obtain ⟨x, y, e1, e2, k1, k2⟩ := cmp_v (Or.inl h)
  obtain rfl : y = .int k := (Option.some.inj e2).symm
  obtain ⟨z, rfl⟩ : ∃ z, x = .int z := k2
  have q : (Jvm.Cond.eq t (Jvm.Term.int k)).value args s none s [] = some (decide (z = k)) := by simp [Cond.value, e1, e2]
  have := gotT q h
  rw [e1, this]
theorem x_neI {t : Term} {k z : Int32} (e1 : t.eval args s none [] s = some (.int z)) (h : (Jvm.Cond.not (Jvm.Cond.eq t (Jvm.Term.int k))).value args s none s [] = some true) : ¬ z = k := by
  have h2 := not_v h
  have q : (Jvm.Cond.eq t (Jvm.Term.int k)).value args s none s [] = some (decide (z = k)) := by simp [Cond.value, e1, Term.eval]
  exact gotF q h2
theorem x_fld {t : Term} {C f d : String} {x : Addr} {w : Value} (ht : t.eval args s none [] s = some (.ref x)) (he : (Jvm.Term.field t C f d).eval args s none [] s = some w) : Fld s s.heap x C f d w := Fld.start (by rw [← fld_at ht]; exact he)
theorem x_len {t : Term} {r : Addr} {cl : Cell} {ty : FieldType} {k : Int32} (ht : t.eval args s none [] s = some (.ref r)) (A : Arr s s.heap r cl ty) (h : (Jvm.Term.length t).eval args s none [] s = some (.int k)) : cl.slots.size < 2 ^ 31 ∧ cl.slots.size.toInt32 = k := by
  have ha : s.arrayAt? r = some cl := A.fin (Vm.Alike.refl _)
  by_cases hs : cl.slots.size < 2 ^ 31
  · rw [len_f ht ha hs] at h
    exact ⟨hs, by injection h with h; injection h⟩
  · have hs' : ¬ cl.slots.size < 2147483648 := hs
    simp [Term.eval, ht, ha, hs'] at h
theorem x_el {t : Term} {r : Addr} {cl : Cell} {ty : FieldType} {j k : Int32} {i : Nat} (ht : t.eval args s none [] s = some (.ref r)) (A : Arr s s.heap r cl ty) (h : (Jvm.Term.elem t (Jvm.Term.int j)).eval args s none [] s = some (.int k)) (hj : j.toNatClampNeg = i) : cl.slots[i]? = some (.int k) := by
  have := (elem_in h ht rfl A.1).2
  rw [hj] at this
  exact this
theorem x_aa {r : Addr} {cl : Cell} {ty : FieldType} {k : Int32} {vs : List Value} (hf : Fit s) (A : Arr s s.heap r cl ty) (q : cl.slots.size < 2 ^ 31 ∧ cl.slots.size.toInt32 = k) (hz : ¬ k < 0) (hl : k.toNatClampNeg = vs.length) (hk : k.toInt = (vs.length : Int)) (H : HasL cl 0 vs) : AA s s.heap r ty vs :=
  aa_of_arv (Arv.start (dv := .null) hf A q.1 q.2 hz hl H) hk
end Ex
def csts : List (String × Nat × String) := [("com/example/tailorbird/tailorbird/FormRequestBodyPinLaw", 20, "POST"), ("com/example/tailorbird/tailorbird/FormRequestBodyPinLaw", 11, "http://h/p"), ("com/example/tailorbird/tailorbird/FormRequestBodyPinLaw", 22, "text/plain"), ("com/example/tailorbird/tailorbird/FormRequest", 18, "method"), ("com/example/tailorbird/tailorbird/FormRequest", 35, "url"), ("com/example/tailorbird/tailorbird/FormRequest", 54, "contentType"), ("com/example/tailorbird/tailorbird/FormRequestBodyPinLaw", 9, "GET")]
theorem tx0 : ("GET" : String).toList.map (fun c => Value.int (Jvm.Lit.byteI c.toNat.toUInt16)) = [.int (71 : Int32), .int (69 : Int32), .int (84 : Int32)] := by decide +kernel
theorem tx0l : (∀ ch ∈ ("GET" : String).toList, ch.toNat < 256) := by decide +kernel
theorem tx0n : 4 * ("GET" : String).toList.length ≤ 12 := by decide +kernel
theorem tx1 : ("POST" : String).toList.map (fun c => Value.int (Jvm.Lit.byteI c.toNat.toUInt16)) = [.int (80 : Int32), .int (79 : Int32), .int (83 : Int32), .int (84 : Int32)] := by decide +kernel
theorem tx1l : (∀ ch ∈ ("POST" : String).toList, ch.toNat < 256) := by decide +kernel
theorem tx1n : 4 * ("POST" : String).toList.length ≤ 16 := by decide +kernel
theorem tx2 : ("contentType" : String).toList.map (fun c => Value.int (Jvm.Lit.byteI c.toNat.toUInt16)) = [.int (99 : Int32), .int (111 : Int32), .int (110 : Int32), .int (116 : Int32), .int (101 : Int32), .int (110 : Int32), .int (116 : Int32), .int (84 : Int32), .int (121 : Int32), .int (112 : Int32), .int (101 : Int32)] := by decide +kernel
theorem tx2l : (∀ ch ∈ ("contentType" : String).toList, ch.toNat < 256) := by decide +kernel
theorem tx2n : 4 * ("contentType" : String).toList.length ≤ 44 := by decide +kernel
theorem tx3 : ("http://h/p" : String).toList.map (fun c => Value.int (Jvm.Lit.byteI c.toNat.toUInt16)) = [.int (104 : Int32), .int (116 : Int32), .int (116 : Int32), .int (112 : Int32), .int (58 : Int32), .int (47 : Int32), .int (47 : Int32), .int (104 : Int32), .int (47 : Int32), .int (112 : Int32)] := by decide +kernel
theorem tx3l : (∀ ch ∈ ("http://h/p" : String).toList, ch.toNat < 256) := by decide +kernel
theorem tx3n : 4 * ("http://h/p" : String).toList.length ≤ 40 := by decide +kernel
theorem tx4 : ("method" : String).toList.map (fun c => Value.int (Jvm.Lit.byteI c.toNat.toUInt16)) = [.int (109 : Int32), .int (101 : Int32), .int (116 : Int32), .int (104 : Int32), .int (111 : Int32), .int (100 : Int32)] := by decide +kernel
theorem tx4l : (∀ ch ∈ ("method" : String).toList, ch.toNat < 256) := by decide +kernel
theorem tx4n : 4 * ("method" : String).toList.length ≤ 24 := by decide +kernel
theorem tx5 : ("text/plain" : String).toList.map (fun c => Value.int (Jvm.Lit.byteI c.toNat.toUInt16)) = [.int (116 : Int32), .int (101 : Int32), .int (120 : Int32), .int (116 : Int32), .int (47 : Int32), .int (112 : Int32), .int (108 : Int32), .int (97 : Int32), .int (105 : Int32), .int (110 : Int32)] := by decide +kernel
theorem tx5l : (∀ ch ∈ ("text/plain" : String).toList, ch.toNat < 256) := by decide +kernel
theorem tx5n : 4 * ("text/plain" : String).toList.length ≤ 40 := by decide +kernel
theorem tx6 : ("url" : String).toList.map (fun c => Value.int (Jvm.Lit.byteI c.toNat.toUInt16)) = [.int (117 : Int32), .int (114 : Int32), .int (108 : Int32)] := by decide +kernel
theorem tx6l : (∀ ch ∈ ("url" : String).toList, ch.toNat < 256) := by decide +kernel
theorem tx6n : 4 * ("url" : String).toList.length ≤ 12 := by decide +kernel
theorem satoms {Z : State} {a0 : Array Value} (hw : ∀ d ∈ tables_1, d.before a0 Z = true) : ∀ a ∈ Bundle.stringAtoms, a.before a0 Z = true := fun d hd => by
  simp only [Bundle.stringAtoms, List.mem_cons, List.not_mem_nil, or_false] at hd
  rcases hd with rfl | rfl | rfl | rfl | rfl | rfl | rfl
  · exact (w5 hw)
  · exact (w6 hw)
  · exact (w0 hw)
  · exact (w7 hw)
  · exact (w8 hw)
  · exact (w9 hw)
  · exact (w10 hw)
theorem lkstart {Z : State} {a0 : Array Value} (hw : ∀ d ∈ tables_1, d.before a0 Z = true) (hc : ∀ q ∈ consts_1, Jvm.Lit.constHeld Z q.1 q.2) (hcw : Jvm.Lit.compactW.before a0 Z = true) : LK Z csts Z.vm Z.heap [] :=
  LK.start (fun x hx => by
    simp only [csts, List.mem_cons, List.not_mem_nil, or_false] at hx
    rcases hx with rfl | rfl | rfl | rfl | rfl | rfl | rfl
    · exact ⟨hc _ (List.mem_of_getElem? (i := 5) rfl), (w4 hw), tx1l⟩
    · exact ⟨hc _ (List.mem_of_getElem? (i := 4) rfl), (w11 hw), tx3l⟩
    · exact ⟨hc _ (List.mem_of_getElem? (i := 6) rfl), (w12 hw), tx5l⟩
    · exact ⟨hc _ (List.mem_of_getElem? (i := 0) rfl), (w31 hw), tx4l⟩
    · exact ⟨hc _ (List.mem_of_getElem? (i := 1) rfl), (w84 hw), tx6l⟩
    · exact ⟨hc _ (List.mem_of_getElem? (i := 2) rfl), (w97 hw), tx2l⟩
    · exact ⟨hc _ (List.mem_of_getElem? (i := 3) rfl), (w114 hw), tx0l⟩) hcw (w0 hw) (w6 hw)
set_option maxRecDepth 65536 in
set_option maxHeartbeats 40000000 in
theorem coder (l : Launch) (Z : State) (a0 : Array Value) (hw : ∀ d ∈ tables_1, d.before a0 Z = true) (n0 : Nat) (h0 : Heap) (Z0 : n0 ≤ h0.size) (sy : Addr) (cz : Int32) (S : Sta Z h0 "java/lang/String" "COMPACT_STRINGS" "Z" (.int cz)) (ncz : ¬ cz = (0 : Int32)) (Fc : Fld Z h0 sy "java/lang/String" "coder" "B" (.int (0 : Int32))) :
    Met l Z n0 y0_coder jdk_42_method_152_code 1 (Option.some Jvm.ClassFile.FieldType.byte) ({ frames := 0, cells := 0, slots := 0, locals := 0 } : Room) #[(.ref sy)] h0 (fun v h => v = some (.int 0) ∧ h = h0) := by
  refine met_intro (own := c0_String) (plainFor_of_name pn_java_lang_String) rfl Z0 ?_
  intro p e s m below meth c T A hnm
  refine Wp.cast (g' := mkF m 0 #[rv sy] []) (by first | (simp [entryFrame, mkF, argsToLocals, Value.category, maxLocals, jv, S2, U0, iv, rv]; done) | rfl) ?_
  refine s_getstatic (pc' := 3) (host := "") A (Or.inl (w55 hw)) Via.refl S d8_0 rfl fun T A => ?_
  refine s_ifN (pc' := 6) A d8_3 rfl ((if0 _ _).trans (feq ncz).1) ?_
  refine s_aloadN (pc' := 7) A d8_6 rfl rfl rfl ?_
  refine s_getfield (pc' := 10) (host := "") A (Or.inl (w56 hw)) Via.refl Fc d8_7 rfl fun T A => ?_
  refine s_goto (pc' := 14) A d8_10 (by decide) (by decide) ?_
  exact r_small A rfl (by simp) (by decide) d8_14 (by decide) (by decide) (⟨rfl, rfl⟩)
set_option maxRecDepth 65536 in
set_option maxHeartbeats 40000000 in
theorem isl1 (l : Launch) (Z : State) (a0 : Array Value) (hw : ∀ d ∈ tables_1, d.before a0 Z = true) (n0 : Nat) (h0 : Heap) (Z0 : n0 ≤ h0.size) (sy : Addr) (cz : Int32) (S : Sta Z h0 "java/lang/String" "COMPACT_STRINGS" "Z" (.int cz)) (ncz : ¬ cz = (0 : Int32)) (Fc : Fld Z h0 sy "java/lang/String" "coder" "B" (.int (0 : Int32))) :
    Met l Z n0 y1_isLatin1 jdk_42_method_154_code 1 (Option.some Jvm.ClassFile.FieldType.boolean) ({ frames := 0, cells := 0, slots := 0, locals := 0 } : Room) #[(.ref sy)] h0 (fun v h => v = some (.int 1) ∧ h = h0) := by
  refine met_intro (own := c0_String) (plainFor_of_name pn_java_lang_String) rfl Z0 ?_
  intro p e s m below meth c T A hnm
  refine Wp.cast (g' := mkF m 0 #[rv sy] []) (by first | (simp [entryFrame, mkF, argsToLocals, Value.category, maxLocals, jv, S2, U0, iv, rv]; done) | rfl) ?_
  refine s_getstatic (pc' := 3) (host := "") A (Or.inl (w55 hw)) Via.refl S d10_0 rfl fun T A => ?_
  refine s_ifN (pc' := 6) A d10_3 rfl ((if0 _ _).trans (feq ncz).1) ?_
  refine s_aloadN (pc' := 7) A d10_6 rfl rfl rfl ?_
  refine s_getfield (pc' := 10) (host := "") A (Or.inl (w56 hw)) Via.refl Fc d10_7 rfl fun T A => ?_
  refine s_ifN (pc' := 13) A d10_10 rfl (by decide) ?_
  refine s_iconst (pc' := 14) (z := (1 : Int32)) A d10_13 rfl (by decide) ?_
  refine s_goto (pc' := 18) A d10_14 (by decide) (by decide) ?_
  exact r_bool A rfl (by decide) d10_18 (by decide) (by decide) (⟨rfl, rfl⟩)
set_option maxRecDepth 65536 in
set_option maxHeartbeats 40000000 in
theorem pchk (l : Launch) (Z : State) (a0 : Array Value) (hw : ∀ d ∈ tables_1, d.before a0 Z = true) (n0 : Nat) (h0 : Heap) (Z0 : n0 ≤ h0.size) (i k : Int32) (fv : Value) (hfv : fv.isRef = true) (h1 : ¬ i < (0 : Int32)) (h2 : i < k) :
    Met l Z n0 y2_checkIndex jdk_41_method_11_code 3 (Option.some Jvm.ClassFile.FieldType.int) ({ frames := 0, cells := 0, slots := 0, locals := 0 } : Room) #[(.int i), (.int k), fv] h0 (fun v h => v = some (.int i) ∧ h = h0) := by
  refine met_intro (own := c1_Preconditions) (plainFor_of_name pn_jdk_internal_util_Preconditions) rfl Z0 ?_
  intro p e s m below meth c T A hnm
  refine Wp.cast (g' := mkF m 0 #[iv i, iv k, .val fv] []) (by rcases ref_cases hfv with rfl | ⟨fa, rfl⟩ <;> simp [entryFrame, mkF, argsToLocals, Value.category]) ?_
  refine s_iloadN (pc' := 1) A d13_0 rfl rfl ?_
  refine s_ifN (pc' := 4) A d13_1 rfl ((if0 _ _).trans (flt h1).1) ?_
  refine s_iloadN (pc' := 5) A d13_4 rfl rfl ?_
  refine s_iloadN (pc' := 6) A d13_5 rfl rfl ?_
  refine s_icmpY (pc' := 16) A d13_6 (tlt h2).1 (by decide) (by decide) ?_
  refine s_iloadN (pc' := 17) A d13_16 rfl rfl ?_
  exact r_int A rfl d13_17 (by decide) (by decide) (⟨rfl, rfl⟩)
set_option maxRecDepth 65536 in
set_option maxHeartbeats 40000000 in
theorem schk (l : Launch) (Z : State) (a0 : Array Value) (hw : ∀ d ∈ tables_1, d.before a0 Z = true) (n0 : Nat) (h0 : Heap) (Z0 : n0 ≤ h0.size) (i k : Int32) (fv : Value) (hfv : fv.isRef = true) (Sf : Sta Z h0 "jdk/internal/util/Preconditions" "SIOOBE_FORMATTER" "Ljava/util/function/BiFunction;" fv) (h1 : ¬ i < (0 : Int32)) (h2 : i < k) :
    Met l Z n0 y3_checkIndex jdk_42_method_155_code 2 (Option.none : Option Jvm.ClassFile.FieldType) ({ frames := 1, cells := 0, slots := 0, locals := 14 } : Room) #[(.int i), (.int k)] h0 (fun v h => v = none ∧ h = h0) := by
  refine met_intro (own := c0_String) (plainFor_of_name pn_java_lang_String) rfl Z0 ?_
  intro p e s m below meth c T A hnm
  refine Wp.cast (g' := mkF m 0 #[iv i, iv k] []) (by first | (simp [entryFrame, mkF, argsToLocals, Value.category, maxLocals, jv, S2, U0, iv, rv]; done) | rfl) ?_
  refine s_iloadN (pc' := 1) A d12_0 rfl rfl ?_
  refine s_iloadN (pc' := 2) A d12_1 rfl rfl ?_
  refine s_getstatic (pc' := 5) (host := "") A (Or.inl (w74 hw)) Via.refl Sf d12_2 rfl fun T A => ?_
  refine s_static (pc' := 8) (y := y2_checkIndex) (argsL := [(.int i), (.int k), fv]) (rest := []) A (pchk l Z a0 hw n0 h0 A.size i k fv hfv h1 h2) (w76 hw) (w77 hw) (w75 hw) (w78 hw) (by decide) pd__IILjava_util_function_BiFunction__I rfl (W := 0) (by decide) (by decide) (Nat.le_of_eq rfl) (by decide) (by decide) rfl rfl d12_5 rfl fun T h1 v2 A Q3 => ?_
  obtain ⟨rfl, eh⟩ := Q3
  rw [eh] at A
  refine Wp.stk (st' := [(.int i)]) rfl ?_
  refine s_pop (pc' := 9) A d12_8 rfl rfl ?_
  exact r_void A rfl d12_9 (by decide) (by decide) (⟨rfl, rfl⟩)
set_option maxRecDepth 65536 in
set_option maxHeartbeats 40000000 in
theorem isctl (l : Launch) (Z : State) (a0 : Array Value) (hw : ∀ d ∈ tables_1, d.before a0 Z = true) (n0 : Nat) (h0 : Heap) (Z0 : n0 ≤ h0.size) (k : Int32) (h1 : ¬ k < (32 : Int32)) (h2 : ¬ k = (127 : Int32)) :
    Met l Z n0 y4_isControlCharacter prog_13_method_6_code 1 (Option.some Jvm.ClassFile.FieldType.boolean) ({ frames := 0, cells := 0, slots := 0, locals := 0 } : Room) #[(.int k)] h0 (fun v h => v = some (.int 0) ∧ h = h0) := by
  refine met_intro (own := c2_FormRequest) (plainFor_of_name pn_com_example_tailorbird_tailorbird_FormRequest) rfl Z0 ?_
  intro p e s m below meth c T A hnm
  refine Wp.cast (g' := mkF m 0 #[iv k] []) (by first | (simp [entryFrame, mkF, argsToLocals, Value.category, maxLocals, jv, S2, U0, iv, rv]; done) | rfl) ?_
  refine s_iloadN (pc' := 1) A d14_0 rfl rfl ?_
  refine s_bipush (pc' := 3) (z := (32 : Int32)) A d14_1 rfl (by decide) ?_
  refine s_icmpN (pc' := 6) A d14_3 rfl (flt h1).1 ?_
  refine s_iloadN (pc' := 7) A d14_6 rfl rfl ?_
  refine s_bipush (pc' := 9) (z := (127 : Int32)) A d14_7 rfl (by decide) ?_
  refine s_icmpY (pc' := 16) A d14_9 (feq h2).2 (by decide) (by decide) ?_
  refine s_iconst (pc' := 17) (z := (0 : Int32)) A d14_16 rfl (by decide) ?_
  exact r_bool A rfl (by decide) d14_17 (by decide) (by decide) (⟨rfl, rfl⟩)
set_option maxRecDepth 65536 in
set_option maxHeartbeats 40000000 in
theorem rnn (l : Launch) (Z : State) (a0 : Array Value) (hw : ∀ d ∈ tables_1, d.before a0 Z = true) (n0 : Nat) (h0 : Heap) (Z0 : n0 ≤ h0.size) (x y : Addr)  :
    Met l Z n0 y5_requireNonNull jdk_31_method_11_code 2 (Option.some (Jvm.ClassFile.FieldType.object "java/lang/Object")) ({ frames := 0, cells := 0, slots := 0, locals := 0 } : Room) #[(.ref x), (.ref y)] h0 (fun v h => v = some (.ref x) ∧ h = h0) := by
  refine met_intro (own := c3_Objects) (plainFor_of_name pn_java_util_Objects) rfl Z0 ?_
  intro p e s m below meth c T A hnm
  refine Wp.cast (g' := mkF m 0 #[rv x, rv y] []) (by first | (simp [entryFrame, mkF, argsToLocals, Value.category, maxLocals, jv, S2, U0, iv, rv]; done) | rfl) ?_
  refine s_aloadN (pc' := 1) A d4_0 rfl rfl rfl ?_
  refine s_ifnonnullY (pc' := 13) A d4_1 (by decide) (by decide) ?_
  refine s_aloadN (pc' := 14) A d4_13 rfl rfl rfl ?_
  exact r_ref A rfl rfl rfl d4_14 (by decide) (by decide) (⟨rfl, rfl⟩)
set_option maxRecDepth 65536 in
set_option maxHeartbeats 40000000 in
theorem tostr (l : Launch) (Z : State) (a0 : Array Value) (hw : ∀ d ∈ tables_1, d.before a0 Z = true) (n0 : Nat) (h0 : Heap) (Z0 : n0 ≤ h0.size) (x : Addr)  :
    Met l Z n0 y6_toString jdk_42_method_126_code 1 (Option.some (Jvm.ClassFile.FieldType.object "java/lang/String")) ({ frames := 0, cells := 0, slots := 0, locals := 0 } : Room) #[(.ref x)] h0 (fun v h => v = some (.ref x) ∧ h = h0) := by
  refine met_intro (own := c0_String) (plainFor_of_name pn_java_lang_String) rfl Z0 ?_
  intro p e s m below meth c T A hnm
  refine Wp.cast (g' := mkF m 0 #[rv x] []) (by first | (simp [entryFrame, mkF, argsToLocals, Value.category, maxLocals, jv, S2, U0, iv, rv]; done) | rfl) ?_
  refine s_aloadN (pc' := 1) A d15_0 rfl rfl rfl ?_
  exact r_ref A rfl rfl rfl d15_1 (by decide) (by decide) (⟨rfl, rfl⟩)
set_option maxRecDepth 65536 in
set_option maxHeartbeats 40000000 in
theorem len0 (l : Launch) (Z : State) (a0 : Array Value) (hw : ∀ d ∈ tables_1, d.before a0 Z = true) (n0 : Nat) (h0 : Heap) (Z0 : n0 ≤ h0.size) (sy r : Addr) (cz : Int32) (S : Sta Z h0 "java/lang/String" "COMPACT_STRINGS" "Z" (.int cz)) (ncz : ¬ cz = (0 : Int32)) (Fc : Fld Z h0 sy "java/lang/String" "coder" "B" (.int (0 : Int32))) (E : Exa Z h0 sy "java/lang/String") (Fv : Fld Z h0 sy "java/lang/String" "value" "[B" (.ref r)) (V : AA Z h0 r .byte [.int (71 : Int32), .int (69 : Int32), .int (84 : Int32)]) :
    Met l Z n0 y7_length jdk_42_method_54_code 1 (Option.some Jvm.ClassFile.FieldType.int) ({ frames := 1, cells := 0, slots := 0, locals := 13 } : Room) #[(.ref sy)] h0 (fun v h => v = some (.int (3 : Int32)) ∧ h = h0) := by
  refine met_intro (own := c0_String) (plainFor_of_name pn_java_lang_String) rfl Z0 ?_
  intro p e s m below meth c T A hnm
  refine Wp.cast (g' := mkF m 0 #[rv sy] []) (by first | (simp [entryFrame, mkF, argsToLocals, Value.category, maxLocals, jv, S2, U0, iv, rv]; done) | rfl) ?_
  refine s_aloadN (pc' := 1) A d7_0 rfl rfl rfl ?_
  refine s_getfield (pc' := 4) (host := "") A (Or.inl (w49 hw)) Via.refl Fv d7_1 rfl fun T A => ?_
  refine s_arraylength (pc' := 5) (z := (3 : Int32)) A V (by show _ = ((3 : Nat) : Int); decide) d7_4 rfl ?_
  refine s_aloadN (pc' := 6) A d7_5 rfl rfl rfl ?_
  refine s_virtual (pc' := 9) (y := y0_coder) (argsL := []) (rest := [(.int (3 : Int32))]) (z := y0_coder) A E (coder l Z a0 hw n0 h0 A.size sy cz S ncz Fc) (w50 hw) (w51 hw) (nf_same (C := "") (w53 hw)) (w53 hw) (w52 hw) (w5 hw) (w54 hw) (by decide) pd___B rfl (W := 1) (by decide) (by decide) (Nat.le_of_eq rfl) (by decide) (by decide) rfl rfl d7_6 rfl fun T h1 v2 A Q3 => ?_
  obtain ⟨rfl, eh⟩ := Q3
  rw [eh] at A
  refine Wp.stk (st' := [(.int (0 : Int32)), (.int (3 : Int32))]) rfl ?_
  refine s_ishr (pc' := 10) (z := (3 : Int32)) A d7_9 rfl (by decide) ?_
  exact r_int A rfl d7_10 (by decide) (by decide) (⟨rfl, rfl⟩)
set_option maxRecDepth 65536 in
set_option maxHeartbeats 40000000 in
theorem lch0_0 (l : Launch) (Z : State) (a0 : Array Value) (hw : ∀ d ∈ tables_1, d.before a0 Z = true) (n0 : Nat) (h0 : Heap) (Z0 : n0 ≤ h0.size) (r : Addr) (fv : Value) (hfv : fv.isRef = true) (Sf : Sta Z h0 "jdk/internal/util/Preconditions" "SIOOBE_FORMATTER" "Ljava/util/function/BiFunction;" fv) (V : AA Z h0 r .byte [.int (71 : Int32), .int (69 : Int32), .int (84 : Int32)]) :
    Met l Z n0 y8_charAt jdk_43_method_2_code 2 (Option.some Jvm.ClassFile.FieldType.char) ({ frames := 2, cells := 0, slots := 0, locals := 27 } : Room) #[(.ref r), (.int (0 : Int32))] h0 (fun v h => v = some (.int (71 : Int32)) ∧ h = h0) := by
  refine met_intro (own := c4_StringLatin1) (plainFor_of_name pn_java_lang_StringLatin1) rfl Z0 ?_
  intro p e s m below meth c T A hnm
  refine Wp.cast (g' := mkF m 0 #[rv r, iv 0] []) (by first | (simp [entryFrame, mkF, argsToLocals, Value.category, maxLocals, jv, S2, U0, iv, rv]; done) | rfl) ?_
  refine s_iloadN (pc' := 1) A d11_0 rfl rfl ?_
  refine s_aloadN (pc' := 2) A d11_1 rfl rfl rfl ?_
  refine s_arraylength (pc' := 3) (z := (3 : Int32)) A V (by show _ = ((3 : Nat) : Int); decide) d11_2 rfl ?_
  refine s_static (pc' := 6) (y := y3_checkIndex) (argsL := [(.int (0 : Int32)), (.int (3 : Int32))]) (rest := []) A (schk l Z a0 hw n0 h0 A.size (0 : Int32) (3 : Int32) fv hfv Sf (by decide) (by decide)) (w71 hw) (w72 hw) (w5 hw) (w73 hw) (by decide) pd__II_V rfl (W := 0) (by decide) (by decide) (Nat.le_of_eq rfl) (by decide) (by decide) rfl rfl d11_3 rfl fun T h1 v2 A Q3 => ?_
  obtain ⟨rfl, eh⟩ := Q3
  rw [eh] at A
  refine Wp.stk (st' := []) rfl ?_
  refine s_aloadN (pc' := 7) A d11_6 rfl rfl rfl ?_
  refine s_iloadN (pc' := 8) A d11_7 rfl rfl ?_
  refine s_baload (pc' := 9) (i := 0) (v := (.int (71 : Int32))) A V (by decide) rfl d11_8 rfl ?_
  refine s_sipush (pc' := 12) (z := (255 : Int32)) A d11_9 rfl (by decide) ?_
  refine s_iand (pc' := 13) (z := (71 : Int32)) A d11_12 rfl (by decide) ?_
  refine s_i2c (pc' := 14) (z := (71 : Int32)) A d11_13 rfl (by decide) ?_
  exact r_small A rfl (by simp) (by decide) d11_14 (by decide) (by decide) (⟨rfl, rfl⟩)
set_option maxRecDepth 65536 in
set_option maxHeartbeats 40000000 in
theorem cat0_0 (l : Launch) (Z : State) (a0 : Array Value) (hw : ∀ d ∈ tables_1, d.before a0 Z = true) (n0 : Nat) (h0 : Heap) (Z0 : n0 ≤ h0.size) (sy r : Addr) (cz : Int32) (fv : Value) (S : Sta Z h0 "java/lang/String" "COMPACT_STRINGS" "Z" (.int cz)) (ncz : ¬ cz = (0 : Int32)) (Fc : Fld Z h0 sy "java/lang/String" "coder" "B" (.int (0 : Int32))) (E : Exa Z h0 sy "java/lang/String") (Fv : Fld Z h0 sy "java/lang/String" "value" "[B" (.ref r)) (V : AA Z h0 r .byte [.int (71 : Int32), .int (69 : Int32), .int (84 : Int32)]) (hfv : fv.isRef = true) (Sf : Sta Z h0 "jdk/internal/util/Preconditions" "SIOOBE_FORMATTER" "Ljava/util/function/BiFunction;" fv) :
    Met l Z n0 y9_charAt jdk_42_method_56_code 2 (Option.some Jvm.ClassFile.FieldType.char) ({ frames := 3, cells := 0, slots := 0, locals := 40 } : Room) #[(.ref sy), (.int (0 : Int32))] h0 (fun v h => v = some (.int (71 : Int32)) ∧ h = h0) := by
  refine met_intro (own := c0_String) (plainFor_of_name pn_java_lang_String) rfl Z0 ?_
  intro p e s m below meth c T A hnm
  refine Wp.cast (g' := mkF m 0 #[rv sy, iv 0] []) (by first | (simp [entryFrame, mkF, argsToLocals, Value.category, maxLocals, jv, S2, U0, iv, rv]; done) | rfl) ?_
  refine s_aloadN (pc' := 1) A d9_0 rfl rfl rfl ?_
  refine s_virtual (pc' := 4) (y := y1_isLatin1) (argsL := []) (rest := []) (z := y1_isLatin1) A E (isl1 l Z a0 hw n0 h0 A.size sy cz S ncz Fc) (w62 hw) (w63 hw) (nf_same (C := "") (w65 hw)) (w65 hw) (w64 hw) (w5 hw) (w66 hw) (by decide) pd___Z rfl (W := 0) (by decide) (by decide) (Nat.le_of_eq rfl) (by decide) (by decide) rfl rfl d9_1 rfl fun T h1 v2 A Q3 => ?_
  obtain ⟨rfl, eh⟩ := Q3
  rw [eh] at A
  refine Wp.stk (st' := [(.int (1 : Int32))]) rfl ?_
  refine s_ifN (pc' := 7) A d9_4 rfl (by decide) ?_
  refine s_aloadN (pc' := 8) A d9_7 rfl rfl rfl ?_
  refine s_getfield (pc' := 11) (host := "") A (Or.inl (w49 hw)) Via.refl Fv d9_8 rfl fun T A => ?_
  refine s_iloadN (pc' := 12) A d9_11 rfl rfl ?_
  refine s_static (pc' := 15) (y := y8_charAt) (argsL := [(.ref r), (.int (0 : Int32))]) (rest := []) A (lch0_0 l Z a0 hw n0 h0 A.size r fv hfv Sf V) (w67 hw) (w68 hw) (w69 hw) (w70 hw) (by decide) pd___BI_C rfl (W := 0) (by decide) (by decide) (Nat.le_of_eq rfl) (by decide) (by decide) rfl rfl d9_12 rfl fun T h4 v5 A Q6 => ?_
  obtain ⟨rfl, eh⟩ := Q6
  rw [eh] at A
  refine Wp.stk (st' := [(.int (71 : Int32))]) rfl ?_
  exact r_small A rfl (by simp) (by decide) d9_15 (by decide) (by decide) (⟨rfl, rfl⟩)
set_option maxRecDepth 65536 in
set_option maxHeartbeats 40000000 in
theorem lch0_1 (l : Launch) (Z : State) (a0 : Array Value) (hw : ∀ d ∈ tables_1, d.before a0 Z = true) (n0 : Nat) (h0 : Heap) (Z0 : n0 ≤ h0.size) (r : Addr) (fv : Value) (hfv : fv.isRef = true) (Sf : Sta Z h0 "jdk/internal/util/Preconditions" "SIOOBE_FORMATTER" "Ljava/util/function/BiFunction;" fv) (V : AA Z h0 r .byte [.int (71 : Int32), .int (69 : Int32), .int (84 : Int32)]) :
    Met l Z n0 y8_charAt jdk_43_method_2_code 2 (Option.some Jvm.ClassFile.FieldType.char) ({ frames := 2, cells := 0, slots := 0, locals := 27 } : Room) #[(.ref r), (.int (1 : Int32))] h0 (fun v h => v = some (.int (69 : Int32)) ∧ h = h0) := by
  refine met_intro (own := c4_StringLatin1) (plainFor_of_name pn_java_lang_StringLatin1) rfl Z0 ?_
  intro p e s m below meth c T A hnm
  refine Wp.cast (g' := mkF m 0 #[rv r, iv 1] []) (by first | (simp [entryFrame, mkF, argsToLocals, Value.category, maxLocals, jv, S2, U0, iv, rv]; done) | rfl) ?_
  refine s_iloadN (pc' := 1) A d11_0 rfl rfl ?_
  refine s_aloadN (pc' := 2) A d11_1 rfl rfl rfl ?_
  refine s_arraylength (pc' := 3) (z := (3 : Int32)) A V (by show _ = ((3 : Nat) : Int); decide) d11_2 rfl ?_
  refine s_static (pc' := 6) (y := y3_checkIndex) (argsL := [(.int (1 : Int32)), (.int (3 : Int32))]) (rest := []) A (schk l Z a0 hw n0 h0 A.size (1 : Int32) (3 : Int32) fv hfv Sf (by decide) (by decide)) (w71 hw) (w72 hw) (w5 hw) (w73 hw) (by decide) pd__II_V rfl (W := 0) (by decide) (by decide) (Nat.le_of_eq rfl) (by decide) (by decide) rfl rfl d11_3 rfl fun T h1 v2 A Q3 => ?_
  obtain ⟨rfl, eh⟩ := Q3
  rw [eh] at A
  refine Wp.stk (st' := []) rfl ?_
  refine s_aloadN (pc' := 7) A d11_6 rfl rfl rfl ?_
  refine s_iloadN (pc' := 8) A d11_7 rfl rfl ?_
  refine s_baload (pc' := 9) (i := 1) (v := (.int (69 : Int32))) A V (by decide) rfl d11_8 rfl ?_
  refine s_sipush (pc' := 12) (z := (255 : Int32)) A d11_9 rfl (by decide) ?_
  refine s_iand (pc' := 13) (z := (69 : Int32)) A d11_12 rfl (by decide) ?_
  refine s_i2c (pc' := 14) (z := (69 : Int32)) A d11_13 rfl (by decide) ?_
  exact r_small A rfl (by simp) (by decide) d11_14 (by decide) (by decide) (⟨rfl, rfl⟩)
set_option maxRecDepth 65536 in
set_option maxHeartbeats 40000000 in
theorem cat0_1 (l : Launch) (Z : State) (a0 : Array Value) (hw : ∀ d ∈ tables_1, d.before a0 Z = true) (n0 : Nat) (h0 : Heap) (Z0 : n0 ≤ h0.size) (sy r : Addr) (cz : Int32) (fv : Value) (S : Sta Z h0 "java/lang/String" "COMPACT_STRINGS" "Z" (.int cz)) (ncz : ¬ cz = (0 : Int32)) (Fc : Fld Z h0 sy "java/lang/String" "coder" "B" (.int (0 : Int32))) (E : Exa Z h0 sy "java/lang/String") (Fv : Fld Z h0 sy "java/lang/String" "value" "[B" (.ref r)) (V : AA Z h0 r .byte [.int (71 : Int32), .int (69 : Int32), .int (84 : Int32)]) (hfv : fv.isRef = true) (Sf : Sta Z h0 "jdk/internal/util/Preconditions" "SIOOBE_FORMATTER" "Ljava/util/function/BiFunction;" fv) :
    Met l Z n0 y9_charAt jdk_42_method_56_code 2 (Option.some Jvm.ClassFile.FieldType.char) ({ frames := 3, cells := 0, slots := 0, locals := 40 } : Room) #[(.ref sy), (.int (1 : Int32))] h0 (fun v h => v = some (.int (69 : Int32)) ∧ h = h0) := by
  refine met_intro (own := c0_String) (plainFor_of_name pn_java_lang_String) rfl Z0 ?_
  intro p e s m below meth c T A hnm
  refine Wp.cast (g' := mkF m 0 #[rv sy, iv 1] []) (by first | (simp [entryFrame, mkF, argsToLocals, Value.category, maxLocals, jv, S2, U0, iv, rv]; done) | rfl) ?_
  refine s_aloadN (pc' := 1) A d9_0 rfl rfl rfl ?_
  refine s_virtual (pc' := 4) (y := y1_isLatin1) (argsL := []) (rest := []) (z := y1_isLatin1) A E (isl1 l Z a0 hw n0 h0 A.size sy cz S ncz Fc) (w62 hw) (w63 hw) (nf_same (C := "") (w65 hw)) (w65 hw) (w64 hw) (w5 hw) (w66 hw) (by decide) pd___Z rfl (W := 0) (by decide) (by decide) (Nat.le_of_eq rfl) (by decide) (by decide) rfl rfl d9_1 rfl fun T h1 v2 A Q3 => ?_
  obtain ⟨rfl, eh⟩ := Q3
  rw [eh] at A
  refine Wp.stk (st' := [(.int (1 : Int32))]) rfl ?_
  refine s_ifN (pc' := 7) A d9_4 rfl (by decide) ?_
  refine s_aloadN (pc' := 8) A d9_7 rfl rfl rfl ?_
  refine s_getfield (pc' := 11) (host := "") A (Or.inl (w49 hw)) Via.refl Fv d9_8 rfl fun T A => ?_
  refine s_iloadN (pc' := 12) A d9_11 rfl rfl ?_
  refine s_static (pc' := 15) (y := y8_charAt) (argsL := [(.ref r), (.int (1 : Int32))]) (rest := []) A (lch0_1 l Z a0 hw n0 h0 A.size r fv hfv Sf V) (w67 hw) (w68 hw) (w69 hw) (w70 hw) (by decide) pd___BI_C rfl (W := 0) (by decide) (by decide) (Nat.le_of_eq rfl) (by decide) (by decide) rfl rfl d9_12 rfl fun T h4 v5 A Q6 => ?_
  obtain ⟨rfl, eh⟩ := Q6
  rw [eh] at A
  refine Wp.stk (st' := [(.int (69 : Int32))]) rfl ?_
  exact r_small A rfl (by simp) (by decide) d9_15 (by decide) (by decide) (⟨rfl, rfl⟩)
set_option maxRecDepth 65536 in
set_option maxHeartbeats 40000000 in
theorem lch0_2 (l : Launch) (Z : State) (a0 : Array Value) (hw : ∀ d ∈ tables_1, d.before a0 Z = true) (n0 : Nat) (h0 : Heap) (Z0 : n0 ≤ h0.size) (r : Addr) (fv : Value) (hfv : fv.isRef = true) (Sf : Sta Z h0 "jdk/internal/util/Preconditions" "SIOOBE_FORMATTER" "Ljava/util/function/BiFunction;" fv) (V : AA Z h0 r .byte [.int (71 : Int32), .int (69 : Int32), .int (84 : Int32)]) :
    Met l Z n0 y8_charAt jdk_43_method_2_code 2 (Option.some Jvm.ClassFile.FieldType.char) ({ frames := 2, cells := 0, slots := 0, locals := 27 } : Room) #[(.ref r), (.int (2 : Int32))] h0 (fun v h => v = some (.int (84 : Int32)) ∧ h = h0) := by
  refine met_intro (own := c4_StringLatin1) (plainFor_of_name pn_java_lang_StringLatin1) rfl Z0 ?_
  intro p e s m below meth c T A hnm
  refine Wp.cast (g' := mkF m 0 #[rv r, iv 2] []) (by first | (simp [entryFrame, mkF, argsToLocals, Value.category, maxLocals, jv, S2, U0, iv, rv]; done) | rfl) ?_
  refine s_iloadN (pc' := 1) A d11_0 rfl rfl ?_
  refine s_aloadN (pc' := 2) A d11_1 rfl rfl rfl ?_
  refine s_arraylength (pc' := 3) (z := (3 : Int32)) A V (by show _ = ((3 : Nat) : Int); decide) d11_2 rfl ?_
  refine s_static (pc' := 6) (y := y3_checkIndex) (argsL := [(.int (2 : Int32)), (.int (3 : Int32))]) (rest := []) A (schk l Z a0 hw n0 h0 A.size (2 : Int32) (3 : Int32) fv hfv Sf (by decide) (by decide)) (w71 hw) (w72 hw) (w5 hw) (w73 hw) (by decide) pd__II_V rfl (W := 0) (by decide) (by decide) (Nat.le_of_eq rfl) (by decide) (by decide) rfl rfl d11_3 rfl fun T h1 v2 A Q3 => ?_
  obtain ⟨rfl, eh⟩ := Q3
  rw [eh] at A
  refine Wp.stk (st' := []) rfl ?_
  refine s_aloadN (pc' := 7) A d11_6 rfl rfl rfl ?_
  refine s_iloadN (pc' := 8) A d11_7 rfl rfl ?_
  refine s_baload (pc' := 9) (i := 2) (v := (.int (84 : Int32))) A V (by decide) rfl d11_8 rfl ?_
  refine s_sipush (pc' := 12) (z := (255 : Int32)) A d11_9 rfl (by decide) ?_
  refine s_iand (pc' := 13) (z := (84 : Int32)) A d11_12 rfl (by decide) ?_
  refine s_i2c (pc' := 14) (z := (84 : Int32)) A d11_13 rfl (by decide) ?_
  exact r_small A rfl (by simp) (by decide) d11_14 (by decide) (by decide) (⟨rfl, rfl⟩)
set_option maxRecDepth 65536 in
set_option maxHeartbeats 40000000 in
theorem cat0_2 (l : Launch) (Z : State) (a0 : Array Value) (hw : ∀ d ∈ tables_1, d.before a0 Z = true) (n0 : Nat) (h0 : Heap) (Z0 : n0 ≤ h0.size) (sy r : Addr) (cz : Int32) (fv : Value) (S : Sta Z h0 "java/lang/String" "COMPACT_STRINGS" "Z" (.int cz)) (ncz : ¬ cz = (0 : Int32)) (Fc : Fld Z h0 sy "java/lang/String" "coder" "B" (.int (0 : Int32))) (E : Exa Z h0 sy "java/lang/String") (Fv : Fld Z h0 sy "java/lang/String" "value" "[B" (.ref r)) (V : AA Z h0 r .byte [.int (71 : Int32), .int (69 : Int32), .int (84 : Int32)]) (hfv : fv.isRef = true) (Sf : Sta Z h0 "jdk/internal/util/Preconditions" "SIOOBE_FORMATTER" "Ljava/util/function/BiFunction;" fv) :
    Met l Z n0 y9_charAt jdk_42_method_56_code 2 (Option.some Jvm.ClassFile.FieldType.char) ({ frames := 3, cells := 0, slots := 0, locals := 40 } : Room) #[(.ref sy), (.int (2 : Int32))] h0 (fun v h => v = some (.int (84 : Int32)) ∧ h = h0) := by
  refine met_intro (own := c0_String) (plainFor_of_name pn_java_lang_String) rfl Z0 ?_
  intro p e s m below meth c T A hnm
  refine Wp.cast (g' := mkF m 0 #[rv sy, iv 2] []) (by first | (simp [entryFrame, mkF, argsToLocals, Value.category, maxLocals, jv, S2, U0, iv, rv]; done) | rfl) ?_
  refine s_aloadN (pc' := 1) A d9_0 rfl rfl rfl ?_
  refine s_virtual (pc' := 4) (y := y1_isLatin1) (argsL := []) (rest := []) (z := y1_isLatin1) A E (isl1 l Z a0 hw n0 h0 A.size sy cz S ncz Fc) (w62 hw) (w63 hw) (nf_same (C := "") (w65 hw)) (w65 hw) (w64 hw) (w5 hw) (w66 hw) (by decide) pd___Z rfl (W := 0) (by decide) (by decide) (Nat.le_of_eq rfl) (by decide) (by decide) rfl rfl d9_1 rfl fun T h1 v2 A Q3 => ?_
  obtain ⟨rfl, eh⟩ := Q3
  rw [eh] at A
  refine Wp.stk (st' := [(.int (1 : Int32))]) rfl ?_
  refine s_ifN (pc' := 7) A d9_4 rfl (by decide) ?_
  refine s_aloadN (pc' := 8) A d9_7 rfl rfl rfl ?_
  refine s_getfield (pc' := 11) (host := "") A (Or.inl (w49 hw)) Via.refl Fv d9_8 rfl fun T A => ?_
  refine s_iloadN (pc' := 12) A d9_11 rfl rfl ?_
  refine s_static (pc' := 15) (y := y8_charAt) (argsL := [(.ref r), (.int (2 : Int32))]) (rest := []) A (lch0_2 l Z a0 hw n0 h0 A.size r fv hfv Sf V) (w67 hw) (w68 hw) (w69 hw) (w70 hw) (by decide) pd___BI_C rfl (W := 0) (by decide) (by decide) (Nat.le_of_eq rfl) (by decide) (by decide) rfl rfl d9_12 rfl fun T h4 v5 A Q6 => ?_
  obtain ⟨rfl, eh⟩ := Q6
  rw [eh] at A
  refine Wp.stk (st' := [(.int (84 : Int32))]) rfl ?_
  exact r_small A rfl (by simp) (by decide) d9_15 (by decide) (by decide) (⟨rfl, rfl⟩)
set_option maxRecDepth 65536 in
set_option maxHeartbeats 40000000 in
theorem ioc0 (l : Launch) (Z : State) (a0 : Array Value) (hw : ∀ d ∈ tables_1, d.before a0 Z = true) (n0 : Nat) (h0 : Heap) (Z0 : n0 ≤ h0.size) (sy r : Addr) (cz : Int32) (fv : Value) (S : Sta Z h0 "java/lang/String" "COMPACT_STRINGS" "Z" (.int cz)) (ncz : ¬ cz = (0 : Int32)) (Fc : Fld Z h0 sy "java/lang/String" "coder" "B" (.int (0 : Int32))) (E : Exa Z h0 sy "java/lang/String") (Fv : Fld Z h0 sy "java/lang/String" "value" "[B" (.ref r)) (V : AA Z h0 r .byte [.int (71 : Int32), .int (69 : Int32), .int (84 : Int32)]) (hfv : fv.isRef = true) (Sf : Sta Z h0 "jdk/internal/util/Preconditions" "SIOOBE_FORMATTER" "Ljava/util/function/BiFunction;" fv) :
    Met l Z n0 y10_indexOfControlCharacter prog_13_method_4_code 2 (Option.some Jvm.ClassFile.FieldType.int) ({ frames := 4, cells := 0, slots := 0, locals := 53 } : Room) #[(.ref sy)] h0 (fun v h => v = some (.int (-1)) ∧ h = h0) := by
  refine met_intro (own := c2_FormRequest) (plainFor_of_name pn_com_example_tailorbird_tailorbird_FormRequest) rfl Z0 ?_
  intro p e s m below meth c T A hnm
  refine Wp.cast (g' := mkF m 0 #[rv sy, U0] []) (by first | (simp [entryFrame, mkF, argsToLocals, Value.category, maxLocals, jv, S2, U0, iv, rv]; done) | rfl) ?_
  refine s_iconst (pc' := 1) (z := (0 : Int32)) A d6_0 rfl (by decide) ?_
  refine s_istoreN (pc' := 2) (Ls' := #[rv sy, iv 0]) A d6_1 rfl rfl ?_
  refine s_iloadN (pc' := 3) A d6_2 rfl rfl ?_
  refine s_aloadN (pc' := 4) A d6_3 rfl rfl rfl ?_
  refine s_virtual (pc' := 7) (y := y7_length) (argsL := []) (rest := [(.int (0 : Int32))]) (z := y7_length) A E (len0 l Z a0 hw n0 h0 A.size sy r cz S ncz Fc E Fv V) (w44 hw) (w45 hw) (nf_same (C := "") (w47 hw)) (w47 hw) (w46 hw) (w5 hw) (w48 hw) (by decide) pd___I rfl (W := 1) (by decide) (by decide) (Nat.le_of_eq rfl) (by decide) (by decide) rfl rfl d6_4 rfl fun T h1 v2 A Q3 => ?_
  obtain ⟨rfl, eh⟩ := Q3
  rw [eh] at A
  refine Wp.stk (st' := [(.int (3 : Int32)), (.int (0 : Int32))]) rfl ?_
  refine s_icmpN (pc' := 10) A d6_7 rfl (by decide) ?_
  refine s_aloadN (pc' := 11) A d6_10 rfl rfl rfl ?_
  refine s_iloadN (pc' := 12) A d6_11 rfl rfl ?_
  refine s_virtual (pc' := 15) (y := y9_charAt) (argsL := [(.int (0 : Int32))]) (rest := []) (z := y9_charAt) A E (cat0_0 l Z a0 hw n0 h0 A.size sy r cz fv S ncz Fc E Fv V hfv Sf) (w57 hw) (w58 hw) (nf_same (C := "") (w60 hw)) (w60 hw) (w59 hw) (w5 hw) (w61 hw) (by decide) pd__I_C rfl (W := 0) (by decide) (by decide) (Nat.le_of_eq rfl) (by decide) (by decide) rfl rfl d6_12 rfl fun T h4 v5 A Q6 => ?_
  obtain ⟨rfl, eh⟩ := Q6
  rw [eh] at A
  refine Wp.stk (st' := [(.int (71 : Int32))]) rfl ?_
  refine s_static (pc' := 18) (y := y4_isControlCharacter) (argsL := [(.int (71 : Int32))]) (rest := []) A (isctl l Z a0 hw n0 h0 A.size (71 : Int32) (by decide) (by decide)) (w79 hw) (w80 hw) (w3 hw) (w81 hw) (by decide) pd__I_Z rfl (W := 0) (by decide) (by decide) (Nat.le_of_eq rfl) (by decide) (by decide) rfl rfl d6_15 rfl fun T h7 v8 A Q9 => ?_
  obtain ⟨rfl, eh⟩ := Q9
  rw [eh] at A
  refine Wp.stk (st' := [(.int (0 : Int32))]) rfl ?_
  refine s_ifY (pc' := 23) A d6_18 (by decide) (by decide) (by decide) ?_
  refine s_iinc (pc' := 26) (z := (1 : Int32)) (Ls' := #[rv sy, iv 1]) A d6_23 rfl rfl (by decide) rfl ?_
  refine s_goto (pc' := 2) A d6_26 (by decide) (by decide) ?_
  refine s_iloadN (pc' := 3) A d6_2 rfl rfl ?_
  refine s_aloadN (pc' := 4) A d6_3 rfl rfl rfl ?_
  refine s_virtual (pc' := 7) (y := y7_length) (argsL := []) (rest := [(.int (1 : Int32))]) (z := y7_length) A E (len0 l Z a0 hw n0 h0 A.size sy r cz S ncz Fc E Fv V) (w44 hw) (w45 hw) (nf_same (C := "") (w47 hw)) (w47 hw) (w46 hw) (w5 hw) (w48 hw) (by decide) pd___I rfl (W := 1) (by decide) (by decide) (Nat.le_of_eq rfl) (by decide) (by decide) rfl rfl d6_4 rfl fun T h10 v11 A Q12 => ?_
  obtain ⟨rfl, eh⟩ := Q12
  rw [eh] at A
  refine Wp.stk (st' := [(.int (3 : Int32)), (.int (1 : Int32))]) rfl ?_
  refine s_icmpN (pc' := 10) A d6_7 rfl (by decide) ?_
  refine s_aloadN (pc' := 11) A d6_10 rfl rfl rfl ?_
  refine s_iloadN (pc' := 12) A d6_11 rfl rfl ?_
  refine s_virtual (pc' := 15) (y := y9_charAt) (argsL := [(.int (1 : Int32))]) (rest := []) (z := y9_charAt) A E (cat0_1 l Z a0 hw n0 h0 A.size sy r cz fv S ncz Fc E Fv V hfv Sf) (w57 hw) (w58 hw) (nf_same (C := "") (w60 hw)) (w60 hw) (w59 hw) (w5 hw) (w61 hw) (by decide) pd__I_C rfl (W := 0) (by decide) (by decide) (Nat.le_of_eq rfl) (by decide) (by decide) rfl rfl d6_12 rfl fun T h13 v14 A Q15 => ?_
  obtain ⟨rfl, eh⟩ := Q15
  rw [eh] at A
  refine Wp.stk (st' := [(.int (69 : Int32))]) rfl ?_
  refine s_static (pc' := 18) (y := y4_isControlCharacter) (argsL := [(.int (69 : Int32))]) (rest := []) A (isctl l Z a0 hw n0 h0 A.size (69 : Int32) (by decide) (by decide)) (w79 hw) (w80 hw) (w3 hw) (w81 hw) (by decide) pd__I_Z rfl (W := 0) (by decide) (by decide) (Nat.le_of_eq rfl) (by decide) (by decide) rfl rfl d6_15 rfl fun T h16 v17 A Q18 => ?_
  obtain ⟨rfl, eh⟩ := Q18
  rw [eh] at A
  refine Wp.stk (st' := [(.int (0 : Int32))]) rfl ?_
  refine s_ifY (pc' := 23) A d6_18 (by decide) (by decide) (by decide) ?_
  refine s_iinc (pc' := 26) (z := (2 : Int32)) (Ls' := #[rv sy, iv 2]) A d6_23 rfl rfl (by decide) rfl ?_
  refine s_goto (pc' := 2) A d6_26 (by decide) (by decide) ?_
  refine s_iloadN (pc' := 3) A d6_2 rfl rfl ?_
  refine s_aloadN (pc' := 4) A d6_3 rfl rfl rfl ?_
  refine s_virtual (pc' := 7) (y := y7_length) (argsL := []) (rest := [(.int (2 : Int32))]) (z := y7_length) A E (len0 l Z a0 hw n0 h0 A.size sy r cz S ncz Fc E Fv V) (w44 hw) (w45 hw) (nf_same (C := "") (w47 hw)) (w47 hw) (w46 hw) (w5 hw) (w48 hw) (by decide) pd___I rfl (W := 1) (by decide) (by decide) (Nat.le_of_eq rfl) (by decide) (by decide) rfl rfl d6_4 rfl fun T h19 v20 A Q21 => ?_
  obtain ⟨rfl, eh⟩ := Q21
  rw [eh] at A
  refine Wp.stk (st' := [(.int (3 : Int32)), (.int (2 : Int32))]) rfl ?_
  refine s_icmpN (pc' := 10) A d6_7 rfl (by decide) ?_
  refine s_aloadN (pc' := 11) A d6_10 rfl rfl rfl ?_
  refine s_iloadN (pc' := 12) A d6_11 rfl rfl ?_
  refine s_virtual (pc' := 15) (y := y9_charAt) (argsL := [(.int (2 : Int32))]) (rest := []) (z := y9_charAt) A E (cat0_2 l Z a0 hw n0 h0 A.size sy r cz fv S ncz Fc E Fv V hfv Sf) (w57 hw) (w58 hw) (nf_same (C := "") (w60 hw)) (w60 hw) (w59 hw) (w5 hw) (w61 hw) (by decide) pd__I_C rfl (W := 0) (by decide) (by decide) (Nat.le_of_eq rfl) (by decide) (by decide) rfl rfl d6_12 rfl fun T h22 v23 A Q24 => ?_
  obtain ⟨rfl, eh⟩ := Q24
  rw [eh] at A
  refine Wp.stk (st' := [(.int (84 : Int32))]) rfl ?_
  refine s_static (pc' := 18) (y := y4_isControlCharacter) (argsL := [(.int (84 : Int32))]) (rest := []) A (isctl l Z a0 hw n0 h0 A.size (84 : Int32) (by decide) (by decide)) (w79 hw) (w80 hw) (w3 hw) (w81 hw) (by decide) pd__I_Z rfl (W := 0) (by decide) (by decide) (Nat.le_of_eq rfl) (by decide) (by decide) rfl rfl d6_15 rfl fun T h25 v26 A Q27 => ?_
  obtain ⟨rfl, eh⟩ := Q27
  rw [eh] at A
  refine Wp.stk (st' := [(.int (0 : Int32))]) rfl ?_
  refine s_ifY (pc' := 23) A d6_18 (by decide) (by decide) (by decide) ?_
  refine s_iinc (pc' := 26) (z := (3 : Int32)) (Ls' := #[rv sy, iv 3]) A d6_23 rfl rfl (by decide) rfl ?_
  refine s_goto (pc' := 2) A d6_26 (by decide) (by decide) ?_
  refine s_iloadN (pc' := 3) A d6_2 rfl rfl ?_
  refine s_aloadN (pc' := 4) A d6_3 rfl rfl rfl ?_
  refine s_virtual (pc' := 7) (y := y7_length) (argsL := []) (rest := [(.int (3 : Int32))]) (z := y7_length) A E (len0 l Z a0 hw n0 h0 A.size sy r cz S ncz Fc E Fv V) (w44 hw) (w45 hw) (nf_same (C := "") (w47 hw)) (w47 hw) (w46 hw) (w5 hw) (w48 hw) (by decide) pd___I rfl (W := 1) (by decide) (by decide) (Nat.le_of_eq rfl) (by decide) (by decide) rfl rfl d6_4 rfl fun T h28 v29 A Q30 => ?_
  obtain ⟨rfl, eh⟩ := Q30
  rw [eh] at A
  refine Wp.stk (st' := [(.int (3 : Int32)), (.int (3 : Int32))]) rfl ?_
  refine s_icmpY (pc' := 29) A d6_7 (by decide) (by decide) (by decide) ?_
  refine s_iconst (pc' := 30) (z := (-1 : Int32)) A d6_29 rfl (by decide) ?_
  exact r_int A rfl d6_30 (by decide) (by decide) (⟨rfl, rfl⟩)
set_option maxRecDepth 65536 in
set_option maxHeartbeats 40000000 in
theorem rnc0 (l : Launch) (Z : State) (a0 : Array Value) (hw : ∀ d ∈ tables_1, d.before a0 Z = true) (n0 : Nat) (h0 : Heap) (Z0 : n0 ≤ h0.size) (sy r m' : Addr) (cz : Int32) (fv : Value) (S : Sta Z h0 "java/lang/String" "COMPACT_STRINGS" "Z" (.int cz)) (ncz : ¬ cz = (0 : Int32)) (Fc : Fld Z h0 sy "java/lang/String" "coder" "B" (.int (0 : Int32))) (E : Exa Z h0 sy "java/lang/String") (Fv : Fld Z h0 sy "java/lang/String" "value" "[B" (.ref r)) (V : AA Z h0 r .byte [.int (71 : Int32), .int (69 : Int32), .int (84 : Int32)]) (hfv : fv.isRef = true) (Sf : Sta Z h0 "jdk/internal/util/Preconditions" "SIOOBE_FORMATTER" "Ljava/util/function/BiFunction;" fv) :
    Met l Z n0 y11_requireNoControlCharacter prog_13_method_7_code 3 (Option.some (Jvm.ClassFile.FieldType.object "java/lang/String")) ({ frames := 5, cells := 0, slots := 0, locals := 66 } : Room) #[(.ref sy), (.ref m')] h0 (fun v h => v = some (.ref sy) ∧ h = h0) := by
  refine met_intro (own := c2_FormRequest) (plainFor_of_name pn_com_example_tailorbird_tailorbird_FormRequest) rfl Z0 ?_
  intro p e s m below meth c T A hnm
  refine Wp.cast (g' := mkF m 0 #[rv sy, rv m', U0] []) (by first | (simp [entryFrame, mkF, argsToLocals, Value.category, maxLocals, jv, S2, U0, iv, rv]; done) | rfl) ?_
  refine s_aloadN (pc' := 1) A d5_0 rfl rfl rfl ?_
  refine s_static (pc' := 4) (y := y10_indexOfControlCharacter) (argsL := [(.ref sy)]) (rest := []) A (ioc0 l Z a0 hw n0 h0 A.size sy r cz fv S ncz Fc E Fv V hfv Sf) (w41 hw) (w42 hw) (w3 hw) (w43 hw) (by decide) pd__Ljava_lang_String__I rfl (W := 0) (by decide) (by decide) (Nat.le_of_eq rfl) (by decide) (by decide) rfl rfl d5_1 rfl fun T h1 v2 A Q3 => ?_
  obtain ⟨rfl, eh⟩ := Q3
  rw [eh] at A
  refine Wp.stk (st' := [(.int (-1 : Int32))]) rfl ?_
  refine s_istoreN (pc' := 5) (Ls' := #[rv sy, rv m', iv (-1)]) A d5_4 rfl rfl ?_
  refine s_iloadN (pc' := 6) A d5_5 rfl rfl ?_
  refine s_ifY (pc' := 48) A d5_6 (by decide) (by decide) (by decide) ?_
  refine s_aloadN (pc' := 49) A d5_48 rfl rfl rfl ?_
  exact r_ref A rfl rfl rfl d5_49 (by decide) (by decide) (⟨rfl, rfl⟩)
set_option maxRecDepth 65536 in
set_option maxHeartbeats 40000000 in
theorem len1 (l : Launch) (Z : State) (a0 : Array Value) (hw : ∀ d ∈ tables_1, d.before a0 Z = true) (n0 : Nat) (h0 : Heap) (Z0 : n0 ≤ h0.size) (sy r : Addr) (cz : Int32) (S : Sta Z h0 "java/lang/String" "COMPACT_STRINGS" "Z" (.int cz)) (ncz : ¬ cz = (0 : Int32)) (Fc : Fld Z h0 sy "java/lang/String" "coder" "B" (.int (0 : Int32))) (E : Exa Z h0 sy "java/lang/String") (Fv : Fld Z h0 sy "java/lang/String" "value" "[B" (.ref r)) (V : AA Z h0 r .byte [.int (80 : Int32), .int (79 : Int32), .int (83 : Int32), .int (84 : Int32)]) :
    Met l Z n0 y7_length jdk_42_method_54_code 1 (Option.some Jvm.ClassFile.FieldType.int) ({ frames := 1, cells := 0, slots := 0, locals := 13 } : Room) #[(.ref sy)] h0 (fun v h => v = some (.int (4 : Int32)) ∧ h = h0) := by
  refine met_intro (own := c0_String) (plainFor_of_name pn_java_lang_String) rfl Z0 ?_
  intro p e s m below meth c T A hnm
  refine Wp.cast (g' := mkF m 0 #[rv sy] []) (by first | (simp [entryFrame, mkF, argsToLocals, Value.category, maxLocals, jv, S2, U0, iv, rv]; done) | rfl) ?_
  refine s_aloadN (pc' := 1) A d7_0 rfl rfl rfl ?_
  refine s_getfield (pc' := 4) (host := "") A (Or.inl (w49 hw)) Via.refl Fv d7_1 rfl fun T A => ?_
  refine s_arraylength (pc' := 5) (z := (4 : Int32)) A V (by show _ = ((4 : Nat) : Int); decide) d7_4 rfl ?_
  refine s_aloadN (pc' := 6) A d7_5 rfl rfl rfl ?_
  refine s_virtual (pc' := 9) (y := y0_coder) (argsL := []) (rest := [(.int (4 : Int32))]) (z := y0_coder) A E (coder l Z a0 hw n0 h0 A.size sy cz S ncz Fc) (w50 hw) (w51 hw) (nf_same (C := "") (w53 hw)) (w53 hw) (w52 hw) (w5 hw) (w54 hw) (by decide) pd___B rfl (W := 1) (by decide) (by decide) (Nat.le_of_eq rfl) (by decide) (by decide) rfl rfl d7_6 rfl fun T h1 v2 A Q3 => ?_
  obtain ⟨rfl, eh⟩ := Q3
  rw [eh] at A
  refine Wp.stk (st' := [(.int (0 : Int32)), (.int (4 : Int32))]) rfl ?_
  refine s_ishr (pc' := 10) (z := (4 : Int32)) A d7_9 rfl (by decide) ?_
  exact r_int A rfl d7_10 (by decide) (by decide) (⟨rfl, rfl⟩)
set_option maxRecDepth 65536 in
set_option maxHeartbeats 40000000 in
theorem lch1_0 (l : Launch) (Z : State) (a0 : Array Value) (hw : ∀ d ∈ tables_1, d.before a0 Z = true) (n0 : Nat) (h0 : Heap) (Z0 : n0 ≤ h0.size) (r : Addr) (fv : Value) (hfv : fv.isRef = true) (Sf : Sta Z h0 "jdk/internal/util/Preconditions" "SIOOBE_FORMATTER" "Ljava/util/function/BiFunction;" fv) (V : AA Z h0 r .byte [.int (80 : Int32), .int (79 : Int32), .int (83 : Int32), .int (84 : Int32)]) :
    Met l Z n0 y8_charAt jdk_43_method_2_code 2 (Option.some Jvm.ClassFile.FieldType.char) ({ frames := 2, cells := 0, slots := 0, locals := 27 } : Room) #[(.ref r), (.int (0 : Int32))] h0 (fun v h => v = some (.int (80 : Int32)) ∧ h = h0) := by
  refine met_intro (own := c4_StringLatin1) (plainFor_of_name pn_java_lang_StringLatin1) rfl Z0 ?_
  intro p e s m below meth c T A hnm
  refine Wp.cast (g' := mkF m 0 #[rv r, iv 0] []) (by first | (simp [entryFrame, mkF, argsToLocals, Value.category, maxLocals, jv, S2, U0, iv, rv]; done) | rfl) ?_
  refine s_iloadN (pc' := 1) A d11_0 rfl rfl ?_
  refine s_aloadN (pc' := 2) A d11_1 rfl rfl rfl ?_
  refine s_arraylength (pc' := 3) (z := (4 : Int32)) A V (by show _ = ((4 : Nat) : Int); decide) d11_2 rfl ?_
  refine s_static (pc' := 6) (y := y3_checkIndex) (argsL := [(.int (0 : Int32)), (.int (4 : Int32))]) (rest := []) A (schk l Z a0 hw n0 h0 A.size (0 : Int32) (4 : Int32) fv hfv Sf (by decide) (by decide)) (w71 hw) (w72 hw) (w5 hw) (w73 hw) (by decide) pd__II_V rfl (W := 0) (by decide) (by decide) (Nat.le_of_eq rfl) (by decide) (by decide) rfl rfl d11_3 rfl fun T h1 v2 A Q3 => ?_
  obtain ⟨rfl, eh⟩ := Q3
  rw [eh] at A
  refine Wp.stk (st' := []) rfl ?_
  refine s_aloadN (pc' := 7) A d11_6 rfl rfl rfl ?_
  refine s_iloadN (pc' := 8) A d11_7 rfl rfl ?_
  refine s_baload (pc' := 9) (i := 0) (v := (.int (80 : Int32))) A V (by decide) rfl d11_8 rfl ?_
  refine s_sipush (pc' := 12) (z := (255 : Int32)) A d11_9 rfl (by decide) ?_
  refine s_iand (pc' := 13) (z := (80 : Int32)) A d11_12 rfl (by decide) ?_
  refine s_i2c (pc' := 14) (z := (80 : Int32)) A d11_13 rfl (by decide) ?_
  exact r_small A rfl (by simp) (by decide) d11_14 (by decide) (by decide) (⟨rfl, rfl⟩)
set_option maxRecDepth 65536 in
set_option maxHeartbeats 40000000 in
theorem cat1_0 (l : Launch) (Z : State) (a0 : Array Value) (hw : ∀ d ∈ tables_1, d.before a0 Z = true) (n0 : Nat) (h0 : Heap) (Z0 : n0 ≤ h0.size) (sy r : Addr) (cz : Int32) (fv : Value) (S : Sta Z h0 "java/lang/String" "COMPACT_STRINGS" "Z" (.int cz)) (ncz : ¬ cz = (0 : Int32)) (Fc : Fld Z h0 sy "java/lang/String" "coder" "B" (.int (0 : Int32))) (E : Exa Z h0 sy "java/lang/String") (Fv : Fld Z h0 sy "java/lang/String" "value" "[B" (.ref r)) (V : AA Z h0 r .byte [.int (80 : Int32), .int (79 : Int32), .int (83 : Int32), .int (84 : Int32)]) (hfv : fv.isRef = true) (Sf : Sta Z h0 "jdk/internal/util/Preconditions" "SIOOBE_FORMATTER" "Ljava/util/function/BiFunction;" fv) :
    Met l Z n0 y9_charAt jdk_42_method_56_code 2 (Option.some Jvm.ClassFile.FieldType.char) ({ frames := 3, cells := 0, slots := 0, locals := 40 } : Room) #[(.ref sy), (.int (0 : Int32))] h0 (fun v h => v = some (.int (80 : Int32)) ∧ h = h0) := by
  refine met_intro (own := c0_String) (plainFor_of_name pn_java_lang_String) rfl Z0 ?_
  intro p e s m below meth c T A hnm
  refine Wp.cast (g' := mkF m 0 #[rv sy, iv 0] []) (by first | (simp [entryFrame, mkF, argsToLocals, Value.category, maxLocals, jv, S2, U0, iv, rv]; done) | rfl) ?_
  refine s_aloadN (pc' := 1) A d9_0 rfl rfl rfl ?_
  refine s_virtual (pc' := 4) (y := y1_isLatin1) (argsL := []) (rest := []) (z := y1_isLatin1) A E (isl1 l Z a0 hw n0 h0 A.size sy cz S ncz Fc) (w62 hw) (w63 hw) (nf_same (C := "") (w65 hw)) (w65 hw) (w64 hw) (w5 hw) (w66 hw) (by decide) pd___Z rfl (W := 0) (by decide) (by decide) (Nat.le_of_eq rfl) (by decide) (by decide) rfl rfl d9_1 rfl fun T h1 v2 A Q3 => ?_
  obtain ⟨rfl, eh⟩ := Q3
  rw [eh] at A
  refine Wp.stk (st' := [(.int (1 : Int32))]) rfl ?_
  refine s_ifN (pc' := 7) A d9_4 rfl (by decide) ?_
  refine s_aloadN (pc' := 8) A d9_7 rfl rfl rfl ?_
  refine s_getfield (pc' := 11) (host := "") A (Or.inl (w49 hw)) Via.refl Fv d9_8 rfl fun T A => ?_
  refine s_iloadN (pc' := 12) A d9_11 rfl rfl ?_
  refine s_static (pc' := 15) (y := y8_charAt) (argsL := [(.ref r), (.int (0 : Int32))]) (rest := []) A (lch1_0 l Z a0 hw n0 h0 A.size r fv hfv Sf V) (w67 hw) (w68 hw) (w69 hw) (w70 hw) (by decide) pd___BI_C rfl (W := 0) (by decide) (by decide) (Nat.le_of_eq rfl) (by decide) (by decide) rfl rfl d9_12 rfl fun T h4 v5 A Q6 => ?_
  obtain ⟨rfl, eh⟩ := Q6
  rw [eh] at A
  refine Wp.stk (st' := [(.int (80 : Int32))]) rfl ?_
  exact r_small A rfl (by simp) (by decide) d9_15 (by decide) (by decide) (⟨rfl, rfl⟩)
set_option maxRecDepth 65536 in
set_option maxHeartbeats 40000000 in
theorem lch1_1 (l : Launch) (Z : State) (a0 : Array Value) (hw : ∀ d ∈ tables_1, d.before a0 Z = true) (n0 : Nat) (h0 : Heap) (Z0 : n0 ≤ h0.size) (r : Addr) (fv : Value) (hfv : fv.isRef = true) (Sf : Sta Z h0 "jdk/internal/util/Preconditions" "SIOOBE_FORMATTER" "Ljava/util/function/BiFunction;" fv) (V : AA Z h0 r .byte [.int (80 : Int32), .int (79 : Int32), .int (83 : Int32), .int (84 : Int32)]) :
    Met l Z n0 y8_charAt jdk_43_method_2_code 2 (Option.some Jvm.ClassFile.FieldType.char) ({ frames := 2, cells := 0, slots := 0, locals := 27 } : Room) #[(.ref r), (.int (1 : Int32))] h0 (fun v h => v = some (.int (79 : Int32)) ∧ h = h0) := by
  refine met_intro (own := c4_StringLatin1) (plainFor_of_name pn_java_lang_StringLatin1) rfl Z0 ?_
  intro p e s m below meth c T A hnm
  refine Wp.cast (g' := mkF m 0 #[rv r, iv 1] []) (by first | (simp [entryFrame, mkF, argsToLocals, Value.category, maxLocals, jv, S2, U0, iv, rv]; done) | rfl) ?_
  refine s_iloadN (pc' := 1) A d11_0 rfl rfl ?_
  refine s_aloadN (pc' := 2) A d11_1 rfl rfl rfl ?_
  refine s_arraylength (pc' := 3) (z := (4 : Int32)) A V (by show _ = ((4 : Nat) : Int); decide) d11_2 rfl ?_
  refine s_static (pc' := 6) (y := y3_checkIndex) (argsL := [(.int (1 : Int32)), (.int (4 : Int32))]) (rest := []) A (schk l Z a0 hw n0 h0 A.size (1 : Int32) (4 : Int32) fv hfv Sf (by decide) (by decide)) (w71 hw) (w72 hw) (w5 hw) (w73 hw) (by decide) pd__II_V rfl (W := 0) (by decide) (by decide) (Nat.le_of_eq rfl) (by decide) (by decide) rfl rfl d11_3 rfl fun T h1 v2 A Q3 => ?_
  obtain ⟨rfl, eh⟩ := Q3
  rw [eh] at A
  refine Wp.stk (st' := []) rfl ?_
  refine s_aloadN (pc' := 7) A d11_6 rfl rfl rfl ?_
  refine s_iloadN (pc' := 8) A d11_7 rfl rfl ?_
  refine s_baload (pc' := 9) (i := 1) (v := (.int (79 : Int32))) A V (by decide) rfl d11_8 rfl ?_
  refine s_sipush (pc' := 12) (z := (255 : Int32)) A d11_9 rfl (by decide) ?_
  refine s_iand (pc' := 13) (z := (79 : Int32)) A d11_12 rfl (by decide) ?_
  refine s_i2c (pc' := 14) (z := (79 : Int32)) A d11_13 rfl (by decide) ?_
  exact r_small A rfl (by simp) (by decide) d11_14 (by decide) (by decide) (⟨rfl, rfl⟩)
set_option maxRecDepth 65536 in
set_option maxHeartbeats 40000000 in
theorem cat1_1 (l : Launch) (Z : State) (a0 : Array Value) (hw : ∀ d ∈ tables_1, d.before a0 Z = true) (n0 : Nat) (h0 : Heap) (Z0 : n0 ≤ h0.size) (sy r : Addr) (cz : Int32) (fv : Value) (S : Sta Z h0 "java/lang/String" "COMPACT_STRINGS" "Z" (.int cz)) (ncz : ¬ cz = (0 : Int32)) (Fc : Fld Z h0 sy "java/lang/String" "coder" "B" (.int (0 : Int32))) (E : Exa Z h0 sy "java/lang/String") (Fv : Fld Z h0 sy "java/lang/String" "value" "[B" (.ref r)) (V : AA Z h0 r .byte [.int (80 : Int32), .int (79 : Int32), .int (83 : Int32), .int (84 : Int32)]) (hfv : fv.isRef = true) (Sf : Sta Z h0 "jdk/internal/util/Preconditions" "SIOOBE_FORMATTER" "Ljava/util/function/BiFunction;" fv) :
    Met l Z n0 y9_charAt jdk_42_method_56_code 2 (Option.some Jvm.ClassFile.FieldType.char) ({ frames := 3, cells := 0, slots := 0, locals := 40 } : Room) #[(.ref sy), (.int (1 : Int32))] h0 (fun v h => v = some (.int (79 : Int32)) ∧ h = h0) := by
  refine met_intro (own := c0_String) (plainFor_of_name pn_java_lang_String) rfl Z0 ?_
  intro p e s m below meth c T A hnm
  refine Wp.cast (g' := mkF m 0 #[rv sy, iv 1] []) (by first | (simp [entryFrame, mkF, argsToLocals, Value.category, maxLocals, jv, S2, U0, iv, rv]; done) | rfl) ?_
  refine s_aloadN (pc' := 1) A d9_0 rfl rfl rfl ?_
  refine s_virtual (pc' := 4) (y := y1_isLatin1) (argsL := []) (rest := []) (z := y1_isLatin1) A E (isl1 l Z a0 hw n0 h0 A.size sy cz S ncz Fc) (w62 hw) (w63 hw) (nf_same (C := "") (w65 hw)) (w65 hw) (w64 hw) (w5 hw) (w66 hw) (by decide) pd___Z rfl (W := 0) (by decide) (by decide) (Nat.le_of_eq rfl) (by decide) (by decide) rfl rfl d9_1 rfl fun T h1 v2 A Q3 => ?_
  obtain ⟨rfl, eh⟩ := Q3
  rw [eh] at A
  refine Wp.stk (st' := [(.int (1 : Int32))]) rfl ?_
  refine s_ifN (pc' := 7) A d9_4 rfl (by decide) ?_
  refine s_aloadN (pc' := 8) A d9_7 rfl rfl rfl ?_
  refine s_getfield (pc' := 11) (host := "") A (Or.inl (w49 hw)) Via.refl Fv d9_8 rfl fun T A => ?_
  refine s_iloadN (pc' := 12) A d9_11 rfl rfl ?_
  refine s_static (pc' := 15) (y := y8_charAt) (argsL := [(.ref r), (.int (1 : Int32))]) (rest := []) A (lch1_1 l Z a0 hw n0 h0 A.size r fv hfv Sf V) (w67 hw) (w68 hw) (w69 hw) (w70 hw) (by decide) pd___BI_C rfl (W := 0) (by decide) (by decide) (Nat.le_of_eq rfl) (by decide) (by decide) rfl rfl d9_12 rfl fun T h4 v5 A Q6 => ?_
  obtain ⟨rfl, eh⟩ := Q6
  rw [eh] at A
  refine Wp.stk (st' := [(.int (79 : Int32))]) rfl ?_
  exact r_small A rfl (by simp) (by decide) d9_15 (by decide) (by decide) (⟨rfl, rfl⟩)
set_option maxRecDepth 65536 in
set_option maxHeartbeats 40000000 in
theorem lch1_2 (l : Launch) (Z : State) (a0 : Array Value) (hw : ∀ d ∈ tables_1, d.before a0 Z = true) (n0 : Nat) (h0 : Heap) (Z0 : n0 ≤ h0.size) (r : Addr) (fv : Value) (hfv : fv.isRef = true) (Sf : Sta Z h0 "jdk/internal/util/Preconditions" "SIOOBE_FORMATTER" "Ljava/util/function/BiFunction;" fv) (V : AA Z h0 r .byte [.int (80 : Int32), .int (79 : Int32), .int (83 : Int32), .int (84 : Int32)]) :
    Met l Z n0 y8_charAt jdk_43_method_2_code 2 (Option.some Jvm.ClassFile.FieldType.char) ({ frames := 2, cells := 0, slots := 0, locals := 27 } : Room) #[(.ref r), (.int (2 : Int32))] h0 (fun v h => v = some (.int (83 : Int32)) ∧ h = h0) := by
  refine met_intro (own := c4_StringLatin1) (plainFor_of_name pn_java_lang_StringLatin1) rfl Z0 ?_
  intro p e s m below meth c T A hnm
  refine Wp.cast (g' := mkF m 0 #[rv r, iv 2] []) (by first | (simp [entryFrame, mkF, argsToLocals, Value.category, maxLocals, jv, S2, U0, iv, rv]; done) | rfl) ?_
  refine s_iloadN (pc' := 1) A d11_0 rfl rfl ?_
  refine s_aloadN (pc' := 2) A d11_1 rfl rfl rfl ?_
  refine s_arraylength (pc' := 3) (z := (4 : Int32)) A V (by show _ = ((4 : Nat) : Int); decide) d11_2 rfl ?_
  refine s_static (pc' := 6) (y := y3_checkIndex) (argsL := [(.int (2 : Int32)), (.int (4 : Int32))]) (rest := []) A (schk l Z a0 hw n0 h0 A.size (2 : Int32) (4 : Int32) fv hfv Sf (by decide) (by decide)) (w71 hw) (w72 hw) (w5 hw) (w73 hw) (by decide) pd__II_V rfl (W := 0) (by decide) (by decide) (Nat.le_of_eq rfl) (by decide) (by decide) rfl rfl d11_3 rfl fun T h1 v2 A Q3 => ?_
  obtain ⟨rfl, eh⟩ := Q3
  rw [eh] at A
  refine Wp.stk (st' := []) rfl ?_
  refine s_aloadN (pc' := 7) A d11_6 rfl rfl rfl ?_
  refine s_iloadN (pc' := 8) A d11_7 rfl rfl ?_
  refine s_baload (pc' := 9) (i := 2) (v := (.int (83 : Int32))) A V (by decide) rfl d11_8 rfl ?_
  refine s_sipush (pc' := 12) (z := (255 : Int32)) A d11_9 rfl (by decide) ?_
  refine s_iand (pc' := 13) (z := (83 : Int32)) A d11_12 rfl (by decide) ?_
  refine s_i2c (pc' := 14) (z := (83 : Int32)) A d11_13 rfl (by decide) ?_
  exact r_small A rfl (by simp) (by decide) d11_14 (by decide) (by decide) (⟨rfl, rfl⟩)
set_option maxRecDepth 65536 in
set_option maxHeartbeats 40000000 in
theorem cat1_2 (l : Launch) (Z : State) (a0 : Array Value) (hw : ∀ d ∈ tables_1, d.before a0 Z = true) (n0 : Nat) (h0 : Heap) (Z0 : n0 ≤ h0.size) (sy r : Addr) (cz : Int32) (fv : Value) (S : Sta Z h0 "java/lang/String" "COMPACT_STRINGS" "Z" (.int cz)) (ncz : ¬ cz = (0 : Int32)) (Fc : Fld Z h0 sy "java/lang/String" "coder" "B" (.int (0 : Int32))) (E : Exa Z h0 sy "java/lang/String") (Fv : Fld Z h0 sy "java/lang/String" "value" "[B" (.ref r)) (V : AA Z h0 r .byte [.int (80 : Int32), .int (79 : Int32), .int (83 : Int32), .int (84 : Int32)]) (hfv : fv.isRef = true) (Sf : Sta Z h0 "jdk/internal/util/Preconditions" "SIOOBE_FORMATTER" "Ljava/util/function/BiFunction;" fv) :
    Met l Z n0 y9_charAt jdk_42_method_56_code 2 (Option.some Jvm.ClassFile.FieldType.char) ({ frames := 3, cells := 0, slots := 0, locals := 40 } : Room) #[(.ref sy), (.int (2 : Int32))] h0 (fun v h => v = some (.int (83 : Int32)) ∧ h = h0) := by
  refine met_intro (own := c0_String) (plainFor_of_name pn_java_lang_String) rfl Z0 ?_
  intro p e s m below meth c T A hnm
  refine Wp.cast (g' := mkF m 0 #[rv sy, iv 2] []) (by first | (simp [entryFrame, mkF, argsToLocals, Value.category, maxLocals, jv, S2, U0, iv, rv]; done) | rfl) ?_
  refine s_aloadN (pc' := 1) A d9_0 rfl rfl rfl ?_
  refine s_virtual (pc' := 4) (y := y1_isLatin1) (argsL := []) (rest := []) (z := y1_isLatin1) A E (isl1 l Z a0 hw n0 h0 A.size sy cz S ncz Fc) (w62 hw) (w63 hw) (nf_same (C := "") (w65 hw)) (w65 hw) (w64 hw) (w5 hw) (w66 hw) (by decide) pd___Z rfl (W := 0) (by decide) (by decide) (Nat.le_of_eq rfl) (by decide) (by decide) rfl rfl d9_1 rfl fun T h1 v2 A Q3 => ?_
  obtain ⟨rfl, eh⟩ := Q3
  rw [eh] at A
  refine Wp.stk (st' := [(.int (1 : Int32))]) rfl ?_
  refine s_ifN (pc' := 7) A d9_4 rfl (by decide) ?_
  refine s_aloadN (pc' := 8) A d9_7 rfl rfl rfl ?_
  refine s_getfield (pc' := 11) (host := "") A (Or.inl (w49 hw)) Via.refl Fv d9_8 rfl fun T A => ?_
  refine s_iloadN (pc' := 12) A d9_11 rfl rfl ?_
  refine s_static (pc' := 15) (y := y8_charAt) (argsL := [(.ref r), (.int (2 : Int32))]) (rest := []) A (lch1_2 l Z a0 hw n0 h0 A.size r fv hfv Sf V) (w67 hw) (w68 hw) (w69 hw) (w70 hw) (by decide) pd___BI_C rfl (W := 0) (by decide) (by decide) (Nat.le_of_eq rfl) (by decide) (by decide) rfl rfl d9_12 rfl fun T h4 v5 A Q6 => ?_
  obtain ⟨rfl, eh⟩ := Q6
  rw [eh] at A
  refine Wp.stk (st' := [(.int (83 : Int32))]) rfl ?_
  exact r_small A rfl (by simp) (by decide) d9_15 (by decide) (by decide) (⟨rfl, rfl⟩)
set_option maxRecDepth 65536 in
set_option maxHeartbeats 40000000 in
theorem lch1_3 (l : Launch) (Z : State) (a0 : Array Value) (hw : ∀ d ∈ tables_1, d.before a0 Z = true) (n0 : Nat) (h0 : Heap) (Z0 : n0 ≤ h0.size) (r : Addr) (fv : Value) (hfv : fv.isRef = true) (Sf : Sta Z h0 "jdk/internal/util/Preconditions" "SIOOBE_FORMATTER" "Ljava/util/function/BiFunction;" fv) (V : AA Z h0 r .byte [.int (80 : Int32), .int (79 : Int32), .int (83 : Int32), .int (84 : Int32)]) :
    Met l Z n0 y8_charAt jdk_43_method_2_code 2 (Option.some Jvm.ClassFile.FieldType.char) ({ frames := 2, cells := 0, slots := 0, locals := 27 } : Room) #[(.ref r), (.int (3 : Int32))] h0 (fun v h => v = some (.int (84 : Int32)) ∧ h = h0) := by
  refine met_intro (own := c4_StringLatin1) (plainFor_of_name pn_java_lang_StringLatin1) rfl Z0 ?_
  intro p e s m below meth c T A hnm
  refine Wp.cast (g' := mkF m 0 #[rv r, iv 3] []) (by first | (simp [entryFrame, mkF, argsToLocals, Value.category, maxLocals, jv, S2, U0, iv, rv]; done) | rfl) ?_
  refine s_iloadN (pc' := 1) A d11_0 rfl rfl ?_
  refine s_aloadN (pc' := 2) A d11_1 rfl rfl rfl ?_
  refine s_arraylength (pc' := 3) (z := (4 : Int32)) A V (by show _ = ((4 : Nat) : Int); decide) d11_2 rfl ?_
  refine s_static (pc' := 6) (y := y3_checkIndex) (argsL := [(.int (3 : Int32)), (.int (4 : Int32))]) (rest := []) A (schk l Z a0 hw n0 h0 A.size (3 : Int32) (4 : Int32) fv hfv Sf (by decide) (by decide)) (w71 hw) (w72 hw) (w5 hw) (w73 hw) (by decide) pd__II_V rfl (W := 0) (by decide) (by decide) (Nat.le_of_eq rfl) (by decide) (by decide) rfl rfl d11_3 rfl fun T h1 v2 A Q3 => ?_
  obtain ⟨rfl, eh⟩ := Q3
  rw [eh] at A
  refine Wp.stk (st' := []) rfl ?_
  refine s_aloadN (pc' := 7) A d11_6 rfl rfl rfl ?_
  refine s_iloadN (pc' := 8) A d11_7 rfl rfl ?_
  refine s_baload (pc' := 9) (i := 3) (v := (.int (84 : Int32))) A V (by decide) rfl d11_8 rfl ?_
  refine s_sipush (pc' := 12) (z := (255 : Int32)) A d11_9 rfl (by decide) ?_
  refine s_iand (pc' := 13) (z := (84 : Int32)) A d11_12 rfl (by decide) ?_
  refine s_i2c (pc' := 14) (z := (84 : Int32)) A d11_13 rfl (by decide) ?_
  exact r_small A rfl (by simp) (by decide) d11_14 (by decide) (by decide) (⟨rfl, rfl⟩)
set_option maxRecDepth 65536 in
set_option maxHeartbeats 40000000 in
theorem cat1_3 (l : Launch) (Z : State) (a0 : Array Value) (hw : ∀ d ∈ tables_1, d.before a0 Z = true) (n0 : Nat) (h0 : Heap) (Z0 : n0 ≤ h0.size) (sy r : Addr) (cz : Int32) (fv : Value) (S : Sta Z h0 "java/lang/String" "COMPACT_STRINGS" "Z" (.int cz)) (ncz : ¬ cz = (0 : Int32)) (Fc : Fld Z h0 sy "java/lang/String" "coder" "B" (.int (0 : Int32))) (E : Exa Z h0 sy "java/lang/String") (Fv : Fld Z h0 sy "java/lang/String" "value" "[B" (.ref r)) (V : AA Z h0 r .byte [.int (80 : Int32), .int (79 : Int32), .int (83 : Int32), .int (84 : Int32)]) (hfv : fv.isRef = true) (Sf : Sta Z h0 "jdk/internal/util/Preconditions" "SIOOBE_FORMATTER" "Ljava/util/function/BiFunction;" fv) :
    Met l Z n0 y9_charAt jdk_42_method_56_code 2 (Option.some Jvm.ClassFile.FieldType.char) ({ frames := 3, cells := 0, slots := 0, locals := 40 } : Room) #[(.ref sy), (.int (3 : Int32))] h0 (fun v h => v = some (.int (84 : Int32)) ∧ h = h0) := by
  refine met_intro (own := c0_String) (plainFor_of_name pn_java_lang_String) rfl Z0 ?_
  intro p e s m below meth c T A hnm
  refine Wp.cast (g' := mkF m 0 #[rv sy, iv 3] []) (by first | (simp [entryFrame, mkF, argsToLocals, Value.category, maxLocals, jv, S2, U0, iv, rv]; done) | rfl) ?_
  refine s_aloadN (pc' := 1) A d9_0 rfl rfl rfl ?_
  refine s_virtual (pc' := 4) (y := y1_isLatin1) (argsL := []) (rest := []) (z := y1_isLatin1) A E (isl1 l Z a0 hw n0 h0 A.size sy cz S ncz Fc) (w62 hw) (w63 hw) (nf_same (C := "") (w65 hw)) (w65 hw) (w64 hw) (w5 hw) (w66 hw) (by decide) pd___Z rfl (W := 0) (by decide) (by decide) (Nat.le_of_eq rfl) (by decide) (by decide) rfl rfl d9_1 rfl fun T h1 v2 A Q3 => ?_
  obtain ⟨rfl, eh⟩ := Q3
  rw [eh] at A
  refine Wp.stk (st' := [(.int (1 : Int32))]) rfl ?_
  refine s_ifN (pc' := 7) A d9_4 rfl (by decide) ?_
  refine s_aloadN (pc' := 8) A d9_7 rfl rfl rfl ?_
  refine s_getfield (pc' := 11) (host := "") A (Or.inl (w49 hw)) Via.refl Fv d9_8 rfl fun T A => ?_
  refine s_iloadN (pc' := 12) A d9_11 rfl rfl ?_
  refine s_static (pc' := 15) (y := y8_charAt) (argsL := [(.ref r), (.int (3 : Int32))]) (rest := []) A (lch1_3 l Z a0 hw n0 h0 A.size r fv hfv Sf V) (w67 hw) (w68 hw) (w69 hw) (w70 hw) (by decide) pd___BI_C rfl (W := 0) (by decide) (by decide) (Nat.le_of_eq rfl) (by decide) (by decide) rfl rfl d9_12 rfl fun T h4 v5 A Q6 => ?_
  obtain ⟨rfl, eh⟩ := Q6
  rw [eh] at A
  refine Wp.stk (st' := [(.int (84 : Int32))]) rfl ?_
  exact r_small A rfl (by simp) (by decide) d9_15 (by decide) (by decide) (⟨rfl, rfl⟩)
set_option maxRecDepth 65536 in
set_option maxHeartbeats 40000000 in
theorem ioc1 (l : Launch) (Z : State) (a0 : Array Value) (hw : ∀ d ∈ tables_1, d.before a0 Z = true) (n0 : Nat) (h0 : Heap) (Z0 : n0 ≤ h0.size) (sy r : Addr) (cz : Int32) (fv : Value) (S : Sta Z h0 "java/lang/String" "COMPACT_STRINGS" "Z" (.int cz)) (ncz : ¬ cz = (0 : Int32)) (Fc : Fld Z h0 sy "java/lang/String" "coder" "B" (.int (0 : Int32))) (E : Exa Z h0 sy "java/lang/String") (Fv : Fld Z h0 sy "java/lang/String" "value" "[B" (.ref r)) (V : AA Z h0 r .byte [.int (80 : Int32), .int (79 : Int32), .int (83 : Int32), .int (84 : Int32)]) (hfv : fv.isRef = true) (Sf : Sta Z h0 "jdk/internal/util/Preconditions" "SIOOBE_FORMATTER" "Ljava/util/function/BiFunction;" fv) :
    Met l Z n0 y10_indexOfControlCharacter prog_13_method_4_code 2 (Option.some Jvm.ClassFile.FieldType.int) ({ frames := 4, cells := 0, slots := 0, locals := 53 } : Room) #[(.ref sy)] h0 (fun v h => v = some (.int (-1)) ∧ h = h0) := by
  refine met_intro (own := c2_FormRequest) (plainFor_of_name pn_com_example_tailorbird_tailorbird_FormRequest) rfl Z0 ?_
  intro p e s m below meth c T A hnm
  refine Wp.cast (g' := mkF m 0 #[rv sy, U0] []) (by first | (simp [entryFrame, mkF, argsToLocals, Value.category, maxLocals, jv, S2, U0, iv, rv]; done) | rfl) ?_
  refine s_iconst (pc' := 1) (z := (0 : Int32)) A d6_0 rfl (by decide) ?_
  refine s_istoreN (pc' := 2) (Ls' := #[rv sy, iv 0]) A d6_1 rfl rfl ?_
  refine s_iloadN (pc' := 3) A d6_2 rfl rfl ?_
  refine s_aloadN (pc' := 4) A d6_3 rfl rfl rfl ?_
  refine s_virtual (pc' := 7) (y := y7_length) (argsL := []) (rest := [(.int (0 : Int32))]) (z := y7_length) A E (len1 l Z a0 hw n0 h0 A.size sy r cz S ncz Fc E Fv V) (w44 hw) (w45 hw) (nf_same (C := "") (w47 hw)) (w47 hw) (w46 hw) (w5 hw) (w48 hw) (by decide) pd___I rfl (W := 1) (by decide) (by decide) (Nat.le_of_eq rfl) (by decide) (by decide) rfl rfl d6_4 rfl fun T h1 v2 A Q3 => ?_
  obtain ⟨rfl, eh⟩ := Q3
  rw [eh] at A
  refine Wp.stk (st' := [(.int (4 : Int32)), (.int (0 : Int32))]) rfl ?_
  refine s_icmpN (pc' := 10) A d6_7 rfl (by decide) ?_
  refine s_aloadN (pc' := 11) A d6_10 rfl rfl rfl ?_
  refine s_iloadN (pc' := 12) A d6_11 rfl rfl ?_
  refine s_virtual (pc' := 15) (y := y9_charAt) (argsL := [(.int (0 : Int32))]) (rest := []) (z := y9_charAt) A E (cat1_0 l Z a0 hw n0 h0 A.size sy r cz fv S ncz Fc E Fv V hfv Sf) (w57 hw) (w58 hw) (nf_same (C := "") (w60 hw)) (w60 hw) (w59 hw) (w5 hw) (w61 hw) (by decide) pd__I_C rfl (W := 0) (by decide) (by decide) (Nat.le_of_eq rfl) (by decide) (by decide) rfl rfl d6_12 rfl fun T h4 v5 A Q6 => ?_
  obtain ⟨rfl, eh⟩ := Q6
  rw [eh] at A
  refine Wp.stk (st' := [(.int (80 : Int32))]) rfl ?_
  refine s_static (pc' := 18) (y := y4_isControlCharacter) (argsL := [(.int (80 : Int32))]) (rest := []) A (isctl l Z a0 hw n0 h0 A.size (80 : Int32) (by decide) (by decide)) (w79 hw) (w80 hw) (w3 hw) (w81 hw) (by decide) pd__I_Z rfl (W := 0) (by decide) (by decide) (Nat.le_of_eq rfl) (by decide) (by decide) rfl rfl d6_15 rfl fun T h7 v8 A Q9 => ?_
  obtain ⟨rfl, eh⟩ := Q9
  rw [eh] at A
  refine Wp.stk (st' := [(.int (0 : Int32))]) rfl ?_
  refine s_ifY (pc' := 23) A d6_18 (by decide) (by decide) (by decide) ?_
  refine s_iinc (pc' := 26) (z := (1 : Int32)) (Ls' := #[rv sy, iv 1]) A d6_23 rfl rfl (by decide) rfl ?_
  refine s_goto (pc' := 2) A d6_26 (by decide) (by decide) ?_
  refine s_iloadN (pc' := 3) A d6_2 rfl rfl ?_
  refine s_aloadN (pc' := 4) A d6_3 rfl rfl rfl ?_
  refine s_virtual (pc' := 7) (y := y7_length) (argsL := []) (rest := [(.int (1 : Int32))]) (z := y7_length) A E (len1 l Z a0 hw n0 h0 A.size sy r cz S ncz Fc E Fv V) (w44 hw) (w45 hw) (nf_same (C := "") (w47 hw)) (w47 hw) (w46 hw) (w5 hw) (w48 hw) (by decide) pd___I rfl (W := 1) (by decide) (by decide) (Nat.le_of_eq rfl) (by decide) (by decide) rfl rfl d6_4 rfl fun T h10 v11 A Q12 => ?_
  obtain ⟨rfl, eh⟩ := Q12
  rw [eh] at A
  refine Wp.stk (st' := [(.int (4 : Int32)), (.int (1 : Int32))]) rfl ?_
  refine s_icmpN (pc' := 10) A d6_7 rfl (by decide) ?_
  refine s_aloadN (pc' := 11) A d6_10 rfl rfl rfl ?_
  refine s_iloadN (pc' := 12) A d6_11 rfl rfl ?_
  refine s_virtual (pc' := 15) (y := y9_charAt) (argsL := [(.int (1 : Int32))]) (rest := []) (z := y9_charAt) A E (cat1_1 l Z a0 hw n0 h0 A.size sy r cz fv S ncz Fc E Fv V hfv Sf) (w57 hw) (w58 hw) (nf_same (C := "") (w60 hw)) (w60 hw) (w59 hw) (w5 hw) (w61 hw) (by decide) pd__I_C rfl (W := 0) (by decide) (by decide) (Nat.le_of_eq rfl) (by decide) (by decide) rfl rfl d6_12 rfl fun T h13 v14 A Q15 => ?_
  obtain ⟨rfl, eh⟩ := Q15
  rw [eh] at A
  refine Wp.stk (st' := [(.int (79 : Int32))]) rfl ?_
  refine s_static (pc' := 18) (y := y4_isControlCharacter) (argsL := [(.int (79 : Int32))]) (rest := []) A (isctl l Z a0 hw n0 h0 A.size (79 : Int32) (by decide) (by decide)) (w79 hw) (w80 hw) (w3 hw) (w81 hw) (by decide) pd__I_Z rfl (W := 0) (by decide) (by decide) (Nat.le_of_eq rfl) (by decide) (by decide) rfl rfl d6_15 rfl fun T h16 v17 A Q18 => ?_
  obtain ⟨rfl, eh⟩ := Q18
  rw [eh] at A
  refine Wp.stk (st' := [(.int (0 : Int32))]) rfl ?_
  refine s_ifY (pc' := 23) A d6_18 (by decide) (by decide) (by decide) ?_
  refine s_iinc (pc' := 26) (z := (2 : Int32)) (Ls' := #[rv sy, iv 2]) A d6_23 rfl rfl (by decide) rfl ?_
  refine s_goto (pc' := 2) A d6_26 (by decide) (by decide) ?_
  refine s_iloadN (pc' := 3) A d6_2 rfl rfl ?_
  refine s_aloadN (pc' := 4) A d6_3 rfl rfl rfl ?_
  refine s_virtual (pc' := 7) (y := y7_length) (argsL := []) (rest := [(.int (2 : Int32))]) (z := y7_length) A E (len1 l Z a0 hw n0 h0 A.size sy r cz S ncz Fc E Fv V) (w44 hw) (w45 hw) (nf_same (C := "") (w47 hw)) (w47 hw) (w46 hw) (w5 hw) (w48 hw) (by decide) pd___I rfl (W := 1) (by decide) (by decide) (Nat.le_of_eq rfl) (by decide) (by decide) rfl rfl d6_4 rfl fun T h19 v20 A Q21 => ?_
  obtain ⟨rfl, eh⟩ := Q21
  rw [eh] at A
  refine Wp.stk (st' := [(.int (4 : Int32)), (.int (2 : Int32))]) rfl ?_
  refine s_icmpN (pc' := 10) A d6_7 rfl (by decide) ?_
  refine s_aloadN (pc' := 11) A d6_10 rfl rfl rfl ?_
  refine s_iloadN (pc' := 12) A d6_11 rfl rfl ?_
  refine s_virtual (pc' := 15) (y := y9_charAt) (argsL := [(.int (2 : Int32))]) (rest := []) (z := y9_charAt) A E (cat1_2 l Z a0 hw n0 h0 A.size sy r cz fv S ncz Fc E Fv V hfv Sf) (w57 hw) (w58 hw) (nf_same (C := "") (w60 hw)) (w60 hw) (w59 hw) (w5 hw) (w61 hw) (by decide) pd__I_C rfl (W := 0) (by decide) (by decide) (Nat.le_of_eq rfl) (by decide) (by decide) rfl rfl d6_12 rfl fun T h22 v23 A Q24 => ?_
  obtain ⟨rfl, eh⟩ := Q24
  rw [eh] at A
  refine Wp.stk (st' := [(.int (83 : Int32))]) rfl ?_
  refine s_static (pc' := 18) (y := y4_isControlCharacter) (argsL := [(.int (83 : Int32))]) (rest := []) A (isctl l Z a0 hw n0 h0 A.size (83 : Int32) (by decide) (by decide)) (w79 hw) (w80 hw) (w3 hw) (w81 hw) (by decide) pd__I_Z rfl (W := 0) (by decide) (by decide) (Nat.le_of_eq rfl) (by decide) (by decide) rfl rfl d6_15 rfl fun T h25 v26 A Q27 => ?_
  obtain ⟨rfl, eh⟩ := Q27
  rw [eh] at A
  refine Wp.stk (st' := [(.int (0 : Int32))]) rfl ?_
  refine s_ifY (pc' := 23) A d6_18 (by decide) (by decide) (by decide) ?_
  refine s_iinc (pc' := 26) (z := (3 : Int32)) (Ls' := #[rv sy, iv 3]) A d6_23 rfl rfl (by decide) rfl ?_
  refine s_goto (pc' := 2) A d6_26 (by decide) (by decide) ?_
  refine s_iloadN (pc' := 3) A d6_2 rfl rfl ?_
  refine s_aloadN (pc' := 4) A d6_3 rfl rfl rfl ?_
  refine s_virtual (pc' := 7) (y := y7_length) (argsL := []) (rest := [(.int (3 : Int32))]) (z := y7_length) A E (len1 l Z a0 hw n0 h0 A.size sy r cz S ncz Fc E Fv V) (w44 hw) (w45 hw) (nf_same (C := "") (w47 hw)) (w47 hw) (w46 hw) (w5 hw) (w48 hw) (by decide) pd___I rfl (W := 1) (by decide) (by decide) (Nat.le_of_eq rfl) (by decide) (by decide) rfl rfl d6_4 rfl fun T h28 v29 A Q30 => ?_
  obtain ⟨rfl, eh⟩ := Q30
  rw [eh] at A
  refine Wp.stk (st' := [(.int (4 : Int32)), (.int (3 : Int32))]) rfl ?_
  refine s_icmpN (pc' := 10) A d6_7 rfl (by decide) ?_
  refine s_aloadN (pc' := 11) A d6_10 rfl rfl rfl ?_
  refine s_iloadN (pc' := 12) A d6_11 rfl rfl ?_
  refine s_virtual (pc' := 15) (y := y9_charAt) (argsL := [(.int (3 : Int32))]) (rest := []) (z := y9_charAt) A E (cat1_3 l Z a0 hw n0 h0 A.size sy r cz fv S ncz Fc E Fv V hfv Sf) (w57 hw) (w58 hw) (nf_same (C := "") (w60 hw)) (w60 hw) (w59 hw) (w5 hw) (w61 hw) (by decide) pd__I_C rfl (W := 0) (by decide) (by decide) (Nat.le_of_eq rfl) (by decide) (by decide) rfl rfl d6_12 rfl fun T h31 v32 A Q33 => ?_
  obtain ⟨rfl, eh⟩ := Q33
  rw [eh] at A
  refine Wp.stk (st' := [(.int (84 : Int32))]) rfl ?_
  refine s_static (pc' := 18) (y := y4_isControlCharacter) (argsL := [(.int (84 : Int32))]) (rest := []) A (isctl l Z a0 hw n0 h0 A.size (84 : Int32) (by decide) (by decide)) (w79 hw) (w80 hw) (w3 hw) (w81 hw) (by decide) pd__I_Z rfl (W := 0) (by decide) (by decide) (Nat.le_of_eq rfl) (by decide) (by decide) rfl rfl d6_15 rfl fun T h34 v35 A Q36 => ?_
  obtain ⟨rfl, eh⟩ := Q36
  rw [eh] at A
  refine Wp.stk (st' := [(.int (0 : Int32))]) rfl ?_
  refine s_ifY (pc' := 23) A d6_18 (by decide) (by decide) (by decide) ?_
  refine s_iinc (pc' := 26) (z := (4 : Int32)) (Ls' := #[rv sy, iv 4]) A d6_23 rfl rfl (by decide) rfl ?_
  refine s_goto (pc' := 2) A d6_26 (by decide) (by decide) ?_
  refine s_iloadN (pc' := 3) A d6_2 rfl rfl ?_
  refine s_aloadN (pc' := 4) A d6_3 rfl rfl rfl ?_
  refine s_virtual (pc' := 7) (y := y7_length) (argsL := []) (rest := [(.int (4 : Int32))]) (z := y7_length) A E (len1 l Z a0 hw n0 h0 A.size sy r cz S ncz Fc E Fv V) (w44 hw) (w45 hw) (nf_same (C := "") (w47 hw)) (w47 hw) (w46 hw) (w5 hw) (w48 hw) (by decide) pd___I rfl (W := 1) (by decide) (by decide) (Nat.le_of_eq rfl) (by decide) (by decide) rfl rfl d6_4 rfl fun T h37 v38 A Q39 => ?_
  obtain ⟨rfl, eh⟩ := Q39
  rw [eh] at A
  refine Wp.stk (st' := [(.int (4 : Int32)), (.int (4 : Int32))]) rfl ?_
  refine s_icmpY (pc' := 29) A d6_7 (by decide) (by decide) (by decide) ?_
  refine s_iconst (pc' := 30) (z := (-1 : Int32)) A d6_29 rfl (by decide) ?_
  exact r_int A rfl d6_30 (by decide) (by decide) (⟨rfl, rfl⟩)
set_option maxRecDepth 65536 in
set_option maxHeartbeats 40000000 in
theorem rnc1 (l : Launch) (Z : State) (a0 : Array Value) (hw : ∀ d ∈ tables_1, d.before a0 Z = true) (n0 : Nat) (h0 : Heap) (Z0 : n0 ≤ h0.size) (sy r m' : Addr) (cz : Int32) (fv : Value) (S : Sta Z h0 "java/lang/String" "COMPACT_STRINGS" "Z" (.int cz)) (ncz : ¬ cz = (0 : Int32)) (Fc : Fld Z h0 sy "java/lang/String" "coder" "B" (.int (0 : Int32))) (E : Exa Z h0 sy "java/lang/String") (Fv : Fld Z h0 sy "java/lang/String" "value" "[B" (.ref r)) (V : AA Z h0 r .byte [.int (80 : Int32), .int (79 : Int32), .int (83 : Int32), .int (84 : Int32)]) (hfv : fv.isRef = true) (Sf : Sta Z h0 "jdk/internal/util/Preconditions" "SIOOBE_FORMATTER" "Ljava/util/function/BiFunction;" fv) :
    Met l Z n0 y11_requireNoControlCharacter prog_13_method_7_code 3 (Option.some (Jvm.ClassFile.FieldType.object "java/lang/String")) ({ frames := 5, cells := 0, slots := 0, locals := 66 } : Room) #[(.ref sy), (.ref m')] h0 (fun v h => v = some (.ref sy) ∧ h = h0) := by
  refine met_intro (own := c2_FormRequest) (plainFor_of_name pn_com_example_tailorbird_tailorbird_FormRequest) rfl Z0 ?_
  intro p e s m below meth c T A hnm
  refine Wp.cast (g' := mkF m 0 #[rv sy, rv m', U0] []) (by first | (simp [entryFrame, mkF, argsToLocals, Value.category, maxLocals, jv, S2, U0, iv, rv]; done) | rfl) ?_
  refine s_aloadN (pc' := 1) A d5_0 rfl rfl rfl ?_
  refine s_static (pc' := 4) (y := y10_indexOfControlCharacter) (argsL := [(.ref sy)]) (rest := []) A (ioc1 l Z a0 hw n0 h0 A.size sy r cz fv S ncz Fc E Fv V hfv Sf) (w41 hw) (w42 hw) (w3 hw) (w43 hw) (by decide) pd__Ljava_lang_String__I rfl (W := 0) (by decide) (by decide) (Nat.le_of_eq rfl) (by decide) (by decide) rfl rfl d5_1 rfl fun T h1 v2 A Q3 => ?_
  obtain ⟨rfl, eh⟩ := Q3
  rw [eh] at A
  refine Wp.stk (st' := [(.int (-1 : Int32))]) rfl ?_
  refine s_istoreN (pc' := 5) (Ls' := #[rv sy, rv m', iv (-1)]) A d5_4 rfl rfl ?_
  refine s_iloadN (pc' := 6) A d5_5 rfl rfl ?_
  refine s_ifY (pc' := 48) A d5_6 (by decide) (by decide) (by decide) ?_
  refine s_aloadN (pc' := 49) A d5_48 rfl rfl rfl ?_
  exact r_ref A rfl rfl rfl d5_49 (by decide) (by decide) (⟨rfl, rfl⟩)
set_option maxRecDepth 65536 in
set_option maxHeartbeats 40000000 in
theorem len2 (l : Launch) (Z : State) (a0 : Array Value) (hw : ∀ d ∈ tables_1, d.before a0 Z = true) (n0 : Nat) (h0 : Heap) (Z0 : n0 ≤ h0.size) (sy r : Addr) (cz : Int32) (S : Sta Z h0 "java/lang/String" "COMPACT_STRINGS" "Z" (.int cz)) (ncz : ¬ cz = (0 : Int32)) (Fc : Fld Z h0 sy "java/lang/String" "coder" "B" (.int (0 : Int32))) (E : Exa Z h0 sy "java/lang/String") (Fv : Fld Z h0 sy "java/lang/String" "value" "[B" (.ref r)) (V : AA Z h0 r .byte [.int (104 : Int32), .int (116 : Int32), .int (116 : Int32), .int (112 : Int32), .int (58 : Int32), .int (47 : Int32), .int (47 : Int32), .int (104 : Int32), .int (47 : Int32), .int (112 : Int32)]) :
    Met l Z n0 y7_length jdk_42_method_54_code 1 (Option.some Jvm.ClassFile.FieldType.int) ({ frames := 1, cells := 0, slots := 0, locals := 13 } : Room) #[(.ref sy)] h0 (fun v h => v = some (.int (10 : Int32)) ∧ h = h0) := by
  refine met_intro (own := c0_String) (plainFor_of_name pn_java_lang_String) rfl Z0 ?_
  intro p e s m below meth c T A hnm
  refine Wp.cast (g' := mkF m 0 #[rv sy] []) (by first | (simp [entryFrame, mkF, argsToLocals, Value.category, maxLocals, jv, S2, U0, iv, rv]; done) | rfl) ?_
  refine s_aloadN (pc' := 1) A d7_0 rfl rfl rfl ?_
  refine s_getfield (pc' := 4) (host := "") A (Or.inl (w49 hw)) Via.refl Fv d7_1 rfl fun T A => ?_
  refine s_arraylength (pc' := 5) (z := (10 : Int32)) A V (by show _ = ((10 : Nat) : Int); decide) d7_4 rfl ?_
  refine s_aloadN (pc' := 6) A d7_5 rfl rfl rfl ?_
  refine s_virtual (pc' := 9) (y := y0_coder) (argsL := []) (rest := [(.int (10 : Int32))]) (z := y0_coder) A E (coder l Z a0 hw n0 h0 A.size sy cz S ncz Fc) (w50 hw) (w51 hw) (nf_same (C := "") (w53 hw)) (w53 hw) (w52 hw) (w5 hw) (w54 hw) (by decide) pd___B rfl (W := 1) (by decide) (by decide) (Nat.le_of_eq rfl) (by decide) (by decide) rfl rfl d7_6 rfl fun T h1 v2 A Q3 => ?_
  obtain ⟨rfl, eh⟩ := Q3
  rw [eh] at A
  refine Wp.stk (st' := [(.int (0 : Int32)), (.int (10 : Int32))]) rfl ?_
  refine s_ishr (pc' := 10) (z := (10 : Int32)) A d7_9 rfl (by decide) ?_
  exact r_int A rfl d7_10 (by decide) (by decide) (⟨rfl, rfl⟩)
set_option maxRecDepth 65536 in
set_option maxHeartbeats 40000000 in
theorem lch2_0 (l : Launch) (Z : State) (a0 : Array Value) (hw : ∀ d ∈ tables_1, d.before a0 Z = true) (n0 : Nat) (h0 : Heap) (Z0 : n0 ≤ h0.size) (r : Addr) (fv : Value) (hfv : fv.isRef = true) (Sf : Sta Z h0 "jdk/internal/util/Preconditions" "SIOOBE_FORMATTER" "Ljava/util/function/BiFunction;" fv) (V : AA Z h0 r .byte [.int (104 : Int32), .int (116 : Int32), .int (116 : Int32), .int (112 : Int32), .int (58 : Int32), .int (47 : Int32), .int (47 : Int32), .int (104 : Int32), .int (47 : Int32), .int (112 : Int32)]) :
    Met l Z n0 y8_charAt jdk_43_method_2_code 2 (Option.some Jvm.ClassFile.FieldType.char) ({ frames := 2, cells := 0, slots := 0, locals := 27 } : Room) #[(.ref r), (.int (0 : Int32))] h0 (fun v h => v = some (.int (104 : Int32)) ∧ h = h0) := by
  refine met_intro (own := c4_StringLatin1) (plainFor_of_name pn_java_lang_StringLatin1) rfl Z0 ?_
  intro p e s m below meth c T A hnm
  refine Wp.cast (g' := mkF m 0 #[rv r, iv 0] []) (by first | (simp [entryFrame, mkF, argsToLocals, Value.category, maxLocals, jv, S2, U0, iv, rv]; done) | rfl) ?_
  refine s_iloadN (pc' := 1) A d11_0 rfl rfl ?_
  refine s_aloadN (pc' := 2) A d11_1 rfl rfl rfl ?_
  refine s_arraylength (pc' := 3) (z := (10 : Int32)) A V (by show _ = ((10 : Nat) : Int); decide) d11_2 rfl ?_
  refine s_static (pc' := 6) (y := y3_checkIndex) (argsL := [(.int (0 : Int32)), (.int (10 : Int32))]) (rest := []) A (schk l Z a0 hw n0 h0 A.size (0 : Int32) (10 : Int32) fv hfv Sf (by decide) (by decide)) (w71 hw) (w72 hw) (w5 hw) (w73 hw) (by decide) pd__II_V rfl (W := 0) (by decide) (by decide) (Nat.le_of_eq rfl) (by decide) (by decide) rfl rfl d11_3 rfl fun T h1 v2 A Q3 => ?_
  obtain ⟨rfl, eh⟩ := Q3
  rw [eh] at A
  refine Wp.stk (st' := []) rfl ?_
  refine s_aloadN (pc' := 7) A d11_6 rfl rfl rfl ?_
  refine s_iloadN (pc' := 8) A d11_7 rfl rfl ?_
  refine s_baload (pc' := 9) (i := 0) (v := (.int (104 : Int32))) A V (by decide) rfl d11_8 rfl ?_
  refine s_sipush (pc' := 12) (z := (255 : Int32)) A d11_9 rfl (by decide) ?_
  refine s_iand (pc' := 13) (z := (104 : Int32)) A d11_12 rfl (by decide) ?_
  refine s_i2c (pc' := 14) (z := (104 : Int32)) A d11_13 rfl (by decide) ?_
  exact r_small A rfl (by simp) (by decide) d11_14 (by decide) (by decide) (⟨rfl, rfl⟩)
set_option maxRecDepth 65536 in
set_option maxHeartbeats 40000000 in
theorem cat2_0 (l : Launch) (Z : State) (a0 : Array Value) (hw : ∀ d ∈ tables_1, d.before a0 Z = true) (n0 : Nat) (h0 : Heap) (Z0 : n0 ≤ h0.size) (sy r : Addr) (cz : Int32) (fv : Value) (S : Sta Z h0 "java/lang/String" "COMPACT_STRINGS" "Z" (.int cz)) (ncz : ¬ cz = (0 : Int32)) (Fc : Fld Z h0 sy "java/lang/String" "coder" "B" (.int (0 : Int32))) (E : Exa Z h0 sy "java/lang/String") (Fv : Fld Z h0 sy "java/lang/String" "value" "[B" (.ref r)) (V : AA Z h0 r .byte [.int (104 : Int32), .int (116 : Int32), .int (116 : Int32), .int (112 : Int32), .int (58 : Int32), .int (47 : Int32), .int (47 : Int32), .int (104 : Int32), .int (47 : Int32), .int (112 : Int32)]) (hfv : fv.isRef = true) (Sf : Sta Z h0 "jdk/internal/util/Preconditions" "SIOOBE_FORMATTER" "Ljava/util/function/BiFunction;" fv) :
    Met l Z n0 y9_charAt jdk_42_method_56_code 2 (Option.some Jvm.ClassFile.FieldType.char) ({ frames := 3, cells := 0, slots := 0, locals := 40 } : Room) #[(.ref sy), (.int (0 : Int32))] h0 (fun v h => v = some (.int (104 : Int32)) ∧ h = h0) := by
  refine met_intro (own := c0_String) (plainFor_of_name pn_java_lang_String) rfl Z0 ?_
  intro p e s m below meth c T A hnm
  refine Wp.cast (g' := mkF m 0 #[rv sy, iv 0] []) (by first | (simp [entryFrame, mkF, argsToLocals, Value.category, maxLocals, jv, S2, U0, iv, rv]; done) | rfl) ?_
  refine s_aloadN (pc' := 1) A d9_0 rfl rfl rfl ?_
  refine s_virtual (pc' := 4) (y := y1_isLatin1) (argsL := []) (rest := []) (z := y1_isLatin1) A E (isl1 l Z a0 hw n0 h0 A.size sy cz S ncz Fc) (w62 hw) (w63 hw) (nf_same (C := "") (w65 hw)) (w65 hw) (w64 hw) (w5 hw) (w66 hw) (by decide) pd___Z rfl (W := 0) (by decide) (by decide) (Nat.le_of_eq rfl) (by decide) (by decide) rfl rfl d9_1 rfl fun T h1 v2 A Q3 => ?_
  obtain ⟨rfl, eh⟩ := Q3
  rw [eh] at A
  refine Wp.stk (st' := [(.int (1 : Int32))]) rfl ?_
  refine s_ifN (pc' := 7) A d9_4 rfl (by decide) ?_
  refine s_aloadN (pc' := 8) A d9_7 rfl rfl rfl ?_
  refine s_getfield (pc' := 11) (host := "") A (Or.inl (w49 hw)) Via.refl Fv d9_8 rfl fun T A => ?_
  refine s_iloadN (pc' := 12) A d9_11 rfl rfl ?_
  refine s_static (pc' := 15) (y := y8_charAt) (argsL := [(.ref r), (.int (0 : Int32))]) (rest := []) A (lch2_0 l Z a0 hw n0 h0 A.size r fv hfv Sf V) (w67 hw) (w68 hw) (w69 hw) (w70 hw) (by decide) pd___BI_C rfl (W := 0) (by decide) (by decide) (Nat.le_of_eq rfl) (by decide) (by decide) rfl rfl d9_12 rfl fun T h4 v5 A Q6 => ?_
  obtain ⟨rfl, eh⟩ := Q6
  rw [eh] at A
  refine Wp.stk (st' := [(.int (104 : Int32))]) rfl ?_
  exact r_small A rfl (by simp) (by decide) d9_15 (by decide) (by decide) (⟨rfl, rfl⟩)
set_option maxRecDepth 65536 in
set_option maxHeartbeats 40000000 in
theorem lch2_1 (l : Launch) (Z : State) (a0 : Array Value) (hw : ∀ d ∈ tables_1, d.before a0 Z = true) (n0 : Nat) (h0 : Heap) (Z0 : n0 ≤ h0.size) (r : Addr) (fv : Value) (hfv : fv.isRef = true) (Sf : Sta Z h0 "jdk/internal/util/Preconditions" "SIOOBE_FORMATTER" "Ljava/util/function/BiFunction;" fv) (V : AA Z h0 r .byte [.int (104 : Int32), .int (116 : Int32), .int (116 : Int32), .int (112 : Int32), .int (58 : Int32), .int (47 : Int32), .int (47 : Int32), .int (104 : Int32), .int (47 : Int32), .int (112 : Int32)]) :
    Met l Z n0 y8_charAt jdk_43_method_2_code 2 (Option.some Jvm.ClassFile.FieldType.char) ({ frames := 2, cells := 0, slots := 0, locals := 27 } : Room) #[(.ref r), (.int (1 : Int32))] h0 (fun v h => v = some (.int (116 : Int32)) ∧ h = h0) := by
  refine met_intro (own := c4_StringLatin1) (plainFor_of_name pn_java_lang_StringLatin1) rfl Z0 ?_
  intro p e s m below meth c T A hnm
  refine Wp.cast (g' := mkF m 0 #[rv r, iv 1] []) (by first | (simp [entryFrame, mkF, argsToLocals, Value.category, maxLocals, jv, S2, U0, iv, rv]; done) | rfl) ?_
  refine s_iloadN (pc' := 1) A d11_0 rfl rfl ?_
  refine s_aloadN (pc' := 2) A d11_1 rfl rfl rfl ?_
  refine s_arraylength (pc' := 3) (z := (10 : Int32)) A V (by show _ = ((10 : Nat) : Int); decide) d11_2 rfl ?_
  refine s_static (pc' := 6) (y := y3_checkIndex) (argsL := [(.int (1 : Int32)), (.int (10 : Int32))]) (rest := []) A (schk l Z a0 hw n0 h0 A.size (1 : Int32) (10 : Int32) fv hfv Sf (by decide) (by decide)) (w71 hw) (w72 hw) (w5 hw) (w73 hw) (by decide) pd__II_V rfl (W := 0) (by decide) (by decide) (Nat.le_of_eq rfl) (by decide) (by decide) rfl rfl d11_3 rfl fun T h1 v2 A Q3 => ?_
  obtain ⟨rfl, eh⟩ := Q3
  rw [eh] at A
  refine Wp.stk (st' := []) rfl ?_
  refine s_aloadN (pc' := 7) A d11_6 rfl rfl rfl ?_
  refine s_iloadN (pc' := 8) A d11_7 rfl rfl ?_
  refine s_baload (pc' := 9) (i := 1) (v := (.int (116 : Int32))) A V (by decide) rfl d11_8 rfl ?_
  refine s_sipush (pc' := 12) (z := (255 : Int32)) A d11_9 rfl (by decide) ?_
  refine s_iand (pc' := 13) (z := (116 : Int32)) A d11_12 rfl (by decide) ?_
  refine s_i2c (pc' := 14) (z := (116 : Int32)) A d11_13 rfl (by decide) ?_
  exact r_small A rfl (by simp) (by decide) d11_14 (by decide) (by decide) (⟨rfl, rfl⟩)
set_option maxRecDepth 65536 in
set_option maxHeartbeats 40000000 in
theorem cat2_1 (l : Launch) (Z : State) (a0 : Array Value) (hw : ∀ d ∈ tables_1, d.before a0 Z = true) (n0 : Nat) (h0 : Heap) (Z0 : n0 ≤ h0.size) (sy r : Addr) (cz : Int32) (fv : Value) (S : Sta Z h0 "java/lang/String" "COMPACT_STRINGS" "Z" (.int cz)) (ncz : ¬ cz = (0 : Int32)) (Fc : Fld Z h0 sy "java/lang/String" "coder" "B" (.int (0 : Int32))) (E : Exa Z h0 sy "java/lang/String") (Fv : Fld Z h0 sy "java/lang/String" "value" "[B" (.ref r)) (V : AA Z h0 r .byte [.int (104 : Int32), .int (116 : Int32), .int (116 : Int32), .int (112 : Int32), .int (58 : Int32), .int (47 : Int32), .int (47 : Int32), .int (104 : Int32), .int (47 : Int32), .int (112 : Int32)]) (hfv : fv.isRef = true) (Sf : Sta Z h0 "jdk/internal/util/Preconditions" "SIOOBE_FORMATTER" "Ljava/util/function/BiFunction;" fv) :
    Met l Z n0 y9_charAt jdk_42_method_56_code 2 (Option.some Jvm.ClassFile.FieldType.char) ({ frames := 3, cells := 0, slots := 0, locals := 40 } : Room) #[(.ref sy), (.int (1 : Int32))] h0 (fun v h => v = some (.int (116 : Int32)) ∧ h = h0) := by
  refine met_intro (own := c0_String) (plainFor_of_name pn_java_lang_String) rfl Z0 ?_
  intro p e s m below meth c T A hnm
  refine Wp.cast (g' := mkF m 0 #[rv sy, iv 1] []) (by first | (simp [entryFrame, mkF, argsToLocals, Value.category, maxLocals, jv, S2, U0, iv, rv]; done) | rfl) ?_
  refine s_aloadN (pc' := 1) A d9_0 rfl rfl rfl ?_
  refine s_virtual (pc' := 4) (y := y1_isLatin1) (argsL := []) (rest := []) (z := y1_isLatin1) A E (isl1 l Z a0 hw n0 h0 A.size sy cz S ncz Fc) (w62 hw) (w63 hw) (nf_same (C := "") (w65 hw)) (w65 hw) (w64 hw) (w5 hw) (w66 hw) (by decide) pd___Z rfl (W := 0) (by decide) (by decide) (Nat.le_of_eq rfl) (by decide) (by decide) rfl rfl d9_1 rfl fun T h1 v2 A Q3 => ?_
  obtain ⟨rfl, eh⟩ := Q3
  rw [eh] at A
  refine Wp.stk (st' := [(.int (1 : Int32))]) rfl ?_
  refine s_ifN (pc' := 7) A d9_4 rfl (by decide) ?_
  refine s_aloadN (pc' := 8) A d9_7 rfl rfl rfl ?_
  refine s_getfield (pc' := 11) (host := "") A (Or.inl (w49 hw)) Via.refl Fv d9_8 rfl fun T A => ?_
  refine s_iloadN (pc' := 12) A d9_11 rfl rfl ?_
  refine s_static (pc' := 15) (y := y8_charAt) (argsL := [(.ref r), (.int (1 : Int32))]) (rest := []) A (lch2_1 l Z a0 hw n0 h0 A.size r fv hfv Sf V) (w67 hw) (w68 hw) (w69 hw) (w70 hw) (by decide) pd___BI_C rfl (W := 0) (by decide) (by decide) (Nat.le_of_eq rfl) (by decide) (by decide) rfl rfl d9_12 rfl fun T h4 v5 A Q6 => ?_
  obtain ⟨rfl, eh⟩ := Q6
  rw [eh] at A
  refine Wp.stk (st' := [(.int (116 : Int32))]) rfl ?_
  exact r_small A rfl (by simp) (by decide) d9_15 (by decide) (by decide) (⟨rfl, rfl⟩)
set_option maxRecDepth 65536 in
set_option maxHeartbeats 40000000 in
theorem lch2_2 (l : Launch) (Z : State) (a0 : Array Value) (hw : ∀ d ∈ tables_1, d.before a0 Z = true) (n0 : Nat) (h0 : Heap) (Z0 : n0 ≤ h0.size) (r : Addr) (fv : Value) (hfv : fv.isRef = true) (Sf : Sta Z h0 "jdk/internal/util/Preconditions" "SIOOBE_FORMATTER" "Ljava/util/function/BiFunction;" fv) (V : AA Z h0 r .byte [.int (104 : Int32), .int (116 : Int32), .int (116 : Int32), .int (112 : Int32), .int (58 : Int32), .int (47 : Int32), .int (47 : Int32), .int (104 : Int32), .int (47 : Int32), .int (112 : Int32)]) :
    Met l Z n0 y8_charAt jdk_43_method_2_code 2 (Option.some Jvm.ClassFile.FieldType.char) ({ frames := 2, cells := 0, slots := 0, locals := 27 } : Room) #[(.ref r), (.int (2 : Int32))] h0 (fun v h => v = some (.int (116 : Int32)) ∧ h = h0) := by
  refine met_intro (own := c4_StringLatin1) (plainFor_of_name pn_java_lang_StringLatin1) rfl Z0 ?_
  intro p e s m below meth c T A hnm
  refine Wp.cast (g' := mkF m 0 #[rv r, iv 2] []) (by first | (simp [entryFrame, mkF, argsToLocals, Value.category, maxLocals, jv, S2, U0, iv, rv]; done) | rfl) ?_
  refine s_iloadN (pc' := 1) A d11_0 rfl rfl ?_
  refine s_aloadN (pc' := 2) A d11_1 rfl rfl rfl ?_
  refine s_arraylength (pc' := 3) (z := (10 : Int32)) A V (by show _ = ((10 : Nat) : Int); decide) d11_2 rfl ?_
  refine s_static (pc' := 6) (y := y3_checkIndex) (argsL := [(.int (2 : Int32)), (.int (10 : Int32))]) (rest := []) A (schk l Z a0 hw n0 h0 A.size (2 : Int32) (10 : Int32) fv hfv Sf (by decide) (by decide)) (w71 hw) (w72 hw) (w5 hw) (w73 hw) (by decide) pd__II_V rfl (W := 0) (by decide) (by decide) (Nat.le_of_eq rfl) (by decide) (by decide) rfl rfl d11_3 rfl fun T h1 v2 A Q3 => ?_
  obtain ⟨rfl, eh⟩ := Q3
  rw [eh] at A
  refine Wp.stk (st' := []) rfl ?_
  refine s_aloadN (pc' := 7) A d11_6 rfl rfl rfl ?_
  refine s_iloadN (pc' := 8) A d11_7 rfl rfl ?_
  refine s_baload (pc' := 9) (i := 2) (v := (.int (116 : Int32))) A V (by decide) rfl d11_8 rfl ?_
  refine s_sipush (pc' := 12) (z := (255 : Int32)) A d11_9 rfl (by decide) ?_
  refine s_iand (pc' := 13) (z := (116 : Int32)) A d11_12 rfl (by decide) ?_
  refine s_i2c (pc' := 14) (z := (116 : Int32)) A d11_13 rfl (by decide) ?_
  exact r_small A rfl (by simp) (by decide) d11_14 (by decide) (by decide) (⟨rfl, rfl⟩)
set_option maxRecDepth 65536 in
set_option maxHeartbeats 40000000 in
theorem cat2_2 (l : Launch) (Z : State) (a0 : Array Value) (hw : ∀ d ∈ tables_1, d.before a0 Z = true) (n0 : Nat) (h0 : Heap) (Z0 : n0 ≤ h0.size) (sy r : Addr) (cz : Int32) (fv : Value) (S : Sta Z h0 "java/lang/String" "COMPACT_STRINGS" "Z" (.int cz)) (ncz : ¬ cz = (0 : Int32)) (Fc : Fld Z h0 sy "java/lang/String" "coder" "B" (.int (0 : Int32))) (E : Exa Z h0 sy "java/lang/String") (Fv : Fld Z h0 sy "java/lang/String" "value" "[B" (.ref r)) (V : AA Z h0 r .byte [.int (104 : Int32), .int (116 : Int32), .int (116 : Int32), .int (112 : Int32), .int (58 : Int32), .int (47 : Int32), .int (47 : Int32), .int (104 : Int32), .int (47 : Int32), .int (112 : Int32)]) (hfv : fv.isRef = true) (Sf : Sta Z h0 "jdk/internal/util/Preconditions" "SIOOBE_FORMATTER" "Ljava/util/function/BiFunction;" fv) :
    Met l Z n0 y9_charAt jdk_42_method_56_code 2 (Option.some Jvm.ClassFile.FieldType.char) ({ frames := 3, cells := 0, slots := 0, locals := 40 } : Room) #[(.ref sy), (.int (2 : Int32))] h0 (fun v h => v = some (.int (116 : Int32)) ∧ h = h0) := by
  refine met_intro (own := c0_String) (plainFor_of_name pn_java_lang_String) rfl Z0 ?_
  intro p e s m below meth c T A hnm
  refine Wp.cast (g' := mkF m 0 #[rv sy, iv 2] []) (by first | (simp [entryFrame, mkF, argsToLocals, Value.category, maxLocals, jv, S2, U0, iv, rv]; done) | rfl) ?_
  refine s_aloadN (pc' := 1) A d9_0 rfl rfl rfl ?_
  refine s_virtual (pc' := 4) (y := y1_isLatin1) (argsL := []) (rest := []) (z := y1_isLatin1) A E (isl1 l Z a0 hw n0 h0 A.size sy cz S ncz Fc) (w62 hw) (w63 hw) (nf_same (C := "") (w65 hw)) (w65 hw) (w64 hw) (w5 hw) (w66 hw) (by decide) pd___Z rfl (W := 0) (by decide) (by decide) (Nat.le_of_eq rfl) (by decide) (by decide) rfl rfl d9_1 rfl fun T h1 v2 A Q3 => ?_
  obtain ⟨rfl, eh⟩ := Q3
  rw [eh] at A
  refine Wp.stk (st' := [(.int (1 : Int32))]) rfl ?_
  refine s_ifN (pc' := 7) A d9_4 rfl (by decide) ?_
  refine s_aloadN (pc' := 8) A d9_7 rfl rfl rfl ?_
  refine s_getfield (pc' := 11) (host := "") A (Or.inl (w49 hw)) Via.refl Fv d9_8 rfl fun T A => ?_
  refine s_iloadN (pc' := 12) A d9_11 rfl rfl ?_
  refine s_static (pc' := 15) (y := y8_charAt) (argsL := [(.ref r), (.int (2 : Int32))]) (rest := []) A (lch2_2 l Z a0 hw n0 h0 A.size r fv hfv Sf V) (w67 hw) (w68 hw) (w69 hw) (w70 hw) (by decide) pd___BI_C rfl (W := 0) (by decide) (by decide) (Nat.le_of_eq rfl) (by decide) (by decide) rfl rfl d9_12 rfl fun T h4 v5 A Q6 => ?_
  obtain ⟨rfl, eh⟩ := Q6
  rw [eh] at A
  refine Wp.stk (st' := [(.int (116 : Int32))]) rfl ?_
  exact r_small A rfl (by simp) (by decide) d9_15 (by decide) (by decide) (⟨rfl, rfl⟩)
set_option maxRecDepth 65536 in
set_option maxHeartbeats 40000000 in
theorem lch2_3 (l : Launch) (Z : State) (a0 : Array Value) (hw : ∀ d ∈ tables_1, d.before a0 Z = true) (n0 : Nat) (h0 : Heap) (Z0 : n0 ≤ h0.size) (r : Addr) (fv : Value) (hfv : fv.isRef = true) (Sf : Sta Z h0 "jdk/internal/util/Preconditions" "SIOOBE_FORMATTER" "Ljava/util/function/BiFunction;" fv) (V : AA Z h0 r .byte [.int (104 : Int32), .int (116 : Int32), .int (116 : Int32), .int (112 : Int32), .int (58 : Int32), .int (47 : Int32), .int (47 : Int32), .int (104 : Int32), .int (47 : Int32), .int (112 : Int32)]) :
    Met l Z n0 y8_charAt jdk_43_method_2_code 2 (Option.some Jvm.ClassFile.FieldType.char) ({ frames := 2, cells := 0, slots := 0, locals := 27 } : Room) #[(.ref r), (.int (3 : Int32))] h0 (fun v h => v = some (.int (112 : Int32)) ∧ h = h0) := by
  refine met_intro (own := c4_StringLatin1) (plainFor_of_name pn_java_lang_StringLatin1) rfl Z0 ?_
  intro p e s m below meth c T A hnm
  refine Wp.cast (g' := mkF m 0 #[rv r, iv 3] []) (by first | (simp [entryFrame, mkF, argsToLocals, Value.category, maxLocals, jv, S2, U0, iv, rv]; done) | rfl) ?_
  refine s_iloadN (pc' := 1) A d11_0 rfl rfl ?_
  refine s_aloadN (pc' := 2) A d11_1 rfl rfl rfl ?_
  refine s_arraylength (pc' := 3) (z := (10 : Int32)) A V (by show _ = ((10 : Nat) : Int); decide) d11_2 rfl ?_
  refine s_static (pc' := 6) (y := y3_checkIndex) (argsL := [(.int (3 : Int32)), (.int (10 : Int32))]) (rest := []) A (schk l Z a0 hw n0 h0 A.size (3 : Int32) (10 : Int32) fv hfv Sf (by decide) (by decide)) (w71 hw) (w72 hw) (w5 hw) (w73 hw) (by decide) pd__II_V rfl (W := 0) (by decide) (by decide) (Nat.le_of_eq rfl) (by decide) (by decide) rfl rfl d11_3 rfl fun T h1 v2 A Q3 => ?_
  obtain ⟨rfl, eh⟩ := Q3
  rw [eh] at A
  refine Wp.stk (st' := []) rfl ?_
  refine s_aloadN (pc' := 7) A d11_6 rfl rfl rfl ?_
  refine s_iloadN (pc' := 8) A d11_7 rfl rfl ?_
  refine s_baload (pc' := 9) (i := 3) (v := (.int (112 : Int32))) A V (by decide) rfl d11_8 rfl ?_
  refine s_sipush (pc' := 12) (z := (255 : Int32)) A d11_9 rfl (by decide) ?_
  refine s_iand (pc' := 13) (z := (112 : Int32)) A d11_12 rfl (by decide) ?_
  refine s_i2c (pc' := 14) (z := (112 : Int32)) A d11_13 rfl (by decide) ?_
  exact r_small A rfl (by simp) (by decide) d11_14 (by decide) (by decide) (⟨rfl, rfl⟩)
set_option maxRecDepth 65536 in
set_option maxHeartbeats 40000000 in
theorem cat2_3 (l : Launch) (Z : State) (a0 : Array Value) (hw : ∀ d ∈ tables_1, d.before a0 Z = true) (n0 : Nat) (h0 : Heap) (Z0 : n0 ≤ h0.size) (sy r : Addr) (cz : Int32) (fv : Value) (S : Sta Z h0 "java/lang/String" "COMPACT_STRINGS" "Z" (.int cz)) (ncz : ¬ cz = (0 : Int32)) (Fc : Fld Z h0 sy "java/lang/String" "coder" "B" (.int (0 : Int32))) (E : Exa Z h0 sy "java/lang/String") (Fv : Fld Z h0 sy "java/lang/String" "value" "[B" (.ref r)) (V : AA Z h0 r .byte [.int (104 : Int32), .int (116 : Int32), .int (116 : Int32), .int (112 : Int32), .int (58 : Int32), .int (47 : Int32), .int (47 : Int32), .int (104 : Int32), .int (47 : Int32), .int (112 : Int32)]) (hfv : fv.isRef = true) (Sf : Sta Z h0 "jdk/internal/util/Preconditions" "SIOOBE_FORMATTER" "Ljava/util/function/BiFunction;" fv) :
    Met l Z n0 y9_charAt jdk_42_method_56_code 2 (Option.some Jvm.ClassFile.FieldType.char) ({ frames := 3, cells := 0, slots := 0, locals := 40 } : Room) #[(.ref sy), (.int (3 : Int32))] h0 (fun v h => v = some (.int (112 : Int32)) ∧ h = h0) := by
  refine met_intro (own := c0_String) (plainFor_of_name pn_java_lang_String) rfl Z0 ?_
  intro p e s m below meth c T A hnm
  refine Wp.cast (g' := mkF m 0 #[rv sy, iv 3] []) (by first | (simp [entryFrame, mkF, argsToLocals, Value.category, maxLocals, jv, S2, U0, iv, rv]; done) | rfl) ?_
  refine s_aloadN (pc' := 1) A d9_0 rfl rfl rfl ?_
  refine s_virtual (pc' := 4) (y := y1_isLatin1) (argsL := []) (rest := []) (z := y1_isLatin1) A E (isl1 l Z a0 hw n0 h0 A.size sy cz S ncz Fc) (w62 hw) (w63 hw) (nf_same (C := "") (w65 hw)) (w65 hw) (w64 hw) (w5 hw) (w66 hw) (by decide) pd___Z rfl (W := 0) (by decide) (by decide) (Nat.le_of_eq rfl) (by decide) (by decide) rfl rfl d9_1 rfl fun T h1 v2 A Q3 => ?_
  obtain ⟨rfl, eh⟩ := Q3
  rw [eh] at A
  refine Wp.stk (st' := [(.int (1 : Int32))]) rfl ?_
  refine s_ifN (pc' := 7) A d9_4 rfl (by decide) ?_
  refine s_aloadN (pc' := 8) A d9_7 rfl rfl rfl ?_
  refine s_getfield (pc' := 11) (host := "") A (Or.inl (w49 hw)) Via.refl Fv d9_8 rfl fun T A => ?_
  refine s_iloadN (pc' := 12) A d9_11 rfl rfl ?_
  refine s_static (pc' := 15) (y := y8_charAt) (argsL := [(.ref r), (.int (3 : Int32))]) (rest := []) A (lch2_3 l Z a0 hw n0 h0 A.size r fv hfv Sf V) (w67 hw) (w68 hw) (w69 hw) (w70 hw) (by decide) pd___BI_C rfl (W := 0) (by decide) (by decide) (Nat.le_of_eq rfl) (by decide) (by decide) rfl rfl d9_12 rfl fun T h4 v5 A Q6 => ?_
  obtain ⟨rfl, eh⟩ := Q6
  rw [eh] at A
  refine Wp.stk (st' := [(.int (112 : Int32))]) rfl ?_
  exact r_small A rfl (by simp) (by decide) d9_15 (by decide) (by decide) (⟨rfl, rfl⟩)
set_option maxRecDepth 65536 in
set_option maxHeartbeats 40000000 in
theorem lch2_4 (l : Launch) (Z : State) (a0 : Array Value) (hw : ∀ d ∈ tables_1, d.before a0 Z = true) (n0 : Nat) (h0 : Heap) (Z0 : n0 ≤ h0.size) (r : Addr) (fv : Value) (hfv : fv.isRef = true) (Sf : Sta Z h0 "jdk/internal/util/Preconditions" "SIOOBE_FORMATTER" "Ljava/util/function/BiFunction;" fv) (V : AA Z h0 r .byte [.int (104 : Int32), .int (116 : Int32), .int (116 : Int32), .int (112 : Int32), .int (58 : Int32), .int (47 : Int32), .int (47 : Int32), .int (104 : Int32), .int (47 : Int32), .int (112 : Int32)]) :
    Met l Z n0 y8_charAt jdk_43_method_2_code 2 (Option.some Jvm.ClassFile.FieldType.char) ({ frames := 2, cells := 0, slots := 0, locals := 27 } : Room) #[(.ref r), (.int (4 : Int32))] h0 (fun v h => v = some (.int (58 : Int32)) ∧ h = h0) := by
  refine met_intro (own := c4_StringLatin1) (plainFor_of_name pn_java_lang_StringLatin1) rfl Z0 ?_
  intro p e s m below meth c T A hnm
  refine Wp.cast (g' := mkF m 0 #[rv r, iv 4] []) (by first | (simp [entryFrame, mkF, argsToLocals, Value.category, maxLocals, jv, S2, U0, iv, rv]; done) | rfl) ?_
  refine s_iloadN (pc' := 1) A d11_0 rfl rfl ?_
  refine s_aloadN (pc' := 2) A d11_1 rfl rfl rfl ?_
  refine s_arraylength (pc' := 3) (z := (10 : Int32)) A V (by show _ = ((10 : Nat) : Int); decide) d11_2 rfl ?_
  refine s_static (pc' := 6) (y := y3_checkIndex) (argsL := [(.int (4 : Int32)), (.int (10 : Int32))]) (rest := []) A (schk l Z a0 hw n0 h0 A.size (4 : Int32) (10 : Int32) fv hfv Sf (by decide) (by decide)) (w71 hw) (w72 hw) (w5 hw) (w73 hw) (by decide) pd__II_V rfl (W := 0) (by decide) (by decide) (Nat.le_of_eq rfl) (by decide) (by decide) rfl rfl d11_3 rfl fun T h1 v2 A Q3 => ?_
  obtain ⟨rfl, eh⟩ := Q3
  rw [eh] at A
  refine Wp.stk (st' := []) rfl ?_
  refine s_aloadN (pc' := 7) A d11_6 rfl rfl rfl ?_
  refine s_iloadN (pc' := 8) A d11_7 rfl rfl ?_
  refine s_baload (pc' := 9) (i := 4) (v := (.int (58 : Int32))) A V (by decide) rfl d11_8 rfl ?_
  refine s_sipush (pc' := 12) (z := (255 : Int32)) A d11_9 rfl (by decide) ?_
  refine s_iand (pc' := 13) (z := (58 : Int32)) A d11_12 rfl (by decide) ?_
  refine s_i2c (pc' := 14) (z := (58 : Int32)) A d11_13 rfl (by decide) ?_
  exact r_small A rfl (by simp) (by decide) d11_14 (by decide) (by decide) (⟨rfl, rfl⟩)
set_option maxRecDepth 65536 in
set_option maxHeartbeats 40000000 in
theorem cat2_4 (l : Launch) (Z : State) (a0 : Array Value) (hw : ∀ d ∈ tables_1, d.before a0 Z = true) (n0 : Nat) (h0 : Heap) (Z0 : n0 ≤ h0.size) (sy r : Addr) (cz : Int32) (fv : Value) (S : Sta Z h0 "java/lang/String" "COMPACT_STRINGS" "Z" (.int cz)) (ncz : ¬ cz = (0 : Int32)) (Fc : Fld Z h0 sy "java/lang/String" "coder" "B" (.int (0 : Int32))) (E : Exa Z h0 sy "java/lang/String") (Fv : Fld Z h0 sy "java/lang/String" "value" "[B" (.ref r)) (V : AA Z h0 r .byte [.int (104 : Int32), .int (116 : Int32), .int (116 : Int32), .int (112 : Int32), .int (58 : Int32), .int (47 : Int32), .int (47 : Int32), .int (104 : Int32), .int (47 : Int32), .int (112 : Int32)]) (hfv : fv.isRef = true) (Sf : Sta Z h0 "jdk/internal/util/Preconditions" "SIOOBE_FORMATTER" "Ljava/util/function/BiFunction;" fv) :
    Met l Z n0 y9_charAt jdk_42_method_56_code 2 (Option.some Jvm.ClassFile.FieldType.char) ({ frames := 3, cells := 0, slots := 0, locals := 40 } : Room) #[(.ref sy), (.int (4 : Int32))] h0 (fun v h => v = some (.int (58 : Int32)) ∧ h = h0) := by
  refine met_intro (own := c0_String) (plainFor_of_name pn_java_lang_String) rfl Z0 ?_
  intro p e s m below meth c T A hnm
  refine Wp.cast (g' := mkF m 0 #[rv sy, iv 4] []) (by first | (simp [entryFrame, mkF, argsToLocals, Value.category, maxLocals, jv, S2, U0, iv, rv]; done) | rfl) ?_
  refine s_aloadN (pc' := 1) A d9_0 rfl rfl rfl ?_
  refine s_virtual (pc' := 4) (y := y1_isLatin1) (argsL := []) (rest := []) (z := y1_isLatin1) A E (isl1 l Z a0 hw n0 h0 A.size sy cz S ncz Fc) (w62 hw) (w63 hw) (nf_same (C := "") (w65 hw)) (w65 hw) (w64 hw) (w5 hw) (w66 hw) (by decide) pd___Z rfl (W := 0) (by decide) (by decide) (Nat.le_of_eq rfl) (by decide) (by decide) rfl rfl d9_1 rfl fun T h1 v2 A Q3 => ?_
  obtain ⟨rfl, eh⟩ := Q3
  rw [eh] at A
  refine Wp.stk (st' := [(.int (1 : Int32))]) rfl ?_
  refine s_ifN (pc' := 7) A d9_4 rfl (by decide) ?_
  refine s_aloadN (pc' := 8) A d9_7 rfl rfl rfl ?_
  refine s_getfield (pc' := 11) (host := "") A (Or.inl (w49 hw)) Via.refl Fv d9_8 rfl fun T A => ?_
  refine s_iloadN (pc' := 12) A d9_11 rfl rfl ?_
  refine s_static (pc' := 15) (y := y8_charAt) (argsL := [(.ref r), (.int (4 : Int32))]) (rest := []) A (lch2_4 l Z a0 hw n0 h0 A.size r fv hfv Sf V) (w67 hw) (w68 hw) (w69 hw) (w70 hw) (by decide) pd___BI_C rfl (W := 0) (by decide) (by decide) (Nat.le_of_eq rfl) (by decide) (by decide) rfl rfl d9_12 rfl fun T h4 v5 A Q6 => ?_
  obtain ⟨rfl, eh⟩ := Q6
  rw [eh] at A
  refine Wp.stk (st' := [(.int (58 : Int32))]) rfl ?_
  exact r_small A rfl (by simp) (by decide) d9_15 (by decide) (by decide) (⟨rfl, rfl⟩)
set_option maxRecDepth 65536 in
set_option maxHeartbeats 40000000 in
theorem lch2_5 (l : Launch) (Z : State) (a0 : Array Value) (hw : ∀ d ∈ tables_1, d.before a0 Z = true) (n0 : Nat) (h0 : Heap) (Z0 : n0 ≤ h0.size) (r : Addr) (fv : Value) (hfv : fv.isRef = true) (Sf : Sta Z h0 "jdk/internal/util/Preconditions" "SIOOBE_FORMATTER" "Ljava/util/function/BiFunction;" fv) (V : AA Z h0 r .byte [.int (104 : Int32), .int (116 : Int32), .int (116 : Int32), .int (112 : Int32), .int (58 : Int32), .int (47 : Int32), .int (47 : Int32), .int (104 : Int32), .int (47 : Int32), .int (112 : Int32)]) :
    Met l Z n0 y8_charAt jdk_43_method_2_code 2 (Option.some Jvm.ClassFile.FieldType.char) ({ frames := 2, cells := 0, slots := 0, locals := 27 } : Room) #[(.ref r), (.int (5 : Int32))] h0 (fun v h => v = some (.int (47 : Int32)) ∧ h = h0) := by
  refine met_intro (own := c4_StringLatin1) (plainFor_of_name pn_java_lang_StringLatin1) rfl Z0 ?_
  intro p e s m below meth c T A hnm
  refine Wp.cast (g' := mkF m 0 #[rv r, iv 5] []) (by first | (simp [entryFrame, mkF, argsToLocals, Value.category, maxLocals, jv, S2, U0, iv, rv]; done) | rfl) ?_
  refine s_iloadN (pc' := 1) A d11_0 rfl rfl ?_
  refine s_aloadN (pc' := 2) A d11_1 rfl rfl rfl ?_
  refine s_arraylength (pc' := 3) (z := (10 : Int32)) A V (by show _ = ((10 : Nat) : Int); decide) d11_2 rfl ?_
  refine s_static (pc' := 6) (y := y3_checkIndex) (argsL := [(.int (5 : Int32)), (.int (10 : Int32))]) (rest := []) A (schk l Z a0 hw n0 h0 A.size (5 : Int32) (10 : Int32) fv hfv Sf (by decide) (by decide)) (w71 hw) (w72 hw) (w5 hw) (w73 hw) (by decide) pd__II_V rfl (W := 0) (by decide) (by decide) (Nat.le_of_eq rfl) (by decide) (by decide) rfl rfl d11_3 rfl fun T h1 v2 A Q3 => ?_
  obtain ⟨rfl, eh⟩ := Q3
  rw [eh] at A
  refine Wp.stk (st' := []) rfl ?_
  refine s_aloadN (pc' := 7) A d11_6 rfl rfl rfl ?_
  refine s_iloadN (pc' := 8) A d11_7 rfl rfl ?_
  refine s_baload (pc' := 9) (i := 5) (v := (.int (47 : Int32))) A V (by decide) rfl d11_8 rfl ?_
  refine s_sipush (pc' := 12) (z := (255 : Int32)) A d11_9 rfl (by decide) ?_
  refine s_iand (pc' := 13) (z := (47 : Int32)) A d11_12 rfl (by decide) ?_
  refine s_i2c (pc' := 14) (z := (47 : Int32)) A d11_13 rfl (by decide) ?_
  exact r_small A rfl (by simp) (by decide) d11_14 (by decide) (by decide) (⟨rfl, rfl⟩)
set_option maxRecDepth 65536 in
set_option maxHeartbeats 40000000 in
theorem cat2_5 (l : Launch) (Z : State) (a0 : Array Value) (hw : ∀ d ∈ tables_1, d.before a0 Z = true) (n0 : Nat) (h0 : Heap) (Z0 : n0 ≤ h0.size) (sy r : Addr) (cz : Int32) (fv : Value) (S : Sta Z h0 "java/lang/String" "COMPACT_STRINGS" "Z" (.int cz)) (ncz : ¬ cz = (0 : Int32)) (Fc : Fld Z h0 sy "java/lang/String" "coder" "B" (.int (0 : Int32))) (E : Exa Z h0 sy "java/lang/String") (Fv : Fld Z h0 sy "java/lang/String" "value" "[B" (.ref r)) (V : AA Z h0 r .byte [.int (104 : Int32), .int (116 : Int32), .int (116 : Int32), .int (112 : Int32), .int (58 : Int32), .int (47 : Int32), .int (47 : Int32), .int (104 : Int32), .int (47 : Int32), .int (112 : Int32)]) (hfv : fv.isRef = true) (Sf : Sta Z h0 "jdk/internal/util/Preconditions" "SIOOBE_FORMATTER" "Ljava/util/function/BiFunction;" fv) :
    Met l Z n0 y9_charAt jdk_42_method_56_code 2 (Option.some Jvm.ClassFile.FieldType.char) ({ frames := 3, cells := 0, slots := 0, locals := 40 } : Room) #[(.ref sy), (.int (5 : Int32))] h0 (fun v h => v = some (.int (47 : Int32)) ∧ h = h0) := by
  refine met_intro (own := c0_String) (plainFor_of_name pn_java_lang_String) rfl Z0 ?_
  intro p e s m below meth c T A hnm
  refine Wp.cast (g' := mkF m 0 #[rv sy, iv 5] []) (by first | (simp [entryFrame, mkF, argsToLocals, Value.category, maxLocals, jv, S2, U0, iv, rv]; done) | rfl) ?_
  refine s_aloadN (pc' := 1) A d9_0 rfl rfl rfl ?_
  refine s_virtual (pc' := 4) (y := y1_isLatin1) (argsL := []) (rest := []) (z := y1_isLatin1) A E (isl1 l Z a0 hw n0 h0 A.size sy cz S ncz Fc) (w62 hw) (w63 hw) (nf_same (C := "") (w65 hw)) (w65 hw) (w64 hw) (w5 hw) (w66 hw) (by decide) pd___Z rfl (W := 0) (by decide) (by decide) (Nat.le_of_eq rfl) (by decide) (by decide) rfl rfl d9_1 rfl fun T h1 v2 A Q3 => ?_
  obtain ⟨rfl, eh⟩ := Q3
  rw [eh] at A
  refine Wp.stk (st' := [(.int (1 : Int32))]) rfl ?_
  refine s_ifN (pc' := 7) A d9_4 rfl (by decide) ?_
  refine s_aloadN (pc' := 8) A d9_7 rfl rfl rfl ?_
  refine s_getfield (pc' := 11) (host := "") A (Or.inl (w49 hw)) Via.refl Fv d9_8 rfl fun T A => ?_
  refine s_iloadN (pc' := 12) A d9_11 rfl rfl ?_
  refine s_static (pc' := 15) (y := y8_charAt) (argsL := [(.ref r), (.int (5 : Int32))]) (rest := []) A (lch2_5 l Z a0 hw n0 h0 A.size r fv hfv Sf V) (w67 hw) (w68 hw) (w69 hw) (w70 hw) (by decide) pd___BI_C rfl (W := 0) (by decide) (by decide) (Nat.le_of_eq rfl) (by decide) (by decide) rfl rfl d9_12 rfl fun T h4 v5 A Q6 => ?_
  obtain ⟨rfl, eh⟩ := Q6
  rw [eh] at A
  refine Wp.stk (st' := [(.int (47 : Int32))]) rfl ?_
  exact r_small A rfl (by simp) (by decide) d9_15 (by decide) (by decide) (⟨rfl, rfl⟩)
set_option maxRecDepth 65536 in
set_option maxHeartbeats 40000000 in
theorem lch2_6 (l : Launch) (Z : State) (a0 : Array Value) (hw : ∀ d ∈ tables_1, d.before a0 Z = true) (n0 : Nat) (h0 : Heap) (Z0 : n0 ≤ h0.size) (r : Addr) (fv : Value) (hfv : fv.isRef = true) (Sf : Sta Z h0 "jdk/internal/util/Preconditions" "SIOOBE_FORMATTER" "Ljava/util/function/BiFunction;" fv) (V : AA Z h0 r .byte [.int (104 : Int32), .int (116 : Int32), .int (116 : Int32), .int (112 : Int32), .int (58 : Int32), .int (47 : Int32), .int (47 : Int32), .int (104 : Int32), .int (47 : Int32), .int (112 : Int32)]) :
    Met l Z n0 y8_charAt jdk_43_method_2_code 2 (Option.some Jvm.ClassFile.FieldType.char) ({ frames := 2, cells := 0, slots := 0, locals := 27 } : Room) #[(.ref r), (.int (6 : Int32))] h0 (fun v h => v = some (.int (47 : Int32)) ∧ h = h0) := by
  refine met_intro (own := c4_StringLatin1) (plainFor_of_name pn_java_lang_StringLatin1) rfl Z0 ?_
  intro p e s m below meth c T A hnm
  refine Wp.cast (g' := mkF m 0 #[rv r, iv 6] []) (by first | (simp [entryFrame, mkF, argsToLocals, Value.category, maxLocals, jv, S2, U0, iv, rv]; done) | rfl) ?_
  refine s_iloadN (pc' := 1) A d11_0 rfl rfl ?_
  refine s_aloadN (pc' := 2) A d11_1 rfl rfl rfl ?_
  refine s_arraylength (pc' := 3) (z := (10 : Int32)) A V (by show _ = ((10 : Nat) : Int); decide) d11_2 rfl ?_
  refine s_static (pc' := 6) (y := y3_checkIndex) (argsL := [(.int (6 : Int32)), (.int (10 : Int32))]) (rest := []) A (schk l Z a0 hw n0 h0 A.size (6 : Int32) (10 : Int32) fv hfv Sf (by decide) (by decide)) (w71 hw) (w72 hw) (w5 hw) (w73 hw) (by decide) pd__II_V rfl (W := 0) (by decide) (by decide) (Nat.le_of_eq rfl) (by decide) (by decide) rfl rfl d11_3 rfl fun T h1 v2 A Q3 => ?_
  obtain ⟨rfl, eh⟩ := Q3
  rw [eh] at A
  refine Wp.stk (st' := []) rfl ?_
  refine s_aloadN (pc' := 7) A d11_6 rfl rfl rfl ?_
  refine s_iloadN (pc' := 8) A d11_7 rfl rfl ?_
  refine s_baload (pc' := 9) (i := 6) (v := (.int (47 : Int32))) A V (by decide) rfl d11_8 rfl ?_
  refine s_sipush (pc' := 12) (z := (255 : Int32)) A d11_9 rfl (by decide) ?_
  refine s_iand (pc' := 13) (z := (47 : Int32)) A d11_12 rfl (by decide) ?_
  refine s_i2c (pc' := 14) (z := (47 : Int32)) A d11_13 rfl (by decide) ?_
  exact r_small A rfl (by simp) (by decide) d11_14 (by decide) (by decide) (⟨rfl, rfl⟩)
set_option maxRecDepth 65536 in
set_option maxHeartbeats 40000000 in
theorem cat2_6 (l : Launch) (Z : State) (a0 : Array Value) (hw : ∀ d ∈ tables_1, d.before a0 Z = true) (n0 : Nat) (h0 : Heap) (Z0 : n0 ≤ h0.size) (sy r : Addr) (cz : Int32) (fv : Value) (S : Sta Z h0 "java/lang/String" "COMPACT_STRINGS" "Z" (.int cz)) (ncz : ¬ cz = (0 : Int32)) (Fc : Fld Z h0 sy "java/lang/String" "coder" "B" (.int (0 : Int32))) (E : Exa Z h0 sy "java/lang/String") (Fv : Fld Z h0 sy "java/lang/String" "value" "[B" (.ref r)) (V : AA Z h0 r .byte [.int (104 : Int32), .int (116 : Int32), .int (116 : Int32), .int (112 : Int32), .int (58 : Int32), .int (47 : Int32), .int (47 : Int32), .int (104 : Int32), .int (47 : Int32), .int (112 : Int32)]) (hfv : fv.isRef = true) (Sf : Sta Z h0 "jdk/internal/util/Preconditions" "SIOOBE_FORMATTER" "Ljava/util/function/BiFunction;" fv) :
    Met l Z n0 y9_charAt jdk_42_method_56_code 2 (Option.some Jvm.ClassFile.FieldType.char) ({ frames := 3, cells := 0, slots := 0, locals := 40 } : Room) #[(.ref sy), (.int (6 : Int32))] h0 (fun v h => v = some (.int (47 : Int32)) ∧ h = h0) := by
  refine met_intro (own := c0_String) (plainFor_of_name pn_java_lang_String) rfl Z0 ?_
  intro p e s m below meth c T A hnm
  refine Wp.cast (g' := mkF m 0 #[rv sy, iv 6] []) (by first | (simp [entryFrame, mkF, argsToLocals, Value.category, maxLocals, jv, S2, U0, iv, rv]; done) | rfl) ?_
  refine s_aloadN (pc' := 1) A d9_0 rfl rfl rfl ?_
  refine s_virtual (pc' := 4) (y := y1_isLatin1) (argsL := []) (rest := []) (z := y1_isLatin1) A E (isl1 l Z a0 hw n0 h0 A.size sy cz S ncz Fc) (w62 hw) (w63 hw) (nf_same (C := "") (w65 hw)) (w65 hw) (w64 hw) (w5 hw) (w66 hw) (by decide) pd___Z rfl (W := 0) (by decide) (by decide) (Nat.le_of_eq rfl) (by decide) (by decide) rfl rfl d9_1 rfl fun T h1 v2 A Q3 => ?_
  obtain ⟨rfl, eh⟩ := Q3
  rw [eh] at A
  refine Wp.stk (st' := [(.int (1 : Int32))]) rfl ?_
  refine s_ifN (pc' := 7) A d9_4 rfl (by decide) ?_
  refine s_aloadN (pc' := 8) A d9_7 rfl rfl rfl ?_
  refine s_getfield (pc' := 11) (host := "") A (Or.inl (w49 hw)) Via.refl Fv d9_8 rfl fun T A => ?_
  refine s_iloadN (pc' := 12) A d9_11 rfl rfl ?_
  refine s_static (pc' := 15) (y := y8_charAt) (argsL := [(.ref r), (.int (6 : Int32))]) (rest := []) A (lch2_6 l Z a0 hw n0 h0 A.size r fv hfv Sf V) (w67 hw) (w68 hw) (w69 hw) (w70 hw) (by decide) pd___BI_C rfl (W := 0) (by decide) (by decide) (Nat.le_of_eq rfl) (by decide) (by decide) rfl rfl d9_12 rfl fun T h4 v5 A Q6 => ?_
  obtain ⟨rfl, eh⟩ := Q6
  rw [eh] at A
  refine Wp.stk (st' := [(.int (47 : Int32))]) rfl ?_
  exact r_small A rfl (by simp) (by decide) d9_15 (by decide) (by decide) (⟨rfl, rfl⟩)
set_option maxRecDepth 65536 in
set_option maxHeartbeats 40000000 in
theorem lch2_7 (l : Launch) (Z : State) (a0 : Array Value) (hw : ∀ d ∈ tables_1, d.before a0 Z = true) (n0 : Nat) (h0 : Heap) (Z0 : n0 ≤ h0.size) (r : Addr) (fv : Value) (hfv : fv.isRef = true) (Sf : Sta Z h0 "jdk/internal/util/Preconditions" "SIOOBE_FORMATTER" "Ljava/util/function/BiFunction;" fv) (V : AA Z h0 r .byte [.int (104 : Int32), .int (116 : Int32), .int (116 : Int32), .int (112 : Int32), .int (58 : Int32), .int (47 : Int32), .int (47 : Int32), .int (104 : Int32), .int (47 : Int32), .int (112 : Int32)]) :
    Met l Z n0 y8_charAt jdk_43_method_2_code 2 (Option.some Jvm.ClassFile.FieldType.char) ({ frames := 2, cells := 0, slots := 0, locals := 27 } : Room) #[(.ref r), (.int (7 : Int32))] h0 (fun v h => v = some (.int (104 : Int32)) ∧ h = h0) := by
  refine met_intro (own := c4_StringLatin1) (plainFor_of_name pn_java_lang_StringLatin1) rfl Z0 ?_
  intro p e s m below meth c T A hnm
  refine Wp.cast (g' := mkF m 0 #[rv r, iv 7] []) (by first | (simp [entryFrame, mkF, argsToLocals, Value.category, maxLocals, jv, S2, U0, iv, rv]; done) | rfl) ?_
  refine s_iloadN (pc' := 1) A d11_0 rfl rfl ?_
  refine s_aloadN (pc' := 2) A d11_1 rfl rfl rfl ?_
  refine s_arraylength (pc' := 3) (z := (10 : Int32)) A V (by show _ = ((10 : Nat) : Int); decide) d11_2 rfl ?_
  refine s_static (pc' := 6) (y := y3_checkIndex) (argsL := [(.int (7 : Int32)), (.int (10 : Int32))]) (rest := []) A (schk l Z a0 hw n0 h0 A.size (7 : Int32) (10 : Int32) fv hfv Sf (by decide) (by decide)) (w71 hw) (w72 hw) (w5 hw) (w73 hw) (by decide) pd__II_V rfl (W := 0) (by decide) (by decide) (Nat.le_of_eq rfl) (by decide) (by decide) rfl rfl d11_3 rfl fun T h1 v2 A Q3 => ?_
  obtain ⟨rfl, eh⟩ := Q3
  rw [eh] at A
  refine Wp.stk (st' := []) rfl ?_
  refine s_aloadN (pc' := 7) A d11_6 rfl rfl rfl ?_
  refine s_iloadN (pc' := 8) A d11_7 rfl rfl ?_
  refine s_baload (pc' := 9) (i := 7) (v := (.int (104 : Int32))) A V (by decide) rfl d11_8 rfl ?_
  refine s_sipush (pc' := 12) (z := (255 : Int32)) A d11_9 rfl (by decide) ?_
  refine s_iand (pc' := 13) (z := (104 : Int32)) A d11_12 rfl (by decide) ?_
  refine s_i2c (pc' := 14) (z := (104 : Int32)) A d11_13 rfl (by decide) ?_
  exact r_small A rfl (by simp) (by decide) d11_14 (by decide) (by decide) (⟨rfl, rfl⟩)
set_option maxRecDepth 65536 in
set_option maxHeartbeats 40000000 in
theorem cat2_7 (l : Launch) (Z : State) (a0 : Array Value) (hw : ∀ d ∈ tables_1, d.before a0 Z = true) (n0 : Nat) (h0 : Heap) (Z0 : n0 ≤ h0.size) (sy r : Addr) (cz : Int32) (fv : Value) (S : Sta Z h0 "java/lang/String" "COMPACT_STRINGS" "Z" (.int cz)) (ncz : ¬ cz = (0 : Int32)) (Fc : Fld Z h0 sy "java/lang/String" "coder" "B" (.int (0 : Int32))) (E : Exa Z h0 sy "java/lang/String") (Fv : Fld Z h0 sy "java/lang/String" "value" "[B" (.ref r)) (V : AA Z h0 r .byte [.int (104 : Int32), .int (116 : Int32), .int (116 : Int32), .int (112 : Int32), .int (58 : Int32), .int (47 : Int32), .int (47 : Int32), .int (104 : Int32), .int (47 : Int32), .int (112 : Int32)]) (hfv : fv.isRef = true) (Sf : Sta Z h0 "jdk/internal/util/Preconditions" "SIOOBE_FORMATTER" "Ljava/util/function/BiFunction;" fv) :
    Met l Z n0 y9_charAt jdk_42_method_56_code 2 (Option.some Jvm.ClassFile.FieldType.char) ({ frames := 3, cells := 0, slots := 0, locals := 40 } : Room) #[(.ref sy), (.int (7 : Int32))] h0 (fun v h => v = some (.int (104 : Int32)) ∧ h = h0) := by
  refine met_intro (own := c0_String) (plainFor_of_name pn_java_lang_String) rfl Z0 ?_
  intro p e s m below meth c T A hnm
  refine Wp.cast (g' := mkF m 0 #[rv sy, iv 7] []) (by first | (simp [entryFrame, mkF, argsToLocals, Value.category, maxLocals, jv, S2, U0, iv, rv]; done) | rfl) ?_
  refine s_aloadN (pc' := 1) A d9_0 rfl rfl rfl ?_
  refine s_virtual (pc' := 4) (y := y1_isLatin1) (argsL := []) (rest := []) (z := y1_isLatin1) A E (isl1 l Z a0 hw n0 h0 A.size sy cz S ncz Fc) (w62 hw) (w63 hw) (nf_same (C := "") (w65 hw)) (w65 hw) (w64 hw) (w5 hw) (w66 hw) (by decide) pd___Z rfl (W := 0) (by decide) (by decide) (Nat.le_of_eq rfl) (by decide) (by decide) rfl rfl d9_1 rfl fun T h1 v2 A Q3 => ?_
  obtain ⟨rfl, eh⟩ := Q3
  rw [eh] at A
  refine Wp.stk (st' := [(.int (1 : Int32))]) rfl ?_
  refine s_ifN (pc' := 7) A d9_4 rfl (by decide) ?_
  refine s_aloadN (pc' := 8) A d9_7 rfl rfl rfl ?_
  refine s_getfield (pc' := 11) (host := "") A (Or.inl (w49 hw)) Via.refl Fv d9_8 rfl fun T A => ?_
  refine s_iloadN (pc' := 12) A d9_11 rfl rfl ?_
  refine s_static (pc' := 15) (y := y8_charAt) (argsL := [(.ref r), (.int (7 : Int32))]) (rest := []) A (lch2_7 l Z a0 hw n0 h0 A.size r fv hfv Sf V) (w67 hw) (w68 hw) (w69 hw) (w70 hw) (by decide) pd___BI_C rfl (W := 0) (by decide) (by decide) (Nat.le_of_eq rfl) (by decide) (by decide) rfl rfl d9_12 rfl fun T h4 v5 A Q6 => ?_
  obtain ⟨rfl, eh⟩ := Q6
  rw [eh] at A
  refine Wp.stk (st' := [(.int (104 : Int32))]) rfl ?_
  exact r_small A rfl (by simp) (by decide) d9_15 (by decide) (by decide) (⟨rfl, rfl⟩)
set_option maxRecDepth 65536 in
set_option maxHeartbeats 40000000 in
theorem lch2_8 (l : Launch) (Z : State) (a0 : Array Value) (hw : ∀ d ∈ tables_1, d.before a0 Z = true) (n0 : Nat) (h0 : Heap) (Z0 : n0 ≤ h0.size) (r : Addr) (fv : Value) (hfv : fv.isRef = true) (Sf : Sta Z h0 "jdk/internal/util/Preconditions" "SIOOBE_FORMATTER" "Ljava/util/function/BiFunction;" fv) (V : AA Z h0 r .byte [.int (104 : Int32), .int (116 : Int32), .int (116 : Int32), .int (112 : Int32), .int (58 : Int32), .int (47 : Int32), .int (47 : Int32), .int (104 : Int32), .int (47 : Int32), .int (112 : Int32)]) :
    Met l Z n0 y8_charAt jdk_43_method_2_code 2 (Option.some Jvm.ClassFile.FieldType.char) ({ frames := 2, cells := 0, slots := 0, locals := 27 } : Room) #[(.ref r), (.int (8 : Int32))] h0 (fun v h => v = some (.int (47 : Int32)) ∧ h = h0) := by
  refine met_intro (own := c4_StringLatin1) (plainFor_of_name pn_java_lang_StringLatin1) rfl Z0 ?_
  intro p e s m below meth c T A hnm
  refine Wp.cast (g' := mkF m 0 #[rv r, iv 8] []) (by first | (simp [entryFrame, mkF, argsToLocals, Value.category, maxLocals, jv, S2, U0, iv, rv]; done) | rfl) ?_
  refine s_iloadN (pc' := 1) A d11_0 rfl rfl ?_
  refine s_aloadN (pc' := 2) A d11_1 rfl rfl rfl ?_
  refine s_arraylength (pc' := 3) (z := (10 : Int32)) A V (by show _ = ((10 : Nat) : Int); decide) d11_2 rfl ?_
  refine s_static (pc' := 6) (y := y3_checkIndex) (argsL := [(.int (8 : Int32)), (.int (10 : Int32))]) (rest := []) A (schk l Z a0 hw n0 h0 A.size (8 : Int32) (10 : Int32) fv hfv Sf (by decide) (by decide)) (w71 hw) (w72 hw) (w5 hw) (w73 hw) (by decide) pd__II_V rfl (W := 0) (by decide) (by decide) (Nat.le_of_eq rfl) (by decide) (by decide) rfl rfl d11_3 rfl fun T h1 v2 A Q3 => ?_
  obtain ⟨rfl, eh⟩ := Q3
  rw [eh] at A
  refine Wp.stk (st' := []) rfl ?_
  refine s_aloadN (pc' := 7) A d11_6 rfl rfl rfl ?_
  refine s_iloadN (pc' := 8) A d11_7 rfl rfl ?_
  refine s_baload (pc' := 9) (i := 8) (v := (.int (47 : Int32))) A V (by decide) rfl d11_8 rfl ?_
  refine s_sipush (pc' := 12) (z := (255 : Int32)) A d11_9 rfl (by decide) ?_
  refine s_iand (pc' := 13) (z := (47 : Int32)) A d11_12 rfl (by decide) ?_
  refine s_i2c (pc' := 14) (z := (47 : Int32)) A d11_13 rfl (by decide) ?_
  exact r_small A rfl (by simp) (by decide) d11_14 (by decide) (by decide) (⟨rfl, rfl⟩)
set_option maxRecDepth 65536 in
set_option maxHeartbeats 40000000 in
theorem cat2_8 (l : Launch) (Z : State) (a0 : Array Value) (hw : ∀ d ∈ tables_1, d.before a0 Z = true) (n0 : Nat) (h0 : Heap) (Z0 : n0 ≤ h0.size) (sy r : Addr) (cz : Int32) (fv : Value) (S : Sta Z h0 "java/lang/String" "COMPACT_STRINGS" "Z" (.int cz)) (ncz : ¬ cz = (0 : Int32)) (Fc : Fld Z h0 sy "java/lang/String" "coder" "B" (.int (0 : Int32))) (E : Exa Z h0 sy "java/lang/String") (Fv : Fld Z h0 sy "java/lang/String" "value" "[B" (.ref r)) (V : AA Z h0 r .byte [.int (104 : Int32), .int (116 : Int32), .int (116 : Int32), .int (112 : Int32), .int (58 : Int32), .int (47 : Int32), .int (47 : Int32), .int (104 : Int32), .int (47 : Int32), .int (112 : Int32)]) (hfv : fv.isRef = true) (Sf : Sta Z h0 "jdk/internal/util/Preconditions" "SIOOBE_FORMATTER" "Ljava/util/function/BiFunction;" fv) :
    Met l Z n0 y9_charAt jdk_42_method_56_code 2 (Option.some Jvm.ClassFile.FieldType.char) ({ frames := 3, cells := 0, slots := 0, locals := 40 } : Room) #[(.ref sy), (.int (8 : Int32))] h0 (fun v h => v = some (.int (47 : Int32)) ∧ h = h0) := by
  refine met_intro (own := c0_String) (plainFor_of_name pn_java_lang_String) rfl Z0 ?_
  intro p e s m below meth c T A hnm
  refine Wp.cast (g' := mkF m 0 #[rv sy, iv 8] []) (by first | (simp [entryFrame, mkF, argsToLocals, Value.category, maxLocals, jv, S2, U0, iv, rv]; done) | rfl) ?_
  refine s_aloadN (pc' := 1) A d9_0 rfl rfl rfl ?_
  refine s_virtual (pc' := 4) (y := y1_isLatin1) (argsL := []) (rest := []) (z := y1_isLatin1) A E (isl1 l Z a0 hw n0 h0 A.size sy cz S ncz Fc) (w62 hw) (w63 hw) (nf_same (C := "") (w65 hw)) (w65 hw) (w64 hw) (w5 hw) (w66 hw) (by decide) pd___Z rfl (W := 0) (by decide) (by decide) (Nat.le_of_eq rfl) (by decide) (by decide) rfl rfl d9_1 rfl fun T h1 v2 A Q3 => ?_
  obtain ⟨rfl, eh⟩ := Q3
  rw [eh] at A
  refine Wp.stk (st' := [(.int (1 : Int32))]) rfl ?_
  refine s_ifN (pc' := 7) A d9_4 rfl (by decide) ?_
  refine s_aloadN (pc' := 8) A d9_7 rfl rfl rfl ?_
  refine s_getfield (pc' := 11) (host := "") A (Or.inl (w49 hw)) Via.refl Fv d9_8 rfl fun T A => ?_
  refine s_iloadN (pc' := 12) A d9_11 rfl rfl ?_
  refine s_static (pc' := 15) (y := y8_charAt) (argsL := [(.ref r), (.int (8 : Int32))]) (rest := []) A (lch2_8 l Z a0 hw n0 h0 A.size r fv hfv Sf V) (w67 hw) (w68 hw) (w69 hw) (w70 hw) (by decide) pd___BI_C rfl (W := 0) (by decide) (by decide) (Nat.le_of_eq rfl) (by decide) (by decide) rfl rfl d9_12 rfl fun T h4 v5 A Q6 => ?_
  obtain ⟨rfl, eh⟩ := Q6
  rw [eh] at A
  refine Wp.stk (st' := [(.int (47 : Int32))]) rfl ?_
  exact r_small A rfl (by simp) (by decide) d9_15 (by decide) (by decide) (⟨rfl, rfl⟩)
set_option maxRecDepth 65536 in
set_option maxHeartbeats 40000000 in
theorem lch2_9 (l : Launch) (Z : State) (a0 : Array Value) (hw : ∀ d ∈ tables_1, d.before a0 Z = true) (n0 : Nat) (h0 : Heap) (Z0 : n0 ≤ h0.size) (r : Addr) (fv : Value) (hfv : fv.isRef = true) (Sf : Sta Z h0 "jdk/internal/util/Preconditions" "SIOOBE_FORMATTER" "Ljava/util/function/BiFunction;" fv) (V : AA Z h0 r .byte [.int (104 : Int32), .int (116 : Int32), .int (116 : Int32), .int (112 : Int32), .int (58 : Int32), .int (47 : Int32), .int (47 : Int32), .int (104 : Int32), .int (47 : Int32), .int (112 : Int32)]) :
    Met l Z n0 y8_charAt jdk_43_method_2_code 2 (Option.some Jvm.ClassFile.FieldType.char) ({ frames := 2, cells := 0, slots := 0, locals := 27 } : Room) #[(.ref r), (.int (9 : Int32))] h0 (fun v h => v = some (.int (112 : Int32)) ∧ h = h0) := by
  refine met_intro (own := c4_StringLatin1) (plainFor_of_name pn_java_lang_StringLatin1) rfl Z0 ?_
  intro p e s m below meth c T A hnm
  refine Wp.cast (g' := mkF m 0 #[rv r, iv 9] []) (by first | (simp [entryFrame, mkF, argsToLocals, Value.category, maxLocals, jv, S2, U0, iv, rv]; done) | rfl) ?_
  refine s_iloadN (pc' := 1) A d11_0 rfl rfl ?_
  refine s_aloadN (pc' := 2) A d11_1 rfl rfl rfl ?_
  refine s_arraylength (pc' := 3) (z := (10 : Int32)) A V (by show _ = ((10 : Nat) : Int); decide) d11_2 rfl ?_
  refine s_static (pc' := 6) (y := y3_checkIndex) (argsL := [(.int (9 : Int32)), (.int (10 : Int32))]) (rest := []) A (schk l Z a0 hw n0 h0 A.size (9 : Int32) (10 : Int32) fv hfv Sf (by decide) (by decide)) (w71 hw) (w72 hw) (w5 hw) (w73 hw) (by decide) pd__II_V rfl (W := 0) (by decide) (by decide) (Nat.le_of_eq rfl) (by decide) (by decide) rfl rfl d11_3 rfl fun T h1 v2 A Q3 => ?_
  obtain ⟨rfl, eh⟩ := Q3
  rw [eh] at A
  refine Wp.stk (st' := []) rfl ?_
  refine s_aloadN (pc' := 7) A d11_6 rfl rfl rfl ?_
  refine s_iloadN (pc' := 8) A d11_7 rfl rfl ?_
  refine s_baload (pc' := 9) (i := 9) (v := (.int (112 : Int32))) A V (by decide) rfl d11_8 rfl ?_
  refine s_sipush (pc' := 12) (z := (255 : Int32)) A d11_9 rfl (by decide) ?_
  refine s_iand (pc' := 13) (z := (112 : Int32)) A d11_12 rfl (by decide) ?_
  refine s_i2c (pc' := 14) (z := (112 : Int32)) A d11_13 rfl (by decide) ?_
  exact r_small A rfl (by simp) (by decide) d11_14 (by decide) (by decide) (⟨rfl, rfl⟩)
set_option maxRecDepth 65536 in
set_option maxHeartbeats 40000000 in
theorem cat2_9 (l : Launch) (Z : State) (a0 : Array Value) (hw : ∀ d ∈ tables_1, d.before a0 Z = true) (n0 : Nat) (h0 : Heap) (Z0 : n0 ≤ h0.size) (sy r : Addr) (cz : Int32) (fv : Value) (S : Sta Z h0 "java/lang/String" "COMPACT_STRINGS" "Z" (.int cz)) (ncz : ¬ cz = (0 : Int32)) (Fc : Fld Z h0 sy "java/lang/String" "coder" "B" (.int (0 : Int32))) (E : Exa Z h0 sy "java/lang/String") (Fv : Fld Z h0 sy "java/lang/String" "value" "[B" (.ref r)) (V : AA Z h0 r .byte [.int (104 : Int32), .int (116 : Int32), .int (116 : Int32), .int (112 : Int32), .int (58 : Int32), .int (47 : Int32), .int (47 : Int32), .int (104 : Int32), .int (47 : Int32), .int (112 : Int32)]) (hfv : fv.isRef = true) (Sf : Sta Z h0 "jdk/internal/util/Preconditions" "SIOOBE_FORMATTER" "Ljava/util/function/BiFunction;" fv) :
    Met l Z n0 y9_charAt jdk_42_method_56_code 2 (Option.some Jvm.ClassFile.FieldType.char) ({ frames := 3, cells := 0, slots := 0, locals := 40 } : Room) #[(.ref sy), (.int (9 : Int32))] h0 (fun v h => v = some (.int (112 : Int32)) ∧ h = h0) := by
  refine met_intro (own := c0_String) (plainFor_of_name pn_java_lang_String) rfl Z0 ?_
  intro p e s m below meth c T A hnm
  refine Wp.cast (g' := mkF m 0 #[rv sy, iv 9] []) (by first | (simp [entryFrame, mkF, argsToLocals, Value.category, maxLocals, jv, S2, U0, iv, rv]; done) | rfl) ?_
  refine s_aloadN (pc' := 1) A d9_0 rfl rfl rfl ?_
  refine s_virtual (pc' := 4) (y := y1_isLatin1) (argsL := []) (rest := []) (z := y1_isLatin1) A E (isl1 l Z a0 hw n0 h0 A.size sy cz S ncz Fc) (w62 hw) (w63 hw) (nf_same (C := "") (w65 hw)) (w65 hw) (w64 hw) (w5 hw) (w66 hw) (by decide) pd___Z rfl (W := 0) (by decide) (by decide) (Nat.le_of_eq rfl) (by decide) (by decide) rfl rfl d9_1 rfl fun T h1 v2 A Q3 => ?_
  obtain ⟨rfl, eh⟩ := Q3
  rw [eh] at A
  refine Wp.stk (st' := [(.int (1 : Int32))]) rfl ?_
  refine s_ifN (pc' := 7) A d9_4 rfl (by decide) ?_
  refine s_aloadN (pc' := 8) A d9_7 rfl rfl rfl ?_
  refine s_getfield (pc' := 11) (host := "") A (Or.inl (w49 hw)) Via.refl Fv d9_8 rfl fun T A => ?_
  refine s_iloadN (pc' := 12) A d9_11 rfl rfl ?_
  refine s_static (pc' := 15) (y := y8_charAt) (argsL := [(.ref r), (.int (9 : Int32))]) (rest := []) A (lch2_9 l Z a0 hw n0 h0 A.size r fv hfv Sf V) (w67 hw) (w68 hw) (w69 hw) (w70 hw) (by decide) pd___BI_C rfl (W := 0) (by decide) (by decide) (Nat.le_of_eq rfl) (by decide) (by decide) rfl rfl d9_12 rfl fun T h4 v5 A Q6 => ?_
  obtain ⟨rfl, eh⟩ := Q6
  rw [eh] at A
  refine Wp.stk (st' := [(.int (112 : Int32))]) rfl ?_
  exact r_small A rfl (by simp) (by decide) d9_15 (by decide) (by decide) (⟨rfl, rfl⟩)
set_option maxRecDepth 65536 in
set_option maxHeartbeats 40000000 in
theorem ioc2 (l : Launch) (Z : State) (a0 : Array Value) (hw : ∀ d ∈ tables_1, d.before a0 Z = true) (n0 : Nat) (h0 : Heap) (Z0 : n0 ≤ h0.size) (sy r : Addr) (cz : Int32) (fv : Value) (S : Sta Z h0 "java/lang/String" "COMPACT_STRINGS" "Z" (.int cz)) (ncz : ¬ cz = (0 : Int32)) (Fc : Fld Z h0 sy "java/lang/String" "coder" "B" (.int (0 : Int32))) (E : Exa Z h0 sy "java/lang/String") (Fv : Fld Z h0 sy "java/lang/String" "value" "[B" (.ref r)) (V : AA Z h0 r .byte [.int (104 : Int32), .int (116 : Int32), .int (116 : Int32), .int (112 : Int32), .int (58 : Int32), .int (47 : Int32), .int (47 : Int32), .int (104 : Int32), .int (47 : Int32), .int (112 : Int32)]) (hfv : fv.isRef = true) (Sf : Sta Z h0 "jdk/internal/util/Preconditions" "SIOOBE_FORMATTER" "Ljava/util/function/BiFunction;" fv) :
    Met l Z n0 y10_indexOfControlCharacter prog_13_method_4_code 2 (Option.some Jvm.ClassFile.FieldType.int) ({ frames := 4, cells := 0, slots := 0, locals := 53 } : Room) #[(.ref sy)] h0 (fun v h => v = some (.int (-1)) ∧ h = h0) := by
  refine met_intro (own := c2_FormRequest) (plainFor_of_name pn_com_example_tailorbird_tailorbird_FormRequest) rfl Z0 ?_
  intro p e s m below meth c T A hnm
  refine Wp.cast (g' := mkF m 0 #[rv sy, U0] []) (by first | (simp [entryFrame, mkF, argsToLocals, Value.category, maxLocals, jv, S2, U0, iv, rv]; done) | rfl) ?_
  refine s_iconst (pc' := 1) (z := (0 : Int32)) A d6_0 rfl (by decide) ?_
  refine s_istoreN (pc' := 2) (Ls' := #[rv sy, iv 0]) A d6_1 rfl rfl ?_
  refine s_iloadN (pc' := 3) A d6_2 rfl rfl ?_
  refine s_aloadN (pc' := 4) A d6_3 rfl rfl rfl ?_
  refine s_virtual (pc' := 7) (y := y7_length) (argsL := []) (rest := [(.int (0 : Int32))]) (z := y7_length) A E (len2 l Z a0 hw n0 h0 A.size sy r cz S ncz Fc E Fv V) (w44 hw) (w45 hw) (nf_same (C := "") (w47 hw)) (w47 hw) (w46 hw) (w5 hw) (w48 hw) (by decide) pd___I rfl (W := 1) (by decide) (by decide) (Nat.le_of_eq rfl) (by decide) (by decide) rfl rfl d6_4 rfl fun T h1 v2 A Q3 => ?_
  obtain ⟨rfl, eh⟩ := Q3
  rw [eh] at A
  refine Wp.stk (st' := [(.int (10 : Int32)), (.int (0 : Int32))]) rfl ?_
  refine s_icmpN (pc' := 10) A d6_7 rfl (by decide) ?_
  refine s_aloadN (pc' := 11) A d6_10 rfl rfl rfl ?_
  refine s_iloadN (pc' := 12) A d6_11 rfl rfl ?_
  refine s_virtual (pc' := 15) (y := y9_charAt) (argsL := [(.int (0 : Int32))]) (rest := []) (z := y9_charAt) A E (cat2_0 l Z a0 hw n0 h0 A.size sy r cz fv S ncz Fc E Fv V hfv Sf) (w57 hw) (w58 hw) (nf_same (C := "") (w60 hw)) (w60 hw) (w59 hw) (w5 hw) (w61 hw) (by decide) pd__I_C rfl (W := 0) (by decide) (by decide) (Nat.le_of_eq rfl) (by decide) (by decide) rfl rfl d6_12 rfl fun T h4 v5 A Q6 => ?_
  obtain ⟨rfl, eh⟩ := Q6
  rw [eh] at A
  refine Wp.stk (st' := [(.int (104 : Int32))]) rfl ?_
  refine s_static (pc' := 18) (y := y4_isControlCharacter) (argsL := [(.int (104 : Int32))]) (rest := []) A (isctl l Z a0 hw n0 h0 A.size (104 : Int32) (by decide) (by decide)) (w79 hw) (w80 hw) (w3 hw) (w81 hw) (by decide) pd__I_Z rfl (W := 0) (by decide) (by decide) (Nat.le_of_eq rfl) (by decide) (by decide) rfl rfl d6_15 rfl fun T h7 v8 A Q9 => ?_
  obtain ⟨rfl, eh⟩ := Q9
  rw [eh] at A
  refine Wp.stk (st' := [(.int (0 : Int32))]) rfl ?_
  refine s_ifY (pc' := 23) A d6_18 (by decide) (by decide) (by decide) ?_
  refine s_iinc (pc' := 26) (z := (1 : Int32)) (Ls' := #[rv sy, iv 1]) A d6_23 rfl rfl (by decide) rfl ?_
  refine s_goto (pc' := 2) A d6_26 (by decide) (by decide) ?_
  refine s_iloadN (pc' := 3) A d6_2 rfl rfl ?_
  refine s_aloadN (pc' := 4) A d6_3 rfl rfl rfl ?_
  refine s_virtual (pc' := 7) (y := y7_length) (argsL := []) (rest := [(.int (1 : Int32))]) (z := y7_length) A E (len2 l Z a0 hw n0 h0 A.size sy r cz S ncz Fc E Fv V) (w44 hw) (w45 hw) (nf_same (C := "") (w47 hw)) (w47 hw) (w46 hw) (w5 hw) (w48 hw) (by decide) pd___I rfl (W := 1) (by decide) (by decide) (Nat.le_of_eq rfl) (by decide) (by decide) rfl rfl d6_4 rfl fun T h10 v11 A Q12 => ?_
  obtain ⟨rfl, eh⟩ := Q12
  rw [eh] at A
  refine Wp.stk (st' := [(.int (10 : Int32)), (.int (1 : Int32))]) rfl ?_
  refine s_icmpN (pc' := 10) A d6_7 rfl (by decide) ?_
  refine s_aloadN (pc' := 11) A d6_10 rfl rfl rfl ?_
  refine s_iloadN (pc' := 12) A d6_11 rfl rfl ?_
  refine s_virtual (pc' := 15) (y := y9_charAt) (argsL := [(.int (1 : Int32))]) (rest := []) (z := y9_charAt) A E (cat2_1 l Z a0 hw n0 h0 A.size sy r cz fv S ncz Fc E Fv V hfv Sf) (w57 hw) (w58 hw) (nf_same (C := "") (w60 hw)) (w60 hw) (w59 hw) (w5 hw) (w61 hw) (by decide) pd__I_C rfl (W := 0) (by decide) (by decide) (Nat.le_of_eq rfl) (by decide) (by decide) rfl rfl d6_12 rfl fun T h13 v14 A Q15 => ?_
  obtain ⟨rfl, eh⟩ := Q15
  rw [eh] at A
  refine Wp.stk (st' := [(.int (116 : Int32))]) rfl ?_
  refine s_static (pc' := 18) (y := y4_isControlCharacter) (argsL := [(.int (116 : Int32))]) (rest := []) A (isctl l Z a0 hw n0 h0 A.size (116 : Int32) (by decide) (by decide)) (w79 hw) (w80 hw) (w3 hw) (w81 hw) (by decide) pd__I_Z rfl (W := 0) (by decide) (by decide) (Nat.le_of_eq rfl) (by decide) (by decide) rfl rfl d6_15 rfl fun T h16 v17 A Q18 => ?_
  obtain ⟨rfl, eh⟩ := Q18
  rw [eh] at A
  refine Wp.stk (st' := [(.int (0 : Int32))]) rfl ?_
  refine s_ifY (pc' := 23) A d6_18 (by decide) (by decide) (by decide) ?_
  refine s_iinc (pc' := 26) (z := (2 : Int32)) (Ls' := #[rv sy, iv 2]) A d6_23 rfl rfl (by decide) rfl ?_
  refine s_goto (pc' := 2) A d6_26 (by decide) (by decide) ?_
  refine s_iloadN (pc' := 3) A d6_2 rfl rfl ?_
  refine s_aloadN (pc' := 4) A d6_3 rfl rfl rfl ?_
  refine s_virtual (pc' := 7) (y := y7_length) (argsL := []) (rest := [(.int (2 : Int32))]) (z := y7_length) A E (len2 l Z a0 hw n0 h0 A.size sy r cz S ncz Fc E Fv V) (w44 hw) (w45 hw) (nf_same (C := "") (w47 hw)) (w47 hw) (w46 hw) (w5 hw) (w48 hw) (by decide) pd___I rfl (W := 1) (by decide) (by decide) (Nat.le_of_eq rfl) (by decide) (by decide) rfl rfl d6_4 rfl fun T h19 v20 A Q21 => ?_
  obtain ⟨rfl, eh⟩ := Q21
  rw [eh] at A
  refine Wp.stk (st' := [(.int (10 : Int32)), (.int (2 : Int32))]) rfl ?_
  refine s_icmpN (pc' := 10) A d6_7 rfl (by decide) ?_
  refine s_aloadN (pc' := 11) A d6_10 rfl rfl rfl ?_
  refine s_iloadN (pc' := 12) A d6_11 rfl rfl ?_
  refine s_virtual (pc' := 15) (y := y9_charAt) (argsL := [(.int (2 : Int32))]) (rest := []) (z := y9_charAt) A E (cat2_2 l Z a0 hw n0 h0 A.size sy r cz fv S ncz Fc E Fv V hfv Sf) (w57 hw) (w58 hw) (nf_same (C := "") (w60 hw)) (w60 hw) (w59 hw) (w5 hw) (w61 hw) (by decide) pd__I_C rfl (W := 0) (by decide) (by decide) (Nat.le_of_eq rfl) (by decide) (by decide) rfl rfl d6_12 rfl fun T h22 v23 A Q24 => ?_
  obtain ⟨rfl, eh⟩ := Q24
  rw [eh] at A
  refine Wp.stk (st' := [(.int (116 : Int32))]) rfl ?_
  refine s_static (pc' := 18) (y := y4_isControlCharacter) (argsL := [(.int (116 : Int32))]) (rest := []) A (isctl l Z a0 hw n0 h0 A.size (116 : Int32) (by decide) (by decide)) (w79 hw) (w80 hw) (w3 hw) (w81 hw) (by decide) pd__I_Z rfl (W := 0) (by decide) (by decide) (Nat.le_of_eq rfl) (by decide) (by decide) rfl rfl d6_15 rfl fun T h25 v26 A Q27 => ?_
  obtain ⟨rfl, eh⟩ := Q27
  rw [eh] at A
  refine Wp.stk (st' := [(.int (0 : Int32))]) rfl ?_
  refine s_ifY (pc' := 23) A d6_18 (by decide) (by decide) (by decide) ?_
  refine s_iinc (pc' := 26) (z := (3 : Int32)) (Ls' := #[rv sy, iv 3]) A d6_23 rfl rfl (by decide) rfl ?_
  refine s_goto (pc' := 2) A d6_26 (by decide) (by decide) ?_
  refine s_iloadN (pc' := 3) A d6_2 rfl rfl ?_
  refine s_aloadN (pc' := 4) A d6_3 rfl rfl rfl ?_
  refine s_virtual (pc' := 7) (y := y7_length) (argsL := []) (rest := [(.int (3 : Int32))]) (z := y7_length) A E (len2 l Z a0 hw n0 h0 A.size sy r cz S ncz Fc E Fv V) (w44 hw) (w45 hw) (nf_same (C := "") (w47 hw)) (w47 hw) (w46 hw) (w5 hw) (w48 hw) (by decide) pd___I rfl (W := 1) (by decide) (by decide) (Nat.le_of_eq rfl) (by decide) (by decide) rfl rfl d6_4 rfl fun T h28 v29 A Q30 => ?_
  obtain ⟨rfl, eh⟩ := Q30
  rw [eh] at A
  refine Wp.stk (st' := [(.int (10 : Int32)), (.int (3 : Int32))]) rfl ?_
  refine s_icmpN (pc' := 10) A d6_7 rfl (by decide) ?_
  refine s_aloadN (pc' := 11) A d6_10 rfl rfl rfl ?_
  refine s_iloadN (pc' := 12) A d6_11 rfl rfl ?_
  refine s_virtual (pc' := 15) (y := y9_charAt) (argsL := [(.int (3 : Int32))]) (rest := []) (z := y9_charAt) A E (cat2_3 l Z a0 hw n0 h0 A.size sy r cz fv S ncz Fc E Fv V hfv Sf) (w57 hw) (w58 hw) (nf_same (C := "") (w60 hw)) (w60 hw) (w59 hw) (w5 hw) (w61 hw) (by decide) pd__I_C rfl (W := 0) (by decide) (by decide) (Nat.le_of_eq rfl) (by decide) (by decide) rfl rfl d6_12 rfl fun T h31 v32 A Q33 => ?_
  obtain ⟨rfl, eh⟩ := Q33
  rw [eh] at A
  refine Wp.stk (st' := [(.int (112 : Int32))]) rfl ?_
  refine s_static (pc' := 18) (y := y4_isControlCharacter) (argsL := [(.int (112 : Int32))]) (rest := []) A (isctl l Z a0 hw n0 h0 A.size (112 : Int32) (by decide) (by decide)) (w79 hw) (w80 hw) (w3 hw) (w81 hw) (by decide) pd__I_Z rfl (W := 0) (by decide) (by decide) (Nat.le_of_eq rfl) (by decide) (by decide) rfl rfl d6_15 rfl fun T h34 v35 A Q36 => ?_
  obtain ⟨rfl, eh⟩ := Q36
  rw [eh] at A
  refine Wp.stk (st' := [(.int (0 : Int32))]) rfl ?_
  refine s_ifY (pc' := 23) A d6_18 (by decide) (by decide) (by decide) ?_
  refine s_iinc (pc' := 26) (z := (4 : Int32)) (Ls' := #[rv sy, iv 4]) A d6_23 rfl rfl (by decide) rfl ?_
  refine s_goto (pc' := 2) A d6_26 (by decide) (by decide) ?_
  refine s_iloadN (pc' := 3) A d6_2 rfl rfl ?_
  refine s_aloadN (pc' := 4) A d6_3 rfl rfl rfl ?_
  refine s_virtual (pc' := 7) (y := y7_length) (argsL := []) (rest := [(.int (4 : Int32))]) (z := y7_length) A E (len2 l Z a0 hw n0 h0 A.size sy r cz S ncz Fc E Fv V) (w44 hw) (w45 hw) (nf_same (C := "") (w47 hw)) (w47 hw) (w46 hw) (w5 hw) (w48 hw) (by decide) pd___I rfl (W := 1) (by decide) (by decide) (Nat.le_of_eq rfl) (by decide) (by decide) rfl rfl d6_4 rfl fun T h37 v38 A Q39 => ?_
  obtain ⟨rfl, eh⟩ := Q39
  rw [eh] at A
  refine Wp.stk (st' := [(.int (10 : Int32)), (.int (4 : Int32))]) rfl ?_
  refine s_icmpN (pc' := 10) A d6_7 rfl (by decide) ?_
  refine s_aloadN (pc' := 11) A d6_10 rfl rfl rfl ?_
  refine s_iloadN (pc' := 12) A d6_11 rfl rfl ?_
  refine s_virtual (pc' := 15) (y := y9_charAt) (argsL := [(.int (4 : Int32))]) (rest := []) (z := y9_charAt) A E (cat2_4 l Z a0 hw n0 h0 A.size sy r cz fv S ncz Fc E Fv V hfv Sf) (w57 hw) (w58 hw) (nf_same (C := "") (w60 hw)) (w60 hw) (w59 hw) (w5 hw) (w61 hw) (by decide) pd__I_C rfl (W := 0) (by decide) (by decide) (Nat.le_of_eq rfl) (by decide) (by decide) rfl rfl d6_12 rfl fun T h40 v41 A Q42 => ?_
  obtain ⟨rfl, eh⟩ := Q42
  rw [eh] at A
  refine Wp.stk (st' := [(.int (58 : Int32))]) rfl ?_
  refine s_static (pc' := 18) (y := y4_isControlCharacter) (argsL := [(.int (58 : Int32))]) (rest := []) A (isctl l Z a0 hw n0 h0 A.size (58 : Int32) (by decide) (by decide)) (w79 hw) (w80 hw) (w3 hw) (w81 hw) (by decide) pd__I_Z rfl (W := 0) (by decide) (by decide) (Nat.le_of_eq rfl) (by decide) (by decide) rfl rfl d6_15 rfl fun T h43 v44 A Q45 => ?_
  obtain ⟨rfl, eh⟩ := Q45
  rw [eh] at A
  refine Wp.stk (st' := [(.int (0 : Int32))]) rfl ?_
  refine s_ifY (pc' := 23) A d6_18 (by decide) (by decide) (by decide) ?_
  refine s_iinc (pc' := 26) (z := (5 : Int32)) (Ls' := #[rv sy, iv 5]) A d6_23 rfl rfl (by decide) rfl ?_
  refine s_goto (pc' := 2) A d6_26 (by decide) (by decide) ?_
  refine s_iloadN (pc' := 3) A d6_2 rfl rfl ?_
  refine s_aloadN (pc' := 4) A d6_3 rfl rfl rfl ?_
  refine s_virtual (pc' := 7) (y := y7_length) (argsL := []) (rest := [(.int (5 : Int32))]) (z := y7_length) A E (len2 l Z a0 hw n0 h0 A.size sy r cz S ncz Fc E Fv V) (w44 hw) (w45 hw) (nf_same (C := "") (w47 hw)) (w47 hw) (w46 hw) (w5 hw) (w48 hw) (by decide) pd___I rfl (W := 1) (by decide) (by decide) (Nat.le_of_eq rfl) (by decide) (by decide) rfl rfl d6_4 rfl fun T h46 v47 A Q48 => ?_
  obtain ⟨rfl, eh⟩ := Q48
  rw [eh] at A
  refine Wp.stk (st' := [(.int (10 : Int32)), (.int (5 : Int32))]) rfl ?_
  refine s_icmpN (pc' := 10) A d6_7 rfl (by decide) ?_
  refine s_aloadN (pc' := 11) A d6_10 rfl rfl rfl ?_
  refine s_iloadN (pc' := 12) A d6_11 rfl rfl ?_
  refine s_virtual (pc' := 15) (y := y9_charAt) (argsL := [(.int (5 : Int32))]) (rest := []) (z := y9_charAt) A E (cat2_5 l Z a0 hw n0 h0 A.size sy r cz fv S ncz Fc E Fv V hfv Sf) (w57 hw) (w58 hw) (nf_same (C := "") (w60 hw)) (w60 hw) (w59 hw) (w5 hw) (w61 hw) (by decide) pd__I_C rfl (W := 0) (by decide) (by decide) (Nat.le_of_eq rfl) (by decide) (by decide) rfl rfl d6_12 rfl fun T h49 v50 A Q51 => ?_
  obtain ⟨rfl, eh⟩ := Q51
  rw [eh] at A
  refine Wp.stk (st' := [(.int (47 : Int32))]) rfl ?_
  refine s_static (pc' := 18) (y := y4_isControlCharacter) (argsL := [(.int (47 : Int32))]) (rest := []) A (isctl l Z a0 hw n0 h0 A.size (47 : Int32) (by decide) (by decide)) (w79 hw) (w80 hw) (w3 hw) (w81 hw) (by decide) pd__I_Z rfl (W := 0) (by decide) (by decide) (Nat.le_of_eq rfl) (by decide) (by decide) rfl rfl d6_15 rfl fun T h52 v53 A Q54 => ?_
  obtain ⟨rfl, eh⟩ := Q54
  rw [eh] at A
  refine Wp.stk (st' := [(.int (0 : Int32))]) rfl ?_
  refine s_ifY (pc' := 23) A d6_18 (by decide) (by decide) (by decide) ?_
  refine s_iinc (pc' := 26) (z := (6 : Int32)) (Ls' := #[rv sy, iv 6]) A d6_23 rfl rfl (by decide) rfl ?_
  refine s_goto (pc' := 2) A d6_26 (by decide) (by decide) ?_
  refine s_iloadN (pc' := 3) A d6_2 rfl rfl ?_
  refine s_aloadN (pc' := 4) A d6_3 rfl rfl rfl ?_
  refine s_virtual (pc' := 7) (y := y7_length) (argsL := []) (rest := [(.int (6 : Int32))]) (z := y7_length) A E (len2 l Z a0 hw n0 h0 A.size sy r cz S ncz Fc E Fv V) (w44 hw) (w45 hw) (nf_same (C := "") (w47 hw)) (w47 hw) (w46 hw) (w5 hw) (w48 hw) (by decide) pd___I rfl (W := 1) (by decide) (by decide) (Nat.le_of_eq rfl) (by decide) (by decide) rfl rfl d6_4 rfl fun T h55 v56 A Q57 => ?_
  obtain ⟨rfl, eh⟩ := Q57
  rw [eh] at A
  refine Wp.stk (st' := [(.int (10 : Int32)), (.int (6 : Int32))]) rfl ?_
  refine s_icmpN (pc' := 10) A d6_7 rfl (by decide) ?_
  refine s_aloadN (pc' := 11) A d6_10 rfl rfl rfl ?_
  refine s_iloadN (pc' := 12) A d6_11 rfl rfl ?_
  refine s_virtual (pc' := 15) (y := y9_charAt) (argsL := [(.int (6 : Int32))]) (rest := []) (z := y9_charAt) A E (cat2_6 l Z a0 hw n0 h0 A.size sy r cz fv S ncz Fc E Fv V hfv Sf) (w57 hw) (w58 hw) (nf_same (C := "") (w60 hw)) (w60 hw) (w59 hw) (w5 hw) (w61 hw) (by decide) pd__I_C rfl (W := 0) (by decide) (by decide) (Nat.le_of_eq rfl) (by decide) (by decide) rfl rfl d6_12 rfl fun T h58 v59 A Q60 => ?_
  obtain ⟨rfl, eh⟩ := Q60
  rw [eh] at A
  refine Wp.stk (st' := [(.int (47 : Int32))]) rfl ?_
  refine s_static (pc' := 18) (y := y4_isControlCharacter) (argsL := [(.int (47 : Int32))]) (rest := []) A (isctl l Z a0 hw n0 h0 A.size (47 : Int32) (by decide) (by decide)) (w79 hw) (w80 hw) (w3 hw) (w81 hw) (by decide) pd__I_Z rfl (W := 0) (by decide) (by decide) (Nat.le_of_eq rfl) (by decide) (by decide) rfl rfl d6_15 rfl fun T h61 v62 A Q63 => ?_
  obtain ⟨rfl, eh⟩ := Q63
  rw [eh] at A
  refine Wp.stk (st' := [(.int (0 : Int32))]) rfl ?_
  refine s_ifY (pc' := 23) A d6_18 (by decide) (by decide) (by decide) ?_
  refine s_iinc (pc' := 26) (z := (7 : Int32)) (Ls' := #[rv sy, iv 7]) A d6_23 rfl rfl (by decide) rfl ?_
  refine s_goto (pc' := 2) A d6_26 (by decide) (by decide) ?_
  refine s_iloadN (pc' := 3) A d6_2 rfl rfl ?_
  refine s_aloadN (pc' := 4) A d6_3 rfl rfl rfl ?_
  refine s_virtual (pc' := 7) (y := y7_length) (argsL := []) (rest := [(.int (7 : Int32))]) (z := y7_length) A E (len2 l Z a0 hw n0 h0 A.size sy r cz S ncz Fc E Fv V) (w44 hw) (w45 hw) (nf_same (C := "") (w47 hw)) (w47 hw) (w46 hw) (w5 hw) (w48 hw) (by decide) pd___I rfl (W := 1) (by decide) (by decide) (Nat.le_of_eq rfl) (by decide) (by decide) rfl rfl d6_4 rfl fun T h64 v65 A Q66 => ?_
  obtain ⟨rfl, eh⟩ := Q66
  rw [eh] at A
  refine Wp.stk (st' := [(.int (10 : Int32)), (.int (7 : Int32))]) rfl ?_
  refine s_icmpN (pc' := 10) A d6_7 rfl (by decide) ?_
  refine s_aloadN (pc' := 11) A d6_10 rfl rfl rfl ?_
  refine s_iloadN (pc' := 12) A d6_11 rfl rfl ?_
  refine s_virtual (pc' := 15) (y := y9_charAt) (argsL := [(.int (7 : Int32))]) (rest := []) (z := y9_charAt) A E (cat2_7 l Z a0 hw n0 h0 A.size sy r cz fv S ncz Fc E Fv V hfv Sf) (w57 hw) (w58 hw) (nf_same (C := "") (w60 hw)) (w60 hw) (w59 hw) (w5 hw) (w61 hw) (by decide) pd__I_C rfl (W := 0) (by decide) (by decide) (Nat.le_of_eq rfl) (by decide) (by decide) rfl rfl d6_12 rfl fun T h67 v68 A Q69 => ?_
  obtain ⟨rfl, eh⟩ := Q69
  rw [eh] at A
  refine Wp.stk (st' := [(.int (104 : Int32))]) rfl ?_
  refine s_static (pc' := 18) (y := y4_isControlCharacter) (argsL := [(.int (104 : Int32))]) (rest := []) A (isctl l Z a0 hw n0 h0 A.size (104 : Int32) (by decide) (by decide)) (w79 hw) (w80 hw) (w3 hw) (w81 hw) (by decide) pd__I_Z rfl (W := 0) (by decide) (by decide) (Nat.le_of_eq rfl) (by decide) (by decide) rfl rfl d6_15 rfl fun T h70 v71 A Q72 => ?_
  obtain ⟨rfl, eh⟩ := Q72
  rw [eh] at A
  refine Wp.stk (st' := [(.int (0 : Int32))]) rfl ?_
  refine s_ifY (pc' := 23) A d6_18 (by decide) (by decide) (by decide) ?_
  refine s_iinc (pc' := 26) (z := (8 : Int32)) (Ls' := #[rv sy, iv 8]) A d6_23 rfl rfl (by decide) rfl ?_
  refine s_goto (pc' := 2) A d6_26 (by decide) (by decide) ?_
  refine s_iloadN (pc' := 3) A d6_2 rfl rfl ?_
  refine s_aloadN (pc' := 4) A d6_3 rfl rfl rfl ?_
  refine s_virtual (pc' := 7) (y := y7_length) (argsL := []) (rest := [(.int (8 : Int32))]) (z := y7_length) A E (len2 l Z a0 hw n0 h0 A.size sy r cz S ncz Fc E Fv V) (w44 hw) (w45 hw) (nf_same (C := "") (w47 hw)) (w47 hw) (w46 hw) (w5 hw) (w48 hw) (by decide) pd___I rfl (W := 1) (by decide) (by decide) (Nat.le_of_eq rfl) (by decide) (by decide) rfl rfl d6_4 rfl fun T h73 v74 A Q75 => ?_
  obtain ⟨rfl, eh⟩ := Q75
  rw [eh] at A
  refine Wp.stk (st' := [(.int (10 : Int32)), (.int (8 : Int32))]) rfl ?_
  refine s_icmpN (pc' := 10) A d6_7 rfl (by decide) ?_
  refine s_aloadN (pc' := 11) A d6_10 rfl rfl rfl ?_
  refine s_iloadN (pc' := 12) A d6_11 rfl rfl ?_
  refine s_virtual (pc' := 15) (y := y9_charAt) (argsL := [(.int (8 : Int32))]) (rest := []) (z := y9_charAt) A E (cat2_8 l Z a0 hw n0 h0 A.size sy r cz fv S ncz Fc E Fv V hfv Sf) (w57 hw) (w58 hw) (nf_same (C := "") (w60 hw)) (w60 hw) (w59 hw) (w5 hw) (w61 hw) (by decide) pd__I_C rfl (W := 0) (by decide) (by decide) (Nat.le_of_eq rfl) (by decide) (by decide) rfl rfl d6_12 rfl fun T h76 v77 A Q78 => ?_
  obtain ⟨rfl, eh⟩ := Q78
  rw [eh] at A
  refine Wp.stk (st' := [(.int (47 : Int32))]) rfl ?_
  refine s_static (pc' := 18) (y := y4_isControlCharacter) (argsL := [(.int (47 : Int32))]) (rest := []) A (isctl l Z a0 hw n0 h0 A.size (47 : Int32) (by decide) (by decide)) (w79 hw) (w80 hw) (w3 hw) (w81 hw) (by decide) pd__I_Z rfl (W := 0) (by decide) (by decide) (Nat.le_of_eq rfl) (by decide) (by decide) rfl rfl d6_15 rfl fun T h79 v80 A Q81 => ?_
  obtain ⟨rfl, eh⟩ := Q81
  rw [eh] at A
  refine Wp.stk (st' := [(.int (0 : Int32))]) rfl ?_
  refine s_ifY (pc' := 23) A d6_18 (by decide) (by decide) (by decide) ?_
  refine s_iinc (pc' := 26) (z := (9 : Int32)) (Ls' := #[rv sy, iv 9]) A d6_23 rfl rfl (by decide) rfl ?_
  refine s_goto (pc' := 2) A d6_26 (by decide) (by decide) ?_
  refine s_iloadN (pc' := 3) A d6_2 rfl rfl ?_
  refine s_aloadN (pc' := 4) A d6_3 rfl rfl rfl ?_
  refine s_virtual (pc' := 7) (y := y7_length) (argsL := []) (rest := [(.int (9 : Int32))]) (z := y7_length) A E (len2 l Z a0 hw n0 h0 A.size sy r cz S ncz Fc E Fv V) (w44 hw) (w45 hw) (nf_same (C := "") (w47 hw)) (w47 hw) (w46 hw) (w5 hw) (w48 hw) (by decide) pd___I rfl (W := 1) (by decide) (by decide) (Nat.le_of_eq rfl) (by decide) (by decide) rfl rfl d6_4 rfl fun T h82 v83 A Q84 => ?_
  obtain ⟨rfl, eh⟩ := Q84
  rw [eh] at A
  refine Wp.stk (st' := [(.int (10 : Int32)), (.int (9 : Int32))]) rfl ?_
  refine s_icmpN (pc' := 10) A d6_7 rfl (by decide) ?_
  refine s_aloadN (pc' := 11) A d6_10 rfl rfl rfl ?_
  refine s_iloadN (pc' := 12) A d6_11 rfl rfl ?_
  refine s_virtual (pc' := 15) (y := y9_charAt) (argsL := [(.int (9 : Int32))]) (rest := []) (z := y9_charAt) A E (cat2_9 l Z a0 hw n0 h0 A.size sy r cz fv S ncz Fc E Fv V hfv Sf) (w57 hw) (w58 hw) (nf_same (C := "") (w60 hw)) (w60 hw) (w59 hw) (w5 hw) (w61 hw) (by decide) pd__I_C rfl (W := 0) (by decide) (by decide) (Nat.le_of_eq rfl) (by decide) (by decide) rfl rfl d6_12 rfl fun T h85 v86 A Q87 => ?_
  obtain ⟨rfl, eh⟩ := Q87
  rw [eh] at A
  refine Wp.stk (st' := [(.int (112 : Int32))]) rfl ?_
  refine s_static (pc' := 18) (y := y4_isControlCharacter) (argsL := [(.int (112 : Int32))]) (rest := []) A (isctl l Z a0 hw n0 h0 A.size (112 : Int32) (by decide) (by decide)) (w79 hw) (w80 hw) (w3 hw) (w81 hw) (by decide) pd__I_Z rfl (W := 0) (by decide) (by decide) (Nat.le_of_eq rfl) (by decide) (by decide) rfl rfl d6_15 rfl fun T h88 v89 A Q90 => ?_
  obtain ⟨rfl, eh⟩ := Q90
  rw [eh] at A
  refine Wp.stk (st' := [(.int (0 : Int32))]) rfl ?_
  refine s_ifY (pc' := 23) A d6_18 (by decide) (by decide) (by decide) ?_
  refine s_iinc (pc' := 26) (z := (10 : Int32)) (Ls' := #[rv sy, iv 10]) A d6_23 rfl rfl (by decide) rfl ?_
  refine s_goto (pc' := 2) A d6_26 (by decide) (by decide) ?_
  refine s_iloadN (pc' := 3) A d6_2 rfl rfl ?_
  refine s_aloadN (pc' := 4) A d6_3 rfl rfl rfl ?_
  refine s_virtual (pc' := 7) (y := y7_length) (argsL := []) (rest := [(.int (10 : Int32))]) (z := y7_length) A E (len2 l Z a0 hw n0 h0 A.size sy r cz S ncz Fc E Fv V) (w44 hw) (w45 hw) (nf_same (C := "") (w47 hw)) (w47 hw) (w46 hw) (w5 hw) (w48 hw) (by decide) pd___I rfl (W := 1) (by decide) (by decide) (Nat.le_of_eq rfl) (by decide) (by decide) rfl rfl d6_4 rfl fun T h91 v92 A Q93 => ?_
  obtain ⟨rfl, eh⟩ := Q93
  rw [eh] at A
  refine Wp.stk (st' := [(.int (10 : Int32)), (.int (10 : Int32))]) rfl ?_
  refine s_icmpY (pc' := 29) A d6_7 (by decide) (by decide) (by decide) ?_
  refine s_iconst (pc' := 30) (z := (-1 : Int32)) A d6_29 rfl (by decide) ?_
  exact r_int A rfl d6_30 (by decide) (by decide) (⟨rfl, rfl⟩)
set_option maxRecDepth 65536 in
set_option maxHeartbeats 40000000 in
theorem rnc2 (l : Launch) (Z : State) (a0 : Array Value) (hw : ∀ d ∈ tables_1, d.before a0 Z = true) (n0 : Nat) (h0 : Heap) (Z0 : n0 ≤ h0.size) (sy r m' : Addr) (cz : Int32) (fv : Value) (S : Sta Z h0 "java/lang/String" "COMPACT_STRINGS" "Z" (.int cz)) (ncz : ¬ cz = (0 : Int32)) (Fc : Fld Z h0 sy "java/lang/String" "coder" "B" (.int (0 : Int32))) (E : Exa Z h0 sy "java/lang/String") (Fv : Fld Z h0 sy "java/lang/String" "value" "[B" (.ref r)) (V : AA Z h0 r .byte [.int (104 : Int32), .int (116 : Int32), .int (116 : Int32), .int (112 : Int32), .int (58 : Int32), .int (47 : Int32), .int (47 : Int32), .int (104 : Int32), .int (47 : Int32), .int (112 : Int32)]) (hfv : fv.isRef = true) (Sf : Sta Z h0 "jdk/internal/util/Preconditions" "SIOOBE_FORMATTER" "Ljava/util/function/BiFunction;" fv) :
    Met l Z n0 y11_requireNoControlCharacter prog_13_method_7_code 3 (Option.some (Jvm.ClassFile.FieldType.object "java/lang/String")) ({ frames := 5, cells := 0, slots := 0, locals := 66 } : Room) #[(.ref sy), (.ref m')] h0 (fun v h => v = some (.ref sy) ∧ h = h0) := by
  refine met_intro (own := c2_FormRequest) (plainFor_of_name pn_com_example_tailorbird_tailorbird_FormRequest) rfl Z0 ?_
  intro p e s m below meth c T A hnm
  refine Wp.cast (g' := mkF m 0 #[rv sy, rv m', U0] []) (by first | (simp [entryFrame, mkF, argsToLocals, Value.category, maxLocals, jv, S2, U0, iv, rv]; done) | rfl) ?_
  refine s_aloadN (pc' := 1) A d5_0 rfl rfl rfl ?_
  refine s_static (pc' := 4) (y := y10_indexOfControlCharacter) (argsL := [(.ref sy)]) (rest := []) A (ioc2 l Z a0 hw n0 h0 A.size sy r cz fv S ncz Fc E Fv V hfv Sf) (w41 hw) (w42 hw) (w3 hw) (w43 hw) (by decide) pd__Ljava_lang_String__I rfl (W := 0) (by decide) (by decide) (Nat.le_of_eq rfl) (by decide) (by decide) rfl rfl d5_1 rfl fun T h1 v2 A Q3 => ?_
  obtain ⟨rfl, eh⟩ := Q3
  rw [eh] at A
  refine Wp.stk (st' := [(.int (-1 : Int32))]) rfl ?_
  refine s_istoreN (pc' := 5) (Ls' := #[rv sy, rv m', iv (-1)]) A d5_4 rfl rfl ?_
  refine s_iloadN (pc' := 6) A d5_5 rfl rfl ?_
  refine s_ifY (pc' := 48) A d5_6 (by decide) (by decide) (by decide) ?_
  refine s_aloadN (pc' := 49) A d5_48 rfl rfl rfl ?_
  exact r_ref A rfl rfl rfl d5_49 (by decide) (by decide) (⟨rfl, rfl⟩)
set_option maxRecDepth 65536 in
set_option maxHeartbeats 40000000 in
theorem len3 (l : Launch) (Z : State) (a0 : Array Value) (hw : ∀ d ∈ tables_1, d.before a0 Z = true) (n0 : Nat) (h0 : Heap) (Z0 : n0 ≤ h0.size) (sy r : Addr) (cz : Int32) (S : Sta Z h0 "java/lang/String" "COMPACT_STRINGS" "Z" (.int cz)) (ncz : ¬ cz = (0 : Int32)) (Fc : Fld Z h0 sy "java/lang/String" "coder" "B" (.int (0 : Int32))) (E : Exa Z h0 sy "java/lang/String") (Fv : Fld Z h0 sy "java/lang/String" "value" "[B" (.ref r)) (V : AA Z h0 r .byte [.int (116 : Int32), .int (101 : Int32), .int (120 : Int32), .int (116 : Int32), .int (47 : Int32), .int (112 : Int32), .int (108 : Int32), .int (97 : Int32), .int (105 : Int32), .int (110 : Int32)]) :
    Met l Z n0 y7_length jdk_42_method_54_code 1 (Option.some Jvm.ClassFile.FieldType.int) ({ frames := 1, cells := 0, slots := 0, locals := 13 } : Room) #[(.ref sy)] h0 (fun v h => v = some (.int (10 : Int32)) ∧ h = h0) := by
  refine met_intro (own := c0_String) (plainFor_of_name pn_java_lang_String) rfl Z0 ?_
  intro p e s m below meth c T A hnm
  refine Wp.cast (g' := mkF m 0 #[rv sy] []) (by first | (simp [entryFrame, mkF, argsToLocals, Value.category, maxLocals, jv, S2, U0, iv, rv]; done) | rfl) ?_
  refine s_aloadN (pc' := 1) A d7_0 rfl rfl rfl ?_
  refine s_getfield (pc' := 4) (host := "") A (Or.inl (w49 hw)) Via.refl Fv d7_1 rfl fun T A => ?_
  refine s_arraylength (pc' := 5) (z := (10 : Int32)) A V (by show _ = ((10 : Nat) : Int); decide) d7_4 rfl ?_
  refine s_aloadN (pc' := 6) A d7_5 rfl rfl rfl ?_
  refine s_virtual (pc' := 9) (y := y0_coder) (argsL := []) (rest := [(.int (10 : Int32))]) (z := y0_coder) A E (coder l Z a0 hw n0 h0 A.size sy cz S ncz Fc) (w50 hw) (w51 hw) (nf_same (C := "") (w53 hw)) (w53 hw) (w52 hw) (w5 hw) (w54 hw) (by decide) pd___B rfl (W := 1) (by decide) (by decide) (Nat.le_of_eq rfl) (by decide) (by decide) rfl rfl d7_6 rfl fun T h1 v2 A Q3 => ?_
  obtain ⟨rfl, eh⟩ := Q3
  rw [eh] at A
  refine Wp.stk (st' := [(.int (0 : Int32)), (.int (10 : Int32))]) rfl ?_
  refine s_ishr (pc' := 10) (z := (10 : Int32)) A d7_9 rfl (by decide) ?_
  exact r_int A rfl d7_10 (by decide) (by decide) (⟨rfl, rfl⟩)
set_option maxRecDepth 65536 in
set_option maxHeartbeats 40000000 in
theorem lch3_0 (l : Launch) (Z : State) (a0 : Array Value) (hw : ∀ d ∈ tables_1, d.before a0 Z = true) (n0 : Nat) (h0 : Heap) (Z0 : n0 ≤ h0.size) (r : Addr) (fv : Value) (hfv : fv.isRef = true) (Sf : Sta Z h0 "jdk/internal/util/Preconditions" "SIOOBE_FORMATTER" "Ljava/util/function/BiFunction;" fv) (V : AA Z h0 r .byte [.int (116 : Int32), .int (101 : Int32), .int (120 : Int32), .int (116 : Int32), .int (47 : Int32), .int (112 : Int32), .int (108 : Int32), .int (97 : Int32), .int (105 : Int32), .int (110 : Int32)]) :
    Met l Z n0 y8_charAt jdk_43_method_2_code 2 (Option.some Jvm.ClassFile.FieldType.char) ({ frames := 2, cells := 0, slots := 0, locals := 27 } : Room) #[(.ref r), (.int (0 : Int32))] h0 (fun v h => v = some (.int (116 : Int32)) ∧ h = h0) := by
  refine met_intro (own := c4_StringLatin1) (plainFor_of_name pn_java_lang_StringLatin1) rfl Z0 ?_
  intro p e s m below meth c T A hnm
  refine Wp.cast (g' := mkF m 0 #[rv r, iv 0] []) (by first | (simp [entryFrame, mkF, argsToLocals, Value.category, maxLocals, jv, S2, U0, iv, rv]; done) | rfl) ?_
  refine s_iloadN (pc' := 1) A d11_0 rfl rfl ?_
  refine s_aloadN (pc' := 2) A d11_1 rfl rfl rfl ?_
  refine s_arraylength (pc' := 3) (z := (10 : Int32)) A V (by show _ = ((10 : Nat) : Int); decide) d11_2 rfl ?_
  refine s_static (pc' := 6) (y := y3_checkIndex) (argsL := [(.int (0 : Int32)), (.int (10 : Int32))]) (rest := []) A (schk l Z a0 hw n0 h0 A.size (0 : Int32) (10 : Int32) fv hfv Sf (by decide) (by decide)) (w71 hw) (w72 hw) (w5 hw) (w73 hw) (by decide) pd__II_V rfl (W := 0) (by decide) (by decide) (Nat.le_of_eq rfl) (by decide) (by decide) rfl rfl d11_3 rfl fun T h1 v2 A Q3 => ?_
  obtain ⟨rfl, eh⟩ := Q3
  rw [eh] at A
  refine Wp.stk (st' := []) rfl ?_
  refine s_aloadN (pc' := 7) A d11_6 rfl rfl rfl ?_
  refine s_iloadN (pc' := 8) A d11_7 rfl rfl ?_
  refine s_baload (pc' := 9) (i := 0) (v := (.int (116 : Int32))) A V (by decide) rfl d11_8 rfl ?_
  refine s_sipush (pc' := 12) (z := (255 : Int32)) A d11_9 rfl (by decide) ?_
  refine s_iand (pc' := 13) (z := (116 : Int32)) A d11_12 rfl (by decide) ?_
  refine s_i2c (pc' := 14) (z := (116 : Int32)) A d11_13 rfl (by decide) ?_
  exact r_small A rfl (by simp) (by decide) d11_14 (by decide) (by decide) (⟨rfl, rfl⟩)
set_option maxRecDepth 65536 in
set_option maxHeartbeats 40000000 in
theorem cat3_0 (l : Launch) (Z : State) (a0 : Array Value) (hw : ∀ d ∈ tables_1, d.before a0 Z = true) (n0 : Nat) (h0 : Heap) (Z0 : n0 ≤ h0.size) (sy r : Addr) (cz : Int32) (fv : Value) (S : Sta Z h0 "java/lang/String" "COMPACT_STRINGS" "Z" (.int cz)) (ncz : ¬ cz = (0 : Int32)) (Fc : Fld Z h0 sy "java/lang/String" "coder" "B" (.int (0 : Int32))) (E : Exa Z h0 sy "java/lang/String") (Fv : Fld Z h0 sy "java/lang/String" "value" "[B" (.ref r)) (V : AA Z h0 r .byte [.int (116 : Int32), .int (101 : Int32), .int (120 : Int32), .int (116 : Int32), .int (47 : Int32), .int (112 : Int32), .int (108 : Int32), .int (97 : Int32), .int (105 : Int32), .int (110 : Int32)]) (hfv : fv.isRef = true) (Sf : Sta Z h0 "jdk/internal/util/Preconditions" "SIOOBE_FORMATTER" "Ljava/util/function/BiFunction;" fv) :
    Met l Z n0 y9_charAt jdk_42_method_56_code 2 (Option.some Jvm.ClassFile.FieldType.char) ({ frames := 3, cells := 0, slots := 0, locals := 40 } : Room) #[(.ref sy), (.int (0 : Int32))] h0 (fun v h => v = some (.int (116 : Int32)) ∧ h = h0) := by
  refine met_intro (own := c0_String) (plainFor_of_name pn_java_lang_String) rfl Z0 ?_
  intro p e s m below meth c T A hnm
  refine Wp.cast (g' := mkF m 0 #[rv sy, iv 0] []) (by first | (simp [entryFrame, mkF, argsToLocals, Value.category, maxLocals, jv, S2, U0, iv, rv]; done) | rfl) ?_
  refine s_aloadN (pc' := 1) A d9_0 rfl rfl rfl ?_
  refine s_virtual (pc' := 4) (y := y1_isLatin1) (argsL := []) (rest := []) (z := y1_isLatin1) A E (isl1 l Z a0 hw n0 h0 A.size sy cz S ncz Fc) (w62 hw) (w63 hw) (nf_same (C := "") (w65 hw)) (w65 hw) (w64 hw) (w5 hw) (w66 hw) (by decide) pd___Z rfl (W := 0) (by decide) (by decide) (Nat.le_of_eq rfl) (by decide) (by decide) rfl rfl d9_1 rfl fun T h1 v2 A Q3 => ?_
  obtain ⟨rfl, eh⟩ := Q3
  rw [eh] at A
  refine Wp.stk (st' := [(.int (1 : Int32))]) rfl ?_
  refine s_ifN (pc' := 7) A d9_4 rfl (by decide) ?_
  refine s_aloadN (pc' := 8) A d9_7 rfl rfl rfl ?_
  refine s_getfield (pc' := 11) (host := "") A (Or.inl (w49 hw)) Via.refl Fv d9_8 rfl fun T A => ?_
  refine s_iloadN (pc' := 12) A d9_11 rfl rfl ?_
  refine s_static (pc' := 15) (y := y8_charAt) (argsL := [(.ref r), (.int (0 : Int32))]) (rest := []) A (lch3_0 l Z a0 hw n0 h0 A.size r fv hfv Sf V) (w67 hw) (w68 hw) (w69 hw) (w70 hw) (by decide) pd___BI_C rfl (W := 0) (by decide) (by decide) (Nat.le_of_eq rfl) (by decide) (by decide) rfl rfl d9_12 rfl fun T h4 v5 A Q6 => ?_
  obtain ⟨rfl, eh⟩ := Q6
  rw [eh] at A
  refine Wp.stk (st' := [(.int (116 : Int32))]) rfl ?_
  exact r_small A rfl (by simp) (by decide) d9_15 (by decide) (by decide) (⟨rfl, rfl⟩)
set_option maxRecDepth 65536 in
set_option maxHeartbeats 40000000 in
theorem lch3_1 (l : Launch) (Z : State) (a0 : Array Value) (hw : ∀ d ∈ tables_1, d.before a0 Z = true) (n0 : Nat) (h0 : Heap) (Z0 : n0 ≤ h0.size) (r : Addr) (fv : Value) (hfv : fv.isRef = true) (Sf : Sta Z h0 "jdk/internal/util/Preconditions" "SIOOBE_FORMATTER" "Ljava/util/function/BiFunction;" fv) (V : AA Z h0 r .byte [.int (116 : Int32), .int (101 : Int32), .int (120 : Int32), .int (116 : Int32), .int (47 : Int32), .int (112 : Int32), .int (108 : Int32), .int (97 : Int32), .int (105 : Int32), .int (110 : Int32)]) :
    Met l Z n0 y8_charAt jdk_43_method_2_code 2 (Option.some Jvm.ClassFile.FieldType.char) ({ frames := 2, cells := 0, slots := 0, locals := 27 } : Room) #[(.ref r), (.int (1 : Int32))] h0 (fun v h => v = some (.int (101 : Int32)) ∧ h = h0) := by
  refine met_intro (own := c4_StringLatin1) (plainFor_of_name pn_java_lang_StringLatin1) rfl Z0 ?_
  intro p e s m below meth c T A hnm
  refine Wp.cast (g' := mkF m 0 #[rv r, iv 1] []) (by first | (simp [entryFrame, mkF, argsToLocals, Value.category, maxLocals, jv, S2, U0, iv, rv]; done) | rfl) ?_
  refine s_iloadN (pc' := 1) A d11_0 rfl rfl ?_
  refine s_aloadN (pc' := 2) A d11_1 rfl rfl rfl ?_
  refine s_arraylength (pc' := 3) (z := (10 : Int32)) A V (by show _ = ((10 : Nat) : Int); decide) d11_2 rfl ?_
  refine s_static (pc' := 6) (y := y3_checkIndex) (argsL := [(.int (1 : Int32)), (.int (10 : Int32))]) (rest := []) A (schk l Z a0 hw n0 h0 A.size (1 : Int32) (10 : Int32) fv hfv Sf (by decide) (by decide)) (w71 hw) (w72 hw) (w5 hw) (w73 hw) (by decide) pd__II_V rfl (W := 0) (by decide) (by decide) (Nat.le_of_eq rfl) (by decide) (by decide) rfl rfl d11_3 rfl fun T h1 v2 A Q3 => ?_
  obtain ⟨rfl, eh⟩ := Q3
  rw [eh] at A
  refine Wp.stk (st' := []) rfl ?_
  refine s_aloadN (pc' := 7) A d11_6 rfl rfl rfl ?_
  refine s_iloadN (pc' := 8) A d11_7 rfl rfl ?_
  refine s_baload (pc' := 9) (i := 1) (v := (.int (101 : Int32))) A V (by decide) rfl d11_8 rfl ?_
  refine s_sipush (pc' := 12) (z := (255 : Int32)) A d11_9 rfl (by decide) ?_
  refine s_iand (pc' := 13) (z := (101 : Int32)) A d11_12 rfl (by decide) ?_
  refine s_i2c (pc' := 14) (z := (101 : Int32)) A d11_13 rfl (by decide) ?_
  exact r_small A rfl (by simp) (by decide) d11_14 (by decide) (by decide) (⟨rfl, rfl⟩)
set_option maxRecDepth 65536 in
set_option maxHeartbeats 40000000 in
theorem cat3_1 (l : Launch) (Z : State) (a0 : Array Value) (hw : ∀ d ∈ tables_1, d.before a0 Z = true) (n0 : Nat) (h0 : Heap) (Z0 : n0 ≤ h0.size) (sy r : Addr) (cz : Int32) (fv : Value) (S : Sta Z h0 "java/lang/String" "COMPACT_STRINGS" "Z" (.int cz)) (ncz : ¬ cz = (0 : Int32)) (Fc : Fld Z h0 sy "java/lang/String" "coder" "B" (.int (0 : Int32))) (E : Exa Z h0 sy "java/lang/String") (Fv : Fld Z h0 sy "java/lang/String" "value" "[B" (.ref r)) (V : AA Z h0 r .byte [.int (116 : Int32), .int (101 : Int32), .int (120 : Int32), .int (116 : Int32), .int (47 : Int32), .int (112 : Int32), .int (108 : Int32), .int (97 : Int32), .int (105 : Int32), .int (110 : Int32)]) (hfv : fv.isRef = true) (Sf : Sta Z h0 "jdk/internal/util/Preconditions" "SIOOBE_FORMATTER" "Ljava/util/function/BiFunction;" fv) :
    Met l Z n0 y9_charAt jdk_42_method_56_code 2 (Option.some Jvm.ClassFile.FieldType.char) ({ frames := 3, cells := 0, slots := 0, locals := 40 } : Room) #[(.ref sy), (.int (1 : Int32))] h0 (fun v h => v = some (.int (101 : Int32)) ∧ h = h0) := by
  refine met_intro (own := c0_String) (plainFor_of_name pn_java_lang_String) rfl Z0 ?_
  intro p e s m below meth c T A hnm
  refine Wp.cast (g' := mkF m 0 #[rv sy, iv 1] []) (by first | (simp [entryFrame, mkF, argsToLocals, Value.category, maxLocals, jv, S2, U0, iv, rv]; done) | rfl) ?_
  refine s_aloadN (pc' := 1) A d9_0 rfl rfl rfl ?_
  refine s_virtual (pc' := 4) (y := y1_isLatin1) (argsL := []) (rest := []) (z := y1_isLatin1) A E (isl1 l Z a0 hw n0 h0 A.size sy cz S ncz Fc) (w62 hw) (w63 hw) (nf_same (C := "") (w65 hw)) (w65 hw) (w64 hw) (w5 hw) (w66 hw) (by decide) pd___Z rfl (W := 0) (by decide) (by decide) (Nat.le_of_eq rfl) (by decide) (by decide) rfl rfl d9_1 rfl fun T h1 v2 A Q3 => ?_
  obtain ⟨rfl, eh⟩ := Q3
  rw [eh] at A
  refine Wp.stk (st' := [(.int (1 : Int32))]) rfl ?_
  refine s_ifN (pc' := 7) A d9_4 rfl (by decide) ?_
  refine s_aloadN (pc' := 8) A d9_7 rfl rfl rfl ?_
  refine s_getfield (pc' := 11) (host := "") A (Or.inl (w49 hw)) Via.refl Fv d9_8 rfl fun T A => ?_
  refine s_iloadN (pc' := 12) A d9_11 rfl rfl ?_
  refine s_static (pc' := 15) (y := y8_charAt) (argsL := [(.ref r), (.int (1 : Int32))]) (rest := []) A (lch3_1 l Z a0 hw n0 h0 A.size r fv hfv Sf V) (w67 hw) (w68 hw) (w69 hw) (w70 hw) (by decide) pd___BI_C rfl (W := 0) (by decide) (by decide) (Nat.le_of_eq rfl) (by decide) (by decide) rfl rfl d9_12 rfl fun T h4 v5 A Q6 => ?_
  obtain ⟨rfl, eh⟩ := Q6
  rw [eh] at A
  refine Wp.stk (st' := [(.int (101 : Int32))]) rfl ?_
  exact r_small A rfl (by simp) (by decide) d9_15 (by decide) (by decide) (⟨rfl, rfl⟩)
set_option maxRecDepth 65536 in
set_option maxHeartbeats 40000000 in
theorem lch3_2 (l : Launch) (Z : State) (a0 : Array Value) (hw : ∀ d ∈ tables_1, d.before a0 Z = true) (n0 : Nat) (h0 : Heap) (Z0 : n0 ≤ h0.size) (r : Addr) (fv : Value) (hfv : fv.isRef = true) (Sf : Sta Z h0 "jdk/internal/util/Preconditions" "SIOOBE_FORMATTER" "Ljava/util/function/BiFunction;" fv) (V : AA Z h0 r .byte [.int (116 : Int32), .int (101 : Int32), .int (120 : Int32), .int (116 : Int32), .int (47 : Int32), .int (112 : Int32), .int (108 : Int32), .int (97 : Int32), .int (105 : Int32), .int (110 : Int32)]) :
    Met l Z n0 y8_charAt jdk_43_method_2_code 2 (Option.some Jvm.ClassFile.FieldType.char) ({ frames := 2, cells := 0, slots := 0, locals := 27 } : Room) #[(.ref r), (.int (2 : Int32))] h0 (fun v h => v = some (.int (120 : Int32)) ∧ h = h0) := by
  refine met_intro (own := c4_StringLatin1) (plainFor_of_name pn_java_lang_StringLatin1) rfl Z0 ?_
  intro p e s m below meth c T A hnm
  refine Wp.cast (g' := mkF m 0 #[rv r, iv 2] []) (by first | (simp [entryFrame, mkF, argsToLocals, Value.category, maxLocals, jv, S2, U0, iv, rv]; done) | rfl) ?_
  refine s_iloadN (pc' := 1) A d11_0 rfl rfl ?_
  refine s_aloadN (pc' := 2) A d11_1 rfl rfl rfl ?_
  refine s_arraylength (pc' := 3) (z := (10 : Int32)) A V (by show _ = ((10 : Nat) : Int); decide) d11_2 rfl ?_
  refine s_static (pc' := 6) (y := y3_checkIndex) (argsL := [(.int (2 : Int32)), (.int (10 : Int32))]) (rest := []) A (schk l Z a0 hw n0 h0 A.size (2 : Int32) (10 : Int32) fv hfv Sf (by decide) (by decide)) (w71 hw) (w72 hw) (w5 hw) (w73 hw) (by decide) pd__II_V rfl (W := 0) (by decide) (by decide) (Nat.le_of_eq rfl) (by decide) (by decide) rfl rfl d11_3 rfl fun T h1 v2 A Q3 => ?_
  obtain ⟨rfl, eh⟩ := Q3
  rw [eh] at A
  refine Wp.stk (st' := []) rfl ?_
  refine s_aloadN (pc' := 7) A d11_6 rfl rfl rfl ?_
  refine s_iloadN (pc' := 8) A d11_7 rfl rfl ?_
  refine s_baload (pc' := 9) (i := 2) (v := (.int (120 : Int32))) A V (by decide) rfl d11_8 rfl ?_
  refine s_sipush (pc' := 12) (z := (255 : Int32)) A d11_9 rfl (by decide) ?_
  refine s_iand (pc' := 13) (z := (120 : Int32)) A d11_12 rfl (by decide) ?_
  refine s_i2c (pc' := 14) (z := (120 : Int32)) A d11_13 rfl (by decide) ?_
  exact r_small A rfl (by simp) (by decide) d11_14 (by decide) (by decide) (⟨rfl, rfl⟩)
set_option maxRecDepth 65536 in
set_option maxHeartbeats 40000000 in
theorem cat3_2 (l : Launch) (Z : State) (a0 : Array Value) (hw : ∀ d ∈ tables_1, d.before a0 Z = true) (n0 : Nat) (h0 : Heap) (Z0 : n0 ≤ h0.size) (sy r : Addr) (cz : Int32) (fv : Value) (S : Sta Z h0 "java/lang/String" "COMPACT_STRINGS" "Z" (.int cz)) (ncz : ¬ cz = (0 : Int32)) (Fc : Fld Z h0 sy "java/lang/String" "coder" "B" (.int (0 : Int32))) (E : Exa Z h0 sy "java/lang/String") (Fv : Fld Z h0 sy "java/lang/String" "value" "[B" (.ref r)) (V : AA Z h0 r .byte [.int (116 : Int32), .int (101 : Int32), .int (120 : Int32), .int (116 : Int32), .int (47 : Int32), .int (112 : Int32), .int (108 : Int32), .int (97 : Int32), .int (105 : Int32), .int (110 : Int32)]) (hfv : fv.isRef = true) (Sf : Sta Z h0 "jdk/internal/util/Preconditions" "SIOOBE_FORMATTER" "Ljava/util/function/BiFunction;" fv) :
    Met l Z n0 y9_charAt jdk_42_method_56_code 2 (Option.some Jvm.ClassFile.FieldType.char) ({ frames := 3, cells := 0, slots := 0, locals := 40 } : Room) #[(.ref sy), (.int (2 : Int32))] h0 (fun v h => v = some (.int (120 : Int32)) ∧ h = h0) := by
  refine met_intro (own := c0_String) (plainFor_of_name pn_java_lang_String) rfl Z0 ?_
  intro p e s m below meth c T A hnm
  refine Wp.cast (g' := mkF m 0 #[rv sy, iv 2] []) (by first | (simp [entryFrame, mkF, argsToLocals, Value.category, maxLocals, jv, S2, U0, iv, rv]; done) | rfl) ?_
  refine s_aloadN (pc' := 1) A d9_0 rfl rfl rfl ?_
  refine s_virtual (pc' := 4) (y := y1_isLatin1) (argsL := []) (rest := []) (z := y1_isLatin1) A E (isl1 l Z a0 hw n0 h0 A.size sy cz S ncz Fc) (w62 hw) (w63 hw) (nf_same (C := "") (w65 hw)) (w65 hw) (w64 hw) (w5 hw) (w66 hw) (by decide) pd___Z rfl (W := 0) (by decide) (by decide) (Nat.le_of_eq rfl) (by decide) (by decide) rfl rfl d9_1 rfl fun T h1 v2 A Q3 => ?_
  obtain ⟨rfl, eh⟩ := Q3
  rw [eh] at A
  refine Wp.stk (st' := [(.int (1 : Int32))]) rfl ?_
  refine s_ifN (pc' := 7) A d9_4 rfl (by decide) ?_
  refine s_aloadN (pc' := 8) A d9_7 rfl rfl rfl ?_
  refine s_getfield (pc' := 11) (host := "") A (Or.inl (w49 hw)) Via.refl Fv d9_8 rfl fun T A => ?_
  refine s_iloadN (pc' := 12) A d9_11 rfl rfl ?_
  refine s_static (pc' := 15) (y := y8_charAt) (argsL := [(.ref r), (.int (2 : Int32))]) (rest := []) A (lch3_2 l Z a0 hw n0 h0 A.size r fv hfv Sf V) (w67 hw) (w68 hw) (w69 hw) (w70 hw) (by decide) pd___BI_C rfl (W := 0) (by decide) (by decide) (Nat.le_of_eq rfl) (by decide) (by decide) rfl rfl d9_12 rfl fun T h4 v5 A Q6 => ?_
  obtain ⟨rfl, eh⟩ := Q6
  rw [eh] at A
  refine Wp.stk (st' := [(.int (120 : Int32))]) rfl ?_
  exact r_small A rfl (by simp) (by decide) d9_15 (by decide) (by decide) (⟨rfl, rfl⟩)
set_option maxRecDepth 65536 in
set_option maxHeartbeats 40000000 in
theorem lch3_3 (l : Launch) (Z : State) (a0 : Array Value) (hw : ∀ d ∈ tables_1, d.before a0 Z = true) (n0 : Nat) (h0 : Heap) (Z0 : n0 ≤ h0.size) (r : Addr) (fv : Value) (hfv : fv.isRef = true) (Sf : Sta Z h0 "jdk/internal/util/Preconditions" "SIOOBE_FORMATTER" "Ljava/util/function/BiFunction;" fv) (V : AA Z h0 r .byte [.int (116 : Int32), .int (101 : Int32), .int (120 : Int32), .int (116 : Int32), .int (47 : Int32), .int (112 : Int32), .int (108 : Int32), .int (97 : Int32), .int (105 : Int32), .int (110 : Int32)]) :
    Met l Z n0 y8_charAt jdk_43_method_2_code 2 (Option.some Jvm.ClassFile.FieldType.char) ({ frames := 2, cells := 0, slots := 0, locals := 27 } : Room) #[(.ref r), (.int (3 : Int32))] h0 (fun v h => v = some (.int (116 : Int32)) ∧ h = h0) := by
  refine met_intro (own := c4_StringLatin1) (plainFor_of_name pn_java_lang_StringLatin1) rfl Z0 ?_
  intro p e s m below meth c T A hnm
  refine Wp.cast (g' := mkF m 0 #[rv r, iv 3] []) (by first | (simp [entryFrame, mkF, argsToLocals, Value.category, maxLocals, jv, S2, U0, iv, rv]; done) | rfl) ?_
  refine s_iloadN (pc' := 1) A d11_0 rfl rfl ?_
  refine s_aloadN (pc' := 2) A d11_1 rfl rfl rfl ?_
  refine s_arraylength (pc' := 3) (z := (10 : Int32)) A V (by show _ = ((10 : Nat) : Int); decide) d11_2 rfl ?_
  refine s_static (pc' := 6) (y := y3_checkIndex) (argsL := [(.int (3 : Int32)), (.int (10 : Int32))]) (rest := []) A (schk l Z a0 hw n0 h0 A.size (3 : Int32) (10 : Int32) fv hfv Sf (by decide) (by decide)) (w71 hw) (w72 hw) (w5 hw) (w73 hw) (by decide) pd__II_V rfl (W := 0) (by decide) (by decide) (Nat.le_of_eq rfl) (by decide) (by decide) rfl rfl d11_3 rfl fun T h1 v2 A Q3 => ?_
  obtain ⟨rfl, eh⟩ := Q3
  rw [eh] at A
  refine Wp.stk (st' := []) rfl ?_
  refine s_aloadN (pc' := 7) A d11_6 rfl rfl rfl ?_
  refine s_iloadN (pc' := 8) A d11_7 rfl rfl ?_
  refine s_baload (pc' := 9) (i := 3) (v := (.int (116 : Int32))) A V (by decide) rfl d11_8 rfl ?_
  refine s_sipush (pc' := 12) (z := (255 : Int32)) A d11_9 rfl (by decide) ?_
  refine s_iand (pc' := 13) (z := (116 : Int32)) A d11_12 rfl (by decide) ?_
  refine s_i2c (pc' := 14) (z := (116 : Int32)) A d11_13 rfl (by decide) ?_
  exact r_small A rfl (by simp) (by decide) d11_14 (by decide) (by decide) (⟨rfl, rfl⟩)
set_option maxRecDepth 65536 in
set_option maxHeartbeats 40000000 in
theorem cat3_3 (l : Launch) (Z : State) (a0 : Array Value) (hw : ∀ d ∈ tables_1, d.before a0 Z = true) (n0 : Nat) (h0 : Heap) (Z0 : n0 ≤ h0.size) (sy r : Addr) (cz : Int32) (fv : Value) (S : Sta Z h0 "java/lang/String" "COMPACT_STRINGS" "Z" (.int cz)) (ncz : ¬ cz = (0 : Int32)) (Fc : Fld Z h0 sy "java/lang/String" "coder" "B" (.int (0 : Int32))) (E : Exa Z h0 sy "java/lang/String") (Fv : Fld Z h0 sy "java/lang/String" "value" "[B" (.ref r)) (V : AA Z h0 r .byte [.int (116 : Int32), .int (101 : Int32), .int (120 : Int32), .int (116 : Int32), .int (47 : Int32), .int (112 : Int32), .int (108 : Int32), .int (97 : Int32), .int (105 : Int32), .int (110 : Int32)]) (hfv : fv.isRef = true) (Sf : Sta Z h0 "jdk/internal/util/Preconditions" "SIOOBE_FORMATTER" "Ljava/util/function/BiFunction;" fv) :
    Met l Z n0 y9_charAt jdk_42_method_56_code 2 (Option.some Jvm.ClassFile.FieldType.char) ({ frames := 3, cells := 0, slots := 0, locals := 40 } : Room) #[(.ref sy), (.int (3 : Int32))] h0 (fun v h => v = some (.int (116 : Int32)) ∧ h = h0) := by
  refine met_intro (own := c0_String) (plainFor_of_name pn_java_lang_String) rfl Z0 ?_
  intro p e s m below meth c T A hnm
  refine Wp.cast (g' := mkF m 0 #[rv sy, iv 3] []) (by first | (simp [entryFrame, mkF, argsToLocals, Value.category, maxLocals, jv, S2, U0, iv, rv]; done) | rfl) ?_
  refine s_aloadN (pc' := 1) A d9_0 rfl rfl rfl ?_
  refine s_virtual (pc' := 4) (y := y1_isLatin1) (argsL := []) (rest := []) (z := y1_isLatin1) A E (isl1 l Z a0 hw n0 h0 A.size sy cz S ncz Fc) (w62 hw) (w63 hw) (nf_same (C := "") (w65 hw)) (w65 hw) (w64 hw) (w5 hw) (w66 hw) (by decide) pd___Z rfl (W := 0) (by decide) (by decide) (Nat.le_of_eq rfl) (by decide) (by decide) rfl rfl d9_1 rfl fun T h1 v2 A Q3 => ?_
  obtain ⟨rfl, eh⟩ := Q3
  rw [eh] at A
  refine Wp.stk (st' := [(.int (1 : Int32))]) rfl ?_
  refine s_ifN (pc' := 7) A d9_4 rfl (by decide) ?_
  refine s_aloadN (pc' := 8) A d9_7 rfl rfl rfl ?_
  refine s_getfield (pc' := 11) (host := "") A (Or.inl (w49 hw)) Via.refl Fv d9_8 rfl fun T A => ?_
  refine s_iloadN (pc' := 12) A d9_11 rfl rfl ?_
  refine s_static (pc' := 15) (y := y8_charAt) (argsL := [(.ref r), (.int (3 : Int32))]) (rest := []) A (lch3_3 l Z a0 hw n0 h0 A.size r fv hfv Sf V) (w67 hw) (w68 hw) (w69 hw) (w70 hw) (by decide) pd___BI_C rfl (W := 0) (by decide) (by decide) (Nat.le_of_eq rfl) (by decide) (by decide) rfl rfl d9_12 rfl fun T h4 v5 A Q6 => ?_
  obtain ⟨rfl, eh⟩ := Q6
  rw [eh] at A
  refine Wp.stk (st' := [(.int (116 : Int32))]) rfl ?_
  exact r_small A rfl (by simp) (by decide) d9_15 (by decide) (by decide) (⟨rfl, rfl⟩)
set_option maxRecDepth 65536 in
set_option maxHeartbeats 40000000 in
theorem lch3_4 (l : Launch) (Z : State) (a0 : Array Value) (hw : ∀ d ∈ tables_1, d.before a0 Z = true) (n0 : Nat) (h0 : Heap) (Z0 : n0 ≤ h0.size) (r : Addr) (fv : Value) (hfv : fv.isRef = true) (Sf : Sta Z h0 "jdk/internal/util/Preconditions" "SIOOBE_FORMATTER" "Ljava/util/function/BiFunction;" fv) (V : AA Z h0 r .byte [.int (116 : Int32), .int (101 : Int32), .int (120 : Int32), .int (116 : Int32), .int (47 : Int32), .int (112 : Int32), .int (108 : Int32), .int (97 : Int32), .int (105 : Int32), .int (110 : Int32)]) :
    Met l Z n0 y8_charAt jdk_43_method_2_code 2 (Option.some Jvm.ClassFile.FieldType.char) ({ frames := 2, cells := 0, slots := 0, locals := 27 } : Room) #[(.ref r), (.int (4 : Int32))] h0 (fun v h => v = some (.int (47 : Int32)) ∧ h = h0) := by
  refine met_intro (own := c4_StringLatin1) (plainFor_of_name pn_java_lang_StringLatin1) rfl Z0 ?_
  intro p e s m below meth c T A hnm
  refine Wp.cast (g' := mkF m 0 #[rv r, iv 4] []) (by first | (simp [entryFrame, mkF, argsToLocals, Value.category, maxLocals, jv, S2, U0, iv, rv]; done) | rfl) ?_
  refine s_iloadN (pc' := 1) A d11_0 rfl rfl ?_
  refine s_aloadN (pc' := 2) A d11_1 rfl rfl rfl ?_
  refine s_arraylength (pc' := 3) (z := (10 : Int32)) A V (by show _ = ((10 : Nat) : Int); decide) d11_2 rfl ?_
  refine s_static (pc' := 6) (y := y3_checkIndex) (argsL := [(.int (4 : Int32)), (.int (10 : Int32))]) (rest := []) A (schk l Z a0 hw n0 h0 A.size (4 : Int32) (10 : Int32) fv hfv Sf (by decide) (by decide)) (w71 hw) (w72 hw) (w5 hw) (w73 hw) (by decide) pd__II_V rfl (W := 0) (by decide) (by decide) (Nat.le_of_eq rfl) (by decide) (by decide) rfl rfl d11_3 rfl fun T h1 v2 A Q3 => ?_
  obtain ⟨rfl, eh⟩ := Q3
  rw [eh] at A
  refine Wp.stk (st' := []) rfl ?_
  refine s_aloadN (pc' := 7) A d11_6 rfl rfl rfl ?_
  refine s_iloadN (pc' := 8) A d11_7 rfl rfl ?_
  refine s_baload (pc' := 9) (i := 4) (v := (.int (47 : Int32))) A V (by decide) rfl d11_8 rfl ?_
  refine s_sipush (pc' := 12) (z := (255 : Int32)) A d11_9 rfl (by decide) ?_
  refine s_iand (pc' := 13) (z := (47 : Int32)) A d11_12 rfl (by decide) ?_
  refine s_i2c (pc' := 14) (z := (47 : Int32)) A d11_13 rfl (by decide) ?_
  exact r_small A rfl (by simp) (by decide) d11_14 (by decide) (by decide) (⟨rfl, rfl⟩)
set_option maxRecDepth 65536 in
set_option maxHeartbeats 40000000 in
theorem cat3_4 (l : Launch) (Z : State) (a0 : Array Value) (hw : ∀ d ∈ tables_1, d.before a0 Z = true) (n0 : Nat) (h0 : Heap) (Z0 : n0 ≤ h0.size) (sy r : Addr) (cz : Int32) (fv : Value) (S : Sta Z h0 "java/lang/String" "COMPACT_STRINGS" "Z" (.int cz)) (ncz : ¬ cz = (0 : Int32)) (Fc : Fld Z h0 sy "java/lang/String" "coder" "B" (.int (0 : Int32))) (E : Exa Z h0 sy "java/lang/String") (Fv : Fld Z h0 sy "java/lang/String" "value" "[B" (.ref r)) (V : AA Z h0 r .byte [.int (116 : Int32), .int (101 : Int32), .int (120 : Int32), .int (116 : Int32), .int (47 : Int32), .int (112 : Int32), .int (108 : Int32), .int (97 : Int32), .int (105 : Int32), .int (110 : Int32)]) (hfv : fv.isRef = true) (Sf : Sta Z h0 "jdk/internal/util/Preconditions" "SIOOBE_FORMATTER" "Ljava/util/function/BiFunction;" fv) :
    Met l Z n0 y9_charAt jdk_42_method_56_code 2 (Option.some Jvm.ClassFile.FieldType.char) ({ frames := 3, cells := 0, slots := 0, locals := 40 } : Room) #[(.ref sy), (.int (4 : Int32))] h0 (fun v h => v = some (.int (47 : Int32)) ∧ h = h0) := by
  refine met_intro (own := c0_String) (plainFor_of_name pn_java_lang_String) rfl Z0 ?_
  intro p e s m below meth c T A hnm
  refine Wp.cast (g' := mkF m 0 #[rv sy, iv 4] []) (by first | (simp [entryFrame, mkF, argsToLocals, Value.category, maxLocals, jv, S2, U0, iv, rv]; done) | rfl) ?_
  refine s_aloadN (pc' := 1) A d9_0 rfl rfl rfl ?_
  refine s_virtual (pc' := 4) (y := y1_isLatin1) (argsL := []) (rest := []) (z := y1_isLatin1) A E (isl1 l Z a0 hw n0 h0 A.size sy cz S ncz Fc) (w62 hw) (w63 hw) (nf_same (C := "") (w65 hw)) (w65 hw) (w64 hw) (w5 hw) (w66 hw) (by decide) pd___Z rfl (W := 0) (by decide) (by decide) (Nat.le_of_eq rfl) (by decide) (by decide) rfl rfl d9_1 rfl fun T h1 v2 A Q3 => ?_
  obtain ⟨rfl, eh⟩ := Q3
  rw [eh] at A
  refine Wp.stk (st' := [(.int (1 : Int32))]) rfl ?_
  refine s_ifN (pc' := 7) A d9_4 rfl (by decide) ?_
  refine s_aloadN (pc' := 8) A d9_7 rfl rfl rfl ?_
  refine s_getfield (pc' := 11) (host := "") A (Or.inl (w49 hw)) Via.refl Fv d9_8 rfl fun T A => ?_
  refine s_iloadN (pc' := 12) A d9_11 rfl rfl ?_
  refine s_static (pc' := 15) (y := y8_charAt) (argsL := [(.ref r), (.int (4 : Int32))]) (rest := []) A (lch3_4 l Z a0 hw n0 h0 A.size r fv hfv Sf V) (w67 hw) (w68 hw) (w69 hw) (w70 hw) (by decide) pd___BI_C rfl (W := 0) (by decide) (by decide) (Nat.le_of_eq rfl) (by decide) (by decide) rfl rfl d9_12 rfl fun T h4 v5 A Q6 => ?_
  obtain ⟨rfl, eh⟩ := Q6
  rw [eh] at A
  refine Wp.stk (st' := [(.int (47 : Int32))]) rfl ?_
  exact r_small A rfl (by simp) (by decide) d9_15 (by decide) (by decide) (⟨rfl, rfl⟩)
set_option maxRecDepth 65536 in
set_option maxHeartbeats 40000000 in
theorem lch3_5 (l : Launch) (Z : State) (a0 : Array Value) (hw : ∀ d ∈ tables_1, d.before a0 Z = true) (n0 : Nat) (h0 : Heap) (Z0 : n0 ≤ h0.size) (r : Addr) (fv : Value) (hfv : fv.isRef = true) (Sf : Sta Z h0 "jdk/internal/util/Preconditions" "SIOOBE_FORMATTER" "Ljava/util/function/BiFunction;" fv) (V : AA Z h0 r .byte [.int (116 : Int32), .int (101 : Int32), .int (120 : Int32), .int (116 : Int32), .int (47 : Int32), .int (112 : Int32), .int (108 : Int32), .int (97 : Int32), .int (105 : Int32), .int (110 : Int32)]) :
    Met l Z n0 y8_charAt jdk_43_method_2_code 2 (Option.some Jvm.ClassFile.FieldType.char) ({ frames := 2, cells := 0, slots := 0, locals := 27 } : Room) #[(.ref r), (.int (5 : Int32))] h0 (fun v h => v = some (.int (112 : Int32)) ∧ h = h0) := by
  refine met_intro (own := c4_StringLatin1) (plainFor_of_name pn_java_lang_StringLatin1) rfl Z0 ?_
  intro p e s m below meth c T A hnm
  refine Wp.cast (g' := mkF m 0 #[rv r, iv 5] []) (by first | (simp [entryFrame, mkF, argsToLocals, Value.category, maxLocals, jv, S2, U0, iv, rv]; done) | rfl) ?_
  refine s_iloadN (pc' := 1) A d11_0 rfl rfl ?_
  refine s_aloadN (pc' := 2) A d11_1 rfl rfl rfl ?_
  refine s_arraylength (pc' := 3) (z := (10 : Int32)) A V (by show _ = ((10 : Nat) : Int); decide) d11_2 rfl ?_
  refine s_static (pc' := 6) (y := y3_checkIndex) (argsL := [(.int (5 : Int32)), (.int (10 : Int32))]) (rest := []) A (schk l Z a0 hw n0 h0 A.size (5 : Int32) (10 : Int32) fv hfv Sf (by decide) (by decide)) (w71 hw) (w72 hw) (w5 hw) (w73 hw) (by decide) pd__II_V rfl (W := 0) (by decide) (by decide) (Nat.le_of_eq rfl) (by decide) (by decide) rfl rfl d11_3 rfl fun T h1 v2 A Q3 => ?_
  obtain ⟨rfl, eh⟩ := Q3
  rw [eh] at A
  refine Wp.stk (st' := []) rfl ?_
  refine s_aloadN (pc' := 7) A d11_6 rfl rfl rfl ?_
  refine s_iloadN (pc' := 8) A d11_7 rfl rfl ?_
  refine s_baload (pc' := 9) (i := 5) (v := (.int (112 : Int32))) A V (by decide) rfl d11_8 rfl ?_
  refine s_sipush (pc' := 12) (z := (255 : Int32)) A d11_9 rfl (by decide) ?_
  refine s_iand (pc' := 13) (z := (112 : Int32)) A d11_12 rfl (by decide) ?_
  refine s_i2c (pc' := 14) (z := (112 : Int32)) A d11_13 rfl (by decide) ?_
  exact r_small A rfl (by simp) (by decide) d11_14 (by decide) (by decide) (⟨rfl, rfl⟩)
set_option maxRecDepth 65536 in
set_option maxHeartbeats 40000000 in
theorem cat3_5 (l : Launch) (Z : State) (a0 : Array Value) (hw : ∀ d ∈ tables_1, d.before a0 Z = true) (n0 : Nat) (h0 : Heap) (Z0 : n0 ≤ h0.size) (sy r : Addr) (cz : Int32) (fv : Value) (S : Sta Z h0 "java/lang/String" "COMPACT_STRINGS" "Z" (.int cz)) (ncz : ¬ cz = (0 : Int32)) (Fc : Fld Z h0 sy "java/lang/String" "coder" "B" (.int (0 : Int32))) (E : Exa Z h0 sy "java/lang/String") (Fv : Fld Z h0 sy "java/lang/String" "value" "[B" (.ref r)) (V : AA Z h0 r .byte [.int (116 : Int32), .int (101 : Int32), .int (120 : Int32), .int (116 : Int32), .int (47 : Int32), .int (112 : Int32), .int (108 : Int32), .int (97 : Int32), .int (105 : Int32), .int (110 : Int32)]) (hfv : fv.isRef = true) (Sf : Sta Z h0 "jdk/internal/util/Preconditions" "SIOOBE_FORMATTER" "Ljava/util/function/BiFunction;" fv) :
    Met l Z n0 y9_charAt jdk_42_method_56_code 2 (Option.some Jvm.ClassFile.FieldType.char) ({ frames := 3, cells := 0, slots := 0, locals := 40 } : Room) #[(.ref sy), (.int (5 : Int32))] h0 (fun v h => v = some (.int (112 : Int32)) ∧ h = h0) := by
  refine met_intro (own := c0_String) (plainFor_of_name pn_java_lang_String) rfl Z0 ?_
  intro p e s m below meth c T A hnm
  refine Wp.cast (g' := mkF m 0 #[rv sy, iv 5] []) (by first | (simp [entryFrame, mkF, argsToLocals, Value.category, maxLocals, jv, S2, U0, iv, rv]; done) | rfl) ?_
  refine s_aloadN (pc' := 1) A d9_0 rfl rfl rfl ?_
  refine s_virtual (pc' := 4) (y := y1_isLatin1) (argsL := []) (rest := []) (z := y1_isLatin1) A E (isl1 l Z a0 hw n0 h0 A.size sy cz S ncz Fc) (w62 hw) (w63 hw) (nf_same (C := "") (w65 hw)) (w65 hw) (w64 hw) (w5 hw) (w66 hw) (by decide) pd___Z rfl (W := 0) (by decide) (by decide) (Nat.le_of_eq rfl) (by decide) (by decide) rfl rfl d9_1 rfl fun T h1 v2 A Q3 => ?_
  obtain ⟨rfl, eh⟩ := Q3
  rw [eh] at A
  refine Wp.stk (st' := [(.int (1 : Int32))]) rfl ?_
  refine s_ifN (pc' := 7) A d9_4 rfl (by decide) ?_
  refine s_aloadN (pc' := 8) A d9_7 rfl rfl rfl ?_
  refine s_getfield (pc' := 11) (host := "") A (Or.inl (w49 hw)) Via.refl Fv d9_8 rfl fun T A => ?_
  refine s_iloadN (pc' := 12) A d9_11 rfl rfl ?_
  refine s_static (pc' := 15) (y := y8_charAt) (argsL := [(.ref r), (.int (5 : Int32))]) (rest := []) A (lch3_5 l Z a0 hw n0 h0 A.size r fv hfv Sf V) (w67 hw) (w68 hw) (w69 hw) (w70 hw) (by decide) pd___BI_C rfl (W := 0) (by decide) (by decide) (Nat.le_of_eq rfl) (by decide) (by decide) rfl rfl d9_12 rfl fun T h4 v5 A Q6 => ?_
  obtain ⟨rfl, eh⟩ := Q6
  rw [eh] at A
  refine Wp.stk (st' := [(.int (112 : Int32))]) rfl ?_
  exact r_small A rfl (by simp) (by decide) d9_15 (by decide) (by decide) (⟨rfl, rfl⟩)
set_option maxRecDepth 65536 in
set_option maxHeartbeats 40000000 in
theorem lch3_6 (l : Launch) (Z : State) (a0 : Array Value) (hw : ∀ d ∈ tables_1, d.before a0 Z = true) (n0 : Nat) (h0 : Heap) (Z0 : n0 ≤ h0.size) (r : Addr) (fv : Value) (hfv : fv.isRef = true) (Sf : Sta Z h0 "jdk/internal/util/Preconditions" "SIOOBE_FORMATTER" "Ljava/util/function/BiFunction;" fv) (V : AA Z h0 r .byte [.int (116 : Int32), .int (101 : Int32), .int (120 : Int32), .int (116 : Int32), .int (47 : Int32), .int (112 : Int32), .int (108 : Int32), .int (97 : Int32), .int (105 : Int32), .int (110 : Int32)]) :
    Met l Z n0 y8_charAt jdk_43_method_2_code 2 (Option.some Jvm.ClassFile.FieldType.char) ({ frames := 2, cells := 0, slots := 0, locals := 27 } : Room) #[(.ref r), (.int (6 : Int32))] h0 (fun v h => v = some (.int (108 : Int32)) ∧ h = h0) := by
  refine met_intro (own := c4_StringLatin1) (plainFor_of_name pn_java_lang_StringLatin1) rfl Z0 ?_
  intro p e s m below meth c T A hnm
  refine Wp.cast (g' := mkF m 0 #[rv r, iv 6] []) (by first | (simp [entryFrame, mkF, argsToLocals, Value.category, maxLocals, jv, S2, U0, iv, rv]; done) | rfl) ?_
  refine s_iloadN (pc' := 1) A d11_0 rfl rfl ?_
  refine s_aloadN (pc' := 2) A d11_1 rfl rfl rfl ?_
  refine s_arraylength (pc' := 3) (z := (10 : Int32)) A V (by show _ = ((10 : Nat) : Int); decide) d11_2 rfl ?_
  refine s_static (pc' := 6) (y := y3_checkIndex) (argsL := [(.int (6 : Int32)), (.int (10 : Int32))]) (rest := []) A (schk l Z a0 hw n0 h0 A.size (6 : Int32) (10 : Int32) fv hfv Sf (by decide) (by decide)) (w71 hw) (w72 hw) (w5 hw) (w73 hw) (by decide) pd__II_V rfl (W := 0) (by decide) (by decide) (Nat.le_of_eq rfl) (by decide) (by decide) rfl rfl d11_3 rfl fun T h1 v2 A Q3 => ?_
  obtain ⟨rfl, eh⟩ := Q3
  rw [eh] at A
  refine Wp.stk (st' := []) rfl ?_
  refine s_aloadN (pc' := 7) A d11_6 rfl rfl rfl ?_
  refine s_iloadN (pc' := 8) A d11_7 rfl rfl ?_
  refine s_baload (pc' := 9) (i := 6) (v := (.int (108 : Int32))) A V (by decide) rfl d11_8 rfl ?_
  refine s_sipush (pc' := 12) (z := (255 : Int32)) A d11_9 rfl (by decide) ?_
  refine s_iand (pc' := 13) (z := (108 : Int32)) A d11_12 rfl (by decide) ?_
  refine s_i2c (pc' := 14) (z := (108 : Int32)) A d11_13 rfl (by decide) ?_
  exact r_small A rfl (by simp) (by decide) d11_14 (by decide) (by decide) (⟨rfl, rfl⟩)
set_option maxRecDepth 65536 in
set_option maxHeartbeats 40000000 in
theorem cat3_6 (l : Launch) (Z : State) (a0 : Array Value) (hw : ∀ d ∈ tables_1, d.before a0 Z = true) (n0 : Nat) (h0 : Heap) (Z0 : n0 ≤ h0.size) (sy r : Addr) (cz : Int32) (fv : Value) (S : Sta Z h0 "java/lang/String" "COMPACT_STRINGS" "Z" (.int cz)) (ncz : ¬ cz = (0 : Int32)) (Fc : Fld Z h0 sy "java/lang/String" "coder" "B" (.int (0 : Int32))) (E : Exa Z h0 sy "java/lang/String") (Fv : Fld Z h0 sy "java/lang/String" "value" "[B" (.ref r)) (V : AA Z h0 r .byte [.int (116 : Int32), .int (101 : Int32), .int (120 : Int32), .int (116 : Int32), .int (47 : Int32), .int (112 : Int32), .int (108 : Int32), .int (97 : Int32), .int (105 : Int32), .int (110 : Int32)]) (hfv : fv.isRef = true) (Sf : Sta Z h0 "jdk/internal/util/Preconditions" "SIOOBE_FORMATTER" "Ljava/util/function/BiFunction;" fv) :
    Met l Z n0 y9_charAt jdk_42_method_56_code 2 (Option.some Jvm.ClassFile.FieldType.char) ({ frames := 3, cells := 0, slots := 0, locals := 40 } : Room) #[(.ref sy), (.int (6 : Int32))] h0 (fun v h => v = some (.int (108 : Int32)) ∧ h = h0) := by
  refine met_intro (own := c0_String) (plainFor_of_name pn_java_lang_String) rfl Z0 ?_
  intro p e s m below meth c T A hnm
  refine Wp.cast (g' := mkF m 0 #[rv sy, iv 6] []) (by first | (simp [entryFrame, mkF, argsToLocals, Value.category, maxLocals, jv, S2, U0, iv, rv]; done) | rfl) ?_
  refine s_aloadN (pc' := 1) A d9_0 rfl rfl rfl ?_
  refine s_virtual (pc' := 4) (y := y1_isLatin1) (argsL := []) (rest := []) (z := y1_isLatin1) A E (isl1 l Z a0 hw n0 h0 A.size sy cz S ncz Fc) (w62 hw) (w63 hw) (nf_same (C := "") (w65 hw)) (w65 hw) (w64 hw) (w5 hw) (w66 hw) (by decide) pd___Z rfl (W := 0) (by decide) (by decide) (Nat.le_of_eq rfl) (by decide) (by decide) rfl rfl d9_1 rfl fun T h1 v2 A Q3 => ?_
  obtain ⟨rfl, eh⟩ := Q3
  rw [eh] at A
  refine Wp.stk (st' := [(.int (1 : Int32))]) rfl ?_
  refine s_ifN (pc' := 7) A d9_4 rfl (by decide) ?_
  refine s_aloadN (pc' := 8) A d9_7 rfl rfl rfl ?_
  refine s_getfield (pc' := 11) (host := "") A (Or.inl (w49 hw)) Via.refl Fv d9_8 rfl fun T A => ?_
  refine s_iloadN (pc' := 12) A d9_11 rfl rfl ?_
  refine s_static (pc' := 15) (y := y8_charAt) (argsL := [(.ref r), (.int (6 : Int32))]) (rest := []) A (lch3_6 l Z a0 hw n0 h0 A.size r fv hfv Sf V) (w67 hw) (w68 hw) (w69 hw) (w70 hw) (by decide) pd___BI_C rfl (W := 0) (by decide) (by decide) (Nat.le_of_eq rfl) (by decide) (by decide) rfl rfl d9_12 rfl fun T h4 v5 A Q6 => ?_
  obtain ⟨rfl, eh⟩ := Q6
  rw [eh] at A
  refine Wp.stk (st' := [(.int (108 : Int32))]) rfl ?_
  exact r_small A rfl (by simp) (by decide) d9_15 (by decide) (by decide) (⟨rfl, rfl⟩)
set_option maxRecDepth 65536 in
set_option maxHeartbeats 40000000 in
theorem lch3_7 (l : Launch) (Z : State) (a0 : Array Value) (hw : ∀ d ∈ tables_1, d.before a0 Z = true) (n0 : Nat) (h0 : Heap) (Z0 : n0 ≤ h0.size) (r : Addr) (fv : Value) (hfv : fv.isRef = true) (Sf : Sta Z h0 "jdk/internal/util/Preconditions" "SIOOBE_FORMATTER" "Ljava/util/function/BiFunction;" fv) (V : AA Z h0 r .byte [.int (116 : Int32), .int (101 : Int32), .int (120 : Int32), .int (116 : Int32), .int (47 : Int32), .int (112 : Int32), .int (108 : Int32), .int (97 : Int32), .int (105 : Int32), .int (110 : Int32)]) :
    Met l Z n0 y8_charAt jdk_43_method_2_code 2 (Option.some Jvm.ClassFile.FieldType.char) ({ frames := 2, cells := 0, slots := 0, locals := 27 } : Room) #[(.ref r), (.int (7 : Int32))] h0 (fun v h => v = some (.int (97 : Int32)) ∧ h = h0) := by
  refine met_intro (own := c4_StringLatin1) (plainFor_of_name pn_java_lang_StringLatin1) rfl Z0 ?_
  intro p e s m below meth c T A hnm
  refine Wp.cast (g' := mkF m 0 #[rv r, iv 7] []) (by first | (simp [entryFrame, mkF, argsToLocals, Value.category, maxLocals, jv, S2, U0, iv, rv]; done) | rfl) ?_
  refine s_iloadN (pc' := 1) A d11_0 rfl rfl ?_
  refine s_aloadN (pc' := 2) A d11_1 rfl rfl rfl ?_
  refine s_arraylength (pc' := 3) (z := (10 : Int32)) A V (by show _ = ((10 : Nat) : Int); decide) d11_2 rfl ?_
  refine s_static (pc' := 6) (y := y3_checkIndex) (argsL := [(.int (7 : Int32)), (.int (10 : Int32))]) (rest := []) A (schk l Z a0 hw n0 h0 A.size (7 : Int32) (10 : Int32) fv hfv Sf (by decide) (by decide)) (w71 hw) (w72 hw) (w5 hw) (w73 hw) (by decide) pd__II_V rfl (W := 0) (by decide) (by decide) (Nat.le_of_eq rfl) (by decide) (by decide) rfl rfl d11_3 rfl fun T h1 v2 A Q3 => ?_
  obtain ⟨rfl, eh⟩ := Q3
  rw [eh] at A
  refine Wp.stk (st' := []) rfl ?_
  refine s_aloadN (pc' := 7) A d11_6 rfl rfl rfl ?_
  refine s_iloadN (pc' := 8) A d11_7 rfl rfl ?_
  refine s_baload (pc' := 9) (i := 7) (v := (.int (97 : Int32))) A V (by decide) rfl d11_8 rfl ?_
  refine s_sipush (pc' := 12) (z := (255 : Int32)) A d11_9 rfl (by decide) ?_
  refine s_iand (pc' := 13) (z := (97 : Int32)) A d11_12 rfl (by decide) ?_
  refine s_i2c (pc' := 14) (z := (97 : Int32)) A d11_13 rfl (by decide) ?_
  exact r_small A rfl (by simp) (by decide) d11_14 (by decide) (by decide) (⟨rfl, rfl⟩)
set_option maxRecDepth 65536 in
set_option maxHeartbeats 40000000 in
theorem cat3_7 (l : Launch) (Z : State) (a0 : Array Value) (hw : ∀ d ∈ tables_1, d.before a0 Z = true) (n0 : Nat) (h0 : Heap) (Z0 : n0 ≤ h0.size) (sy r : Addr) (cz : Int32) (fv : Value) (S : Sta Z h0 "java/lang/String" "COMPACT_STRINGS" "Z" (.int cz)) (ncz : ¬ cz = (0 : Int32)) (Fc : Fld Z h0 sy "java/lang/String" "coder" "B" (.int (0 : Int32))) (E : Exa Z h0 sy "java/lang/String") (Fv : Fld Z h0 sy "java/lang/String" "value" "[B" (.ref r)) (V : AA Z h0 r .byte [.int (116 : Int32), .int (101 : Int32), .int (120 : Int32), .int (116 : Int32), .int (47 : Int32), .int (112 : Int32), .int (108 : Int32), .int (97 : Int32), .int (105 : Int32), .int (110 : Int32)]) (hfv : fv.isRef = true) (Sf : Sta Z h0 "jdk/internal/util/Preconditions" "SIOOBE_FORMATTER" "Ljava/util/function/BiFunction;" fv) :
    Met l Z n0 y9_charAt jdk_42_method_56_code 2 (Option.some Jvm.ClassFile.FieldType.char) ({ frames := 3, cells := 0, slots := 0, locals := 40 } : Room) #[(.ref sy), (.int (7 : Int32))] h0 (fun v h => v = some (.int (97 : Int32)) ∧ h = h0) := by
  refine met_intro (own := c0_String) (plainFor_of_name pn_java_lang_String) rfl Z0 ?_
  intro p e s m below meth c T A hnm
  refine Wp.cast (g' := mkF m 0 #[rv sy, iv 7] []) (by first | (simp [entryFrame, mkF, argsToLocals, Value.category, maxLocals, jv, S2, U0, iv, rv]; done) | rfl) ?_
  refine s_aloadN (pc' := 1) A d9_0 rfl rfl rfl ?_
  refine s_virtual (pc' := 4) (y := y1_isLatin1) (argsL := []) (rest := []) (z := y1_isLatin1) A E (isl1 l Z a0 hw n0 h0 A.size sy cz S ncz Fc) (w62 hw) (w63 hw) (nf_same (C := "") (w65 hw)) (w65 hw) (w64 hw) (w5 hw) (w66 hw) (by decide) pd___Z rfl (W := 0) (by decide) (by decide) (Nat.le_of_eq rfl) (by decide) (by decide) rfl rfl d9_1 rfl fun T h1 v2 A Q3 => ?_
  obtain ⟨rfl, eh⟩ := Q3
  rw [eh] at A
  refine Wp.stk (st' := [(.int (1 : Int32))]) rfl ?_
  refine s_ifN (pc' := 7) A d9_4 rfl (by decide) ?_
  refine s_aloadN (pc' := 8) A d9_7 rfl rfl rfl ?_
  refine s_getfield (pc' := 11) (host := "") A (Or.inl (w49 hw)) Via.refl Fv d9_8 rfl fun T A => ?_
  refine s_iloadN (pc' := 12) A d9_11 rfl rfl ?_
  refine s_static (pc' := 15) (y := y8_charAt) (argsL := [(.ref r), (.int (7 : Int32))]) (rest := []) A (lch3_7 l Z a0 hw n0 h0 A.size r fv hfv Sf V) (w67 hw) (w68 hw) (w69 hw) (w70 hw) (by decide) pd___BI_C rfl (W := 0) (by decide) (by decide) (Nat.le_of_eq rfl) (by decide) (by decide) rfl rfl d9_12 rfl fun T h4 v5 A Q6 => ?_
  obtain ⟨rfl, eh⟩ := Q6
  rw [eh] at A
  refine Wp.stk (st' := [(.int (97 : Int32))]) rfl ?_
  exact r_small A rfl (by simp) (by decide) d9_15 (by decide) (by decide) (⟨rfl, rfl⟩)
set_option maxRecDepth 65536 in
set_option maxHeartbeats 40000000 in
theorem lch3_8 (l : Launch) (Z : State) (a0 : Array Value) (hw : ∀ d ∈ tables_1, d.before a0 Z = true) (n0 : Nat) (h0 : Heap) (Z0 : n0 ≤ h0.size) (r : Addr) (fv : Value) (hfv : fv.isRef = true) (Sf : Sta Z h0 "jdk/internal/util/Preconditions" "SIOOBE_FORMATTER" "Ljava/util/function/BiFunction;" fv) (V : AA Z h0 r .byte [.int (116 : Int32), .int (101 : Int32), .int (120 : Int32), .int (116 : Int32), .int (47 : Int32), .int (112 : Int32), .int (108 : Int32), .int (97 : Int32), .int (105 : Int32), .int (110 : Int32)]) :
    Met l Z n0 y8_charAt jdk_43_method_2_code 2 (Option.some Jvm.ClassFile.FieldType.char) ({ frames := 2, cells := 0, slots := 0, locals := 27 } : Room) #[(.ref r), (.int (8 : Int32))] h0 (fun v h => v = some (.int (105 : Int32)) ∧ h = h0) := by
  refine met_intro (own := c4_StringLatin1) (plainFor_of_name pn_java_lang_StringLatin1) rfl Z0 ?_
  intro p e s m below meth c T A hnm
  refine Wp.cast (g' := mkF m 0 #[rv r, iv 8] []) (by first | (simp [entryFrame, mkF, argsToLocals, Value.category, maxLocals, jv, S2, U0, iv, rv]; done) | rfl) ?_
  refine s_iloadN (pc' := 1) A d11_0 rfl rfl ?_
  refine s_aloadN (pc' := 2) A d11_1 rfl rfl rfl ?_
  refine s_arraylength (pc' := 3) (z := (10 : Int32)) A V (by show _ = ((10 : Nat) : Int); decide) d11_2 rfl ?_
  refine s_static (pc' := 6) (y := y3_checkIndex) (argsL := [(.int (8 : Int32)), (.int (10 : Int32))]) (rest := []) A (schk l Z a0 hw n0 h0 A.size (8 : Int32) (10 : Int32) fv hfv Sf (by decide) (by decide)) (w71 hw) (w72 hw) (w5 hw) (w73 hw) (by decide) pd__II_V rfl (W := 0) (by decide) (by decide) (Nat.le_of_eq rfl) (by decide) (by decide) rfl rfl d11_3 rfl fun T h1 v2 A Q3 => ?_
  obtain ⟨rfl, eh⟩ := Q3
  rw [eh] at A
  refine Wp.stk (st' := []) rfl ?_
  refine s_aloadN (pc' := 7) A d11_6 rfl rfl rfl ?_
  refine s_iloadN (pc' := 8) A d11_7 rfl rfl ?_
  refine s_baload (pc' := 9) (i := 8) (v := (.int (105 : Int32))) A V (by decide) rfl d11_8 rfl ?_
  refine s_sipush (pc' := 12) (z := (255 : Int32)) A d11_9 rfl (by decide) ?_
  refine s_iand (pc' := 13) (z := (105 : Int32)) A d11_12 rfl (by decide) ?_
  refine s_i2c (pc' := 14) (z := (105 : Int32)) A d11_13 rfl (by decide) ?_
  exact r_small A rfl (by simp) (by decide) d11_14 (by decide) (by decide) (⟨rfl, rfl⟩)
set_option maxRecDepth 65536 in
set_option maxHeartbeats 40000000 in
theorem cat3_8 (l : Launch) (Z : State) (a0 : Array Value) (hw : ∀ d ∈ tables_1, d.before a0 Z = true) (n0 : Nat) (h0 : Heap) (Z0 : n0 ≤ h0.size) (sy r : Addr) (cz : Int32) (fv : Value) (S : Sta Z h0 "java/lang/String" "COMPACT_STRINGS" "Z" (.int cz)) (ncz : ¬ cz = (0 : Int32)) (Fc : Fld Z h0 sy "java/lang/String" "coder" "B" (.int (0 : Int32))) (E : Exa Z h0 sy "java/lang/String") (Fv : Fld Z h0 sy "java/lang/String" "value" "[B" (.ref r)) (V : AA Z h0 r .byte [.int (116 : Int32), .int (101 : Int32), .int (120 : Int32), .int (116 : Int32), .int (47 : Int32), .int (112 : Int32), .int (108 : Int32), .int (97 : Int32), .int (105 : Int32), .int (110 : Int32)]) (hfv : fv.isRef = true) (Sf : Sta Z h0 "jdk/internal/util/Preconditions" "SIOOBE_FORMATTER" "Ljava/util/function/BiFunction;" fv) :
    Met l Z n0 y9_charAt jdk_42_method_56_code 2 (Option.some Jvm.ClassFile.FieldType.char) ({ frames := 3, cells := 0, slots := 0, locals := 40 } : Room) #[(.ref sy), (.int (8 : Int32))] h0 (fun v h => v = some (.int (105 : Int32)) ∧ h = h0) := by
  refine met_intro (own := c0_String) (plainFor_of_name pn_java_lang_String) rfl Z0 ?_
  intro p e s m below meth c T A hnm
  refine Wp.cast (g' := mkF m 0 #[rv sy, iv 8] []) (by first | (simp [entryFrame, mkF, argsToLocals, Value.category, maxLocals, jv, S2, U0, iv, rv]; done) | rfl) ?_
  refine s_aloadN (pc' := 1) A d9_0 rfl rfl rfl ?_
  refine s_virtual (pc' := 4) (y := y1_isLatin1) (argsL := []) (rest := []) (z := y1_isLatin1) A E (isl1 l Z a0 hw n0 h0 A.size sy cz S ncz Fc) (w62 hw) (w63 hw) (nf_same (C := "") (w65 hw)) (w65 hw) (w64 hw) (w5 hw) (w66 hw) (by decide) pd___Z rfl (W := 0) (by decide) (by decide) (Nat.le_of_eq rfl) (by decide) (by decide) rfl rfl d9_1 rfl fun T h1 v2 A Q3 => ?_
  obtain ⟨rfl, eh⟩ := Q3
  rw [eh] at A
  refine Wp.stk (st' := [(.int (1 : Int32))]) rfl ?_
  refine s_ifN (pc' := 7) A d9_4 rfl (by decide) ?_
  refine s_aloadN (pc' := 8) A d9_7 rfl rfl rfl ?_
  refine s_getfield (pc' := 11) (host := "") A (Or.inl (w49 hw)) Via.refl Fv d9_8 rfl fun T A => ?_
  refine s_iloadN (pc' := 12) A d9_11 rfl rfl ?_
  refine s_static (pc' := 15) (y := y8_charAt) (argsL := [(.ref r), (.int (8 : Int32))]) (rest := []) A (lch3_8 l Z a0 hw n0 h0 A.size r fv hfv Sf V) (w67 hw) (w68 hw) (w69 hw) (w70 hw) (by decide) pd___BI_C rfl (W := 0) (by decide) (by decide) (Nat.le_of_eq rfl) (by decide) (by decide) rfl rfl d9_12 rfl fun T h4 v5 A Q6 => ?_
  obtain ⟨rfl, eh⟩ := Q6
  rw [eh] at A
  refine Wp.stk (st' := [(.int (105 : Int32))]) rfl ?_
  exact r_small A rfl (by simp) (by decide) d9_15 (by decide) (by decide) (⟨rfl, rfl⟩)
set_option maxRecDepth 65536 in
set_option maxHeartbeats 40000000 in
theorem lch3_9 (l : Launch) (Z : State) (a0 : Array Value) (hw : ∀ d ∈ tables_1, d.before a0 Z = true) (n0 : Nat) (h0 : Heap) (Z0 : n0 ≤ h0.size) (r : Addr) (fv : Value) (hfv : fv.isRef = true) (Sf : Sta Z h0 "jdk/internal/util/Preconditions" "SIOOBE_FORMATTER" "Ljava/util/function/BiFunction;" fv) (V : AA Z h0 r .byte [.int (116 : Int32), .int (101 : Int32), .int (120 : Int32), .int (116 : Int32), .int (47 : Int32), .int (112 : Int32), .int (108 : Int32), .int (97 : Int32), .int (105 : Int32), .int (110 : Int32)]) :
    Met l Z n0 y8_charAt jdk_43_method_2_code 2 (Option.some Jvm.ClassFile.FieldType.char) ({ frames := 2, cells := 0, slots := 0, locals := 27 } : Room) #[(.ref r), (.int (9 : Int32))] h0 (fun v h => v = some (.int (110 : Int32)) ∧ h = h0) := by
  refine met_intro (own := c4_StringLatin1) (plainFor_of_name pn_java_lang_StringLatin1) rfl Z0 ?_
  intro p e s m below meth c T A hnm
  refine Wp.cast (g' := mkF m 0 #[rv r, iv 9] []) (by first | (simp [entryFrame, mkF, argsToLocals, Value.category, maxLocals, jv, S2, U0, iv, rv]; done) | rfl) ?_
  refine s_iloadN (pc' := 1) A d11_0 rfl rfl ?_
  refine s_aloadN (pc' := 2) A d11_1 rfl rfl rfl ?_
  refine s_arraylength (pc' := 3) (z := (10 : Int32)) A V (by show _ = ((10 : Nat) : Int); decide) d11_2 rfl ?_
  refine s_static (pc' := 6) (y := y3_checkIndex) (argsL := [(.int (9 : Int32)), (.int (10 : Int32))]) (rest := []) A (schk l Z a0 hw n0 h0 A.size (9 : Int32) (10 : Int32) fv hfv Sf (by decide) (by decide)) (w71 hw) (w72 hw) (w5 hw) (w73 hw) (by decide) pd__II_V rfl (W := 0) (by decide) (by decide) (Nat.le_of_eq rfl) (by decide) (by decide) rfl rfl d11_3 rfl fun T h1 v2 A Q3 => ?_
  obtain ⟨rfl, eh⟩ := Q3
  rw [eh] at A
  refine Wp.stk (st' := []) rfl ?_
  refine s_aloadN (pc' := 7) A d11_6 rfl rfl rfl ?_
  refine s_iloadN (pc' := 8) A d11_7 rfl rfl ?_
  refine s_baload (pc' := 9) (i := 9) (v := (.int (110 : Int32))) A V (by decide) rfl d11_8 rfl ?_
  refine s_sipush (pc' := 12) (z := (255 : Int32)) A d11_9 rfl (by decide) ?_
  refine s_iand (pc' := 13) (z := (110 : Int32)) A d11_12 rfl (by decide) ?_
  refine s_i2c (pc' := 14) (z := (110 : Int32)) A d11_13 rfl (by decide) ?_
  exact r_small A rfl (by simp) (by decide) d11_14 (by decide) (by decide) (⟨rfl, rfl⟩)
set_option maxRecDepth 65536 in
set_option maxHeartbeats 40000000 in
theorem cat3_9 (l : Launch) (Z : State) (a0 : Array Value) (hw : ∀ d ∈ tables_1, d.before a0 Z = true) (n0 : Nat) (h0 : Heap) (Z0 : n0 ≤ h0.size) (sy r : Addr) (cz : Int32) (fv : Value) (S : Sta Z h0 "java/lang/String" "COMPACT_STRINGS" "Z" (.int cz)) (ncz : ¬ cz = (0 : Int32)) (Fc : Fld Z h0 sy "java/lang/String" "coder" "B" (.int (0 : Int32))) (E : Exa Z h0 sy "java/lang/String") (Fv : Fld Z h0 sy "java/lang/String" "value" "[B" (.ref r)) (V : AA Z h0 r .byte [.int (116 : Int32), .int (101 : Int32), .int (120 : Int32), .int (116 : Int32), .int (47 : Int32), .int (112 : Int32), .int (108 : Int32), .int (97 : Int32), .int (105 : Int32), .int (110 : Int32)]) (hfv : fv.isRef = true) (Sf : Sta Z h0 "jdk/internal/util/Preconditions" "SIOOBE_FORMATTER" "Ljava/util/function/BiFunction;" fv) :
    Met l Z n0 y9_charAt jdk_42_method_56_code 2 (Option.some Jvm.ClassFile.FieldType.char) ({ frames := 3, cells := 0, slots := 0, locals := 40 } : Room) #[(.ref sy), (.int (9 : Int32))] h0 (fun v h => v = some (.int (110 : Int32)) ∧ h = h0) := by
  refine met_intro (own := c0_String) (plainFor_of_name pn_java_lang_String) rfl Z0 ?_
  intro p e s m below meth c T A hnm
  refine Wp.cast (g' := mkF m 0 #[rv sy, iv 9] []) (by first | (simp [entryFrame, mkF, argsToLocals, Value.category, maxLocals, jv, S2, U0, iv, rv]; done) | rfl) ?_
  refine s_aloadN (pc' := 1) A d9_0 rfl rfl rfl ?_
  refine s_virtual (pc' := 4) (y := y1_isLatin1) (argsL := []) (rest := []) (z := y1_isLatin1) A E (isl1 l Z a0 hw n0 h0 A.size sy cz S ncz Fc) (w62 hw) (w63 hw) (nf_same (C := "") (w65 hw)) (w65 hw) (w64 hw) (w5 hw) (w66 hw) (by decide) pd___Z rfl (W := 0) (by decide) (by decide) (Nat.le_of_eq rfl) (by decide) (by decide) rfl rfl d9_1 rfl fun T h1 v2 A Q3 => ?_
  obtain ⟨rfl, eh⟩ := Q3
  rw [eh] at A
  refine Wp.stk (st' := [(.int (1 : Int32))]) rfl ?_
  refine s_ifN (pc' := 7) A d9_4 rfl (by decide) ?_
  refine s_aloadN (pc' := 8) A d9_7 rfl rfl rfl ?_
  refine s_getfield (pc' := 11) (host := "") A (Or.inl (w49 hw)) Via.refl Fv d9_8 rfl fun T A => ?_
  refine s_iloadN (pc' := 12) A d9_11 rfl rfl ?_
  refine s_static (pc' := 15) (y := y8_charAt) (argsL := [(.ref r), (.int (9 : Int32))]) (rest := []) A (lch3_9 l Z a0 hw n0 h0 A.size r fv hfv Sf V) (w67 hw) (w68 hw) (w69 hw) (w70 hw) (by decide) pd___BI_C rfl (W := 0) (by decide) (by decide) (Nat.le_of_eq rfl) (by decide) (by decide) rfl rfl d9_12 rfl fun T h4 v5 A Q6 => ?_
  obtain ⟨rfl, eh⟩ := Q6
  rw [eh] at A
  refine Wp.stk (st' := [(.int (110 : Int32))]) rfl ?_
  exact r_small A rfl (by simp) (by decide) d9_15 (by decide) (by decide) (⟨rfl, rfl⟩)
set_option maxRecDepth 65536 in
set_option maxHeartbeats 40000000 in
theorem ioc3 (l : Launch) (Z : State) (a0 : Array Value) (hw : ∀ d ∈ tables_1, d.before a0 Z = true) (n0 : Nat) (h0 : Heap) (Z0 : n0 ≤ h0.size) (sy r : Addr) (cz : Int32) (fv : Value) (S : Sta Z h0 "java/lang/String" "COMPACT_STRINGS" "Z" (.int cz)) (ncz : ¬ cz = (0 : Int32)) (Fc : Fld Z h0 sy "java/lang/String" "coder" "B" (.int (0 : Int32))) (E : Exa Z h0 sy "java/lang/String") (Fv : Fld Z h0 sy "java/lang/String" "value" "[B" (.ref r)) (V : AA Z h0 r .byte [.int (116 : Int32), .int (101 : Int32), .int (120 : Int32), .int (116 : Int32), .int (47 : Int32), .int (112 : Int32), .int (108 : Int32), .int (97 : Int32), .int (105 : Int32), .int (110 : Int32)]) (hfv : fv.isRef = true) (Sf : Sta Z h0 "jdk/internal/util/Preconditions" "SIOOBE_FORMATTER" "Ljava/util/function/BiFunction;" fv) :
    Met l Z n0 y10_indexOfControlCharacter prog_13_method_4_code 2 (Option.some Jvm.ClassFile.FieldType.int) ({ frames := 4, cells := 0, slots := 0, locals := 53 } : Room) #[(.ref sy)] h0 (fun v h => v = some (.int (-1)) ∧ h = h0) := by
  refine met_intro (own := c2_FormRequest) (plainFor_of_name pn_com_example_tailorbird_tailorbird_FormRequest) rfl Z0 ?_
  intro p e s m below meth c T A hnm
  refine Wp.cast (g' := mkF m 0 #[rv sy, U0] []) (by first | (simp [entryFrame, mkF, argsToLocals, Value.category, maxLocals, jv, S2, U0, iv, rv]; done) | rfl) ?_
  refine s_iconst (pc' := 1) (z := (0 : Int32)) A d6_0 rfl (by decide) ?_
  refine s_istoreN (pc' := 2) (Ls' := #[rv sy, iv 0]) A d6_1 rfl rfl ?_
  refine s_iloadN (pc' := 3) A d6_2 rfl rfl ?_
  refine s_aloadN (pc' := 4) A d6_3 rfl rfl rfl ?_
  refine s_virtual (pc' := 7) (y := y7_length) (argsL := []) (rest := [(.int (0 : Int32))]) (z := y7_length) A E (len3 l Z a0 hw n0 h0 A.size sy r cz S ncz Fc E Fv V) (w44 hw) (w45 hw) (nf_same (C := "") (w47 hw)) (w47 hw) (w46 hw) (w5 hw) (w48 hw) (by decide) pd___I rfl (W := 1) (by decide) (by decide) (Nat.le_of_eq rfl) (by decide) (by decide) rfl rfl d6_4 rfl fun T h1 v2 A Q3 => ?_
  obtain ⟨rfl, eh⟩ := Q3
  rw [eh] at A
  refine Wp.stk (st' := [(.int (10 : Int32)), (.int (0 : Int32))]) rfl ?_
  refine s_icmpN (pc' := 10) A d6_7 rfl (by decide) ?_
  refine s_aloadN (pc' := 11) A d6_10 rfl rfl rfl ?_
  refine s_iloadN (pc' := 12) A d6_11 rfl rfl ?_
  refine s_virtual (pc' := 15) (y := y9_charAt) (argsL := [(.int (0 : Int32))]) (rest := []) (z := y9_charAt) A E (cat3_0 l Z a0 hw n0 h0 A.size sy r cz fv S ncz Fc E Fv V hfv Sf) (w57 hw) (w58 hw) (nf_same (C := "") (w60 hw)) (w60 hw) (w59 hw) (w5 hw) (w61 hw) (by decide) pd__I_C rfl (W := 0) (by decide) (by decide) (Nat.le_of_eq rfl) (by decide) (by decide) rfl rfl d6_12 rfl fun T h4 v5 A Q6 => ?_
  obtain ⟨rfl, eh⟩ := Q6
  rw [eh] at A
  refine Wp.stk (st' := [(.int (116 : Int32))]) rfl ?_
  refine s_static (pc' := 18) (y := y4_isControlCharacter) (argsL := [(.int (116 : Int32))]) (rest := []) A (isctl l Z a0 hw n0 h0 A.size (116 : Int32) (by decide) (by decide)) (w79 hw) (w80 hw) (w3 hw) (w81 hw) (by decide) pd__I_Z rfl (W := 0) (by decide) (by decide) (Nat.le_of_eq rfl) (by decide) (by decide) rfl rfl d6_15 rfl fun T h7 v8 A Q9 => ?_
  obtain ⟨rfl, eh⟩ := Q9
  rw [eh] at A
  refine Wp.stk (st' := [(.int (0 : Int32))]) rfl ?_
  refine s_ifY (pc' := 23) A d6_18 (by decide) (by decide) (by decide) ?_
  refine s_iinc (pc' := 26) (z := (1 : Int32)) (Ls' := #[rv sy, iv 1]) A d6_23 rfl rfl (by decide) rfl ?_
  refine s_goto (pc' := 2) A d6_26 (by decide) (by decide) ?_
  refine s_iloadN (pc' := 3) A d6_2 rfl rfl ?_
  refine s_aloadN (pc' := 4) A d6_3 rfl rfl rfl ?_
  refine s_virtual (pc' := 7) (y := y7_length) (argsL := []) (rest := [(.int (1 : Int32))]) (z := y7_length) A E (len3 l Z a0 hw n0 h0 A.size sy r cz S ncz Fc E Fv V) (w44 hw) (w45 hw) (nf_same (C := "") (w47 hw)) (w47 hw) (w46 hw) (w5 hw) (w48 hw) (by decide) pd___I rfl (W := 1) (by decide) (by decide) (Nat.le_of_eq rfl) (by decide) (by decide) rfl rfl d6_4 rfl fun T h10 v11 A Q12 => ?_
  obtain ⟨rfl, eh⟩ := Q12
  rw [eh] at A
  refine Wp.stk (st' := [(.int (10 : Int32)), (.int (1 : Int32))]) rfl ?_
  refine s_icmpN (pc' := 10) A d6_7 rfl (by decide) ?_
  refine s_aloadN (pc' := 11) A d6_10 rfl rfl rfl ?_
  refine s_iloadN (pc' := 12) A d6_11 rfl rfl ?_
  refine s_virtual (pc' := 15) (y := y9_charAt) (argsL := [(.int (1 : Int32))]) (rest := []) (z := y9_charAt) A E (cat3_1 l Z a0 hw n0 h0 A.size sy r cz fv S ncz Fc E Fv V hfv Sf) (w57 hw) (w58 hw) (nf_same (C := "") (w60 hw)) (w60 hw) (w59 hw) (w5 hw) (w61 hw) (by decide) pd__I_C rfl (W := 0) (by decide) (by decide) (Nat.le_of_eq rfl) (by decide) (by decide) rfl rfl d6_12 rfl fun T h13 v14 A Q15 => ?_
  obtain ⟨rfl, eh⟩ := Q15
  rw [eh] at A
  refine Wp.stk (st' := [(.int (101 : Int32))]) rfl ?_
  refine s_static (pc' := 18) (y := y4_isControlCharacter) (argsL := [(.int (101 : Int32))]) (rest := []) A (isctl l Z a0 hw n0 h0 A.size (101 : Int32) (by decide) (by decide)) (w79 hw) (w80 hw) (w3 hw) (w81 hw) (by decide) pd__I_Z rfl (W := 0) (by decide) (by decide) (Nat.le_of_eq rfl) (by decide) (by decide) rfl rfl d6_15 rfl fun T h16 v17 A Q18 => ?_
  obtain ⟨rfl, eh⟩ := Q18
  rw [eh] at A
  refine Wp.stk (st' := [(.int (0 : Int32))]) rfl ?_
  refine s_ifY (pc' := 23) A d6_18 (by decide) (by decide) (by decide) ?_
  refine s_iinc (pc' := 26) (z := (2 : Int32)) (Ls' := #[rv sy, iv 2]) A d6_23 rfl rfl (by decide) rfl ?_
  refine s_goto (pc' := 2) A d6_26 (by decide) (by decide) ?_
  refine s_iloadN (pc' := 3) A d6_2 rfl rfl ?_
  refine s_aloadN (pc' := 4) A d6_3 rfl rfl rfl ?_
  refine s_virtual (pc' := 7) (y := y7_length) (argsL := []) (rest := [(.int (2 : Int32))]) (z := y7_length) A E (len3 l Z a0 hw n0 h0 A.size sy r cz S ncz Fc E Fv V) (w44 hw) (w45 hw) (nf_same (C := "") (w47 hw)) (w47 hw) (w46 hw) (w5 hw) (w48 hw) (by decide) pd___I rfl (W := 1) (by decide) (by decide) (Nat.le_of_eq rfl) (by decide) (by decide) rfl rfl d6_4 rfl fun T h19 v20 A Q21 => ?_
  obtain ⟨rfl, eh⟩ := Q21
  rw [eh] at A
  refine Wp.stk (st' := [(.int (10 : Int32)), (.int (2 : Int32))]) rfl ?_
  refine s_icmpN (pc' := 10) A d6_7 rfl (by decide) ?_
  refine s_aloadN (pc' := 11) A d6_10 rfl rfl rfl ?_
  refine s_iloadN (pc' := 12) A d6_11 rfl rfl ?_
  refine s_virtual (pc' := 15) (y := y9_charAt) (argsL := [(.int (2 : Int32))]) (rest := []) (z := y9_charAt) A E (cat3_2 l Z a0 hw n0 h0 A.size sy r cz fv S ncz Fc E Fv V hfv Sf) (w57 hw) (w58 hw) (nf_same (C := "") (w60 hw)) (w60 hw) (w59 hw) (w5 hw) (w61 hw) (by decide) pd__I_C rfl (W := 0) (by decide) (by decide) (Nat.le_of_eq rfl) (by decide) (by decide) rfl rfl d6_12 rfl fun T h22 v23 A Q24 => ?_
  obtain ⟨rfl, eh⟩ := Q24
  rw [eh] at A
  refine Wp.stk (st' := [(.int (120 : Int32))]) rfl ?_
  refine s_static (pc' := 18) (y := y4_isControlCharacter) (argsL := [(.int (120 : Int32))]) (rest := []) A (isctl l Z a0 hw n0 h0 A.size (120 : Int32) (by decide) (by decide)) (w79 hw) (w80 hw) (w3 hw) (w81 hw) (by decide) pd__I_Z rfl (W := 0) (by decide) (by decide) (Nat.le_of_eq rfl) (by decide) (by decide) rfl rfl d6_15 rfl fun T h25 v26 A Q27 => ?_
  obtain ⟨rfl, eh⟩ := Q27
  rw [eh] at A
  refine Wp.stk (st' := [(.int (0 : Int32))]) rfl ?_
  refine s_ifY (pc' := 23) A d6_18 (by decide) (by decide) (by decide) ?_
  refine s_iinc (pc' := 26) (z := (3 : Int32)) (Ls' := #[rv sy, iv 3]) A d6_23 rfl rfl (by decide) rfl ?_
  refine s_goto (pc' := 2) A d6_26 (by decide) (by decide) ?_
  refine s_iloadN (pc' := 3) A d6_2 rfl rfl ?_
  refine s_aloadN (pc' := 4) A d6_3 rfl rfl rfl ?_
  refine s_virtual (pc' := 7) (y := y7_length) (argsL := []) (rest := [(.int (3 : Int32))]) (z := y7_length) A E (len3 l Z a0 hw n0 h0 A.size sy r cz S ncz Fc E Fv V) (w44 hw) (w45 hw) (nf_same (C := "") (w47 hw)) (w47 hw) (w46 hw) (w5 hw) (w48 hw) (by decide) pd___I rfl (W := 1) (by decide) (by decide) (Nat.le_of_eq rfl) (by decide) (by decide) rfl rfl d6_4 rfl fun T h28 v29 A Q30 => ?_
  obtain ⟨rfl, eh⟩ := Q30
  rw [eh] at A
  refine Wp.stk (st' := [(.int (10 : Int32)), (.int (3 : Int32))]) rfl ?_
  refine s_icmpN (pc' := 10) A d6_7 rfl (by decide) ?_
  refine s_aloadN (pc' := 11) A d6_10 rfl rfl rfl ?_
  refine s_iloadN (pc' := 12) A d6_11 rfl rfl ?_
  refine s_virtual (pc' := 15) (y := y9_charAt) (argsL := [(.int (3 : Int32))]) (rest := []) (z := y9_charAt) A E (cat3_3 l Z a0 hw n0 h0 A.size sy r cz fv S ncz Fc E Fv V hfv Sf) (w57 hw) (w58 hw) (nf_same (C := "") (w60 hw)) (w60 hw) (w59 hw) (w5 hw) (w61 hw) (by decide) pd__I_C rfl (W := 0) (by decide) (by decide) (Nat.le_of_eq rfl) (by decide) (by decide) rfl rfl d6_12 rfl fun T h31 v32 A Q33 => ?_
  obtain ⟨rfl, eh⟩ := Q33
  rw [eh] at A
  refine Wp.stk (st' := [(.int (116 : Int32))]) rfl ?_
  refine s_static (pc' := 18) (y := y4_isControlCharacter) (argsL := [(.int (116 : Int32))]) (rest := []) A (isctl l Z a0 hw n0 h0 A.size (116 : Int32) (by decide) (by decide)) (w79 hw) (w80 hw) (w3 hw) (w81 hw) (by decide) pd__I_Z rfl (W := 0) (by decide) (by decide) (Nat.le_of_eq rfl) (by decide) (by decide) rfl rfl d6_15 rfl fun T h34 v35 A Q36 => ?_
  obtain ⟨rfl, eh⟩ := Q36
  rw [eh] at A
  refine Wp.stk (st' := [(.int (0 : Int32))]) rfl ?_
  refine s_ifY (pc' := 23) A d6_18 (by decide) (by decide) (by decide) ?_
  refine s_iinc (pc' := 26) (z := (4 : Int32)) (Ls' := #[rv sy, iv 4]) A d6_23 rfl rfl (by decide) rfl ?_
  refine s_goto (pc' := 2) A d6_26 (by decide) (by decide) ?_
  refine s_iloadN (pc' := 3) A d6_2 rfl rfl ?_
  refine s_aloadN (pc' := 4) A d6_3 rfl rfl rfl ?_
  refine s_virtual (pc' := 7) (y := y7_length) (argsL := []) (rest := [(.int (4 : Int32))]) (z := y7_length) A E (len3 l Z a0 hw n0 h0 A.size sy r cz S ncz Fc E Fv V) (w44 hw) (w45 hw) (nf_same (C := "") (w47 hw)) (w47 hw) (w46 hw) (w5 hw) (w48 hw) (by decide) pd___I rfl (W := 1) (by decide) (by decide) (Nat.le_of_eq rfl) (by decide) (by decide) rfl rfl d6_4 rfl fun T h37 v38 A Q39 => ?_
  obtain ⟨rfl, eh⟩ := Q39
  rw [eh] at A
  refine Wp.stk (st' := [(.int (10 : Int32)), (.int (4 : Int32))]) rfl ?_
  refine s_icmpN (pc' := 10) A d6_7 rfl (by decide) ?_
  refine s_aloadN (pc' := 11) A d6_10 rfl rfl rfl ?_
  refine s_iloadN (pc' := 12) A d6_11 rfl rfl ?_
  refine s_virtual (pc' := 15) (y := y9_charAt) (argsL := [(.int (4 : Int32))]) (rest := []) (z := y9_charAt) A E (cat3_4 l Z a0 hw n0 h0 A.size sy r cz fv S ncz Fc E Fv V hfv Sf) (w57 hw) (w58 hw) (nf_same (C := "") (w60 hw)) (w60 hw) (w59 hw) (w5 hw) (w61 hw) (by decide) pd__I_C rfl (W := 0) (by decide) (by decide) (Nat.le_of_eq rfl) (by decide) (by decide) rfl rfl d6_12 rfl fun T h40 v41 A Q42 => ?_
  obtain ⟨rfl, eh⟩ := Q42
  rw [eh] at A
  refine Wp.stk (st' := [(.int (47 : Int32))]) rfl ?_
  refine s_static (pc' := 18) (y := y4_isControlCharacter) (argsL := [(.int (47 : Int32))]) (rest := []) A (isctl l Z a0 hw n0 h0 A.size (47 : Int32) (by decide) (by decide)) (w79 hw) (w80 hw) (w3 hw) (w81 hw) (by decide) pd__I_Z rfl (W := 0) (by decide) (by decide) (Nat.le_of_eq rfl) (by decide) (by decide) rfl rfl d6_15 rfl fun T h43 v44 A Q45 => ?_
  obtain ⟨rfl, eh⟩ := Q45
  rw [eh] at A
  refine Wp.stk (st' := [(.int (0 : Int32))]) rfl ?_
  refine s_ifY (pc' := 23) A d6_18 (by decide) (by decide) (by decide) ?_
  refine s_iinc (pc' := 26) (z := (5 : Int32)) (Ls' := #[rv sy, iv 5]) A d6_23 rfl rfl (by decide) rfl ?_
  refine s_goto (pc' := 2) A d6_26 (by decide) (by decide) ?_
  refine s_iloadN (pc' := 3) A d6_2 rfl rfl ?_
  refine s_aloadN (pc' := 4) A d6_3 rfl rfl rfl ?_
  refine s_virtual (pc' := 7) (y := y7_length) (argsL := []) (rest := [(.int (5 : Int32))]) (z := y7_length) A E (len3 l Z a0 hw n0 h0 A.size sy r cz S ncz Fc E Fv V) (w44 hw) (w45 hw) (nf_same (C := "") (w47 hw)) (w47 hw) (w46 hw) (w5 hw) (w48 hw) (by decide) pd___I rfl (W := 1) (by decide) (by decide) (Nat.le_of_eq rfl) (by decide) (by decide) rfl rfl d6_4 rfl fun T h46 v47 A Q48 => ?_
  obtain ⟨rfl, eh⟩ := Q48
  rw [eh] at A
  refine Wp.stk (st' := [(.int (10 : Int32)), (.int (5 : Int32))]) rfl ?_
  refine s_icmpN (pc' := 10) A d6_7 rfl (by decide) ?_
  refine s_aloadN (pc' := 11) A d6_10 rfl rfl rfl ?_
  refine s_iloadN (pc' := 12) A d6_11 rfl rfl ?_
  refine s_virtual (pc' := 15) (y := y9_charAt) (argsL := [(.int (5 : Int32))]) (rest := []) (z := y9_charAt) A E (cat3_5 l Z a0 hw n0 h0 A.size sy r cz fv S ncz Fc E Fv V hfv Sf) (w57 hw) (w58 hw) (nf_same (C := "") (w60 hw)) (w60 hw) (w59 hw) (w5 hw) (w61 hw) (by decide) pd__I_C rfl (W := 0) (by decide) (by decide) (Nat.le_of_eq rfl) (by decide) (by decide) rfl rfl d6_12 rfl fun T h49 v50 A Q51 => ?_
  obtain ⟨rfl, eh⟩ := Q51
  rw [eh] at A
  refine Wp.stk (st' := [(.int (112 : Int32))]) rfl ?_
  refine s_static (pc' := 18) (y := y4_isControlCharacter) (argsL := [(.int (112 : Int32))]) (rest := []) A (isctl l Z a0 hw n0 h0 A.size (112 : Int32) (by decide) (by decide)) (w79 hw) (w80 hw) (w3 hw) (w81 hw) (by decide) pd__I_Z rfl (W := 0) (by decide) (by decide) (Nat.le_of_eq rfl) (by decide) (by decide) rfl rfl d6_15 rfl fun T h52 v53 A Q54 => ?_
  obtain ⟨rfl, eh⟩ := Q54
  rw [eh] at A
  refine Wp.stk (st' := [(.int (0 : Int32))]) rfl ?_
  refine s_ifY (pc' := 23) A d6_18 (by decide) (by decide) (by decide) ?_
  refine s_iinc (pc' := 26) (z := (6 : Int32)) (Ls' := #[rv sy, iv 6]) A d6_23 rfl rfl (by decide) rfl ?_
  refine s_goto (pc' := 2) A d6_26 (by decide) (by decide) ?_
  refine s_iloadN (pc' := 3) A d6_2 rfl rfl ?_
  refine s_aloadN (pc' := 4) A d6_3 rfl rfl rfl ?_
  refine s_virtual (pc' := 7) (y := y7_length) (argsL := []) (rest := [(.int (6 : Int32))]) (z := y7_length) A E (len3 l Z a0 hw n0 h0 A.size sy r cz S ncz Fc E Fv V) (w44 hw) (w45 hw) (nf_same (C := "") (w47 hw)) (w47 hw) (w46 hw) (w5 hw) (w48 hw) (by decide) pd___I rfl (W := 1) (by decide) (by decide) (Nat.le_of_eq rfl) (by decide) (by decide) rfl rfl d6_4 rfl fun T h55 v56 A Q57 => ?_
  obtain ⟨rfl, eh⟩ := Q57
  rw [eh] at A
  refine Wp.stk (st' := [(.int (10 : Int32)), (.int (6 : Int32))]) rfl ?_
  refine s_icmpN (pc' := 10) A d6_7 rfl (by decide) ?_
  refine s_aloadN (pc' := 11) A d6_10 rfl rfl rfl ?_
  refine s_iloadN (pc' := 12) A d6_11 rfl rfl ?_
  refine s_virtual (pc' := 15) (y := y9_charAt) (argsL := [(.int (6 : Int32))]) (rest := []) (z := y9_charAt) A E (cat3_6 l Z a0 hw n0 h0 A.size sy r cz fv S ncz Fc E Fv V hfv Sf) (w57 hw) (w58 hw) (nf_same (C := "") (w60 hw)) (w60 hw) (w59 hw) (w5 hw) (w61 hw) (by decide) pd__I_C rfl (W := 0) (by decide) (by decide) (Nat.le_of_eq rfl) (by decide) (by decide) rfl rfl d6_12 rfl fun T h58 v59 A Q60 => ?_
  obtain ⟨rfl, eh⟩ := Q60
  rw [eh] at A
  refine Wp.stk (st' := [(.int (108 : Int32))]) rfl ?_
  refine s_static (pc' := 18) (y := y4_isControlCharacter) (argsL := [(.int (108 : Int32))]) (rest := []) A (isctl l Z a0 hw n0 h0 A.size (108 : Int32) (by decide) (by decide)) (w79 hw) (w80 hw) (w3 hw) (w81 hw) (by decide) pd__I_Z rfl (W := 0) (by decide) (by decide) (Nat.le_of_eq rfl) (by decide) (by decide) rfl rfl d6_15 rfl fun T h61 v62 A Q63 => ?_
  obtain ⟨rfl, eh⟩ := Q63
  rw [eh] at A
  refine Wp.stk (st' := [(.int (0 : Int32))]) rfl ?_
  refine s_ifY (pc' := 23) A d6_18 (by decide) (by decide) (by decide) ?_
  refine s_iinc (pc' := 26) (z := (7 : Int32)) (Ls' := #[rv sy, iv 7]) A d6_23 rfl rfl (by decide) rfl ?_
  refine s_goto (pc' := 2) A d6_26 (by decide) (by decide) ?_
  refine s_iloadN (pc' := 3) A d6_2 rfl rfl ?_
  refine s_aloadN (pc' := 4) A d6_3 rfl rfl rfl ?_
  refine s_virtual (pc' := 7) (y := y7_length) (argsL := []) (rest := [(.int (7 : Int32))]) (z := y7_length) A E (len3 l Z a0 hw n0 h0 A.size sy r cz S ncz Fc E Fv V) (w44 hw) (w45 hw) (nf_same (C := "") (w47 hw)) (w47 hw) (w46 hw) (w5 hw) (w48 hw) (by decide) pd___I rfl (W := 1) (by decide) (by decide) (Nat.le_of_eq rfl) (by decide) (by decide) rfl rfl d6_4 rfl fun T h64 v65 A Q66 => ?_
  obtain ⟨rfl, eh⟩ := Q66
  rw [eh] at A
  refine Wp.stk (st' := [(.int (10 : Int32)), (.int (7 : Int32))]) rfl ?_
  refine s_icmpN (pc' := 10) A d6_7 rfl (by decide) ?_
  refine s_aloadN (pc' := 11) A d6_10 rfl rfl rfl ?_
  refine s_iloadN (pc' := 12) A d6_11 rfl rfl ?_
  refine s_virtual (pc' := 15) (y := y9_charAt) (argsL := [(.int (7 : Int32))]) (rest := []) (z := y9_charAt) A E (cat3_7 l Z a0 hw n0 h0 A.size sy r cz fv S ncz Fc E Fv V hfv Sf) (w57 hw) (w58 hw) (nf_same (C := "") (w60 hw)) (w60 hw) (w59 hw) (w5 hw) (w61 hw) (by decide) pd__I_C rfl (W := 0) (by decide) (by decide) (Nat.le_of_eq rfl) (by decide) (by decide) rfl rfl d6_12 rfl fun T h67 v68 A Q69 => ?_
  obtain ⟨rfl, eh⟩ := Q69
  rw [eh] at A
  refine Wp.stk (st' := [(.int (97 : Int32))]) rfl ?_
  refine s_static (pc' := 18) (y := y4_isControlCharacter) (argsL := [(.int (97 : Int32))]) (rest := []) A (isctl l Z a0 hw n0 h0 A.size (97 : Int32) (by decide) (by decide)) (w79 hw) (w80 hw) (w3 hw) (w81 hw) (by decide) pd__I_Z rfl (W := 0) (by decide) (by decide) (Nat.le_of_eq rfl) (by decide) (by decide) rfl rfl d6_15 rfl fun T h70 v71 A Q72 => ?_
  obtain ⟨rfl, eh⟩ := Q72
  rw [eh] at A
  refine Wp.stk (st' := [(.int (0 : Int32))]) rfl ?_
  refine s_ifY (pc' := 23) A d6_18 (by decide) (by decide) (by decide) ?_
  refine s_iinc (pc' := 26) (z := (8 : Int32)) (Ls' := #[rv sy, iv 8]) A d6_23 rfl rfl (by decide) rfl ?_
  refine s_goto (pc' := 2) A d6_26 (by decide) (by decide) ?_
  refine s_iloadN (pc' := 3) A d6_2 rfl rfl ?_
  refine s_aloadN (pc' := 4) A d6_3 rfl rfl rfl ?_
  refine s_virtual (pc' := 7) (y := y7_length) (argsL := []) (rest := [(.int (8 : Int32))]) (z := y7_length) A E (len3 l Z a0 hw n0 h0 A.size sy r cz S ncz Fc E Fv V) (w44 hw) (w45 hw) (nf_same (C := "") (w47 hw)) (w47 hw) (w46 hw) (w5 hw) (w48 hw) (by decide) pd___I rfl (W := 1) (by decide) (by decide) (Nat.le_of_eq rfl) (by decide) (by decide) rfl rfl d6_4 rfl fun T h73 v74 A Q75 => ?_
  obtain ⟨rfl, eh⟩ := Q75
  rw [eh] at A
  refine Wp.stk (st' := [(.int (10 : Int32)), (.int (8 : Int32))]) rfl ?_
  refine s_icmpN (pc' := 10) A d6_7 rfl (by decide) ?_
  refine s_aloadN (pc' := 11) A d6_10 rfl rfl rfl ?_
  refine s_iloadN (pc' := 12) A d6_11 rfl rfl ?_
  refine s_virtual (pc' := 15) (y := y9_charAt) (argsL := [(.int (8 : Int32))]) (rest := []) (z := y9_charAt) A E (cat3_8 l Z a0 hw n0 h0 A.size sy r cz fv S ncz Fc E Fv V hfv Sf) (w57 hw) (w58 hw) (nf_same (C := "") (w60 hw)) (w60 hw) (w59 hw) (w5 hw) (w61 hw) (by decide) pd__I_C rfl (W := 0) (by decide) (by decide) (Nat.le_of_eq rfl) (by decide) (by decide) rfl rfl d6_12 rfl fun T h76 v77 A Q78 => ?_
  obtain ⟨rfl, eh⟩ := Q78
  rw [eh] at A
  refine Wp.stk (st' := [(.int (105 : Int32))]) rfl ?_
  refine s_static (pc' := 18) (y := y4_isControlCharacter) (argsL := [(.int (105 : Int32))]) (rest := []) A (isctl l Z a0 hw n0 h0 A.size (105 : Int32) (by decide) (by decide)) (w79 hw) (w80 hw) (w3 hw) (w81 hw) (by decide) pd__I_Z rfl (W := 0) (by decide) (by decide) (Nat.le_of_eq rfl) (by decide) (by decide) rfl rfl d6_15 rfl fun T h79 v80 A Q81 => ?_
  obtain ⟨rfl, eh⟩ := Q81
  rw [eh] at A
  refine Wp.stk (st' := [(.int (0 : Int32))]) rfl ?_
  refine s_ifY (pc' := 23) A d6_18 (by decide) (by decide) (by decide) ?_
  refine s_iinc (pc' := 26) (z := (9 : Int32)) (Ls' := #[rv sy, iv 9]) A d6_23 rfl rfl (by decide) rfl ?_
  refine s_goto (pc' := 2) A d6_26 (by decide) (by decide) ?_
  refine s_iloadN (pc' := 3) A d6_2 rfl rfl ?_
  refine s_aloadN (pc' := 4) A d6_3 rfl rfl rfl ?_
  refine s_virtual (pc' := 7) (y := y7_length) (argsL := []) (rest := [(.int (9 : Int32))]) (z := y7_length) A E (len3 l Z a0 hw n0 h0 A.size sy r cz S ncz Fc E Fv V) (w44 hw) (w45 hw) (nf_same (C := "") (w47 hw)) (w47 hw) (w46 hw) (w5 hw) (w48 hw) (by decide) pd___I rfl (W := 1) (by decide) (by decide) (Nat.le_of_eq rfl) (by decide) (by decide) rfl rfl d6_4 rfl fun T h82 v83 A Q84 => ?_
  obtain ⟨rfl, eh⟩ := Q84
  rw [eh] at A
  refine Wp.stk (st' := [(.int (10 : Int32)), (.int (9 : Int32))]) rfl ?_
  refine s_icmpN (pc' := 10) A d6_7 rfl (by decide) ?_
  refine s_aloadN (pc' := 11) A d6_10 rfl rfl rfl ?_
  refine s_iloadN (pc' := 12) A d6_11 rfl rfl ?_
  refine s_virtual (pc' := 15) (y := y9_charAt) (argsL := [(.int (9 : Int32))]) (rest := []) (z := y9_charAt) A E (cat3_9 l Z a0 hw n0 h0 A.size sy r cz fv S ncz Fc E Fv V hfv Sf) (w57 hw) (w58 hw) (nf_same (C := "") (w60 hw)) (w60 hw) (w59 hw) (w5 hw) (w61 hw) (by decide) pd__I_C rfl (W := 0) (by decide) (by decide) (Nat.le_of_eq rfl) (by decide) (by decide) rfl rfl d6_12 rfl fun T h85 v86 A Q87 => ?_
  obtain ⟨rfl, eh⟩ := Q87
  rw [eh] at A
  refine Wp.stk (st' := [(.int (110 : Int32))]) rfl ?_
  refine s_static (pc' := 18) (y := y4_isControlCharacter) (argsL := [(.int (110 : Int32))]) (rest := []) A (isctl l Z a0 hw n0 h0 A.size (110 : Int32) (by decide) (by decide)) (w79 hw) (w80 hw) (w3 hw) (w81 hw) (by decide) pd__I_Z rfl (W := 0) (by decide) (by decide) (Nat.le_of_eq rfl) (by decide) (by decide) rfl rfl d6_15 rfl fun T h88 v89 A Q90 => ?_
  obtain ⟨rfl, eh⟩ := Q90
  rw [eh] at A
  refine Wp.stk (st' := [(.int (0 : Int32))]) rfl ?_
  refine s_ifY (pc' := 23) A d6_18 (by decide) (by decide) (by decide) ?_
  refine s_iinc (pc' := 26) (z := (10 : Int32)) (Ls' := #[rv sy, iv 10]) A d6_23 rfl rfl (by decide) rfl ?_
  refine s_goto (pc' := 2) A d6_26 (by decide) (by decide) ?_
  refine s_iloadN (pc' := 3) A d6_2 rfl rfl ?_
  refine s_aloadN (pc' := 4) A d6_3 rfl rfl rfl ?_
  refine s_virtual (pc' := 7) (y := y7_length) (argsL := []) (rest := [(.int (10 : Int32))]) (z := y7_length) A E (len3 l Z a0 hw n0 h0 A.size sy r cz S ncz Fc E Fv V) (w44 hw) (w45 hw) (nf_same (C := "") (w47 hw)) (w47 hw) (w46 hw) (w5 hw) (w48 hw) (by decide) pd___I rfl (W := 1) (by decide) (by decide) (Nat.le_of_eq rfl) (by decide) (by decide) rfl rfl d6_4 rfl fun T h91 v92 A Q93 => ?_
  obtain ⟨rfl, eh⟩ := Q93
  rw [eh] at A
  refine Wp.stk (st' := [(.int (10 : Int32)), (.int (10 : Int32))]) rfl ?_
  refine s_icmpY (pc' := 29) A d6_7 (by decide) (by decide) (by decide) ?_
  refine s_iconst (pc' := 30) (z := (-1 : Int32)) A d6_29 rfl (by decide) ?_
  exact r_int A rfl d6_30 (by decide) (by decide) (⟨rfl, rfl⟩)
set_option maxRecDepth 65536 in
set_option maxHeartbeats 40000000 in
theorem rnc3 (l : Launch) (Z : State) (a0 : Array Value) (hw : ∀ d ∈ tables_1, d.before a0 Z = true) (n0 : Nat) (h0 : Heap) (Z0 : n0 ≤ h0.size) (sy r m' : Addr) (cz : Int32) (fv : Value) (S : Sta Z h0 "java/lang/String" "COMPACT_STRINGS" "Z" (.int cz)) (ncz : ¬ cz = (0 : Int32)) (Fc : Fld Z h0 sy "java/lang/String" "coder" "B" (.int (0 : Int32))) (E : Exa Z h0 sy "java/lang/String") (Fv : Fld Z h0 sy "java/lang/String" "value" "[B" (.ref r)) (V : AA Z h0 r .byte [.int (116 : Int32), .int (101 : Int32), .int (120 : Int32), .int (116 : Int32), .int (47 : Int32), .int (112 : Int32), .int (108 : Int32), .int (97 : Int32), .int (105 : Int32), .int (110 : Int32)]) (hfv : fv.isRef = true) (Sf : Sta Z h0 "jdk/internal/util/Preconditions" "SIOOBE_FORMATTER" "Ljava/util/function/BiFunction;" fv) :
    Met l Z n0 y11_requireNoControlCharacter prog_13_method_7_code 3 (Option.some (Jvm.ClassFile.FieldType.object "java/lang/String")) ({ frames := 5, cells := 0, slots := 0, locals := 66 } : Room) #[(.ref sy), (.ref m')] h0 (fun v h => v = some (.ref sy) ∧ h = h0) := by
  refine met_intro (own := c2_FormRequest) (plainFor_of_name pn_com_example_tailorbird_tailorbird_FormRequest) rfl Z0 ?_
  intro p e s m below meth c T A hnm
  refine Wp.cast (g' := mkF m 0 #[rv sy, rv m', U0] []) (by first | (simp [entryFrame, mkF, argsToLocals, Value.category, maxLocals, jv, S2, U0, iv, rv]; done) | rfl) ?_
  refine s_aloadN (pc' := 1) A d5_0 rfl rfl rfl ?_
  refine s_static (pc' := 4) (y := y10_indexOfControlCharacter) (argsL := [(.ref sy)]) (rest := []) A (ioc3 l Z a0 hw n0 h0 A.size sy r cz fv S ncz Fc E Fv V hfv Sf) (w41 hw) (w42 hw) (w3 hw) (w43 hw) (by decide) pd__Ljava_lang_String__I rfl (W := 0) (by decide) (by decide) (Nat.le_of_eq rfl) (by decide) (by decide) rfl rfl d5_1 rfl fun T h1 v2 A Q3 => ?_
  obtain ⟨rfl, eh⟩ := Q3
  rw [eh] at A
  refine Wp.stk (st' := [(.int (-1 : Int32))]) rfl ?_
  refine s_istoreN (pc' := 5) (Ls' := #[rv sy, rv m', iv (-1)]) A d5_4 rfl rfl ?_
  refine s_iloadN (pc' := 6) A d5_5 rfl rfl ?_
  refine s_ifY (pc' := 48) A d5_6 (by decide) (by decide) (by decide) ?_
  refine s_aloadN (pc' := 49) A d5_48 rfl rfl rfl ?_
  exact r_ref A rfl rfl rfl d5_49 (by decide) (by decide) (⟨rfl, rfl⟩)
set_option maxRecDepth 65536 in
set_option maxHeartbeats 40000000 in
theorem ctor2A (l : Launch) (Z : State) (a0 : Array Value) (hw : ∀ d ∈ tables_1, d.before a0 Z = true) (n0 : Nat) (h0 : Heap) (Z0 : n0 ≤ h0.size) (x s1 r1 s2 r2 : Addr) (cz : Int32) (fv : Value) (E : Exa Z h0 x "com/example/tailorbird/tailorbird/FormRequest") (G0 : Fld Z h0 x "com/example/tailorbird/tailorbird/FormRequest" "method" "Ljava/lang/String;" .null) (G1 : Fld Z h0 x "com/example/tailorbird/tailorbird/FormRequest" "urlText" "Ljava/lang/CharSequence;" .null) (G2 : Fld Z h0 x "com/example/tailorbird/tailorbird/FormRequest" "contentType" "Ljava/lang/String;" .null) (G3 : Fld Z h0 x "com/example/tailorbird/tailorbird/FormRequest" "body" "[B" .null) (gx : n0 ≤ x) (S : Sta Z h0 "java/lang/String" "COMPACT_STRINGS" "Z" (.int cz)) (ncz : ¬ cz = (0 : Int32)) (hfv : fv.isRef = true) (Sf : Sta Z h0 "jdk/internal/util/Preconditions" "SIOOBE_FORMATTER" "Ljava/util/function/BiFunction;" fv) (E1 : Exa Z h0 s1 "java/lang/String") (C1 : Fld Z h0 s1 "java/lang/String" "coder" "B" (.int (0 : Int32))) (F1 : Fld Z h0 s1 "java/lang/String" "value" "[B" (.ref r1)) (V1 : AA Z h0 r1 .byte [.int (71 : Int32), .int (69 : Int32), .int (84 : Int32)]) (E2 : Exa Z h0 s2 "java/lang/String") (C2 : Fld Z h0 s2 "java/lang/String" "coder" "B" (.int (0 : Int32))) (F2 : Fld Z h0 s2 "java/lang/String" "value" "[B" (.ref r2)) (V2 : AA Z h0 r2 .byte [.int (104 : Int32), .int (116 : Int32), .int (116 : Int32), .int (112 : Int32), .int (58 : Int32), .int (47 : Int32), .int (47 : Int32), .int (104 : Int32), .int (47 : Int32), .int (112 : Int32)]) :
    MetS l Z n0 y13_init prog_13_method_2_code 6 (Option.none : Option Jvm.ClassFile.FieldType) ({ frames := 6, cells := 8, slots := 88, locals := 81 } : Room) #[(.ref x), (.ref s1), (.ref s2), .null, .null, (.int (1 : Int32))] h0 csts [x] (fun v h vm => v = none ∧ Keep h0 h [x] ∧ Fld Z h x "com/example/tailorbird/tailorbird/FormRequest" "body" "[B" .null) := by
  refine metS_intro (own := c2_FormRequest) (plainFor_of_name pn_com_example_tailorbird_tailorbird_FormRequest) rfl Z0 ?_
  intro p e s m below meth c T A B H hnm
  refine Wp.cast (g' := mkF m 0 #[rv x, rv s1, rv s2, .val .null, .val .null, iv 1] []) (by first | (simp [entryFrame, mkF, argsToLocals, Value.category, maxLocals, jv, S2, U0, iv, rv]; done) | rfl) ?_
  have ns1 : s1 ≠ x := Exa.ne E1 E (by decide)
  have nr1 : x ≠ r1 := AA.ne_exa V1 E (w2 hw)
  have ns2 : s2 ≠ x := Exa.ne E2 E (by decide)
  have nr2 : x ≠ r2 := AA.ne_exa V2 E (w2 hw)
  refine s_aloadN (pc' := 1) A d2_0 rfl rfl rfl ?_
  refine s_initO (pc' := 4) (W := 0) A (w28 hw) (w29 hw) (w30 hw) (by decide) (Nat.le_of_eq rfl) (by decide) rfl d2_1 rfl fun T A => ?_
  refine s_aloadN (pc' := 5) A d2_4 rfl rfl rfl ?_
  refine s_iload (pc' := 7) A d2_5 rfl rfl ?_
  refine s_ifN (pc' := 10) A d2_7 rfl (by decide) ?_
  refine s_aloadN (pc' := 11) A d2_10 rfl rfl rfl ?_
  refine s_ldcS (pc' := 13) (i := 18) (nn := 24) A B H (List.mem_of_getElem? (i := 3) rfl) (satoms hw) tx4 tx4n (by decide) (by decide) (by decide) d2_11 rfl fun sv1 T h2 a3 b4 A B H X5 E6 F7 F8 V9 na10 nb11 => ?_
  refine s_static (pc' := 16) (y := y5_requireNonNull) (argsL := [(.ref s1), (.ref a3)]) (rest := [(.ref x)]) A (rnn l Z a0 hw n0 h2 A.size s1 a3) (w32 hw) (w33 hw) (w34 hw) (w35 hw) (by decide) pd__Ljava_lang_Object_Ljava_lang_String__Ljava_lang_Object_ rfl (W := 1) (by decide) (by decide) (Nat.le_of_eq rfl) (by decide) (by decide) rfl rfl d2_13 rfl fun T h12 v13 A Q14 => ?_
  obtain ⟨rfl, eh⟩ := Q14
  rw [eh] at A
  refine Wp.stk (st' := [(.ref s1), (.ref x)]) rfl ?_
  have E15 := (E1.ext X5)
  refine s_castY (pc' := 19) A (w36 hw) (exa_ins E15 (w37 hw)) d2_16 rfl fun T A => ?_
  refine s_ldcS (pc' := 21) (i := 18) (nn := 24) A B H (List.mem_of_getElem? (i := 3) rfl) (satoms hw) tx4 tx4n (by decide) (by decide) (by decide) d2_19 rfl fun sv16 T h17 a18 b19 A B H X20 E21 F22 F23 V24 na25 nb26 => ?_
  have F27 := ((C1.ext X5).ext X20)
  have E28 := (E15.ext X20)
  have F29 := ((F1.ext X5).ext X20)
  have V30 := ((V1.ext X5).ext X20)
  have S31 := ((S.ext X5).ext X20)
  have S32 := ((Sf.ext X5).ext X20)
  refine s_static (pc' := 24) (y := y11_requireNoControlCharacter) (argsL := [(.ref s1), (.ref a18)]) (rest := [(.ref x)]) A (rnc0 l Z a0 hw n0 h17 A.size s1 r1 a18 cz fv S31 ncz F27 E28 F29 V30 hfv S32) (w38 hw) (w39 hw) (w3 hw) (w40 hw) (by decide) pd__Ljava_lang_String_Ljava_lang_String__Ljava_lang_String_ rfl (W := 1) (by decide) (by decide) (Nat.le_of_eq rfl) (by decide) (by decide) rfl rfl d2_21 rfl fun T h33 v34 A Q35 => ?_
  obtain ⟨rfl, eh⟩ := Q35
  rw [eh] at A
  refine Wp.stk (st' := [(.ref s1), (.ref x)]) rfl ?_
  refine s_goto (pc' := 28) A d2_24 (by decide) (by decide) ?_
  have F36 := ((G0.ext X5).ext X20)
  have E37 := ((E.ext X5).ext X20)
  refine s_putfield (pc' := 31) (host := "") A (Or.inl (w82 hw)) Via.refl F36 E37 (Or.inr ⟨(w83 hw), rfl, hnm⟩) (w2 hw) (ty := (.object "java/lang/String")) (by decide) rfl rfl gx d2_28 rfl fun T h38 A W39 => ?_
  have F40 := F36.same W39
  refine s_aloadN (pc' := 32) A d2_31 rfl rfl rfl ?_
  refine s_iload (pc' := 34) A d2_32 rfl rfl ?_
  refine s_ifN (pc' := 37) A d2_34 rfl (by decide) ?_
  refine s_aloadN (pc' := 38) A d2_37 rfl rfl rfl ?_
  have B41 := (B.wr W39)
  have H42 := (H.wr W39 (List.mem_of_getElem? (i := 0) rfl))
  refine s_ldcS (pc' := 40) (i := 35) (nn := 12) A B41 H42 (List.mem_of_getElem? (i := 4) rfl) (satoms hw) tx6 tx6n (by decide) (by decide) (by decide) d2_38 rfl fun sv43 T h44 a45 b46 A B H X47 E48 F49 F50 V51 na52 nb53 => ?_
  refine s_static (pc' := 43) (y := y5_requireNonNull) (argsL := [(.ref s2), (.ref a45)]) (rest := [(.ref x)]) A (rnn l Z a0 hw n0 h44 A.size s2 a45) (w32 hw) (w33 hw) (w34 hw) (w35 hw) (by decide) pd__Ljava_lang_Object_Ljava_lang_String__Ljava_lang_Object_ rfl (W := 1) (by decide) (by decide) (Nat.le_of_eq rfl) (by decide) (by decide) rfl rfl d2_40 rfl fun T h54 v55 A Q56 => ?_
  obtain ⟨rfl, eh⟩ := Q56
  rw [eh] at A
  refine Wp.stk (st' := [(.ref s2), (.ref x)]) rfl ?_
  have E57 := ((((E2.ext X5).ext X20).wr W39).ext X47)
  refine s_castY (pc' := 46) A (w85 hw) (exa_ins E57 (w86 hw)) d2_43 rfl fun T A => ?_
  refine s_face (pc' := 51) (y := y12_toString) (z := y6_toString) (argsL := []) (rest := [(.ref x)]) A E57 (tostr l Z a0 hw n0 h44 A.size s2) (w87 hw) (w88 hw) (fun _ _ hZ => mvT hZ (w89 hw)) (w90 hw) (w91 hw) (w92 hw) (w93 hw) (w86 hw) (w5 hw) (w94 hw) (by decide) pd___Ljava_lang_String_ rfl (W := 1) (by decide) (by decide) (Nat.le_of_eq rfl) (by decide) (by decide) rfl rfl d2_46 rfl fun T h58 v59 A Q60 => ?_
  obtain ⟨rfl, eh⟩ := Q60
  rw [eh] at A
  refine Wp.stk (st' := [(.ref s2), (.ref x)]) rfl ?_
  refine s_ldcS (pc' := 53) (i := 35) (nn := 12) A B H (List.mem_of_getElem? (i := 4) rfl) (satoms hw) tx6 tx6n (by decide) (by decide) (by decide) d2_51 rfl fun sv61 T h62 a63 b64 A B H X65 E66 F67 F68 V69 na70 nb71 => ?_
  have F72 := (((((C2.ext X5).ext X20).other W39 (Or.inl ns2)).ext X47).ext X65)
  have E73 := (E57.ext X65)
  have F74 := (((((F2.ext X5).ext X20).other W39 (Or.inl ns2)).ext X47).ext X65)
  have V75 := (((((V2.ext X5).ext X20).other W39 (Ne.symm nr2)).ext X47).ext X65)
  have S76 := (((S31.wr W39).ext X47).ext X65)
  have S77 := (((S32.wr W39).ext X47).ext X65)
  refine s_static (pc' := 56) (y := y11_requireNoControlCharacter) (argsL := [(.ref s2), (.ref a63)]) (rest := [(.ref x)]) A (rnc2 l Z a0 hw n0 h62 A.size s2 r2 a63 cz fv S76 ncz F72 E73 F74 V75 hfv S77) (w38 hw) (w39 hw) (w3 hw) (w40 hw) (by decide) pd__Ljava_lang_String_Ljava_lang_String__Ljava_lang_String_ rfl (W := 1) (by decide) (by decide) (Nat.le_of_eq rfl) (by decide) (by decide) rfl rfl d2_53 rfl fun T h78 v79 A Q80 => ?_
  obtain ⟨rfl, eh⟩ := Q80
  rw [eh] at A
  refine Wp.stk (st' := [(.ref s2), (.ref x)]) rfl ?_
  refine s_goto (pc' := 60) A d2_56 (by decide) (by decide) ?_
  have F81 := (((((G1.ext X5).ext X20).other W39 (Or.inr (sn_FormRequest_urlText_method hw))).ext X47).ext X65)
  have E82 := (((E37.wr W39).ext X47).ext X65)
  refine s_putfield (pc' := 63) (host := "") A (Or.inl (w95 hw)) Via.refl F81 E82 (Or.inr ⟨(w96 hw), rfl, hnm⟩) (w2 hw) (ty := (.object "java/lang/CharSequence")) (by decide) rfl rfl gx d2_60 rfl fun T h83 A W84 => ?_
  have F85 := F81.same W84
  refine s_aloadN (pc' := 64) A d2_63 rfl rfl rfl ?_
  refine s_ifnonnullN (pc' := 67) A d2_64 rfl ?_
  refine s_iconst (pc' := 68) (z := (1 : Int32)) A d2_67 rfl (by decide) ?_
  refine s_goto (pc' := 72) A d2_68 (by decide) (by decide) ?_
  refine s_aload (pc' := 74) A d2_72 rfl rfl rfl ?_
  refine s_ifnonnullN (pc' := 77) A d2_74 rfl ?_
  refine s_iconst (pc' := 78) (z := (1 : Int32)) A d2_77 rfl (by decide) ?_
  refine s_goto (pc' := 82) A d2_78 (by decide) (by decide) ?_
  refine s_icmpY (pc' := 95) A d2_82 (by decide) (by decide) (by decide) ?_
  refine s_aloadN (pc' := 96) A d2_95 rfl rfl rfl ?_
  refine s_iload (pc' := 98) A d2_96 rfl rfl ?_
  refine s_ifN (pc' := 101) A d2_98 rfl (by decide) ?_
  refine s_aloadN (pc' := 102) A d2_101 rfl rfl rfl ?_
  refine s_ifnullY (pc' := 114) A d2_102 (by decide) (by decide) ?_
  refine s_aloadN (pc' := 115) A d2_114 rfl rfl rfl ?_
  have F86 := ((((((G2.ext X5).ext X20).other W39 (Or.inr (sn_FormRequest_contentType_method hw))).ext X47).ext X65).other W84 (Or.inr (sn_FormRequest_contentType_urlText hw)))
  have E87 := (E82.wr W84)
  refine s_putfield (pc' := 118) (host := "") A (Or.inl (w98 hw)) Via.refl F86 E87 (Or.inr ⟨(w99 hw), rfl, hnm⟩) (w2 hw) (ty := (.object "java/lang/String")) (by decide) rfl rfl gx d2_115 rfl fun T h88 A W89 => ?_
  have F90 := F86.same W89
  refine s_aloadN (pc' := 119) A d2_118 rfl rfl rfl ?_
  refine s_aload (pc' := 121) A d2_119 rfl rfl rfl ?_
  have F91 := (((((((G3.ext X5).ext X20).other W39 (Or.inr (sn_FormRequest_body_method hw))).ext X47).ext X65).other W84 (Or.inr (sn_FormRequest_body_urlText hw))).other W89 (Or.inr (sn_FormRequest_body_contentType hw)))
  have E92 := (E87.wr W89)
  refine s_putfield (pc' := 124) (host := "") A (Or.inl (w100 hw)) Via.refl F91 E92 (Or.inr ⟨(w101 hw), rfl, hnm⟩) (w2 hw) (ty := (.array .byte)) (by decide) rfl rfl gx d2_121 rfl fun T h93 A W94 => ?_
  have F95 := F91.same W94
  have B96 := (((B.wr W84).wr W89).wr W94)
  have K97 := (((((((((Keep.refl h0 [x]).ext X5).ext X20).wr W39 (Or.inl (List.mem_of_getElem? (i := 0) rfl))).ext X47).ext X65).wr W84 (Or.inl (List.mem_of_getElem? (i := 0) rfl))).wr W89 (Or.inl (List.mem_of_getElem? (i := 0) rfl))).wr W94 (Or.inl (List.mem_of_getElem? (i := 0) rfl)))
  exact rS_void A B96 rfl d2_124 (by decide) (by decide) (fun vm hv => ⟨rfl, K97, F95⟩)
set_option maxRecDepth 65536 in
set_option maxHeartbeats 40000000 in
theorem ctor2B (l : Launch) (Z : State) (a0 : Array Value) (hw : ∀ d ∈ tables_1, d.before a0 Z = true) (n0 : Nat) (h0 : Heap) (Z0 : n0 ≤ h0.size) (x s1 r1 s2 r2 s3 r3 cc : Addr) (cz : Int32) (fv : Value) (E : Exa Z h0 x "com/example/tailorbird/tailorbird/FormRequest") (G0 : Fld Z h0 x "com/example/tailorbird/tailorbird/FormRequest" "method" "Ljava/lang/String;" .null) (G1 : Fld Z h0 x "com/example/tailorbird/tailorbird/FormRequest" "urlText" "Ljava/lang/CharSequence;" .null) (G2 : Fld Z h0 x "com/example/tailorbird/tailorbird/FormRequest" "contentType" "Ljava/lang/String;" .null) (G3 : Fld Z h0 x "com/example/tailorbird/tailorbird/FormRequest" "body" "[B" .null) (gx : n0 ≤ x) (S : Sta Z h0 "java/lang/String" "COMPACT_STRINGS" "Z" (.int cz)) (ncz : ¬ cz = (0 : Int32)) (hfv : fv.isRef = true) (Sf : Sta Z h0 "jdk/internal/util/Preconditions" "SIOOBE_FORMATTER" "Ljava/util/function/BiFunction;" fv) (E1 : Exa Z h0 s1 "java/lang/String") (C1 : Fld Z h0 s1 "java/lang/String" "coder" "B" (.int (0 : Int32))) (F1 : Fld Z h0 s1 "java/lang/String" "value" "[B" (.ref r1)) (V1 : AA Z h0 r1 .byte [.int (80 : Int32), .int (79 : Int32), .int (83 : Int32), .int (84 : Int32)]) (E2 : Exa Z h0 s2 "java/lang/String") (C2 : Fld Z h0 s2 "java/lang/String" "coder" "B" (.int (0 : Int32))) (F2 : Fld Z h0 s2 "java/lang/String" "value" "[B" (.ref r2)) (V2 : AA Z h0 r2 .byte [.int (104 : Int32), .int (116 : Int32), .int (116 : Int32), .int (112 : Int32), .int (58 : Int32), .int (47 : Int32), .int (47 : Int32), .int (104 : Int32), .int (47 : Int32), .int (112 : Int32)]) (E3 : Exa Z h0 s3 "java/lang/String") (C3 : Fld Z h0 s3 "java/lang/String" "coder" "B" (.int (0 : Int32))) (F3 : Fld Z h0 s3 "java/lang/String" "value" "[B" (.ref r3)) (V3 : AA Z h0 r3 .byte [.int (116 : Int32), .int (101 : Int32), .int (120 : Int32), .int (116 : Int32), .int (47 : Int32), .int (112 : Int32), .int (108 : Int32), .int (97 : Int32), .int (105 : Int32), .int (110 : Int32)]) :
    MetS l Z n0 y13_init prog_13_method_2_code 6 (Option.none : Option Jvm.ClassFile.FieldType) ({ frames := 6, cells := 10, slots := 136, locals := 81 } : Room) #[(.ref x), (.ref s1), (.ref s2), (.ref s3), (.ref cc), (.int (1 : Int32))] h0 csts [x] (fun v h vm => v = none ∧ Keep h0 h [x] ∧ Fld Z h x "com/example/tailorbird/tailorbird/FormRequest" "body" "[B" (.ref cc)) := by
  refine metS_intro (own := c2_FormRequest) (plainFor_of_name pn_com_example_tailorbird_tailorbird_FormRequest) rfl Z0 ?_
  intro p e s m below meth c T A B H hnm
  refine Wp.cast (g' := mkF m 0 #[rv x, rv s1, rv s2, rv s3, rv cc, iv 1] []) (by first | (simp [entryFrame, mkF, argsToLocals, Value.category, maxLocals, jv, S2, U0, iv, rv]; done) | rfl) ?_
  have ns1 : s1 ≠ x := Exa.ne E1 E (by decide)
  have nr1 : x ≠ r1 := AA.ne_exa V1 E (w2 hw)
  have ns2 : s2 ≠ x := Exa.ne E2 E (by decide)
  have nr2 : x ≠ r2 := AA.ne_exa V2 E (w2 hw)
  have ns3 : s3 ≠ x := Exa.ne E3 E (by decide)
  have nr3 : x ≠ r3 := AA.ne_exa V3 E (w2 hw)
  refine s_aloadN (pc' := 1) A d2_0 rfl rfl rfl ?_
  refine s_initO (pc' := 4) (W := 0) A (w28 hw) (w29 hw) (w30 hw) (by decide) (Nat.le_of_eq rfl) (by decide) rfl d2_1 rfl fun T A => ?_
  refine s_aloadN (pc' := 5) A d2_4 rfl rfl rfl ?_
  refine s_iload (pc' := 7) A d2_5 rfl rfl ?_
  refine s_ifN (pc' := 10) A d2_7 rfl (by decide) ?_
  refine s_aloadN (pc' := 11) A d2_10 rfl rfl rfl ?_
  refine s_ldcS (pc' := 13) (i := 18) (nn := 24) A B H (List.mem_of_getElem? (i := 3) rfl) (satoms hw) tx4 tx4n (by decide) (by decide) (by decide) d2_11 rfl fun sv1 T h2 a3 b4 A B H X5 E6 F7 F8 V9 na10 nb11 => ?_
  refine s_static (pc' := 16) (y := y5_requireNonNull) (argsL := [(.ref s1), (.ref a3)]) (rest := [(.ref x)]) A (rnn l Z a0 hw n0 h2 A.size s1 a3) (w32 hw) (w33 hw) (w34 hw) (w35 hw) (by decide) pd__Ljava_lang_Object_Ljava_lang_String__Ljava_lang_Object_ rfl (W := 1) (by decide) (by decide) (Nat.le_of_eq rfl) (by decide) (by decide) rfl rfl d2_13 rfl fun T h12 v13 A Q14 => ?_
  obtain ⟨rfl, eh⟩ := Q14
  rw [eh] at A
  refine Wp.stk (st' := [(.ref s1), (.ref x)]) rfl ?_
  have E15 := (E1.ext X5)
  refine s_castY (pc' := 19) A (w36 hw) (exa_ins E15 (w37 hw)) d2_16 rfl fun T A => ?_
  refine s_ldcS (pc' := 21) (i := 18) (nn := 24) A B H (List.mem_of_getElem? (i := 3) rfl) (satoms hw) tx4 tx4n (by decide) (by decide) (by decide) d2_19 rfl fun sv16 T h17 a18 b19 A B H X20 E21 F22 F23 V24 na25 nb26 => ?_
  have F27 := ((C1.ext X5).ext X20)
  have E28 := (E15.ext X20)
  have F29 := ((F1.ext X5).ext X20)
  have V30 := ((V1.ext X5).ext X20)
  have S31 := ((S.ext X5).ext X20)
  have S32 := ((Sf.ext X5).ext X20)
  refine s_static (pc' := 24) (y := y11_requireNoControlCharacter) (argsL := [(.ref s1), (.ref a18)]) (rest := [(.ref x)]) A (rnc1 l Z a0 hw n0 h17 A.size s1 r1 a18 cz fv S31 ncz F27 E28 F29 V30 hfv S32) (w38 hw) (w39 hw) (w3 hw) (w40 hw) (by decide) pd__Ljava_lang_String_Ljava_lang_String__Ljava_lang_String_ rfl (W := 1) (by decide) (by decide) (Nat.le_of_eq rfl) (by decide) (by decide) rfl rfl d2_21 rfl fun T h33 v34 A Q35 => ?_
  obtain ⟨rfl, eh⟩ := Q35
  rw [eh] at A
  refine Wp.stk (st' := [(.ref s1), (.ref x)]) rfl ?_
  refine s_goto (pc' := 28) A d2_24 (by decide) (by decide) ?_
  have F36 := ((G0.ext X5).ext X20)
  have E37 := ((E.ext X5).ext X20)
  refine s_putfield (pc' := 31) (host := "") A (Or.inl (w82 hw)) Via.refl F36 E37 (Or.inr ⟨(w83 hw), rfl, hnm⟩) (w2 hw) (ty := (.object "java/lang/String")) (by decide) rfl rfl gx d2_28 rfl fun T h38 A W39 => ?_
  have F40 := F36.same W39
  refine s_aloadN (pc' := 32) A d2_31 rfl rfl rfl ?_
  refine s_iload (pc' := 34) A d2_32 rfl rfl ?_
  refine s_ifN (pc' := 37) A d2_34 rfl (by decide) ?_
  refine s_aloadN (pc' := 38) A d2_37 rfl rfl rfl ?_
  have B41 := (B.wr W39)
  have H42 := (H.wr W39 (List.mem_of_getElem? (i := 0) rfl))
  refine s_ldcS (pc' := 40) (i := 35) (nn := 12) A B41 H42 (List.mem_of_getElem? (i := 4) rfl) (satoms hw) tx6 tx6n (by decide) (by decide) (by decide) d2_38 rfl fun sv43 T h44 a45 b46 A B H X47 E48 F49 F50 V51 na52 nb53 => ?_
  refine s_static (pc' := 43) (y := y5_requireNonNull) (argsL := [(.ref s2), (.ref a45)]) (rest := [(.ref x)]) A (rnn l Z a0 hw n0 h44 A.size s2 a45) (w32 hw) (w33 hw) (w34 hw) (w35 hw) (by decide) pd__Ljava_lang_Object_Ljava_lang_String__Ljava_lang_Object_ rfl (W := 1) (by decide) (by decide) (Nat.le_of_eq rfl) (by decide) (by decide) rfl rfl d2_40 rfl fun T h54 v55 A Q56 => ?_
  obtain ⟨rfl, eh⟩ := Q56
  rw [eh] at A
  refine Wp.stk (st' := [(.ref s2), (.ref x)]) rfl ?_
  have E57 := ((((E2.ext X5).ext X20).wr W39).ext X47)
  refine s_castY (pc' := 46) A (w85 hw) (exa_ins E57 (w86 hw)) d2_43 rfl fun T A => ?_
  refine s_face (pc' := 51) (y := y12_toString) (z := y6_toString) (argsL := []) (rest := [(.ref x)]) A E57 (tostr l Z a0 hw n0 h44 A.size s2) (w87 hw) (w88 hw) (fun _ _ hZ => mvT hZ (w89 hw)) (w90 hw) (w91 hw) (w92 hw) (w93 hw) (w86 hw) (w5 hw) (w94 hw) (by decide) pd___Ljava_lang_String_ rfl (W := 1) (by decide) (by decide) (Nat.le_of_eq rfl) (by decide) (by decide) rfl rfl d2_46 rfl fun T h58 v59 A Q60 => ?_
  obtain ⟨rfl, eh⟩ := Q60
  rw [eh] at A
  refine Wp.stk (st' := [(.ref s2), (.ref x)]) rfl ?_
  refine s_ldcS (pc' := 53) (i := 35) (nn := 12) A B H (List.mem_of_getElem? (i := 4) rfl) (satoms hw) tx6 tx6n (by decide) (by decide) (by decide) d2_51 rfl fun sv61 T h62 a63 b64 A B H X65 E66 F67 F68 V69 na70 nb71 => ?_
  have F72 := (((((C2.ext X5).ext X20).other W39 (Or.inl ns2)).ext X47).ext X65)
  have E73 := (E57.ext X65)
  have F74 := (((((F2.ext X5).ext X20).other W39 (Or.inl ns2)).ext X47).ext X65)
  have V75 := (((((V2.ext X5).ext X20).other W39 (Ne.symm nr2)).ext X47).ext X65)
  have S76 := (((S31.wr W39).ext X47).ext X65)
  have S77 := (((S32.wr W39).ext X47).ext X65)
  refine s_static (pc' := 56) (y := y11_requireNoControlCharacter) (argsL := [(.ref s2), (.ref a63)]) (rest := [(.ref x)]) A (rnc2 l Z a0 hw n0 h62 A.size s2 r2 a63 cz fv S76 ncz F72 E73 F74 V75 hfv S77) (w38 hw) (w39 hw) (w3 hw) (w40 hw) (by decide) pd__Ljava_lang_String_Ljava_lang_String__Ljava_lang_String_ rfl (W := 1) (by decide) (by decide) (Nat.le_of_eq rfl) (by decide) (by decide) rfl rfl d2_53 rfl fun T h78 v79 A Q80 => ?_
  obtain ⟨rfl, eh⟩ := Q80
  rw [eh] at A
  refine Wp.stk (st' := [(.ref s2), (.ref x)]) rfl ?_
  refine s_goto (pc' := 60) A d2_56 (by decide) (by decide) ?_
  have F81 := (((((G1.ext X5).ext X20).other W39 (Or.inr (sn_FormRequest_urlText_method hw))).ext X47).ext X65)
  have E82 := (((E37.wr W39).ext X47).ext X65)
  refine s_putfield (pc' := 63) (host := "") A (Or.inl (w95 hw)) Via.refl F81 E82 (Or.inr ⟨(w96 hw), rfl, hnm⟩) (w2 hw) (ty := (.object "java/lang/CharSequence")) (by decide) rfl rfl gx d2_60 rfl fun T h83 A W84 => ?_
  have F85 := F81.same W84
  refine s_aloadN (pc' := 64) A d2_63 rfl rfl rfl ?_
  refine s_ifnonnullY (pc' := 71) A d2_64 (by decide) (by decide) ?_
  refine s_iconst (pc' := 72) (z := (0 : Int32)) A d2_71 rfl (by decide) ?_
  refine s_aload (pc' := 74) A d2_72 rfl rfl rfl ?_
  refine s_ifnonnullY (pc' := 81) A d2_74 (by decide) (by decide) ?_
  refine s_iconst (pc' := 82) (z := (0 : Int32)) A d2_81 rfl (by decide) ?_
  refine s_icmpY (pc' := 95) A d2_82 (by decide) (by decide) (by decide) ?_
  refine s_aloadN (pc' := 96) A d2_95 rfl rfl rfl ?_
  refine s_iload (pc' := 98) A d2_96 rfl rfl ?_
  refine s_ifN (pc' := 101) A d2_98 rfl (by decide) ?_
  refine s_aloadN (pc' := 102) A d2_101 rfl rfl rfl ?_
  refine s_ifnullN (pc' := 105) A d2_102 rfl ?_
  refine s_aloadN (pc' := 106) A d2_105 rfl rfl rfl ?_
  have B86 := (B.wr W84)
  have H87 := (H.wr W84 (List.mem_of_getElem? (i := 0) rfl))
  refine s_ldcS (pc' := 108) (i := 54) (nn := 44) A B86 H87 (List.mem_of_getElem? (i := 5) rfl) (satoms hw) tx2 tx2n (by decide) (by decide) (by decide) d2_106 rfl fun sv88 T h89 a90 b91 A B H X92 E93 F94 F95 V96 na97 nb98 => ?_
  have F99 := (((((((C3.ext X5).ext X20).other W39 (Or.inl ns3)).ext X47).ext X65).other W84 (Or.inl ns3)).ext X92)
  have E100 := (((((((E3.ext X5).ext X20).wr W39).ext X47).ext X65).wr W84).ext X92)
  have F101 := (((((((F3.ext X5).ext X20).other W39 (Or.inl ns3)).ext X47).ext X65).other W84 (Or.inl ns3)).ext X92)
  have V102 := (((((((V3.ext X5).ext X20).other W39 (Ne.symm nr3)).ext X47).ext X65).other W84 (Ne.symm nr3)).ext X92)
  have S103 := ((S76.wr W84).ext X92)
  have S104 := ((S77.wr W84).ext X92)
  refine s_static (pc' := 111) (y := y11_requireNoControlCharacter) (argsL := [(.ref s3), (.ref a90)]) (rest := [(.ref x)]) A (rnc3 l Z a0 hw n0 h89 A.size s3 r3 a90 cz fv S103 ncz F99 E100 F101 V102 hfv S104) (w38 hw) (w39 hw) (w3 hw) (w40 hw) (by decide) pd__Ljava_lang_String_Ljava_lang_String__Ljava_lang_String_ rfl (W := 1) (by decide) (by decide) (Nat.le_of_eq rfl) (by decide) (by decide) rfl rfl d2_108 rfl fun T h105 v106 A Q107 => ?_
  obtain ⟨rfl, eh⟩ := Q107
  rw [eh] at A
  refine Wp.stk (st' := [(.ref s3), (.ref x)]) rfl ?_
  refine s_goto (pc' := 115) A d2_111 (by decide) (by decide) ?_
  have F108 := (((((((G2.ext X5).ext X20).other W39 (Or.inr (sn_FormRequest_contentType_method hw))).ext X47).ext X65).other W84 (Or.inr (sn_FormRequest_contentType_urlText hw))).ext X92)
  have E109 := ((E82.wr W84).ext X92)
  refine s_putfield (pc' := 118) (host := "") A (Or.inl (w98 hw)) Via.refl F108 E109 (Or.inr ⟨(w99 hw), rfl, hnm⟩) (w2 hw) (ty := (.object "java/lang/String")) (by decide) rfl rfl gx d2_115 rfl fun T h110 A W111 => ?_
  have F112 := F108.same W111
  refine s_aloadN (pc' := 119) A d2_118 rfl rfl rfl ?_
  refine s_aload (pc' := 121) A d2_119 rfl rfl rfl ?_
  have F113 := ((((((((G3.ext X5).ext X20).other W39 (Or.inr (sn_FormRequest_body_method hw))).ext X47).ext X65).other W84 (Or.inr (sn_FormRequest_body_urlText hw))).ext X92).other W111 (Or.inr (sn_FormRequest_body_contentType hw)))
  have E114 := (E109.wr W111)
  refine s_putfield (pc' := 124) (host := "") A (Or.inl (w100 hw)) Via.refl F113 E114 (Or.inr ⟨(w101 hw), rfl, hnm⟩) (w2 hw) (ty := (.array .byte)) (by decide) rfl rfl gx d2_121 rfl fun T h115 A W116 => ?_
  have F117 := F113.same W116
  have B118 := ((B.wr W111).wr W116)
  have K119 := ((((((((((Keep.refl h0 [x]).ext X5).ext X20).wr W39 (Or.inl (List.mem_of_getElem? (i := 0) rfl))).ext X47).ext X65).wr W84 (Or.inl (List.mem_of_getElem? (i := 0) rfl))).ext X92).wr W111 (Or.inl (List.mem_of_getElem? (i := 0) rfl))).wr W116 (Or.inl (List.mem_of_getElem? (i := 0) rfl)))
  exact rS_void A B118 rfl d2_124 (by decide) (by decide) (fun vm hv => ⟨rfl, K119, F117⟩)
set_option maxRecDepth 65536 in
set_option maxHeartbeats 40000000 in
theorem ctor1A (l : Launch) (Z : State) (a0 : Array Value) (hw : ∀ d ∈ tables_1, d.before a0 Z = true) (n0 : Nat) (h0 : Heap) (Z0 : n0 ≤ h0.size) (x s1 r1 s2 r2 : Addr) (cz : Int32) (fv : Value) (E : Exa Z h0 x "com/example/tailorbird/tailorbird/FormRequest") (G0 : Fld Z h0 x "com/example/tailorbird/tailorbird/FormRequest" "method" "Ljava/lang/String;" .null) (G1 : Fld Z h0 x "com/example/tailorbird/tailorbird/FormRequest" "urlText" "Ljava/lang/CharSequence;" .null) (G2 : Fld Z h0 x "com/example/tailorbird/tailorbird/FormRequest" "contentType" "Ljava/lang/String;" .null) (G3 : Fld Z h0 x "com/example/tailorbird/tailorbird/FormRequest" "body" "[B" .null) (gx : n0 ≤ x) (S : Sta Z h0 "java/lang/String" "COMPACT_STRINGS" "Z" (.int cz)) (ncz : ¬ cz = (0 : Int32)) (hfv : fv.isRef = true) (Sf : Sta Z h0 "jdk/internal/util/Preconditions" "SIOOBE_FORMATTER" "Ljava/util/function/BiFunction;" fv) (E1 : Exa Z h0 s1 "java/lang/String") (C1 : Fld Z h0 s1 "java/lang/String" "coder" "B" (.int (0 : Int32))) (F1 : Fld Z h0 s1 "java/lang/String" "value" "[B" (.ref r1)) (V1 : AA Z h0 r1 .byte [.int (71 : Int32), .int (69 : Int32), .int (84 : Int32)]) (E2 : Exa Z h0 s2 "java/lang/String") (C2 : Fld Z h0 s2 "java/lang/String" "coder" "B" (.int (0 : Int32))) (F2 : Fld Z h0 s2 "java/lang/String" "value" "[B" (.ref r2)) (V2 : AA Z h0 r2 .byte [.int (104 : Int32), .int (116 : Int32), .int (116 : Int32), .int (112 : Int32), .int (58 : Int32), .int (47 : Int32), .int (47 : Int32), .int (104 : Int32), .int (47 : Int32), .int (112 : Int32)]) :
    MetS l Z n0 y14_init prog_13_method_1_code 5 (Option.none : Option Jvm.ClassFile.FieldType) ({ frames := 7, cells := 8, slots := 88, locals := 98 } : Room) #[(.ref x), (.ref s1), (.ref s2), .null, .null] h0 csts [x] (fun v h vm => v = none ∧ Keep h0 h [x] ∧ Fld Z h x "com/example/tailorbird/tailorbird/FormRequest" "body" "[B" .null) := by
  refine metS_intro (own := c2_FormRequest) (plainFor_of_name pn_com_example_tailorbird_tailorbird_FormRequest) rfl Z0 ?_
  intro p e s m below meth c T A B H hnm
  refine Wp.cast (g' := mkF m 0 #[rv x, rv s1, rv s2, .val .null, .val .null] []) (by first | (simp [entryFrame, mkF, argsToLocals, Value.category, maxLocals, jv, S2, U0, iv, rv]; done) | rfl) ?_
  have ns1 : s1 ≠ x := Exa.ne E1 E (by decide)
  have nr1 : x ≠ r1 := AA.ne_exa V1 E (w2 hw)
  have ns2 : s2 ≠ x := Exa.ne E2 E (by decide)
  have nr2 : x ≠ r2 := AA.ne_exa V2 E (w2 hw)
  refine s_aloadN (pc' := 1) A d1_0 rfl rfl rfl ?_
  refine s_aloadN (pc' := 2) A d1_1 rfl rfl rfl ?_
  refine s_aloadN (pc' := 3) A d1_2 rfl rfl rfl ?_
  refine s_aloadN (pc' := 4) A d1_3 rfl rfl rfl ?_
  refine s_aload (pc' := 6) A d1_4 rfl rfl rfl ?_
  refine s_ifnonnullN (pc' := 9) A d1_6 rfl ?_
  refine s_aconstNull (pc' := 10) A d1_9 rfl ?_
  refine s_goto (pc' := 21) A d1_10 (by decide) (by decide) ?_
  refine s_iconst (pc' := 22) (z := (1 : Int32)) A d1_21 rfl (by decide) ?_
  refine s_specialS (pc' := 25) (y := y13_init) (argsL := [(.ref s1), (.ref s2), .null, .null, (.int (1 : Int32))]) (rest := []) A B H (ctor2A l Z a0 hw n0 h0 A.size x s1 r1 s2 r2 cz fv E G0 G1 G2 G3 gx S ncz hfv Sf E1 C1 F1 V1 E2 C2 F2 V2) rfl (w25 hw) (w26 hw) (w3 hw) (w27 hw) (by decide) pd__Ljava_lang_String_Ljava_lang_CharSequence_Ljava_lang_String__BZ_V rfl (W := 0) (by decide) (by decide) (Nat.le_of_eq rfl) (by decide) (by decide) rfl rfl d1_22 rfl fun sv6 T h3 v4 A B Q5 => ?_
  obtain ⟨rfl, K1, F2⟩ := Q5
  refine Wp.stk (st' := []) rfl ?_
  have K7 := ((Keep.refl h0 [x]).trans K1 (allS (Or.inl (List.mem_of_getElem? (i := 0) rfl)) all0))
  exact rS_void A B rfl d1_25 (by decide) (by decide) (fun vm hv => ⟨rfl, K7, F2⟩)
set_option maxRecDepth 65536 in
set_option maxHeartbeats 40000000 in
theorem ctor1B0 (l : Launch) (Z : State) (a0 : Array Value) (hw : ∀ d ∈ tables_1, d.before a0 Z = true) (n0 : Nat) (h0 : Heap) (Z0 : n0 ≤ h0.size) (x s1 r1 s2 r2 s3 r3 gg : Addr) (cz : Int32) (fv : Value) (E : Exa Z h0 x "com/example/tailorbird/tailorbird/FormRequest") (G0 : Fld Z h0 x "com/example/tailorbird/tailorbird/FormRequest" "method" "Ljava/lang/String;" .null) (G1 : Fld Z h0 x "com/example/tailorbird/tailorbird/FormRequest" "urlText" "Ljava/lang/CharSequence;" .null) (G2 : Fld Z h0 x "com/example/tailorbird/tailorbird/FormRequest" "contentType" "Ljava/lang/String;" .null) (G3 : Fld Z h0 x "com/example/tailorbird/tailorbird/FormRequest" "body" "[B" .null) (gx : n0 ≤ x) (S : Sta Z h0 "java/lang/String" "COMPACT_STRINGS" "Z" (.int cz)) (ncz : ¬ cz = (0 : Int32)) (hfv : fv.isRef = true) (Sf : Sta Z h0 "jdk/internal/util/Preconditions" "SIOOBE_FORMATTER" "Ljava/util/function/BiFunction;" fv) (E1 : Exa Z h0 s1 "java/lang/String") (C1 : Fld Z h0 s1 "java/lang/String" "coder" "B" (.int (0 : Int32))) (F1 : Fld Z h0 s1 "java/lang/String" "value" "[B" (.ref r1)) (V1 : AA Z h0 r1 .byte [.int (80 : Int32), .int (79 : Int32), .int (83 : Int32), .int (84 : Int32)]) (E2 : Exa Z h0 s2 "java/lang/String") (C2 : Fld Z h0 s2 "java/lang/String" "coder" "B" (.int (0 : Int32))) (F2 : Fld Z h0 s2 "java/lang/String" "value" "[B" (.ref r2)) (V2 : AA Z h0 r2 .byte [.int (104 : Int32), .int (116 : Int32), .int (116 : Int32), .int (112 : Int32), .int (58 : Int32), .int (47 : Int32), .int (47 : Int32), .int (104 : Int32), .int (47 : Int32), .int (112 : Int32)]) (E3 : Exa Z h0 s3 "java/lang/String") (C3 : Fld Z h0 s3 "java/lang/String" "coder" "B" (.int (0 : Int32))) (F3 : Fld Z h0 s3 "java/lang/String" "value" "[B" (.ref r3)) (V3 : AA Z h0 r3 .byte [.int (116 : Int32), .int (101 : Int32), .int (120 : Int32), .int (116 : Int32), .int (47 : Int32), .int (112 : Int32), .int (108 : Int32), .int (97 : Int32), .int (105 : Int32), .int (110 : Int32)]) (Vg : AA Z h0 gg .byte []) (Eg : Exa Z h0 gg "[B")  :
    MetS l Z n0 y14_init prog_13_method_1_code 5 (Option.none : Option Jvm.ClassFile.FieldType) ({ frames := 7, cells := 11, slots := 136, locals := 98 } : Room) #[(.ref x), (.ref s1), (.ref s2), (.ref s3), (.ref gg)] h0 csts [x] (fun v h vm => v = none ∧ Keep h0 h [x] ∧ ∃ cc, Fld Z h x "com/example/tailorbird/tailorbird/FormRequest" "body" "[B" (.ref cc) ∧ AA Z h cc .byte [] ∧ Exa Z h cc "[B" ∧ h0.size ≤ cc) := by
  refine metS_intro (own := c2_FormRequest) (plainFor_of_name pn_com_example_tailorbird_tailorbird_FormRequest) rfl Z0 ?_
  intro p e s m below meth c T A B H hnm
  refine Wp.cast (g' := mkF m 0 #[rv x, rv s1, rv s2, rv s3, rv gg] []) (by first | (simp [entryFrame, mkF, argsToLocals, Value.category, maxLocals, jv, S2, U0, iv, rv]; done) | rfl) ?_
  have ns1 : s1 ≠ x := Exa.ne E1 E (by decide)
  have nr1 : x ≠ r1 := AA.ne_exa V1 E (w2 hw)
  have ns2 : s2 ≠ x := Exa.ne E2 E (by decide)
  have nr2 : x ≠ r2 := AA.ne_exa V2 E (w2 hw)
  have ns3 : s3 ≠ x := Exa.ne E3 E (by decide)
  have nr3 : x ≠ r3 := AA.ne_exa V3 E (w2 hw)
  refine s_aloadN (pc' := 1) A d1_0 rfl rfl rfl ?_
  refine s_aloadN (pc' := 2) A d1_1 rfl rfl rfl ?_
  refine s_aloadN (pc' := 3) A d1_2 rfl rfl rfl ?_
  refine s_aloadN (pc' := 4) A d1_3 rfl rfl rfl ?_
  refine s_aload (pc' := 6) A d1_4 rfl rfl rfl ?_
  refine s_ifnonnullY (pc' := 13) A d1_6 (by decide) (by decide) ?_
  refine s_aload (pc' := 15) A d1_13 rfl rfl rfl ?_
  refine s_clone (pc' := 18) (cap := 0) (W := 4) A (w16 hw) (w17 hw) (w21 hw) (w19 hw) (w20 hw) (w22 hw) Vg Eg (fun _ q => (List.not_mem_nil q).elim) (Nat.le_of_eq rfl) (by decide) (Nat.le_of_eq rfl) (by decide) (by decide) (by decide) rfl d1_15 rfl fun T h1 b2 A g3 ge4 X5 V6 E7 => ?_
  have ne8 : x ≠ b2 := lt_ne E.lt g3
  have ne9 : s1 ≠ b2 := lt_ne E1.lt g3
  have ne10 : r1 ≠ b2 := lt_ne V1.lt g3
  have ne11 : s2 ≠ b2 := lt_ne E2.lt g3
  have ne12 : r2 ≠ b2 := lt_ne V2.lt g3
  have ne13 : s3 ≠ b2 := lt_ne E3.lt g3
  have ne14 : r3 ≠ b2 := lt_ne V3.lt g3
  have ne15 : gg ≠ b2 := lt_ne Vg.lt g3
  have bo16 : h0.size ≤ b2 := le_eq (Keep.refl h0 [x]).1 g3
  refine s_castY (pc' := 21) A (w23 hw) (exa_ins E7 (w24 hw)) d1_18 rfl fun T A => ?_
  refine s_iconst (pc' := 22) (z := (1 : Int32)) A d1_21 rfl (by decide) ?_
  have F17 := (G0.ext X5)
  have F18 := (G1.ext X5)
  have F19 := (G2.ext X5)
  have F20 := (G3.ext X5)
  have E21 := (E.ext X5)
  have S22 := (S.ext X5)
  have S23 := (Sf.ext X5)
  have E24 := (E1.ext X5)
  have F25 := (C1.ext X5)
  have F26 := (F1.ext X5)
  have V27 := (V1.ext X5)
  have E28 := (E2.ext X5)
  have F29 := (C2.ext X5)
  have F30 := (F2.ext X5)
  have V31 := (V2.ext X5)
  have E32 := (E3.ext X5)
  have F33 := (C3.ext X5)
  have F34 := (F3.ext X5)
  have V35 := (V3.ext X5)
  have B41 := (B.ext X5)
  have H42 := (H.ext X5)
  refine s_specialS (pc' := 25) (y := y13_init) (argsL := [(.ref s1), (.ref s2), (.ref s3), (.ref b2), (.int (1 : Int32))]) (rest := []) A B41 H42 (ctor2B l Z a0 hw n0 h1 A.size x s1 r1 s2 r2 s3 r3 b2 cz fv E21 F17 F18 F19 F20 gx S22 ncz hfv S23 E24 F25 F26 V27 E28 F29 F30 V31 E32 F33 F34 V35) rfl (w25 hw) (w26 hw) (w3 hw) (w27 hw) (by decide) pd__Ljava_lang_String_Ljava_lang_CharSequence_Ljava_lang_String__BZ_V rfl (W := 0) (by decide) (by decide) (Nat.le_of_eq rfl) (by decide) (by decide) rfl rfl d1_22 rfl fun sv43 T h38 v39 A B Q40 => ?_
  obtain ⟨rfl, K36, F37⟩ := Q40
  refine Wp.stk (st' := []) rfl ?_
  have K44 := (((Keep.refl h0 [x]).ext X5).trans K36 (allS (Or.inl (List.mem_of_getElem? (i := 0) rfl)) all0))
  have V45 := (V6.keep K36 (ninS (Ne.symm ne8) nin0))
  have E46 := (E7.keep K36)
  exact rS_void A B rfl d1_25 (by decide) (by decide) (fun vm hv => ⟨rfl, K44, b2, F37, V45, E46, bo16⟩)
set_option maxRecDepth 65536 in
set_option maxHeartbeats 40000000 in
theorem ctor1B1 (l : Launch) (Z : State) (a0 : Array Value) (hw : ∀ d ∈ tables_1, d.before a0 Z = true) (n0 : Nat) (h0 : Heap) (Z0 : n0 ≤ h0.size) (x s1 r1 s2 r2 s3 r3 gg : Addr) (cz : Int32) (fv : Value) (x0 : Int32) (E : Exa Z h0 x "com/example/tailorbird/tailorbird/FormRequest") (G0 : Fld Z h0 x "com/example/tailorbird/tailorbird/FormRequest" "method" "Ljava/lang/String;" .null) (G1 : Fld Z h0 x "com/example/tailorbird/tailorbird/FormRequest" "urlText" "Ljava/lang/CharSequence;" .null) (G2 : Fld Z h0 x "com/example/tailorbird/tailorbird/FormRequest" "contentType" "Ljava/lang/String;" .null) (G3 : Fld Z h0 x "com/example/tailorbird/tailorbird/FormRequest" "body" "[B" .null) (gx : n0 ≤ x) (S : Sta Z h0 "java/lang/String" "COMPACT_STRINGS" "Z" (.int cz)) (ncz : ¬ cz = (0 : Int32)) (hfv : fv.isRef = true) (Sf : Sta Z h0 "jdk/internal/util/Preconditions" "SIOOBE_FORMATTER" "Ljava/util/function/BiFunction;" fv) (E1 : Exa Z h0 s1 "java/lang/String") (C1 : Fld Z h0 s1 "java/lang/String" "coder" "B" (.int (0 : Int32))) (F1 : Fld Z h0 s1 "java/lang/String" "value" "[B" (.ref r1)) (V1 : AA Z h0 r1 .byte [.int (80 : Int32), .int (79 : Int32), .int (83 : Int32), .int (84 : Int32)]) (E2 : Exa Z h0 s2 "java/lang/String") (C2 : Fld Z h0 s2 "java/lang/String" "coder" "B" (.int (0 : Int32))) (F2 : Fld Z h0 s2 "java/lang/String" "value" "[B" (.ref r2)) (V2 : AA Z h0 r2 .byte [.int (104 : Int32), .int (116 : Int32), .int (116 : Int32), .int (112 : Int32), .int (58 : Int32), .int (47 : Int32), .int (47 : Int32), .int (104 : Int32), .int (47 : Int32), .int (112 : Int32)]) (E3 : Exa Z h0 s3 "java/lang/String") (C3 : Fld Z h0 s3 "java/lang/String" "coder" "B" (.int (0 : Int32))) (F3 : Fld Z h0 s3 "java/lang/String" "value" "[B" (.ref r3)) (V3 : AA Z h0 r3 .byte [.int (116 : Int32), .int (101 : Int32), .int (120 : Int32), .int (116 : Int32), .int (47 : Int32), .int (112 : Int32), .int (108 : Int32), .int (97 : Int32), .int (105 : Int32), .int (110 : Int32)]) (Vg : AA Z h0 gg .byte [.int x0]) (Eg : Exa Z h0 gg "[B") (fi0 : fits .byte (.int x0) = true) :
    MetS l Z n0 y14_init prog_13_method_1_code 5 (Option.none : Option Jvm.ClassFile.FieldType) ({ frames := 7, cells := 11, slots := 137, locals := 98 } : Room) #[(.ref x), (.ref s1), (.ref s2), (.ref s3), (.ref gg)] h0 csts [x] (fun v h vm => v = none ∧ Keep h0 h [x] ∧ ∃ cc, Fld Z h x "com/example/tailorbird/tailorbird/FormRequest" "body" "[B" (.ref cc) ∧ AA Z h cc .byte [.int x0] ∧ Exa Z h cc "[B" ∧ h0.size ≤ cc) := by
  refine metS_intro (own := c2_FormRequest) (plainFor_of_name pn_com_example_tailorbird_tailorbird_FormRequest) rfl Z0 ?_
  intro p e s m below meth c T A B H hnm
  refine Wp.cast (g' := mkF m 0 #[rv x, rv s1, rv s2, rv s3, rv gg] []) (by first | (simp [entryFrame, mkF, argsToLocals, Value.category, maxLocals, jv, S2, U0, iv, rv]; done) | rfl) ?_
  have ns1 : s1 ≠ x := Exa.ne E1 E (by decide)
  have nr1 : x ≠ r1 := AA.ne_exa V1 E (w2 hw)
  have ns2 : s2 ≠ x := Exa.ne E2 E (by decide)
  have nr2 : x ≠ r2 := AA.ne_exa V2 E (w2 hw)
  have ns3 : s3 ≠ x := Exa.ne E3 E (by decide)
  have nr3 : x ≠ r3 := AA.ne_exa V3 E (w2 hw)
  refine s_aloadN (pc' := 1) A d1_0 rfl rfl rfl ?_
  refine s_aloadN (pc' := 2) A d1_1 rfl rfl rfl ?_
  refine s_aloadN (pc' := 3) A d1_2 rfl rfl rfl ?_
  refine s_aloadN (pc' := 4) A d1_3 rfl rfl rfl ?_
  refine s_aload (pc' := 6) A d1_4 rfl rfl rfl ?_
  refine s_ifnonnullY (pc' := 13) A d1_6 (by decide) (by decide) ?_
  refine s_aload (pc' := 15) A d1_13 rfl rfl rfl ?_
  refine s_clone (pc' := 18) (cap := 1) (W := 4) A (w16 hw) (w17 hw) (w21 hw) (w19 hw) (w20 hw) (w22 hw) Vg Eg (List.forall_mem_cons.mpr ⟨fi0, (fun _ q => (List.not_mem_nil q).elim)⟩) (Nat.le_of_eq rfl) (by decide) (Nat.le_of_eq rfl) (by decide) (by decide) (by decide) rfl d1_15 rfl fun T h1 b2 A g3 ge4 X5 V6 E7 => ?_
  have ne8 : x ≠ b2 := lt_ne E.lt g3
  have ne9 : s1 ≠ b2 := lt_ne E1.lt g3
  have ne10 : r1 ≠ b2 := lt_ne V1.lt g3
  have ne11 : s2 ≠ b2 := lt_ne E2.lt g3
  have ne12 : r2 ≠ b2 := lt_ne V2.lt g3
  have ne13 : s3 ≠ b2 := lt_ne E3.lt g3
  have ne14 : r3 ≠ b2 := lt_ne V3.lt g3
  have ne15 : gg ≠ b2 := lt_ne Vg.lt g3
  have bo16 : h0.size ≤ b2 := le_eq (Keep.refl h0 [x]).1 g3
  refine s_castY (pc' := 21) A (w23 hw) (exa_ins E7 (w24 hw)) d1_18 rfl fun T A => ?_
  refine s_iconst (pc' := 22) (z := (1 : Int32)) A d1_21 rfl (by decide) ?_
  have F17 := (G0.ext X5)
  have F18 := (G1.ext X5)
  have F19 := (G2.ext X5)
  have F20 := (G3.ext X5)
  have E21 := (E.ext X5)
  have S22 := (S.ext X5)
  have S23 := (Sf.ext X5)
  have E24 := (E1.ext X5)
  have F25 := (C1.ext X5)
  have F26 := (F1.ext X5)
  have V27 := (V1.ext X5)
  have E28 := (E2.ext X5)
  have F29 := (C2.ext X5)
  have F30 := (F2.ext X5)
  have V31 := (V2.ext X5)
  have E32 := (E3.ext X5)
  have F33 := (C3.ext X5)
  have F34 := (F3.ext X5)
  have V35 := (V3.ext X5)
  have B41 := (B.ext X5)
  have H42 := (H.ext X5)
  refine s_specialS (pc' := 25) (y := y13_init) (argsL := [(.ref s1), (.ref s2), (.ref s3), (.ref b2), (.int (1 : Int32))]) (rest := []) A B41 H42 (ctor2B l Z a0 hw n0 h1 A.size x s1 r1 s2 r2 s3 r3 b2 cz fv E21 F17 F18 F19 F20 gx S22 ncz hfv S23 E24 F25 F26 V27 E28 F29 F30 V31 E32 F33 F34 V35) rfl (w25 hw) (w26 hw) (w3 hw) (w27 hw) (by decide) pd__Ljava_lang_String_Ljava_lang_CharSequence_Ljava_lang_String__BZ_V rfl (W := 0) (by decide) (by decide) (Nat.le_of_eq rfl) (by decide) (by decide) rfl rfl d1_22 rfl fun sv43 T h38 v39 A B Q40 => ?_
  obtain ⟨rfl, K36, F37⟩ := Q40
  refine Wp.stk (st' := []) rfl ?_
  have K44 := (((Keep.refl h0 [x]).ext X5).trans K36 (allS (Or.inl (List.mem_of_getElem? (i := 0) rfl)) all0))
  have V45 := (V6.keep K36 (ninS (Ne.symm ne8) nin0))
  have E46 := (E7.keep K36)
  exact rS_void A B rfl d1_25 (by decide) (by decide) (fun vm hv => ⟨rfl, K44, b2, F37, V45, E46, bo16⟩)
set_option maxRecDepth 65536 in
set_option maxHeartbeats 40000000 in
theorem ctor1B2 (l : Launch) (Z : State) (a0 : Array Value) (hw : ∀ d ∈ tables_1, d.before a0 Z = true) (n0 : Nat) (h0 : Heap) (Z0 : n0 ≤ h0.size) (x s1 r1 s2 r2 s3 r3 gg : Addr) (cz : Int32) (fv : Value) (x0 x1 : Int32) (E : Exa Z h0 x "com/example/tailorbird/tailorbird/FormRequest") (G0 : Fld Z h0 x "com/example/tailorbird/tailorbird/FormRequest" "method" "Ljava/lang/String;" .null) (G1 : Fld Z h0 x "com/example/tailorbird/tailorbird/FormRequest" "urlText" "Ljava/lang/CharSequence;" .null) (G2 : Fld Z h0 x "com/example/tailorbird/tailorbird/FormRequest" "contentType" "Ljava/lang/String;" .null) (G3 : Fld Z h0 x "com/example/tailorbird/tailorbird/FormRequest" "body" "[B" .null) (gx : n0 ≤ x) (S : Sta Z h0 "java/lang/String" "COMPACT_STRINGS" "Z" (.int cz)) (ncz : ¬ cz = (0 : Int32)) (hfv : fv.isRef = true) (Sf : Sta Z h0 "jdk/internal/util/Preconditions" "SIOOBE_FORMATTER" "Ljava/util/function/BiFunction;" fv) (E1 : Exa Z h0 s1 "java/lang/String") (C1 : Fld Z h0 s1 "java/lang/String" "coder" "B" (.int (0 : Int32))) (F1 : Fld Z h0 s1 "java/lang/String" "value" "[B" (.ref r1)) (V1 : AA Z h0 r1 .byte [.int (80 : Int32), .int (79 : Int32), .int (83 : Int32), .int (84 : Int32)]) (E2 : Exa Z h0 s2 "java/lang/String") (C2 : Fld Z h0 s2 "java/lang/String" "coder" "B" (.int (0 : Int32))) (F2 : Fld Z h0 s2 "java/lang/String" "value" "[B" (.ref r2)) (V2 : AA Z h0 r2 .byte [.int (104 : Int32), .int (116 : Int32), .int (116 : Int32), .int (112 : Int32), .int (58 : Int32), .int (47 : Int32), .int (47 : Int32), .int (104 : Int32), .int (47 : Int32), .int (112 : Int32)]) (E3 : Exa Z h0 s3 "java/lang/String") (C3 : Fld Z h0 s3 "java/lang/String" "coder" "B" (.int (0 : Int32))) (F3 : Fld Z h0 s3 "java/lang/String" "value" "[B" (.ref r3)) (V3 : AA Z h0 r3 .byte [.int (116 : Int32), .int (101 : Int32), .int (120 : Int32), .int (116 : Int32), .int (47 : Int32), .int (112 : Int32), .int (108 : Int32), .int (97 : Int32), .int (105 : Int32), .int (110 : Int32)]) (Vg : AA Z h0 gg .byte [.int x0, .int x1]) (Eg : Exa Z h0 gg "[B") (fi0 : fits .byte (.int x0) = true) (fi1 : fits .byte (.int x1) = true) :
    MetS l Z n0 y14_init prog_13_method_1_code 5 (Option.none : Option Jvm.ClassFile.FieldType) ({ frames := 7, cells := 11, slots := 138, locals := 98 } : Room) #[(.ref x), (.ref s1), (.ref s2), (.ref s3), (.ref gg)] h0 csts [x] (fun v h vm => v = none ∧ Keep h0 h [x] ∧ ∃ cc, Fld Z h x "com/example/tailorbird/tailorbird/FormRequest" "body" "[B" (.ref cc) ∧ AA Z h cc .byte [.int x0, .int x1] ∧ Exa Z h cc "[B" ∧ h0.size ≤ cc) := by
  refine metS_intro (own := c2_FormRequest) (plainFor_of_name pn_com_example_tailorbird_tailorbird_FormRequest) rfl Z0 ?_
  intro p e s m below meth c T A B H hnm
  refine Wp.cast (g' := mkF m 0 #[rv x, rv s1, rv s2, rv s3, rv gg] []) (by first | (simp [entryFrame, mkF, argsToLocals, Value.category, maxLocals, jv, S2, U0, iv, rv]; done) | rfl) ?_
  have ns1 : s1 ≠ x := Exa.ne E1 E (by decide)
  have nr1 : x ≠ r1 := AA.ne_exa V1 E (w2 hw)
  have ns2 : s2 ≠ x := Exa.ne E2 E (by decide)
  have nr2 : x ≠ r2 := AA.ne_exa V2 E (w2 hw)
  have ns3 : s3 ≠ x := Exa.ne E3 E (by decide)
  have nr3 : x ≠ r3 := AA.ne_exa V3 E (w2 hw)
  refine s_aloadN (pc' := 1) A d1_0 rfl rfl rfl ?_
  refine s_aloadN (pc' := 2) A d1_1 rfl rfl rfl ?_
  refine s_aloadN (pc' := 3) A d1_2 rfl rfl rfl ?_
  refine s_aloadN (pc' := 4) A d1_3 rfl rfl rfl ?_
  refine s_aload (pc' := 6) A d1_4 rfl rfl rfl ?_
  refine s_ifnonnullY (pc' := 13) A d1_6 (by decide) (by decide) ?_
  refine s_aload (pc' := 15) A d1_13 rfl rfl rfl ?_
  refine s_clone (pc' := 18) (cap := 2) (W := 4) A (w16 hw) (w17 hw) (w21 hw) (w19 hw) (w20 hw) (w22 hw) Vg Eg (List.forall_mem_cons.mpr ⟨fi0, (List.forall_mem_cons.mpr ⟨fi1, (fun _ q => (List.not_mem_nil q).elim)⟩)⟩) (Nat.le_of_eq rfl) (by decide) (Nat.le_of_eq rfl) (by decide) (by decide) (by decide) rfl d1_15 rfl fun T h1 b2 A g3 ge4 X5 V6 E7 => ?_
  have ne8 : x ≠ b2 := lt_ne E.lt g3
  have ne9 : s1 ≠ b2 := lt_ne E1.lt g3
  have ne10 : r1 ≠ b2 := lt_ne V1.lt g3
  have ne11 : s2 ≠ b2 := lt_ne E2.lt g3
  have ne12 : r2 ≠ b2 := lt_ne V2.lt g3
  have ne13 : s3 ≠ b2 := lt_ne E3.lt g3
  have ne14 : r3 ≠ b2 := lt_ne V3.lt g3
  have ne15 : gg ≠ b2 := lt_ne Vg.lt g3
  have bo16 : h0.size ≤ b2 := le_eq (Keep.refl h0 [x]).1 g3
  refine s_castY (pc' := 21) A (w23 hw) (exa_ins E7 (w24 hw)) d1_18 rfl fun T A => ?_
  refine s_iconst (pc' := 22) (z := (1 : Int32)) A d1_21 rfl (by decide) ?_
  have F17 := (G0.ext X5)
  have F18 := (G1.ext X5)
  have F19 := (G2.ext X5)
  have F20 := (G3.ext X5)
  have E21 := (E.ext X5)
  have S22 := (S.ext X5)
  have S23 := (Sf.ext X5)
  have E24 := (E1.ext X5)
  have F25 := (C1.ext X5)
  have F26 := (F1.ext X5)
  have V27 := (V1.ext X5)
  have E28 := (E2.ext X5)
  have F29 := (C2.ext X5)
  have F30 := (F2.ext X5)
  have V31 := (V2.ext X5)
  have E32 := (E3.ext X5)
  have F33 := (C3.ext X5)
  have F34 := (F3.ext X5)
  have V35 := (V3.ext X5)
  have B41 := (B.ext X5)
  have H42 := (H.ext X5)
  refine s_specialS (pc' := 25) (y := y13_init) (argsL := [(.ref s1), (.ref s2), (.ref s3), (.ref b2), (.int (1 : Int32))]) (rest := []) A B41 H42 (ctor2B l Z a0 hw n0 h1 A.size x s1 r1 s2 r2 s3 r3 b2 cz fv E21 F17 F18 F19 F20 gx S22 ncz hfv S23 E24 F25 F26 V27 E28 F29 F30 V31 E32 F33 F34 V35) rfl (w25 hw) (w26 hw) (w3 hw) (w27 hw) (by decide) pd__Ljava_lang_String_Ljava_lang_CharSequence_Ljava_lang_String__BZ_V rfl (W := 0) (by decide) (by decide) (Nat.le_of_eq rfl) (by decide) (by decide) rfl rfl d1_22 rfl fun sv43 T h38 v39 A B Q40 => ?_
  obtain ⟨rfl, K36, F37⟩ := Q40
  refine Wp.stk (st' := []) rfl ?_
  have K44 := (((Keep.refl h0 [x]).ext X5).trans K36 (allS (Or.inl (List.mem_of_getElem? (i := 0) rfl)) all0))
  have V45 := (V6.keep K36 (ninS (Ne.symm ne8) nin0))
  have E46 := (E7.keep K36)
  exact rS_void A B rfl d1_25 (by decide) (by decide) (fun vm hv => ⟨rfl, K44, b2, F37, V45, E46, bo16⟩)
set_option maxRecDepth 65536 in
set_option maxHeartbeats 40000000 in
theorem ctor1B3 (l : Launch) (Z : State) (a0 : Array Value) (hw : ∀ d ∈ tables_1, d.before a0 Z = true) (n0 : Nat) (h0 : Heap) (Z0 : n0 ≤ h0.size) (x s1 r1 s2 r2 s3 r3 gg : Addr) (cz : Int32) (fv : Value) (x0 x1 x2 : Int32) (E : Exa Z h0 x "com/example/tailorbird/tailorbird/FormRequest") (G0 : Fld Z h0 x "com/example/tailorbird/tailorbird/FormRequest" "method" "Ljava/lang/String;" .null) (G1 : Fld Z h0 x "com/example/tailorbird/tailorbird/FormRequest" "urlText" "Ljava/lang/CharSequence;" .null) (G2 : Fld Z h0 x "com/example/tailorbird/tailorbird/FormRequest" "contentType" "Ljava/lang/String;" .null) (G3 : Fld Z h0 x "com/example/tailorbird/tailorbird/FormRequest" "body" "[B" .null) (gx : n0 ≤ x) (S : Sta Z h0 "java/lang/String" "COMPACT_STRINGS" "Z" (.int cz)) (ncz : ¬ cz = (0 : Int32)) (hfv : fv.isRef = true) (Sf : Sta Z h0 "jdk/internal/util/Preconditions" "SIOOBE_FORMATTER" "Ljava/util/function/BiFunction;" fv) (E1 : Exa Z h0 s1 "java/lang/String") (C1 : Fld Z h0 s1 "java/lang/String" "coder" "B" (.int (0 : Int32))) (F1 : Fld Z h0 s1 "java/lang/String" "value" "[B" (.ref r1)) (V1 : AA Z h0 r1 .byte [.int (80 : Int32), .int (79 : Int32), .int (83 : Int32), .int (84 : Int32)]) (E2 : Exa Z h0 s2 "java/lang/String") (C2 : Fld Z h0 s2 "java/lang/String" "coder" "B" (.int (0 : Int32))) (F2 : Fld Z h0 s2 "java/lang/String" "value" "[B" (.ref r2)) (V2 : AA Z h0 r2 .byte [.int (104 : Int32), .int (116 : Int32), .int (116 : Int32), .int (112 : Int32), .int (58 : Int32), .int (47 : Int32), .int (47 : Int32), .int (104 : Int32), .int (47 : Int32), .int (112 : Int32)]) (E3 : Exa Z h0 s3 "java/lang/String") (C3 : Fld Z h0 s3 "java/lang/String" "coder" "B" (.int (0 : Int32))) (F3 : Fld Z h0 s3 "java/lang/String" "value" "[B" (.ref r3)) (V3 : AA Z h0 r3 .byte [.int (116 : Int32), .int (101 : Int32), .int (120 : Int32), .int (116 : Int32), .int (47 : Int32), .int (112 : Int32), .int (108 : Int32), .int (97 : Int32), .int (105 : Int32), .int (110 : Int32)]) (Vg : AA Z h0 gg .byte [.int x0, .int x1, .int x2]) (Eg : Exa Z h0 gg "[B") (fi0 : fits .byte (.int x0) = true) (fi1 : fits .byte (.int x1) = true) (fi2 : fits .byte (.int x2) = true) :
    MetS l Z n0 y14_init prog_13_method_1_code 5 (Option.none : Option Jvm.ClassFile.FieldType) ({ frames := 7, cells := 11, slots := 139, locals := 98 } : Room) #[(.ref x), (.ref s1), (.ref s2), (.ref s3), (.ref gg)] h0 csts [x] (fun v h vm => v = none ∧ Keep h0 h [x] ∧ ∃ cc, Fld Z h x "com/example/tailorbird/tailorbird/FormRequest" "body" "[B" (.ref cc) ∧ AA Z h cc .byte [.int x0, .int x1, .int x2] ∧ Exa Z h cc "[B" ∧ h0.size ≤ cc) := by
  refine metS_intro (own := c2_FormRequest) (plainFor_of_name pn_com_example_tailorbird_tailorbird_FormRequest) rfl Z0 ?_
  intro p e s m below meth c T A B H hnm
  refine Wp.cast (g' := mkF m 0 #[rv x, rv s1, rv s2, rv s3, rv gg] []) (by first | (simp [entryFrame, mkF, argsToLocals, Value.category, maxLocals, jv, S2, U0, iv, rv]; done) | rfl) ?_
  have ns1 : s1 ≠ x := Exa.ne E1 E (by decide)
  have nr1 : x ≠ r1 := AA.ne_exa V1 E (w2 hw)
  have ns2 : s2 ≠ x := Exa.ne E2 E (by decide)
  have nr2 : x ≠ r2 := AA.ne_exa V2 E (w2 hw)
  have ns3 : s3 ≠ x := Exa.ne E3 E (by decide)
  have nr3 : x ≠ r3 := AA.ne_exa V3 E (w2 hw)
  refine s_aloadN (pc' := 1) A d1_0 rfl rfl rfl ?_
  refine s_aloadN (pc' := 2) A d1_1 rfl rfl rfl ?_
  refine s_aloadN (pc' := 3) A d1_2 rfl rfl rfl ?_
  refine s_aloadN (pc' := 4) A d1_3 rfl rfl rfl ?_
  refine s_aload (pc' := 6) A d1_4 rfl rfl rfl ?_
  refine s_ifnonnullY (pc' := 13) A d1_6 (by decide) (by decide) ?_
  refine s_aload (pc' := 15) A d1_13 rfl rfl rfl ?_
  refine s_clone (pc' := 18) (cap := 3) (W := 4) A (w16 hw) (w17 hw) (w21 hw) (w19 hw) (w20 hw) (w22 hw) Vg Eg (List.forall_mem_cons.mpr ⟨fi0, (List.forall_mem_cons.mpr ⟨fi1, (List.forall_mem_cons.mpr ⟨fi2, (fun _ q => (List.not_mem_nil q).elim)⟩)⟩)⟩) (Nat.le_of_eq rfl) (by decide) (Nat.le_of_eq rfl) (by decide) (by decide) (by decide) rfl d1_15 rfl fun T h1 b2 A g3 ge4 X5 V6 E7 => ?_
  have ne8 : x ≠ b2 := lt_ne E.lt g3
  have ne9 : s1 ≠ b2 := lt_ne E1.lt g3
  have ne10 : r1 ≠ b2 := lt_ne V1.lt g3
  have ne11 : s2 ≠ b2 := lt_ne E2.lt g3
  have ne12 : r2 ≠ b2 := lt_ne V2.lt g3
  have ne13 : s3 ≠ b2 := lt_ne E3.lt g3
  have ne14 : r3 ≠ b2 := lt_ne V3.lt g3
  have ne15 : gg ≠ b2 := lt_ne Vg.lt g3
  have bo16 : h0.size ≤ b2 := le_eq (Keep.refl h0 [x]).1 g3
  refine s_castY (pc' := 21) A (w23 hw) (exa_ins E7 (w24 hw)) d1_18 rfl fun T A => ?_
  refine s_iconst (pc' := 22) (z := (1 : Int32)) A d1_21 rfl (by decide) ?_
  have F17 := (G0.ext X5)
  have F18 := (G1.ext X5)
  have F19 := (G2.ext X5)
  have F20 := (G3.ext X5)
  have E21 := (E.ext X5)
  have S22 := (S.ext X5)
  have S23 := (Sf.ext X5)
  have E24 := (E1.ext X5)
  have F25 := (C1.ext X5)
  have F26 := (F1.ext X5)
  have V27 := (V1.ext X5)
  have E28 := (E2.ext X5)
  have F29 := (C2.ext X5)
  have F30 := (F2.ext X5)
  have V31 := (V2.ext X5)
  have E32 := (E3.ext X5)
  have F33 := (C3.ext X5)
  have F34 := (F3.ext X5)
  have V35 := (V3.ext X5)
  have B41 := (B.ext X5)
  have H42 := (H.ext X5)
  refine s_specialS (pc' := 25) (y := y13_init) (argsL := [(.ref s1), (.ref s2), (.ref s3), (.ref b2), (.int (1 : Int32))]) (rest := []) A B41 H42 (ctor2B l Z a0 hw n0 h1 A.size x s1 r1 s2 r2 s3 r3 b2 cz fv E21 F17 F18 F19 F20 gx S22 ncz hfv S23 E24 F25 F26 V27 E28 F29 F30 V31 E32 F33 F34 V35) rfl (w25 hw) (w26 hw) (w3 hw) (w27 hw) (by decide) pd__Ljava_lang_String_Ljava_lang_CharSequence_Ljava_lang_String__BZ_V rfl (W := 0) (by decide) (by decide) (Nat.le_of_eq rfl) (by decide) (by decide) rfl rfl d1_22 rfl fun sv43 T h38 v39 A B Q40 => ?_
  obtain ⟨rfl, K36, F37⟩ := Q40
  refine Wp.stk (st' := []) rfl ?_
  have K44 := (((Keep.refl h0 [x]).ext X5).trans K36 (allS (Or.inl (List.mem_of_getElem? (i := 0) rfl)) all0))
  have V45 := (V6.keep K36 (ninS (Ne.symm ne8) nin0))
  have E46 := (E7.keep K36)
  exact rS_void A B rfl d1_25 (by decide) (by decide) (fun vm hv => ⟨rfl, K44, b2, F37, V45, E46, bo16⟩)
set_option maxRecDepth 65536 in
set_option maxHeartbeats 40000000 in
theorem body0 (l : Launch) (Z : State) (a0 : Array Value) (hw : ∀ d ∈ tables_1, d.before a0 Z = true) (n0 : Nat) (h0 : Heap) (Z0 : n0 ≤ h0.size) (x : Addr) (F : Fld Z h0 x "com/example/tailorbird/tailorbird/FormRequest" "body" "[B" .null) :
    Met l Z n0 y15_body prog_13_method_11_code 1 (Option.some (Jvm.ClassFile.FieldType.array Jvm.ClassFile.FieldType.byte)) ({ frames := 0, cells := 0, slots := 0, locals := 0 } : Room) #[(.ref x)] h0 (fun v h => v = some .null ∧ h = h0) := by
  refine met_intro (own := c2_FormRequest) (plainFor_of_name pn_com_example_tailorbird_tailorbird_FormRequest) rfl Z0 ?_
  intro p e s m below meth c T A hnm
  refine Wp.cast (g' := mkF m 0 #[rv x] []) (by first | (simp [entryFrame, mkF, argsToLocals, Value.category, maxLocals, jv, S2, U0, iv, rv]; done) | rfl) ?_
  refine s_aloadN (pc' := 1) A d16_0 rfl rfl rfl ?_
  refine s_getfield (pc' := 4) (host := "") A (Or.inl (w100 hw)) Via.refl F d16_1 rfl fun T A => ?_
  refine s_ifnonnullN (pc' := 7) A d16_4 rfl ?_
  refine s_aconstNull (pc' := 8) A d16_7 rfl ?_
  refine s_goto (pc' := 21) A d16_8 (by decide) (by decide) ?_
  exact r_ref A rfl rfl rfl d16_21 (by decide) (by decide) (⟨rfl, rfl⟩)
set_option maxRecDepth 65536 in
set_option maxHeartbeats 40000000 in
theorem body1 (l : Launch) (Z : State) (a0 : Array Value) (hw : ∀ d ∈ tables_1, d.before a0 Z = true) (n0 : Nat) (h0 : Heap) (Z0 : n0 ≤ h0.size) (x cc : Addr) (F : Fld Z h0 x "com/example/tailorbird/tailorbird/FormRequest" "body" "[B" (.ref cc)) (V : AA Z h0 cc .byte []) (E : Exa Z h0 cc "[B")  :
    Met l Z n0 y15_body prog_13_method_11_code 1 (Option.some (Jvm.ClassFile.FieldType.array Jvm.ClassFile.FieldType.byte)) ({ frames := 1, cells := 1, slots := 0, locals := 14 } : Room) #[(.ref x)] h0 (fun v h => ∃ b, v = some (.ref b) ∧ Keep h0 h [] ∧ AA Z h b .byte [] ∧ h0.size ≤ b ∧ n0 ≤ b) := by
  refine met_intro (own := c2_FormRequest) (plainFor_of_name pn_com_example_tailorbird_tailorbird_FormRequest) rfl Z0 ?_
  intro p e s m below meth c T A hnm
  refine Wp.cast (g' := mkF m 0 #[rv x] []) (by first | (simp [entryFrame, mkF, argsToLocals, Value.category, maxLocals, jv, S2, U0, iv, rv]; done) | rfl) ?_
  refine s_aloadN (pc' := 1) A d16_0 rfl rfl rfl ?_
  refine s_getfield (pc' := 4) (host := "") A (Or.inl (w100 hw)) Via.refl F d16_1 rfl fun T A => ?_
  refine s_ifnonnullY (pc' := 11) A d16_4 (by decide) (by decide) ?_
  refine s_aloadN (pc' := 12) A d16_11 rfl rfl rfl ?_
  refine s_getfield (pc' := 15) (host := "") A (Or.inl (w100 hw)) Via.refl F d16_12 rfl fun T A => ?_
  refine s_clone (pc' := 18) (cap := 0) (W := 0) A (w16 hw) (w17 hw) (w21 hw) (w19 hw) (w20 hw) (w22 hw) V E (fun _ q => (List.not_mem_nil q).elim) (Nat.le_of_eq rfl) (by decide) (Nat.le_of_eq rfl) (by decide) (by decide) (by decide) rfl d16_15 rfl fun T h1 b2 A g3 ge4 X5 V6 E7 => ?_
  have ne8 : x ≠ b2 := lt_ne F.lt g3
  have ne9 : cc ≠ b2 := lt_ne V.lt g3
  have bo10 : h0.size ≤ b2 := le_eq (Keep.refl h0 []).1 g3
  refine s_castY (pc' := 21) A (w23 hw) (exa_ins E7 (w24 hw)) d16_18 rfl fun T A => ?_
  have K11 := ((Keep.refl h0 []).ext X5)
  exact r_ref A rfl rfl rfl d16_21 (by decide) (by decide) (⟨b2, rfl, K11, V6, bo10, ge4⟩)
set_option maxRecDepth 65536 in
set_option maxHeartbeats 40000000 in
theorem holds0 (l : Launch) (Z : State) (a0 : Array Value) (hw : ∀ d ∈ tables_1, d.before a0 Z = true) (n0 : Nat) (h0 : Heap) (Z0 : n0 ≤ h0.size) (gg : Addr) (y0 y1 y2 : Int32) (V : AA Z h0 gg .byte [])  :
    Met l Z n0 y16_holds method_3_code 6 (Option.some Jvm.ClassFile.FieldType.boolean) ({ frames := 0, cells := 0, slots := 0, locals := 0 } : Room) #[(.ref gg), (.int (0 : Int32)), (.int y0), (.int y1), (.int y2)] h0 (fun v h => v = some (.int 1) ∧ h = h0) := by
  refine met_intro (own := c5_FormRequestBodyPinLaw) (plainFor_of_name pn_com_example_tailorbird_tailorbird_FormRequestBodyPinLaw) rfl Z0 ?_
  intro p e s m below meth c T A hnm
  refine Wp.cast (g' := mkF m 0 #[rv gg, iv 0, iv y0, iv y1, iv y2, U0] []) (by first | (simp [entryFrame, mkF, argsToLocals, Value.category, maxLocals, jv, S2, U0, iv, rv]; done) | rfl) ?_
  refine s_aloadN (pc' := 1) A d17_0 rfl rfl rfl ?_
  refine s_arraylength (pc' := 2) (z := (0 : Int32)) A V (by show _ = ((0 : Nat) : Int); decide) d17_1 rfl ?_
  refine s_iloadN (pc' := 3) A d17_2 rfl rfl ?_
  refine s_icmpY (pc' := 8) A d17_3 (by decide) (by decide) (by decide) ?_
  refine s_iconst (pc' := 9) (z := (1 : Int32)) A d17_8 rfl (by decide) ?_
  refine s_istore (pc' := 11) (Ls' := #[rv gg, iv 0, iv y0, iv y1, iv y2, iv 1]) A d17_9 rfl rfl ?_
  refine s_iloadN (pc' := 12) A d17_11 rfl rfl ?_
  refine s_ifY (pc' := 35) A d17_12 (by decide) (by decide) (by decide) ?_
  refine s_iloadN (pc' := 36) A d17_35 rfl rfl ?_
  refine s_iconst (pc' := 37) (z := (1 : Int32)) A d17_36 rfl (by decide) ?_
  refine s_icmpY (pc' := 60) A d17_37 (by decide) (by decide) (by decide) ?_
  refine s_iloadN (pc' := 61) A d17_60 rfl rfl ?_
  refine s_iconst (pc' := 62) (z := (2 : Int32)) A d17_61 rfl (by decide) ?_
  refine s_icmpY (pc' := 86) A d17_62 (by decide) (by decide) (by decide) ?_
  refine s_iload (pc' := 88) A d17_86 rfl rfl ?_
  exact r_bool A rfl (by decide) d17_88 (by decide) (by decide) (⟨rfl, rfl⟩)
set_option maxRecDepth 65536 in
set_option maxHeartbeats 40000000 in
theorem flip0 (l : Launch) (Z : State) (a0 : Array Value) (hw : ∀ d ∈ tables_1, d.before a0 Z = true) (n0 : Nat) (h0 : Heap) (Z0 : n0 ≤ h0.size) (gg : Addr) (V : AA Z h0 gg .byte []) (gg' : n0 ≤ gg) :
    Met l Z n0 y17_flip method_4_code 1 (Option.none : Option Jvm.ClassFile.FieldType) ({ frames := 0, cells := 0, slots := 0, locals := 0 } : Room) #[(.ref gg)] h0 (fun v h => v = none ∧ Keep h0 h [gg] ∧ AA Z h gg .byte []) := by
  refine met_intro (own := c5_FormRequestBodyPinLaw) (plainFor_of_name pn_com_example_tailorbird_tailorbird_FormRequestBodyPinLaw) rfl Z0 ?_
  intro p e s m below meth c T A hnm
  refine Wp.cast (g' := mkF m 0 #[rv gg] []) (by first | (simp [entryFrame, mkF, argsToLocals, Value.category, maxLocals, jv, S2, U0, iv, rv]; done) | rfl) ?_
  refine s_aloadN (pc' := 1) A d18_0 rfl rfl rfl ?_
  refine s_arraylength (pc' := 2) (z := (0 : Int32)) A V (by show _ = ((0 : Nat) : Int); decide) d18_1 rfl ?_
  refine s_ifY (pc' := 14) A d18_2 (by decide) (by decide) (by decide) ?_
  refine s_aloadN (pc' := 15) A d18_14 rfl rfl rfl ?_
  refine s_arraylength (pc' := 16) (z := (0 : Int32)) A V (by show _ = ((0 : Nat) : Int); decide) d18_15 rfl ?_
  refine s_iconst (pc' := 17) (z := (1 : Int32)) A d18_16 rfl (by decide) ?_
  refine s_icmpY (pc' := 29) A d18_17 (by decide) (by decide) (by decide) ?_
  refine s_aloadN (pc' := 30) A d18_29 rfl rfl rfl ?_
  refine s_arraylength (pc' := 31) (z := (0 : Int32)) A V (by show _ = ((0 : Nat) : Int); decide) d18_30 rfl ?_
  refine s_iconst (pc' := 32) (z := (2 : Int32)) A d18_31 rfl (by decide) ?_
  refine s_icmpY (pc' := 44) A d18_32 (by decide) (by decide) (by decide) ?_
  exact r_void A rfl d18_44 (by decide) (by decide) (⟨rfl, (Keep.refl h0 [gg]), V⟩)
set_option maxRecDepth 65536 in
set_option maxHeartbeats 40000000 in
theorem body2 (l : Launch) (Z : State) (a0 : Array Value) (hw : ∀ d ∈ tables_1, d.before a0 Z = true) (n0 : Nat) (h0 : Heap) (Z0 : n0 ≤ h0.size) (x cc : Addr) (x0 : Int32) (F : Fld Z h0 x "com/example/tailorbird/tailorbird/FormRequest" "body" "[B" (.ref cc)) (V : AA Z h0 cc .byte [.int x0]) (E : Exa Z h0 cc "[B") (fi0 : fits .byte (.int x0) = true) :
    Met l Z n0 y15_body prog_13_method_11_code 1 (Option.some (Jvm.ClassFile.FieldType.array Jvm.ClassFile.FieldType.byte)) ({ frames := 1, cells := 1, slots := 1, locals := 14 } : Room) #[(.ref x)] h0 (fun v h => ∃ b, v = some (.ref b) ∧ Keep h0 h [] ∧ AA Z h b .byte [.int x0] ∧ h0.size ≤ b ∧ n0 ≤ b) := by
  refine met_intro (own := c2_FormRequest) (plainFor_of_name pn_com_example_tailorbird_tailorbird_FormRequest) rfl Z0 ?_
  intro p e s m below meth c T A hnm
  refine Wp.cast (g' := mkF m 0 #[rv x] []) (by first | (simp [entryFrame, mkF, argsToLocals, Value.category, maxLocals, jv, S2, U0, iv, rv]; done) | rfl) ?_
  refine s_aloadN (pc' := 1) A d16_0 rfl rfl rfl ?_
  refine s_getfield (pc' := 4) (host := "") A (Or.inl (w100 hw)) Via.refl F d16_1 rfl fun T A => ?_
  refine s_ifnonnullY (pc' := 11) A d16_4 (by decide) (by decide) ?_
  refine s_aloadN (pc' := 12) A d16_11 rfl rfl rfl ?_
  refine s_getfield (pc' := 15) (host := "") A (Or.inl (w100 hw)) Via.refl F d16_12 rfl fun T A => ?_
  refine s_clone (pc' := 18) (cap := 1) (W := 0) A (w16 hw) (w17 hw) (w21 hw) (w19 hw) (w20 hw) (w22 hw) V E (List.forall_mem_cons.mpr ⟨fi0, (fun _ q => (List.not_mem_nil q).elim)⟩) (Nat.le_of_eq rfl) (by decide) (Nat.le_of_eq rfl) (by decide) (by decide) (by decide) rfl d16_15 rfl fun T h1 b2 A g3 ge4 X5 V6 E7 => ?_
  have ne8 : x ≠ b2 := lt_ne F.lt g3
  have ne9 : cc ≠ b2 := lt_ne V.lt g3
  have bo10 : h0.size ≤ b2 := le_eq (Keep.refl h0 []).1 g3
  refine s_castY (pc' := 21) A (w23 hw) (exa_ins E7 (w24 hw)) d16_18 rfl fun T A => ?_
  have K11 := ((Keep.refl h0 []).ext X5)
  exact r_ref A rfl rfl rfl d16_21 (by decide) (by decide) (⟨b2, rfl, K11, V6, bo10, ge4⟩)
set_option maxRecDepth 65536 in
set_option maxHeartbeats 40000000 in
theorem holds1 (l : Launch) (Z : State) (a0 : Array Value) (hw : ∀ d ∈ tables_1, d.before a0 Z = true) (n0 : Nat) (h0 : Heap) (Z0 : n0 ≤ h0.size) (gg : Addr) (x0 : Int32) (y0 y1 y2 : Int32) (V : AA Z h0 gg .byte [.int x0]) (hb0 : x0 = (y0).toInt8.toInt32) :
    Met l Z n0 y16_holds method_3_code 6 (Option.some Jvm.ClassFile.FieldType.boolean) ({ frames := 0, cells := 0, slots := 0, locals := 0 } : Room) #[(.ref gg), (.int (1 : Int32)), (.int y0), (.int y1), (.int y2)] h0 (fun v h => v = some (.int 1) ∧ h = h0) := by
  refine met_intro (own := c5_FormRequestBodyPinLaw) (plainFor_of_name pn_com_example_tailorbird_tailorbird_FormRequestBodyPinLaw) rfl Z0 ?_
  intro p e s m below meth c T A hnm
  refine Wp.cast (g' := mkF m 0 #[rv gg, iv 1, iv y0, iv y1, iv y2, U0] []) (by first | (simp [entryFrame, mkF, argsToLocals, Value.category, maxLocals, jv, S2, U0, iv, rv]; done) | rfl) ?_
  refine s_aloadN (pc' := 1) A d17_0 rfl rfl rfl ?_
  refine s_arraylength (pc' := 2) (z := (1 : Int32)) A V (by show _ = ((1 : Nat) : Int); decide) d17_1 rfl ?_
  refine s_iloadN (pc' := 3) A d17_2 rfl rfl ?_
  refine s_icmpY (pc' := 8) A d17_3 (by decide) (by decide) (by decide) ?_
  refine s_iconst (pc' := 9) (z := (1 : Int32)) A d17_8 rfl (by decide) ?_
  refine s_istore (pc' := 11) (Ls' := #[rv gg, iv 1, iv y0, iv y1, iv y2, iv 1]) A d17_9 rfl rfl ?_
  refine s_iloadN (pc' := 12) A d17_11 rfl rfl ?_
  refine s_ifN (pc' := 15) A d17_12 rfl (by decide) ?_
  refine s_iload (pc' := 17) A d17_15 rfl rfl ?_
  refine s_ifN (pc' := 20) A d17_17 rfl (by decide) ?_
  refine s_aloadN (pc' := 21) A d17_20 rfl rfl rfl ?_
  refine s_iconst (pc' := 22) (z := (0 : Int32)) A d17_21 rfl (by decide) ?_
  refine s_baload (pc' := 23) (i := 0) (v := (.int x0)) A V (by decide) rfl d17_22 rfl ?_
  refine s_iloadN (pc' := 24) A d17_23 rfl rfl ?_
  refine s_i2b (pc' := 25) (z := (y0).toInt8.toInt32) A d17_24 rfl rfl ?_
  refine s_icmpN (pc' := 28) A d17_25 rfl (teq hb0).2 ?_
  refine s_iconst (pc' := 29) (z := (1 : Int32)) A d17_28 rfl (by decide) ?_
  refine s_goto (pc' := 33) A d17_29 (by decide) (by decide) ?_
  refine s_istore (pc' := 35) (Ls' := #[rv gg, iv 1, iv y0, iv y1, iv y2, iv 1]) A d17_33 rfl rfl ?_
  refine s_iloadN (pc' := 36) A d17_35 rfl rfl ?_
  refine s_iconst (pc' := 37) (z := (1 : Int32)) A d17_36 rfl (by decide) ?_
  refine s_icmpY (pc' := 60) A d17_37 (by decide) (by decide) (by decide) ?_
  refine s_iloadN (pc' := 61) A d17_60 rfl rfl ?_
  refine s_iconst (pc' := 62) (z := (2 : Int32)) A d17_61 rfl (by decide) ?_
  refine s_icmpY (pc' := 86) A d17_62 (by decide) (by decide) (by decide) ?_
  refine s_iload (pc' := 88) A d17_86 rfl rfl ?_
  exact r_bool A rfl (by decide) d17_88 (by decide) (by decide) (⟨rfl, rfl⟩)
set_option maxRecDepth 65536 in
set_option maxHeartbeats 40000000 in
theorem flip1 (l : Launch) (Z : State) (a0 : Array Value) (hw : ∀ d ∈ tables_1, d.before a0 Z = true) (n0 : Nat) (h0 : Heap) (Z0 : n0 ≤ h0.size) (gg : Addr) (x0 : Int32) (V : AA Z h0 gg .byte [.int x0]) (gg' : n0 ≤ gg) :
    Met l Z n0 y17_flip method_4_code 1 (Option.none : Option Jvm.ClassFile.FieldType) ({ frames := 0, cells := 0, slots := 0, locals := 0 } : Room) #[(.ref gg)] h0 (fun v h => v = none ∧ Keep h0 h [gg] ∧ AA Z h gg .byte [.int (((x0 ^^^ (-1 : Int32))).toInt8.toInt32).toInt8.toInt32]) := by
  refine met_intro (own := c5_FormRequestBodyPinLaw) (plainFor_of_name pn_com_example_tailorbird_tailorbird_FormRequestBodyPinLaw) rfl Z0 ?_
  intro p e s m below meth c T A hnm
  refine Wp.cast (g' := mkF m 0 #[rv gg] []) (by first | (simp [entryFrame, mkF, argsToLocals, Value.category, maxLocals, jv, S2, U0, iv, rv]; done) | rfl) ?_
  refine s_aloadN (pc' := 1) A d18_0 rfl rfl rfl ?_
  refine s_arraylength (pc' := 2) (z := (1 : Int32)) A V (by show _ = ((1 : Nat) : Int); decide) d18_1 rfl ?_
  refine s_ifN (pc' := 5) A d18_2 rfl (by decide) ?_
  refine s_aloadN (pc' := 6) A d18_5 rfl rfl rfl ?_
  refine s_iconst (pc' := 7) (z := (0 : Int32)) A d18_6 rfl (by decide) ?_
  refine s_aloadN (pc' := 8) A d18_7 rfl rfl rfl ?_
  refine s_iconst (pc' := 9) (z := (0 : Int32)) A d18_8 rfl (by decide) ?_
  refine s_baload (pc' := 10) (i := 0) (v := (.int x0)) A V (by decide) rfl d18_9 rfl ?_
  refine s_iconst (pc' := 11) (z := (-1 : Int32)) A d18_10 rfl (by decide) ?_
  refine s_ixor (pc' := 12) (z := (x0 ^^^ (-1 : Int32))) A d18_11 rfl rfl ?_
  refine s_i2b (pc' := 13) (z := ((x0 ^^^ (-1 : Int32))).toInt8.toInt32) A d18_12 rfl rfl ?_
  refine s_bastore (pc' := 14) (i := 0) A V (by decide) (Nat.le_of_ble_eq_true rfl) gg' d18_13 rfl fun T h1 A W2 V3 => ?_
  have V3 : AA Z h1 gg .byte [.int (((x0 ^^^ (-1 : Int32))).toInt8.toInt32).toInt8.toInt32] := V3
  refine s_aloadN (pc' := 15) A d18_14 rfl rfl rfl ?_
  refine s_arraylength (pc' := 16) (z := (1 : Int32)) A V3 (by show _ = ((1 : Nat) : Int); decide) d18_15 rfl ?_
  refine s_iconst (pc' := 17) (z := (1 : Int32)) A d18_16 rfl (by decide) ?_
  refine s_icmpY (pc' := 29) A d18_17 (by decide) (by decide) (by decide) ?_
  refine s_aloadN (pc' := 30) A d18_29 rfl rfl rfl ?_
  refine s_arraylength (pc' := 31) (z := (1 : Int32)) A V3 (by show _ = ((1 : Nat) : Int); decide) d18_30 rfl ?_
  refine s_iconst (pc' := 32) (z := (2 : Int32)) A d18_31 rfl (by decide) ?_
  refine s_icmpY (pc' := 44) A d18_32 (by decide) (by decide) (by decide) ?_
  have K4 := ((Keep.refl h0 [gg]).wr W2 (Or.inl (List.mem_of_getElem? (i := 0) rfl)))
  exact r_void A rfl d18_44 (by decide) (by decide) (⟨rfl, K4, V3⟩)
set_option maxRecDepth 65536 in
set_option maxHeartbeats 40000000 in
theorem body3 (l : Launch) (Z : State) (a0 : Array Value) (hw : ∀ d ∈ tables_1, d.before a0 Z = true) (n0 : Nat) (h0 : Heap) (Z0 : n0 ≤ h0.size) (x cc : Addr) (x0 x1 : Int32) (F : Fld Z h0 x "com/example/tailorbird/tailorbird/FormRequest" "body" "[B" (.ref cc)) (V : AA Z h0 cc .byte [.int x0, .int x1]) (E : Exa Z h0 cc "[B") (fi0 : fits .byte (.int x0) = true) (fi1 : fits .byte (.int x1) = true) :
    Met l Z n0 y15_body prog_13_method_11_code 1 (Option.some (Jvm.ClassFile.FieldType.array Jvm.ClassFile.FieldType.byte)) ({ frames := 1, cells := 1, slots := 2, locals := 14 } : Room) #[(.ref x)] h0 (fun v h => ∃ b, v = some (.ref b) ∧ Keep h0 h [] ∧ AA Z h b .byte [.int x0, .int x1] ∧ h0.size ≤ b ∧ n0 ≤ b) := by
  refine met_intro (own := c2_FormRequest) (plainFor_of_name pn_com_example_tailorbird_tailorbird_FormRequest) rfl Z0 ?_
  intro p e s m below meth c T A hnm
  refine Wp.cast (g' := mkF m 0 #[rv x] []) (by first | (simp [entryFrame, mkF, argsToLocals, Value.category, maxLocals, jv, S2, U0, iv, rv]; done) | rfl) ?_
  refine s_aloadN (pc' := 1) A d16_0 rfl rfl rfl ?_
  refine s_getfield (pc' := 4) (host := "") A (Or.inl (w100 hw)) Via.refl F d16_1 rfl fun T A => ?_
  refine s_ifnonnullY (pc' := 11) A d16_4 (by decide) (by decide) ?_
  refine s_aloadN (pc' := 12) A d16_11 rfl rfl rfl ?_
  refine s_getfield (pc' := 15) (host := "") A (Or.inl (w100 hw)) Via.refl F d16_12 rfl fun T A => ?_
  refine s_clone (pc' := 18) (cap := 2) (W := 0) A (w16 hw) (w17 hw) (w21 hw) (w19 hw) (w20 hw) (w22 hw) V E (List.forall_mem_cons.mpr ⟨fi0, (List.forall_mem_cons.mpr ⟨fi1, (fun _ q => (List.not_mem_nil q).elim)⟩)⟩) (Nat.le_of_eq rfl) (by decide) (Nat.le_of_eq rfl) (by decide) (by decide) (by decide) rfl d16_15 rfl fun T h1 b2 A g3 ge4 X5 V6 E7 => ?_
  have ne8 : x ≠ b2 := lt_ne F.lt g3
  have ne9 : cc ≠ b2 := lt_ne V.lt g3
  have bo10 : h0.size ≤ b2 := le_eq (Keep.refl h0 []).1 g3
  refine s_castY (pc' := 21) A (w23 hw) (exa_ins E7 (w24 hw)) d16_18 rfl fun T A => ?_
  have K11 := ((Keep.refl h0 []).ext X5)
  exact r_ref A rfl rfl rfl d16_21 (by decide) (by decide) (⟨b2, rfl, K11, V6, bo10, ge4⟩)
set_option maxRecDepth 65536 in
set_option maxHeartbeats 40000000 in
theorem holds2 (l : Launch) (Z : State) (a0 : Array Value) (hw : ∀ d ∈ tables_1, d.before a0 Z = true) (n0 : Nat) (h0 : Heap) (Z0 : n0 ≤ h0.size) (gg : Addr) (x0 x1 : Int32) (y0 y1 y2 : Int32) (V : AA Z h0 gg .byte [.int x0, .int x1]) (hb0 : x0 = (y0).toInt8.toInt32) (hb1 : x1 = (y1).toInt8.toInt32) :
    Met l Z n0 y16_holds method_3_code 6 (Option.some Jvm.ClassFile.FieldType.boolean) ({ frames := 0, cells := 0, slots := 0, locals := 0 } : Room) #[(.ref gg), (.int (2 : Int32)), (.int y0), (.int y1), (.int y2)] h0 (fun v h => v = some (.int 1) ∧ h = h0) := by
  refine met_intro (own := c5_FormRequestBodyPinLaw) (plainFor_of_name pn_com_example_tailorbird_tailorbird_FormRequestBodyPinLaw) rfl Z0 ?_
  intro p e s m below meth c T A hnm
  refine Wp.cast (g' := mkF m 0 #[rv gg, iv 2, iv y0, iv y1, iv y2, U0] []) (by first | (simp [entryFrame, mkF, argsToLocals, Value.category, maxLocals, jv, S2, U0, iv, rv]; done) | rfl) ?_
  refine s_aloadN (pc' := 1) A d17_0 rfl rfl rfl ?_
  refine s_arraylength (pc' := 2) (z := (2 : Int32)) A V (by show _ = ((2 : Nat) : Int); decide) d17_1 rfl ?_
  refine s_iloadN (pc' := 3) A d17_2 rfl rfl ?_
  refine s_icmpY (pc' := 8) A d17_3 (by decide) (by decide) (by decide) ?_
  refine s_iconst (pc' := 9) (z := (1 : Int32)) A d17_8 rfl (by decide) ?_
  refine s_istore (pc' := 11) (Ls' := #[rv gg, iv 2, iv y0, iv y1, iv y2, iv 1]) A d17_9 rfl rfl ?_
  refine s_iloadN (pc' := 12) A d17_11 rfl rfl ?_
  refine s_ifN (pc' := 15) A d17_12 rfl (by decide) ?_
  refine s_iload (pc' := 17) A d17_15 rfl rfl ?_
  refine s_ifN (pc' := 20) A d17_17 rfl (by decide) ?_
  refine s_aloadN (pc' := 21) A d17_20 rfl rfl rfl ?_
  refine s_iconst (pc' := 22) (z := (0 : Int32)) A d17_21 rfl (by decide) ?_
  refine s_baload (pc' := 23) (i := 0) (v := (.int x0)) A V (by decide) rfl d17_22 rfl ?_
  refine s_iloadN (pc' := 24) A d17_23 rfl rfl ?_
  refine s_i2b (pc' := 25) (z := (y0).toInt8.toInt32) A d17_24 rfl rfl ?_
  refine s_icmpN (pc' := 28) A d17_25 rfl (teq hb0).2 ?_
  refine s_iconst (pc' := 29) (z := (1 : Int32)) A d17_28 rfl (by decide) ?_
  refine s_goto (pc' := 33) A d17_29 (by decide) (by decide) ?_
  refine s_istore (pc' := 35) (Ls' := #[rv gg, iv 2, iv y0, iv y1, iv y2, iv 1]) A d17_33 rfl rfl ?_
  refine s_iloadN (pc' := 36) A d17_35 rfl rfl ?_
  refine s_iconst (pc' := 37) (z := (1 : Int32)) A d17_36 rfl (by decide) ?_
  refine s_icmpN (pc' := 40) A d17_37 rfl (by decide) ?_
  refine s_iload (pc' := 42) A d17_40 rfl rfl ?_
  refine s_ifN (pc' := 45) A d17_42 rfl (by decide) ?_
  refine s_aloadN (pc' := 46) A d17_45 rfl rfl rfl ?_
  refine s_iconst (pc' := 47) (z := (1 : Int32)) A d17_46 rfl (by decide) ?_
  refine s_baload (pc' := 48) (i := 1) (v := (.int x1)) A V (by decide) rfl d17_47 rfl ?_
  refine s_iloadN (pc' := 49) A d17_48 rfl rfl ?_
  refine s_i2b (pc' := 50) (z := (y1).toInt8.toInt32) A d17_49 rfl rfl ?_
  refine s_icmpN (pc' := 53) A d17_50 rfl (teq hb1).2 ?_
  refine s_iconst (pc' := 54) (z := (1 : Int32)) A d17_53 rfl (by decide) ?_
  refine s_goto (pc' := 58) A d17_54 (by decide) (by decide) ?_
  refine s_istore (pc' := 60) (Ls' := #[rv gg, iv 2, iv y0, iv y1, iv y2, iv 1]) A d17_58 rfl rfl ?_
  refine s_iloadN (pc' := 61) A d17_60 rfl rfl ?_
  refine s_iconst (pc' := 62) (z := (2 : Int32)) A d17_61 rfl (by decide) ?_
  refine s_icmpY (pc' := 86) A d17_62 (by decide) (by decide) (by decide) ?_
  refine s_iload (pc' := 88) A d17_86 rfl rfl ?_
  exact r_bool A rfl (by decide) d17_88 (by decide) (by decide) (⟨rfl, rfl⟩)
set_option maxRecDepth 65536 in
set_option maxHeartbeats 40000000 in
theorem flip2 (l : Launch) (Z : State) (a0 : Array Value) (hw : ∀ d ∈ tables_1, d.before a0 Z = true) (n0 : Nat) (h0 : Heap) (Z0 : n0 ≤ h0.size) (gg : Addr) (x0 x1 : Int32) (V : AA Z h0 gg .byte [.int x0, .int x1]) (gg' : n0 ≤ gg) :
    Met l Z n0 y17_flip method_4_code 1 (Option.none : Option Jvm.ClassFile.FieldType) ({ frames := 0, cells := 0, slots := 0, locals := 0 } : Room) #[(.ref gg)] h0 (fun v h => v = none ∧ Keep h0 h [gg] ∧ AA Z h gg .byte [.int (((x0 ^^^ (-1 : Int32))).toInt8.toInt32).toInt8.toInt32, .int (((x1 ^^^ (-1 : Int32))).toInt8.toInt32).toInt8.toInt32]) := by
  refine met_intro (own := c5_FormRequestBodyPinLaw) (plainFor_of_name pn_com_example_tailorbird_tailorbird_FormRequestBodyPinLaw) rfl Z0 ?_
  intro p e s m below meth c T A hnm
  refine Wp.cast (g' := mkF m 0 #[rv gg] []) (by first | (simp [entryFrame, mkF, argsToLocals, Value.category, maxLocals, jv, S2, U0, iv, rv]; done) | rfl) ?_
  refine s_aloadN (pc' := 1) A d18_0 rfl rfl rfl ?_
  refine s_arraylength (pc' := 2) (z := (2 : Int32)) A V (by show _ = ((2 : Nat) : Int); decide) d18_1 rfl ?_
  refine s_ifN (pc' := 5) A d18_2 rfl (by decide) ?_
  refine s_aloadN (pc' := 6) A d18_5 rfl rfl rfl ?_
  refine s_iconst (pc' := 7) (z := (0 : Int32)) A d18_6 rfl (by decide) ?_
  refine s_aloadN (pc' := 8) A d18_7 rfl rfl rfl ?_
  refine s_iconst (pc' := 9) (z := (0 : Int32)) A d18_8 rfl (by decide) ?_
  refine s_baload (pc' := 10) (i := 0) (v := (.int x0)) A V (by decide) rfl d18_9 rfl ?_
  refine s_iconst (pc' := 11) (z := (-1 : Int32)) A d18_10 rfl (by decide) ?_
  refine s_ixor (pc' := 12) (z := (x0 ^^^ (-1 : Int32))) A d18_11 rfl rfl ?_
  refine s_i2b (pc' := 13) (z := ((x0 ^^^ (-1 : Int32))).toInt8.toInt32) A d18_12 rfl rfl ?_
  refine s_bastore (pc' := 14) (i := 0) A V (by decide) (Nat.le_of_ble_eq_true rfl) gg' d18_13 rfl fun T h1 A W2 V3 => ?_
  have V3 : AA Z h1 gg .byte [.int (((x0 ^^^ (-1 : Int32))).toInt8.toInt32).toInt8.toInt32, .int x1] := V3
  refine s_aloadN (pc' := 15) A d18_14 rfl rfl rfl ?_
  refine s_arraylength (pc' := 16) (z := (2 : Int32)) A V3 (by show _ = ((2 : Nat) : Int); decide) d18_15 rfl ?_
  refine s_iconst (pc' := 17) (z := (1 : Int32)) A d18_16 rfl (by decide) ?_
  refine s_icmpN (pc' := 20) A d18_17 rfl (by decide) ?_
  refine s_aloadN (pc' := 21) A d18_20 rfl rfl rfl ?_
  refine s_iconst (pc' := 22) (z := (1 : Int32)) A d18_21 rfl (by decide) ?_
  refine s_aloadN (pc' := 23) A d18_22 rfl rfl rfl ?_
  refine s_iconst (pc' := 24) (z := (1 : Int32)) A d18_23 rfl (by decide) ?_
  refine s_baload (pc' := 25) (i := 1) (v := (.int x1)) A V3 (by decide) rfl d18_24 rfl ?_
  refine s_iconst (pc' := 26) (z := (-1 : Int32)) A d18_25 rfl (by decide) ?_
  refine s_ixor (pc' := 27) (z := (x1 ^^^ (-1 : Int32))) A d18_26 rfl rfl ?_
  refine s_i2b (pc' := 28) (z := ((x1 ^^^ (-1 : Int32))).toInt8.toInt32) A d18_27 rfl rfl ?_
  refine s_bastore (pc' := 29) (i := 1) A V3 (by decide) (Nat.le_of_ble_eq_true rfl) gg' d18_28 rfl fun T h4 A W5 V6 => ?_
  have V6 : AA Z h4 gg .byte [.int (((x0 ^^^ (-1 : Int32))).toInt8.toInt32).toInt8.toInt32, .int (((x1 ^^^ (-1 : Int32))).toInt8.toInt32).toInt8.toInt32] := V6
  refine s_aloadN (pc' := 30) A d18_29 rfl rfl rfl ?_
  refine s_arraylength (pc' := 31) (z := (2 : Int32)) A V6 (by show _ = ((2 : Nat) : Int); decide) d18_30 rfl ?_
  refine s_iconst (pc' := 32) (z := (2 : Int32)) A d18_31 rfl (by decide) ?_
  refine s_icmpY (pc' := 44) A d18_32 (by decide) (by decide) (by decide) ?_
  have K7 := (((Keep.refl h0 [gg]).wr W2 (Or.inl (List.mem_of_getElem? (i := 0) rfl))).wr W5 (Or.inl (List.mem_of_getElem? (i := 0) rfl)))
  exact r_void A rfl d18_44 (by decide) (by decide) (⟨rfl, K7, V6⟩)
set_option maxRecDepth 65536 in
set_option maxHeartbeats 40000000 in
theorem body4 (l : Launch) (Z : State) (a0 : Array Value) (hw : ∀ d ∈ tables_1, d.before a0 Z = true) (n0 : Nat) (h0 : Heap) (Z0 : n0 ≤ h0.size) (x cc : Addr) (x0 x1 x2 : Int32) (F : Fld Z h0 x "com/example/tailorbird/tailorbird/FormRequest" "body" "[B" (.ref cc)) (V : AA Z h0 cc .byte [.int x0, .int x1, .int x2]) (E : Exa Z h0 cc "[B") (fi0 : fits .byte (.int x0) = true) (fi1 : fits .byte (.int x1) = true) (fi2 : fits .byte (.int x2) = true) :
    Met l Z n0 y15_body prog_13_method_11_code 1 (Option.some (Jvm.ClassFile.FieldType.array Jvm.ClassFile.FieldType.byte)) ({ frames := 1, cells := 1, slots := 3, locals := 14 } : Room) #[(.ref x)] h0 (fun v h => ∃ b, v = some (.ref b) ∧ Keep h0 h [] ∧ AA Z h b .byte [.int x0, .int x1, .int x2] ∧ h0.size ≤ b ∧ n0 ≤ b) := by
  refine met_intro (own := c2_FormRequest) (plainFor_of_name pn_com_example_tailorbird_tailorbird_FormRequest) rfl Z0 ?_
  intro p e s m below meth c T A hnm
  refine Wp.cast (g' := mkF m 0 #[rv x] []) (by first | (simp [entryFrame, mkF, argsToLocals, Value.category, maxLocals, jv, S2, U0, iv, rv]; done) | rfl) ?_
  refine s_aloadN (pc' := 1) A d16_0 rfl rfl rfl ?_
  refine s_getfield (pc' := 4) (host := "") A (Or.inl (w100 hw)) Via.refl F d16_1 rfl fun T A => ?_
  refine s_ifnonnullY (pc' := 11) A d16_4 (by decide) (by decide) ?_
  refine s_aloadN (pc' := 12) A d16_11 rfl rfl rfl ?_
  refine s_getfield (pc' := 15) (host := "") A (Or.inl (w100 hw)) Via.refl F d16_12 rfl fun T A => ?_
  refine s_clone (pc' := 18) (cap := 3) (W := 0) A (w16 hw) (w17 hw) (w21 hw) (w19 hw) (w20 hw) (w22 hw) V E (List.forall_mem_cons.mpr ⟨fi0, (List.forall_mem_cons.mpr ⟨fi1, (List.forall_mem_cons.mpr ⟨fi2, (fun _ q => (List.not_mem_nil q).elim)⟩)⟩)⟩) (Nat.le_of_eq rfl) (by decide) (Nat.le_of_eq rfl) (by decide) (by decide) (by decide) rfl d16_15 rfl fun T h1 b2 A g3 ge4 X5 V6 E7 => ?_
  have ne8 : x ≠ b2 := lt_ne F.lt g3
  have ne9 : cc ≠ b2 := lt_ne V.lt g3
  have bo10 : h0.size ≤ b2 := le_eq (Keep.refl h0 []).1 g3
  refine s_castY (pc' := 21) A (w23 hw) (exa_ins E7 (w24 hw)) d16_18 rfl fun T A => ?_
  have K11 := ((Keep.refl h0 []).ext X5)
  exact r_ref A rfl rfl rfl d16_21 (by decide) (by decide) (⟨b2, rfl, K11, V6, bo10, ge4⟩)
set_option maxRecDepth 65536 in
set_option maxHeartbeats 40000000 in
theorem holds3 (l : Launch) (Z : State) (a0 : Array Value) (hw : ∀ d ∈ tables_1, d.before a0 Z = true) (n0 : Nat) (h0 : Heap) (Z0 : n0 ≤ h0.size) (gg : Addr) (x0 x1 x2 : Int32) (y0 y1 y2 : Int32) (V : AA Z h0 gg .byte [.int x0, .int x1, .int x2]) (hb0 : x0 = (y0).toInt8.toInt32) (hb1 : x1 = (y1).toInt8.toInt32) (hb2 : x2 = (y2).toInt8.toInt32) :
    Met l Z n0 y16_holds method_3_code 6 (Option.some Jvm.ClassFile.FieldType.boolean) ({ frames := 0, cells := 0, slots := 0, locals := 0 } : Room) #[(.ref gg), (.int (3 : Int32)), (.int y0), (.int y1), (.int y2)] h0 (fun v h => v = some (.int 1) ∧ h = h0) := by
  refine met_intro (own := c5_FormRequestBodyPinLaw) (plainFor_of_name pn_com_example_tailorbird_tailorbird_FormRequestBodyPinLaw) rfl Z0 ?_
  intro p e s m below meth c T A hnm
  refine Wp.cast (g' := mkF m 0 #[rv gg, iv 3, iv y0, iv y1, iv y2, U0] []) (by first | (simp [entryFrame, mkF, argsToLocals, Value.category, maxLocals, jv, S2, U0, iv, rv]; done) | rfl) ?_
  refine s_aloadN (pc' := 1) A d17_0 rfl rfl rfl ?_
  refine s_arraylength (pc' := 2) (z := (3 : Int32)) A V (by show _ = ((3 : Nat) : Int); decide) d17_1 rfl ?_
  refine s_iloadN (pc' := 3) A d17_2 rfl rfl ?_
  refine s_icmpY (pc' := 8) A d17_3 (by decide) (by decide) (by decide) ?_
  refine s_iconst (pc' := 9) (z := (1 : Int32)) A d17_8 rfl (by decide) ?_
  refine s_istore (pc' := 11) (Ls' := #[rv gg, iv 3, iv y0, iv y1, iv y2, iv 1]) A d17_9 rfl rfl ?_
  refine s_iloadN (pc' := 12) A d17_11 rfl rfl ?_
  refine s_ifN (pc' := 15) A d17_12 rfl (by decide) ?_
  refine s_iload (pc' := 17) A d17_15 rfl rfl ?_
  refine s_ifN (pc' := 20) A d17_17 rfl (by decide) ?_
  refine s_aloadN (pc' := 21) A d17_20 rfl rfl rfl ?_
  refine s_iconst (pc' := 22) (z := (0 : Int32)) A d17_21 rfl (by decide) ?_
  refine s_baload (pc' := 23) (i := 0) (v := (.int x0)) A V (by decide) rfl d17_22 rfl ?_
  refine s_iloadN (pc' := 24) A d17_23 rfl rfl ?_
  refine s_i2b (pc' := 25) (z := (y0).toInt8.toInt32) A d17_24 rfl rfl ?_
  refine s_icmpN (pc' := 28) A d17_25 rfl (teq hb0).2 ?_
  refine s_iconst (pc' := 29) (z := (1 : Int32)) A d17_28 rfl (by decide) ?_
  refine s_goto (pc' := 33) A d17_29 (by decide) (by decide) ?_
  refine s_istore (pc' := 35) (Ls' := #[rv gg, iv 3, iv y0, iv y1, iv y2, iv 1]) A d17_33 rfl rfl ?_
  refine s_iloadN (pc' := 36) A d17_35 rfl rfl ?_
  refine s_iconst (pc' := 37) (z := (1 : Int32)) A d17_36 rfl (by decide) ?_
  refine s_icmpN (pc' := 40) A d17_37 rfl (by decide) ?_
  refine s_iload (pc' := 42) A d17_40 rfl rfl ?_
  refine s_ifN (pc' := 45) A d17_42 rfl (by decide) ?_
  refine s_aloadN (pc' := 46) A d17_45 rfl rfl rfl ?_
  refine s_iconst (pc' := 47) (z := (1 : Int32)) A d17_46 rfl (by decide) ?_
  refine s_baload (pc' := 48) (i := 1) (v := (.int x1)) A V (by decide) rfl d17_47 rfl ?_
  refine s_iloadN (pc' := 49) A d17_48 rfl rfl ?_
  refine s_i2b (pc' := 50) (z := (y1).toInt8.toInt32) A d17_49 rfl rfl ?_
  refine s_icmpN (pc' := 53) A d17_50 rfl (teq hb1).2 ?_
  refine s_iconst (pc' := 54) (z := (1 : Int32)) A d17_53 rfl (by decide) ?_
  refine s_goto (pc' := 58) A d17_54 (by decide) (by decide) ?_
  refine s_istore (pc' := 60) (Ls' := #[rv gg, iv 3, iv y0, iv y1, iv y2, iv 1]) A d17_58 rfl rfl ?_
  refine s_iloadN (pc' := 61) A d17_60 rfl rfl ?_
  refine s_iconst (pc' := 62) (z := (2 : Int32)) A d17_61 rfl (by decide) ?_
  refine s_icmpN (pc' := 65) A d17_62 rfl (by decide) ?_
  refine s_iload (pc' := 67) A d17_65 rfl rfl ?_
  refine s_ifN (pc' := 70) A d17_67 rfl (by decide) ?_
  refine s_aloadN (pc' := 71) A d17_70 rfl rfl rfl ?_
  refine s_iconst (pc' := 72) (z := (2 : Int32)) A d17_71 rfl (by decide) ?_
  refine s_baload (pc' := 73) (i := 2) (v := (.int x2)) A V (by decide) rfl d17_72 rfl ?_
  refine s_iload (pc' := 75) A d17_73 rfl rfl ?_
  refine s_i2b (pc' := 76) (z := (y2).toInt8.toInt32) A d17_75 rfl rfl ?_
  refine s_icmpN (pc' := 79) A d17_76 rfl (teq hb2).2 ?_
  refine s_iconst (pc' := 80) (z := (1 : Int32)) A d17_79 rfl (by decide) ?_
  refine s_goto (pc' := 84) A d17_80 (by decide) (by decide) ?_
  refine s_istore (pc' := 86) (Ls' := #[rv gg, iv 3, iv y0, iv y1, iv y2, iv 1]) A d17_84 rfl rfl ?_
  refine s_iload (pc' := 88) A d17_86 rfl rfl ?_
  exact r_bool A rfl (by decide) d17_88 (by decide) (by decide) (⟨rfl, rfl⟩)
set_option maxRecDepth 65536 in
set_option maxHeartbeats 40000000 in
theorem flip3 (l : Launch) (Z : State) (a0 : Array Value) (hw : ∀ d ∈ tables_1, d.before a0 Z = true) (n0 : Nat) (h0 : Heap) (Z0 : n0 ≤ h0.size) (gg : Addr) (x0 x1 x2 : Int32) (V : AA Z h0 gg .byte [.int x0, .int x1, .int x2]) (gg' : n0 ≤ gg) :
    Met l Z n0 y17_flip method_4_code 1 (Option.none : Option Jvm.ClassFile.FieldType) ({ frames := 0, cells := 0, slots := 0, locals := 0 } : Room) #[(.ref gg)] h0 (fun v h => v = none ∧ Keep h0 h [gg] ∧ AA Z h gg .byte [.int (((x0 ^^^ (-1 : Int32))).toInt8.toInt32).toInt8.toInt32, .int (((x1 ^^^ (-1 : Int32))).toInt8.toInt32).toInt8.toInt32, .int (((x2 ^^^ (-1 : Int32))).toInt8.toInt32).toInt8.toInt32]) := by
  refine met_intro (own := c5_FormRequestBodyPinLaw) (plainFor_of_name pn_com_example_tailorbird_tailorbird_FormRequestBodyPinLaw) rfl Z0 ?_
  intro p e s m below meth c T A hnm
  refine Wp.cast (g' := mkF m 0 #[rv gg] []) (by first | (simp [entryFrame, mkF, argsToLocals, Value.category, maxLocals, jv, S2, U0, iv, rv]; done) | rfl) ?_
  refine s_aloadN (pc' := 1) A d18_0 rfl rfl rfl ?_
  refine s_arraylength (pc' := 2) (z := (3 : Int32)) A V (by show _ = ((3 : Nat) : Int); decide) d18_1 rfl ?_
  refine s_ifN (pc' := 5) A d18_2 rfl (by decide) ?_
  refine s_aloadN (pc' := 6) A d18_5 rfl rfl rfl ?_
  refine s_iconst (pc' := 7) (z := (0 : Int32)) A d18_6 rfl (by decide) ?_
  refine s_aloadN (pc' := 8) A d18_7 rfl rfl rfl ?_
  refine s_iconst (pc' := 9) (z := (0 : Int32)) A d18_8 rfl (by decide) ?_
  refine s_baload (pc' := 10) (i := 0) (v := (.int x0)) A V (by decide) rfl d18_9 rfl ?_
  refine s_iconst (pc' := 11) (z := (-1 : Int32)) A d18_10 rfl (by decide) ?_
  refine s_ixor (pc' := 12) (z := (x0 ^^^ (-1 : Int32))) A d18_11 rfl rfl ?_
  refine s_i2b (pc' := 13) (z := ((x0 ^^^ (-1 : Int32))).toInt8.toInt32) A d18_12 rfl rfl ?_
  refine s_bastore (pc' := 14) (i := 0) A V (by decide) (Nat.le_of_ble_eq_true rfl) gg' d18_13 rfl fun T h1 A W2 V3 => ?_
  have V3 : AA Z h1 gg .byte [.int (((x0 ^^^ (-1 : Int32))).toInt8.toInt32).toInt8.toInt32, .int x1, .int x2] := V3
  refine s_aloadN (pc' := 15) A d18_14 rfl rfl rfl ?_
  refine s_arraylength (pc' := 16) (z := (3 : Int32)) A V3 (by show _ = ((3 : Nat) : Int); decide) d18_15 rfl ?_
  refine s_iconst (pc' := 17) (z := (1 : Int32)) A d18_16 rfl (by decide) ?_
  refine s_icmpN (pc' := 20) A d18_17 rfl (by decide) ?_
  refine s_aloadN (pc' := 21) A d18_20 rfl rfl rfl ?_
  refine s_iconst (pc' := 22) (z := (1 : Int32)) A d18_21 rfl (by decide) ?_
  refine s_aloadN (pc' := 23) A d18_22 rfl rfl rfl ?_
  refine s_iconst (pc' := 24) (z := (1 : Int32)) A d18_23 rfl (by decide) ?_
  refine s_baload (pc' := 25) (i := 1) (v := (.int x1)) A V3 (by decide) rfl d18_24 rfl ?_
  refine s_iconst (pc' := 26) (z := (-1 : Int32)) A d18_25 rfl (by decide) ?_
  refine s_ixor (pc' := 27) (z := (x1 ^^^ (-1 : Int32))) A d18_26 rfl rfl ?_
  refine s_i2b (pc' := 28) (z := ((x1 ^^^ (-1 : Int32))).toInt8.toInt32) A d18_27 rfl rfl ?_
  refine s_bastore (pc' := 29) (i := 1) A V3 (by decide) (Nat.le_of_ble_eq_true rfl) gg' d18_28 rfl fun T h4 A W5 V6 => ?_
  have V6 : AA Z h4 gg .byte [.int (((x0 ^^^ (-1 : Int32))).toInt8.toInt32).toInt8.toInt32, .int (((x1 ^^^ (-1 : Int32))).toInt8.toInt32).toInt8.toInt32, .int x2] := V6
  refine s_aloadN (pc' := 30) A d18_29 rfl rfl rfl ?_
  refine s_arraylength (pc' := 31) (z := (3 : Int32)) A V6 (by show _ = ((3 : Nat) : Int); decide) d18_30 rfl ?_
  refine s_iconst (pc' := 32) (z := (2 : Int32)) A d18_31 rfl (by decide) ?_
  refine s_icmpN (pc' := 35) A d18_32 rfl (by decide) ?_
  refine s_aloadN (pc' := 36) A d18_35 rfl rfl rfl ?_
  refine s_iconst (pc' := 37) (z := (2 : Int32)) A d18_36 rfl (by decide) ?_
  refine s_aloadN (pc' := 38) A d18_37 rfl rfl rfl ?_
  refine s_iconst (pc' := 39) (z := (2 : Int32)) A d18_38 rfl (by decide) ?_
  refine s_baload (pc' := 40) (i := 2) (v := (.int x2)) A V6 (by decide) rfl d18_39 rfl ?_
  refine s_iconst (pc' := 41) (z := (-1 : Int32)) A d18_40 rfl (by decide) ?_
  refine s_ixor (pc' := 42) (z := (x2 ^^^ (-1 : Int32))) A d18_41 rfl rfl ?_
  refine s_i2b (pc' := 43) (z := ((x2 ^^^ (-1 : Int32))).toInt8.toInt32) A d18_42 rfl rfl ?_
  refine s_bastore (pc' := 44) (i := 2) A V6 (by decide) (Nat.le_of_ble_eq_true rfl) gg' d18_43 rfl fun T h7 A W8 V9 => ?_
  have V9 : AA Z h7 gg .byte [.int (((x0 ^^^ (-1 : Int32))).toInt8.toInt32).toInt8.toInt32, .int (((x1 ^^^ (-1 : Int32))).toInt8.toInt32).toInt8.toInt32, .int (((x2 ^^^ (-1 : Int32))).toInt8.toInt32).toInt8.toInt32] := V9
  have K10 := ((((Keep.refl h0 [gg]).wr W2 (Or.inl (List.mem_of_getElem? (i := 0) rfl))).wr W5 (Or.inl (List.mem_of_getElem? (i := 0) rfl))).wr W8 (Or.inl (List.mem_of_getElem? (i := 0) rfl)))
  exact r_void A rfl d18_44 (by decide) (by decide) (⟨rfl, K10, V9⟩)
theorem own_m4 (x : Int32) : (x &&& (3 : Int32)) = 0 ∨ (x &&& (3 : Int32)) = 1 ∨ (x &&& (3 : Int32)) = 2 ∨ (x &&& (3 : Int32)) = 3 := by
  have e := c_mask x (3 : Int32) 2 (by decide) (by decide)
  have q : (x &&& (3 : Int32)).toInt = 0 ∨ (x &&& (3 : Int32)).toInt = 1 ∨ (x &&& (3 : Int32)).toInt = 2 ∨ (x &&& (3 : Int32)).toInt = 3 := by omega
  rcases q with q | q | q | q
  · exact Or.inl (Int32.toInt_inj.mp (q.trans (by decide)))
  · exact Or.inr (Or.inl (Int32.toInt_inj.mp (q.trans (by decide))))
  · exact Or.inr (Or.inr (Or.inl (Int32.toInt_inj.mp (q.trans (by decide)))))
  · exact Or.inr (Or.inr (Or.inr (Int32.toInt_inj.mp (q.trans (by decide)))))
theorem own_bb (x : Int32) : x.toInt8.toInt32.toInt8.toInt32 = x.toInt8.toInt32 := by simp
set_option maxRecDepth 65536 in
set_option maxHeartbeats 40000000 in
theorem rm0 (l : Launch) (Z : State) (a0 : Array Value) (hw : ∀ d ∈ tables_1, d.before a0 Z = true) (n0 : Nat) (h0 : Heap) (Z0 : n0 ≤ h0.size) (q0 q1 q2 q3 q4 : Int32) (cz : Int32) (S_COMPACT_STRINGS : Sta Z h0 "java/lang/String" "COMPACT_STRINGS" "Z" (.int cz)) (ncz : ¬ cz = (0 : Int32)) (fv : Value) (hfv : fv.isRef = true) (S_SIOOBE_FORMATTER : Sta Z h0 "jdk/internal/util/Preconditions" "SIOOBE_FORMATTER" "Ljava/util/function/BiFunction;" fv) :
    MetS l Z n0 x code maxLocals ret room_1 #[(.int q0), (.int q1), (.int q2), (.int q3), (.int q4)] h0 csts [] (fun v h vm => v = some (.int 1)) := by
  refine metS_intro (own := c5_FormRequestBodyPinLaw) (plainFor_of_name pn_com_example_tailorbird_tailorbird_FormRequestBodyPinLaw) rfl Z0 ?_
  intro p e s m below meth c T A B H hnm
  refine Wp.cast (g' := mkF m 0 #[iv q0, iv q1, iv q2, iv q3, iv q4, U0, U0, U0, U0, U0, U0] []) (by first | (simp [entryFrame, mkF, argsToLocals, Value.category, maxLocals, jv, S2, U0, iv, rv]; done) | rfl) ?_
  refine s_iloadN (pc' := 1) A at_0 rfl rfl ?_
  refine s_iconst (pc' := 2) (z := (1 : Int32)) A at_1 rfl (by decide) ?_
  refine s_iand (pc' := 3) (z := (q0 &&& (1 : Int32))) A at_2 rfl rfl ?_
  by_cases hc3_1 : (q0 &&& (1 : Int32)) = (0 : Int32)
  ·
   refine s_ifY (pc' := 10) A at_3 ((if0 _ _).trans (teq hc3_1).1) (by decide) (by decide) ?_
   refine s_iconst (pc' := 11) (z := (0 : Int32)) A at_10 rfl (by decide) ?_
   refine s_istore (pc' := 13) (Ls' := #[iv q0, iv q1, iv q2, iv q3, iv q4, iv 0, U0, U0, U0, U0, U0]) A at_11 rfl rfl ?_
   refine s_iloadN (pc' := 14) A at_13 rfl rfl ?_
   refine s_iconst (pc' := 15) (z := (3 : Int32)) A at_14 rfl (by decide) ?_
   obtain ⟨kk, hkk⟩ : ∃ z, z = (q1 &&& (3 : Int32)) := ⟨_, rfl⟩
   have ck := own_m4 q1
   rw [← hkk] at ck
   rcases ck with rfl | rfl | rfl | rfl
   ·
    refine s_iand (pc' := 16) (z := (0 : Int32)) A at_15 rfl hkk.symm ?_
    refine s_istore (pc' := 18) (Ls' := #[iv q0, iv q1, iv q2, iv q3, iv q4, iv 0, iv 0, U0, U0, U0, U0]) A at_16 rfl rfl ?_
    refine s_iload (pc' := 20) A at_18 rfl rfl ?_
    refine s_newarrayE (pc' := 22) (aty := .byte) (ty := .byte) (dv := (.int (0 : Int32))) (i := 0) (cap := 0) (ad := "[B") A rfl (by decide) rfl (w0 hw) (by decide) (by decide) (by decide) (by decide) (by decide) at_20 rfl fun T h1 b2 A g3 ge4 X5 V6 E7 => ?_
    have bo8 : h0.size ≤ b2 := le_eq (Keep.refl h0 []).1 g3
    have V6 : AA Z h1 b2 .byte [] := V6
    refine s_astore (pc' := 24) (Ls' := #[iv q0, iv q1, iv q2, iv q3, iv q4, iv 0, iv 0, rv b2, U0, U0, U0]) A at_22 rfl rfl rfl ?_
    refine s_iload (pc' := 26) A at_24 rfl rfl ?_
    refine s_ifY (pc' := 35) A at_26 (by decide) (by decide) (by decide) ?_
    refine s_iload (pc' := 37) A at_35 rfl rfl ?_
    refine s_iconst (pc' := 38) (z := (1 : Int32)) A at_37 rfl (by decide) ?_
    refine s_icmpY (pc' := 47) A at_38 (by decide) (by decide) (by decide) ?_
    refine s_iload (pc' := 49) A at_47 rfl rfl ?_
    refine s_iconst (pc' := 50) (z := (2 : Int32)) A at_49 rfl (by decide) ?_
    refine s_icmpY (pc' := 60) A at_50 (by decide) (by decide) (by decide) ?_
    refine s_iload (pc' := 62) A at_60 rfl rfl ?_
    refine s_ifY (pc' := 110) A at_62 (by decide) (by decide) (by decide) ?_
    have K9 := ((Keep.refl h0 []).ext X5)
    have H10 := (H.keep K9 (fun _ q => (List.not_mem_nil q).elim))
    refine s_new (pc' := 113) A (w1 hw) (w2 hw) (w3 hw) (by decide) (by decide) at_110 rfl fun T h11 b12 A g13 ge14 X15 E16 D17 => ?_
    have ne18 : b2 ≠ b12 := lt_ne V6.lt g13
    have bo19 : h0.size ≤ b12 := le_eq K9.1 g13
    have F20 : Fld Z h11 b12 "com/example/tailorbird/tailorbird/FormRequest" "method" "Ljava/lang/String;" .null := D17 (Or.inr (w83 hw)) (ty := (.object "java/lang/String")) (by decide)
    have F21 : Fld Z h11 b12 "com/example/tailorbird/tailorbird/FormRequest" "urlText" "Ljava/lang/CharSequence;" .null := D17 (Or.inr (w96 hw)) (ty := (.object "java/lang/CharSequence")) (by decide)
    have F22 : Fld Z h11 b12 "com/example/tailorbird/tailorbird/FormRequest" "contentType" "Ljava/lang/String;" .null := D17 (Or.inr (w99 hw)) (ty := (.object "java/lang/String")) (by decide)
    have F23 : Fld Z h11 b12 "com/example/tailorbird/tailorbird/FormRequest" "body" "[B" .null := D17 (Or.inr (w101 hw)) (ty := (.array .byte)) (by decide)
    have H24 := LK.born H10 X15 (Nat.le_of_eq g13) E16.lt
    refine s_dup (pc' := 114) A at_113 rfl rfl ?_
    have B25 := ((B.ext X5).ext X15)
    refine s_ldcS (pc' := 116) (i := 20) (nn := 16) A B25 H24 (List.mem_of_getElem? (i := 0) rfl) (satoms hw) tx1 tx1n (by decide) (by decide) (by decide) at_114 rfl fun sv26 T h27 a28 b29 A B H X30 E31 F32 F33 V34 na35 nb36 => ?_
    refine s_ldcS (pc' := 118) (i := 11) (nn := 40) A B H (List.mem_of_getElem? (i := 1) rfl) (satoms hw) tx3 tx3n (by decide) (by decide) (by decide) at_116 rfl fun sv37 T h38 a39 b40 A B H X41 E42 F43 F44 V45 na46 nb47 => ?_
    refine s_ldcS (pc' := 120) (i := 22) (nn := 40) A B H (List.mem_of_getElem? (i := 2) rfl) (satoms hw) tx5 tx5n (by decide) (by decide) (by decide) at_118 rfl fun sv48 T h49 a50 b51 A B H X52 E53 F54 F55 V56 na57 nb58 => ?_
    refine s_aload (pc' := 122) A at_120 rfl rfl rfl ?_
    have S59 := (((((S_COMPACT_STRINGS.ext X5).ext X15).ext X30).ext X41).ext X52)
    have S60 := (((((S_SIOOBE_FORMATTER.ext X5).ext X15).ext X30).ext X41).ext X52)
    have E61 := ((E31.ext X41).ext X52)
    have F62 := ((F32.ext X41).ext X52)
    have F63 := ((F33.ext X41).ext X52)
    have V64 := ((V34.ext X41).ext X52)
    have E65 := (E42.ext X52)
    have F66 := (F43.ext X52)
    have F67 := (F44.ext X52)
    have V68 := (V45.ext X52)
    have E69 := (((E16.ext X30).ext X41).ext X52)
    have F70 := (((F20.ext X30).ext X41).ext X52)
    have F71 := (((F21.ext X30).ext X41).ext X52)
    have F72 := (((F22.ext X30).ext X41).ext X52)
    have F73 := (((F23.ext X30).ext X41).ext X52)
    have V76 := ((((V6.ext X15).ext X30).ext X41).ext X52)
    have E77 := ((((E7.ext X15).ext X30).ext X41).ext X52)
    refine s_specialS (pc' := 125) (y := y14_init) (argsL := [(.ref a28), (.ref a39), (.ref a50), (.ref b2)]) (rest := [(.ref b12)]) A B H (ctor1B0 l Z a0 hw n0 h49 A.size b12 a28 b29 a39 b40 a50 b51 b2 cz fv  E69 F70 F71 F72 F73 ge14 S59 ncz hfv S60 E61 F62 F63 V64 E65 F66 F67 V68 E53 F54 F55 V56 V76 E77 ) rfl (w13 hw) (w14 hw) (w3 hw) (w15 hw) (by decide) pd__Ljava_lang_String_Ljava_lang_String_Ljava_lang_String__B_V rfl (W := 1) (by decide) (by decide) (Nat.le_of_eq rfl) (by decide) (by decide) rfl rfl at_122 rfl fun sv85 T h82 v83 A B Q84 => ?_
    obtain ⟨rfl, K74, cc78, F75, V79, E80, g81⟩ := Q84
    have ne86 : b2 ≠ cc78 := Nat.ne_of_lt (Nat.lt_of_lt_of_le V76.lt g81)
    have ne87 : b12 ≠ cc78 := Nat.ne_of_lt (Nat.lt_of_lt_of_le E69.lt g81)
    have ne88 : a28 ≠ cc78 := Nat.ne_of_lt (Nat.lt_of_lt_of_le E61.lt g81)
    have ne89 : b29 ≠ cc78 := Nat.ne_of_lt (Nat.lt_of_lt_of_le V64.lt g81)
    have ne90 : a39 ≠ cc78 := Nat.ne_of_lt (Nat.lt_of_lt_of_le E65.lt g81)
    have ne91 : b40 ≠ cc78 := Nat.ne_of_lt (Nat.lt_of_lt_of_le V68.lt g81)
    have ne92 : a50 ≠ cc78 := Nat.ne_of_lt (Nat.lt_of_lt_of_le E53.lt g81)
    have ne93 : b51 ≠ cc78 := Nat.ne_of_lt (Nat.lt_of_lt_of_le V56.lt g81)
    refine Wp.stk (st' := [(.ref b12)]) rfl ?_
    refine s_astore (pc' := 127) (Ls' := #[iv q0, iv q1, iv q2, iv q3, iv q4, iv 0, iv 0, rv b2, rv b12, U0, U0]) A at_125 rfl rfl rfl ?_
    refine s_aload (pc' := 129) A at_127 rfl rfl rfl ?_
    have V99 := (V76.keep K74 (ninS ne18 nin0))
    have E100 := (E69.keep K74)
    refine s_virtual (pc' := 132) (y := y15_body) (argsL := []) (rest := []) (z := y15_body) A E100 (body1 l Z a0 hw n0 h82 A.size b12 cc78  F75 V79 E80 ) (w102 hw) (w103 hw) (nf_same (C := "") (w105 hw)) (w105 hw) (w104 hw) (w3 hw) (w106 hw) (by decide) pd____B rfl (W := 0) (by decide) (by decide) (Nat.le_of_eq rfl) (by decide) (by decide) rfl rfl at_129 rfl fun T h101 v102 A Q103 => ?_
    obtain ⟨b94, rfl, K95, V96, g97, ge98⟩ := Q103
    have ne104 : b2 ≠ b94 := Nat.ne_of_lt (Nat.lt_of_lt_of_le V99.lt g97)
    have ne105 : b12 ≠ b94 := Nat.ne_of_lt (Nat.lt_of_lt_of_le E100.lt g97)
    have ne106 : cc78 ≠ b94 := Nat.ne_of_lt (Nat.lt_of_lt_of_le V79.lt g97)
    refine Wp.stk (st' := [(.ref b94)]) rfl ?_
    refine s_astore (pc' := 134) (Ls' := #[iv q0, iv q1, iv q2, iv q3, iv q4, iv 0, iv 0, rv b2, rv b12, rv b94, U0]) A at_132 rfl rfl rfl ?_
    refine s_aload (pc' := 136) A at_134 rfl rfl rfl ?_
    refine s_ifnullN (pc' := 139) A at_136 rfl ?_
    refine s_aload (pc' := 141) A at_139 rfl rfl rfl ?_
    refine s_aload (pc' := 143) A at_141 rfl rfl rfl ?_
    refine s_acmpN (pc' := 146) A at_143 rfl rfl rfl (by simp [XT.acmp, (Ne.symm ne104)]) ?_
    refine s_aload (pc' := 148) A at_146 rfl rfl rfl ?_
    refine s_iload (pc' := 150) A at_148 rfl rfl ?_
    refine s_iloadN (pc' := 151) A at_150 rfl rfl ?_
    refine s_iloadN (pc' := 152) A at_151 rfl rfl ?_
    refine s_iload (pc' := 154) A at_152 rfl rfl ?_
    refine s_static (pc' := 157) (y := y16_holds) (argsL := [(.ref b94), (.int (0 : Int32)), (.int q2), (.int q3), (.int q4)]) (rest := []) A (holds0 l Z a0 hw n0 h101 A.size b94  q2 q3 q4 V96 ) (w107 hw) (w108 hw) (w109 hw) (w110 hw) (by decide) pd___BIIII_Z rfl (W := 0) (by decide) (by decide) (Nat.le_of_eq rfl) (by decide) (by decide) rfl rfl at_154 rfl fun T h107 v108 A Q109 => ?_
    obtain ⟨rfl, eh⟩ := Q109
    rw [eh] at A
    refine Wp.stk (st' := [(.int (1 : Int32))]) rfl ?_
    refine s_ifY (pc' := 162) A at_157 (by decide) (by decide) (by decide) ?_
    refine s_aload (pc' := 164) A at_162 rfl rfl rfl ?_
    refine s_static (pc' := 167) (y := y17_flip) (argsL := [(.ref b94)]) (rest := []) A (flip0 l Z a0 hw n0 h101 A.size b94  V96 ge98) (w111 hw) (w112 hw) (w109 hw) (w113 hw) (by decide) pd___B_V rfl (W := 0) (by decide) (by decide) (Nat.le_of_eq rfl) (by decide) (by decide) rfl rfl at_164 rfl fun T h112 v113 A Q114 => ?_
    obtain ⟨rfl, K110, V111⟩ := Q114
    refine Wp.stk (st' := []) rfl ?_
    refine s_aload (pc' := 169) A at_167 rfl rfl rfl ?_
    have V115 := ((V99.keep K95 nin0).keep K110 (ninS ne104 nin0))
    refine s_static (pc' := 172) (y := y17_flip) (argsL := [(.ref b2)]) (rest := []) A (flip0 l Z a0 hw n0 h112 A.size b2  V115 ge4) (w111 hw) (w112 hw) (w109 hw) (w113 hw) (by decide) pd___B_V rfl (W := 0) (by decide) (by decide) (Nat.le_of_eq rfl) (by decide) (by decide) rfl rfl at_169 rfl fun T h118 v119 A Q120 => ?_
    obtain ⟨rfl, K116, V117⟩ := Q120
    refine Wp.stk (st' := []) rfl ?_
    refine s_aload (pc' := 174) A at_172 rfl rfl rfl ?_
    have F121 := (((F75.keep K95 nin0).keep K110 (ninS ne105 nin0)).keep K116 (ninS (Ne.symm ne18) nin0))
    have V122 := (((V79.keep K95 nin0).keep K110 (ninS ne106 nin0)).keep K116 (ninS (Ne.symm ne86) nin0))
    have E123 := (((E80.keep K95).keep K110).keep K116)
    have E129 := (((E100.keep K95).keep K110).keep K116)
    have V130 := (V111.keep K116 (ninS (Ne.symm ne104) nin0))
    refine s_virtual (pc' := 177) (y := y15_body) (argsL := []) (rest := []) (z := y15_body) A E129 (body1 l Z a0 hw n0 h118 A.size b12 cc78  F121 V122 E123 ) (w102 hw) (w103 hw) (nf_same (C := "") (w105 hw)) (w105 hw) (w104 hw) (w3 hw) (w106 hw) (by decide) pd____B rfl (W := 0) (by decide) (by decide) (Nat.le_of_eq rfl) (by decide) (by decide) rfl rfl at_174 rfl fun T h131 v132 A Q133 => ?_
    obtain ⟨b124, rfl, K125, V126, g127, ge128⟩ := Q133
    have ne134 : b2 ≠ b124 := Nat.ne_of_lt (Nat.lt_of_lt_of_le V117.lt g127)
    have ne135 : b12 ≠ b124 := Nat.ne_of_lt (Nat.lt_of_lt_of_le E129.lt g127)
    have ne136 : cc78 ≠ b124 := Nat.ne_of_lt (Nat.lt_of_lt_of_le V122.lt g127)
    have ne137 : b94 ≠ b124 := Nat.ne_of_lt (Nat.lt_of_lt_of_le V130.lt g127)
    refine Wp.stk (st' := [(.ref b124)]) rfl ?_
    refine s_astore (pc' := 179) (Ls' := #[iv q0, iv q1, iv q2, iv q3, iv q4, iv 0, iv 0, rv b2, rv b12, rv b94, rv b124]) A at_177 rfl rfl rfl ?_
    refine s_aload (pc' := 181) A at_179 rfl rfl rfl ?_
    refine s_ifnullN (pc' := 184) A at_181 rfl ?_
    refine s_aload (pc' := 186) A at_184 rfl rfl rfl ?_
    refine s_aload (pc' := 188) A at_186 rfl rfl rfl ?_
    refine s_acmpN (pc' := 191) A at_188 rfl rfl rfl (by simp [XT.acmp, (Ne.symm ne137)]) ?_
    refine s_aload (pc' := 193) A at_191 rfl rfl rfl ?_
    refine s_aload (pc' := 195) A at_193 rfl rfl rfl ?_
    refine s_acmpY (pc' := 200) A at_195 rfl rfl (by simp [XT.acmp, (Ne.symm ne134)]) (by decide) (by decide) ?_
    refine s_aload (pc' := 202) A at_200 rfl rfl rfl ?_
    refine s_iload (pc' := 204) A at_202 rfl rfl ?_
    refine s_iloadN (pc' := 205) A at_204 rfl rfl ?_
    refine s_iloadN (pc' := 206) A at_205 rfl rfl ?_
    refine s_iload (pc' := 208) A at_206 rfl rfl ?_
    refine s_static (pc' := 211) (y := y16_holds) (argsL := [(.ref b124), (.int (0 : Int32)), (.int q2), (.int q3), (.int q4)]) (rest := []) A (holds0 l Z a0 hw n0 h131 A.size b124  q2 q3 q4 V126 ) (w107 hw) (w108 hw) (w109 hw) (w110 hw) (by decide) pd___BIIII_Z rfl (W := 0) (by decide) (by decide) (Nat.le_of_eq rfl) (by decide) (by decide) rfl rfl at_208 rfl fun T h138 v139 A Q140 => ?_
    obtain ⟨rfl, eh⟩ := Q140
    rw [eh] at A
    refine Wp.stk (st' := [(.int (1 : Int32))]) rfl ?_
    have B141 := ((((B.keep K95).keep K110).keep K116).keep K125)
    exact rS_bool A B141 rfl (by decide) at_211 (by decide) (by decide) (fun vm hv => rfl)
   ·
    refine s_iand (pc' := 16) (z := (1 : Int32)) A at_15 rfl hkk.symm ?_
    refine s_istore (pc' := 18) (Ls' := #[iv q0, iv q1, iv q2, iv q3, iv q4, iv 0, iv 1, U0, U0, U0, U0]) A at_16 rfl rfl ?_
    refine s_iload (pc' := 20) A at_18 rfl rfl ?_
    refine s_newarrayE (pc' := 22) (aty := .byte) (ty := .byte) (dv := (.int (0 : Int32))) (i := 1) (cap := 1) (ad := "[B") A rfl (by decide) rfl (w0 hw) (by decide) (by decide) (by decide) (by decide) (by decide) at_20 rfl fun T h142 b143 A g144 ge145 X146 V147 E148 => ?_
    have bo149 : h0.size ≤ b143 := le_eq (Keep.refl h0 []).1 g144
    have V147 : AA Z h142 b143 .byte [.int (0 : Int32)] := V147
    refine s_astore (pc' := 24) (Ls' := #[iv q0, iv q1, iv q2, iv q3, iv q4, iv 0, iv 1, rv b143, U0, U0, U0]) A at_22 rfl rfl rfl ?_
    refine s_iload (pc' := 26) A at_24 rfl rfl ?_
    refine s_ifN (pc' := 29) A at_26 rfl (by decide) ?_
    refine s_aload (pc' := 31) A at_29 rfl rfl rfl ?_
    refine s_iconst (pc' := 32) (z := (0 : Int32)) A at_31 rfl (by decide) ?_
    refine s_iloadN (pc' := 33) A at_32 rfl rfl ?_
    refine s_i2b (pc' := 34) (z := (q2).toInt8.toInt32) A at_33 rfl rfl ?_
    refine s_bastore (pc' := 35) (i := 0) A V147 (by decide) (Nat.le_of_ble_eq_true rfl) ge145 at_34 rfl fun T h150 A W151 V152 => ?_
    have V152 : AA Z h150 b143 .byte [.int ((q2).toInt8.toInt32).toInt8.toInt32] := V152
    refine s_iload (pc' := 37) A at_35 rfl rfl ?_
    refine s_iconst (pc' := 38) (z := (1 : Int32)) A at_37 rfl (by decide) ?_
    refine s_icmpY (pc' := 47) A at_38 (by decide) (by decide) (by decide) ?_
    refine s_iload (pc' := 49) A at_47 rfl rfl ?_
    refine s_iconst (pc' := 50) (z := (2 : Int32)) A at_49 rfl (by decide) ?_
    refine s_icmpY (pc' := 60) A at_50 (by decide) (by decide) (by decide) ?_
    refine s_iload (pc' := 62) A at_60 rfl rfl ?_
    refine s_ifY (pc' := 110) A at_62 (by decide) (by decide) (by decide) ?_
    have K153 := (((Keep.refl h0 []).ext X146).wr W151 (Or.inr bo149))
    have H154 := (H.keep K153 (fun _ q => (List.not_mem_nil q).elim))
    refine s_new (pc' := 113) A (w1 hw) (w2 hw) (w3 hw) (by decide) (by decide) at_110 rfl fun T h155 b156 A g157 ge158 X159 E160 D161 => ?_
    have ne162 : b143 ≠ b156 := lt_ne V152.lt g157
    have bo163 : h0.size ≤ b156 := le_eq K153.1 g157
    have F164 : Fld Z h155 b156 "com/example/tailorbird/tailorbird/FormRequest" "method" "Ljava/lang/String;" .null := D161 (Or.inr (w83 hw)) (ty := (.object "java/lang/String")) (by decide)
    have F165 : Fld Z h155 b156 "com/example/tailorbird/tailorbird/FormRequest" "urlText" "Ljava/lang/CharSequence;" .null := D161 (Or.inr (w96 hw)) (ty := (.object "java/lang/CharSequence")) (by decide)
    have F166 : Fld Z h155 b156 "com/example/tailorbird/tailorbird/FormRequest" "contentType" "Ljava/lang/String;" .null := D161 (Or.inr (w99 hw)) (ty := (.object "java/lang/String")) (by decide)
    have F167 : Fld Z h155 b156 "com/example/tailorbird/tailorbird/FormRequest" "body" "[B" .null := D161 (Or.inr (w101 hw)) (ty := (.array .byte)) (by decide)
    have H168 := LK.born H154 X159 (Nat.le_of_eq g157) E160.lt
    refine s_dup (pc' := 114) A at_113 rfl rfl ?_
    have B169 := (((B.ext X146).wr W151).ext X159)
    refine s_ldcS (pc' := 116) (i := 20) (nn := 16) A B169 H168 (List.mem_of_getElem? (i := 0) rfl) (satoms hw) tx1 tx1n (by decide) (by decide) (by decide) at_114 rfl fun sv170 T h171 a172 b173 A B H X174 E175 F176 F177 V178 na179 nb180 => ?_
    refine s_ldcS (pc' := 118) (i := 11) (nn := 40) A B H (List.mem_of_getElem? (i := 1) rfl) (satoms hw) tx3 tx3n (by decide) (by decide) (by decide) at_116 rfl fun sv181 T h182 a183 b184 A B H X185 E186 F187 F188 V189 na190 nb191 => ?_
    refine s_ldcS (pc' := 120) (i := 22) (nn := 40) A B H (List.mem_of_getElem? (i := 2) rfl) (satoms hw) tx5 tx5n (by decide) (by decide) (by decide) at_118 rfl fun sv192 T h193 a194 b195 A B H X196 E197 F198 F199 V200 na201 nb202 => ?_
    refine s_aload (pc' := 122) A at_120 rfl rfl rfl ?_
    have S203 := ((((((S_COMPACT_STRINGS.ext X146).wr W151).ext X159).ext X174).ext X185).ext X196)
    have S204 := ((((((S_SIOOBE_FORMATTER.ext X146).wr W151).ext X159).ext X174).ext X185).ext X196)
    have E205 := ((E175.ext X185).ext X196)
    have F206 := ((F176.ext X185).ext X196)
    have F207 := ((F177.ext X185).ext X196)
    have V208 := ((V178.ext X185).ext X196)
    have E209 := (E186.ext X196)
    have F210 := (F187.ext X196)
    have F211 := (F188.ext X196)
    have V212 := (V189.ext X196)
    have E213 := (((E160.ext X174).ext X185).ext X196)
    have F214 := (((F164.ext X174).ext X185).ext X196)
    have F215 := (((F165.ext X174).ext X185).ext X196)
    have F216 := (((F166.ext X174).ext X185).ext X196)
    have F217 := (((F167.ext X174).ext X185).ext X196)
    have V220 := ((((V152.ext X159).ext X174).ext X185).ext X196)
    have E221 := (((((E148.wr W151).ext X159).ext X174).ext X185).ext X196)
    refine s_specialS (pc' := 125) (y := y14_init) (argsL := [(.ref a172), (.ref a183), (.ref a194), (.ref b143)]) (rest := [(.ref b156)]) A B H (ctor1B1 l Z a0 hw n0 h193 A.size b156 a172 b173 a183 b184 a194 b195 b143 cz fv ((q2).toInt8.toInt32).toInt8.toInt32 E213 F214 F215 F216 F217 ge158 S203 ncz hfv S204 E205 F206 F207 V208 E209 F210 F211 V212 E197 F198 F199 V200 V220 E221 (fits_nar_byte _)) rfl (w13 hw) (w14 hw) (w3 hw) (w15 hw) (by decide) pd__Ljava_lang_String_Ljava_lang_String_Ljava_lang_String__B_V rfl (W := 1) (by decide) (by decide) (Nat.le_of_eq rfl) (by decide) (by decide) rfl rfl at_122 rfl fun sv229 T h226 v227 A B Q228 => ?_
    obtain ⟨rfl, K218, cc222, F219, V223, E224, g225⟩ := Q228
    have ne230 : b143 ≠ cc222 := Nat.ne_of_lt (Nat.lt_of_lt_of_le V220.lt g225)
    have ne231 : b156 ≠ cc222 := Nat.ne_of_lt (Nat.lt_of_lt_of_le E213.lt g225)
    have ne232 : a172 ≠ cc222 := Nat.ne_of_lt (Nat.lt_of_lt_of_le E205.lt g225)
    have ne233 : b173 ≠ cc222 := Nat.ne_of_lt (Nat.lt_of_lt_of_le V208.lt g225)
    have ne234 : a183 ≠ cc222 := Nat.ne_of_lt (Nat.lt_of_lt_of_le E209.lt g225)
    have ne235 : b184 ≠ cc222 := Nat.ne_of_lt (Nat.lt_of_lt_of_le V212.lt g225)
    have ne236 : a194 ≠ cc222 := Nat.ne_of_lt (Nat.lt_of_lt_of_le E197.lt g225)
    have ne237 : b195 ≠ cc222 := Nat.ne_of_lt (Nat.lt_of_lt_of_le V200.lt g225)
    refine Wp.stk (st' := [(.ref b156)]) rfl ?_
    refine s_astore (pc' := 127) (Ls' := #[iv q0, iv q1, iv q2, iv q3, iv q4, iv 0, iv 1, rv b143, rv b156, U0, U0]) A at_125 rfl rfl rfl ?_
    refine s_aload (pc' := 129) A at_127 rfl rfl rfl ?_
    have V243 := (V220.keep K218 (ninS ne162 nin0))
    have E244 := (E213.keep K218)
    refine s_virtual (pc' := 132) (y := y15_body) (argsL := []) (rest := []) (z := y15_body) A E244 (body2 l Z a0 hw n0 h226 A.size b156 cc222 ((q2).toInt8.toInt32).toInt8.toInt32 F219 V223 E224 (fits_nar_byte _)) (w102 hw) (w103 hw) (nf_same (C := "") (w105 hw)) (w105 hw) (w104 hw) (w3 hw) (w106 hw) (by decide) pd____B rfl (W := 0) (by decide) (by decide) (Nat.le_of_eq rfl) (by decide) (by decide) rfl rfl at_129 rfl fun T h245 v246 A Q247 => ?_
    obtain ⟨b238, rfl, K239, V240, g241, ge242⟩ := Q247
    have ne248 : b143 ≠ b238 := Nat.ne_of_lt (Nat.lt_of_lt_of_le V243.lt g241)
    have ne249 : b156 ≠ b238 := Nat.ne_of_lt (Nat.lt_of_lt_of_le E244.lt g241)
    have ne250 : cc222 ≠ b238 := Nat.ne_of_lt (Nat.lt_of_lt_of_le V223.lt g241)
    refine Wp.stk (st' := [(.ref b238)]) rfl ?_
    refine s_astore (pc' := 134) (Ls' := #[iv q0, iv q1, iv q2, iv q3, iv q4, iv 0, iv 1, rv b143, rv b156, rv b238, U0]) A at_132 rfl rfl rfl ?_
    refine s_aload (pc' := 136) A at_134 rfl rfl rfl ?_
    refine s_ifnullN (pc' := 139) A at_136 rfl ?_
    refine s_aload (pc' := 141) A at_139 rfl rfl rfl ?_
    refine s_aload (pc' := 143) A at_141 rfl rfl rfl ?_
    refine s_acmpN (pc' := 146) A at_143 rfl rfl rfl (by simp [XT.acmp, (Ne.symm ne248)]) ?_
    refine s_aload (pc' := 148) A at_146 rfl rfl rfl ?_
    refine s_iload (pc' := 150) A at_148 rfl rfl ?_
    refine s_iloadN (pc' := 151) A at_150 rfl rfl ?_
    refine s_iloadN (pc' := 152) A at_151 rfl rfl ?_
    refine s_iload (pc' := 154) A at_152 rfl rfl ?_
    refine s_static (pc' := 157) (y := y16_holds) (argsL := [(.ref b238), (.int (1 : Int32)), (.int q2), (.int q3), (.int q4)]) (rest := []) A (holds1 l Z a0 hw n0 h245 A.size b238 ((q2).toInt8.toInt32).toInt8.toInt32 q2 q3 q4 V240 (own_bb _)) (w107 hw) (w108 hw) (w109 hw) (w110 hw) (by decide) pd___BIIII_Z rfl (W := 0) (by decide) (by decide) (Nat.le_of_eq rfl) (by decide) (by decide) rfl rfl at_154 rfl fun T h251 v252 A Q253 => ?_
    obtain ⟨rfl, eh⟩ := Q253
    rw [eh] at A
    refine Wp.stk (st' := [(.int (1 : Int32))]) rfl ?_
    refine s_ifY (pc' := 162) A at_157 (by decide) (by decide) (by decide) ?_
    refine s_aload (pc' := 164) A at_162 rfl rfl rfl ?_
    refine s_static (pc' := 167) (y := y17_flip) (argsL := [(.ref b238)]) (rest := []) A (flip1 l Z a0 hw n0 h245 A.size b238 ((q2).toInt8.toInt32).toInt8.toInt32 V240 ge242) (w111 hw) (w112 hw) (w109 hw) (w113 hw) (by decide) pd___B_V rfl (W := 0) (by decide) (by decide) (Nat.le_of_eq rfl) (by decide) (by decide) rfl rfl at_164 rfl fun T h256 v257 A Q258 => ?_
    obtain ⟨rfl, K254, V255⟩ := Q258
    refine Wp.stk (st' := []) rfl ?_
    refine s_aload (pc' := 169) A at_167 rfl rfl rfl ?_
    have V259 := ((V243.keep K239 nin0).keep K254 (ninS ne248 nin0))
    refine s_static (pc' := 172) (y := y17_flip) (argsL := [(.ref b143)]) (rest := []) A (flip1 l Z a0 hw n0 h256 A.size b143 ((q2).toInt8.toInt32).toInt8.toInt32 V259 ge145) (w111 hw) (w112 hw) (w109 hw) (w113 hw) (by decide) pd___B_V rfl (W := 0) (by decide) (by decide) (Nat.le_of_eq rfl) (by decide) (by decide) rfl rfl at_169 rfl fun T h262 v263 A Q264 => ?_
    obtain ⟨rfl, K260, V261⟩ := Q264
    refine Wp.stk (st' := []) rfl ?_
    refine s_aload (pc' := 174) A at_172 rfl rfl rfl ?_
    have F265 := (((F219.keep K239 nin0).keep K254 (ninS ne249 nin0)).keep K260 (ninS (Ne.symm ne162) nin0))
    have V266 := (((V223.keep K239 nin0).keep K254 (ninS ne250 nin0)).keep K260 (ninS (Ne.symm ne230) nin0))
    have E267 := (((E224.keep K239).keep K254).keep K260)
    have E273 := (((E244.keep K239).keep K254).keep K260)
    have V274 := (V255.keep K260 (ninS (Ne.symm ne248) nin0))
    refine s_virtual (pc' := 177) (y := y15_body) (argsL := []) (rest := []) (z := y15_body) A E273 (body2 l Z a0 hw n0 h262 A.size b156 cc222 ((q2).toInt8.toInt32).toInt8.toInt32 F265 V266 E267 (fits_nar_byte _)) (w102 hw) (w103 hw) (nf_same (C := "") (w105 hw)) (w105 hw) (w104 hw) (w3 hw) (w106 hw) (by decide) pd____B rfl (W := 0) (by decide) (by decide) (Nat.le_of_eq rfl) (by decide) (by decide) rfl rfl at_174 rfl fun T h275 v276 A Q277 => ?_
    obtain ⟨b268, rfl, K269, V270, g271, ge272⟩ := Q277
    have ne278 : b143 ≠ b268 := Nat.ne_of_lt (Nat.lt_of_lt_of_le V261.lt g271)
    have ne279 : b156 ≠ b268 := Nat.ne_of_lt (Nat.lt_of_lt_of_le E273.lt g271)
    have ne280 : cc222 ≠ b268 := Nat.ne_of_lt (Nat.lt_of_lt_of_le V266.lt g271)
    have ne281 : b238 ≠ b268 := Nat.ne_of_lt (Nat.lt_of_lt_of_le V274.lt g271)
    refine Wp.stk (st' := [(.ref b268)]) rfl ?_
    refine s_astore (pc' := 179) (Ls' := #[iv q0, iv q1, iv q2, iv q3, iv q4, iv 0, iv 1, rv b143, rv b156, rv b238, rv b268]) A at_177 rfl rfl rfl ?_
    refine s_aload (pc' := 181) A at_179 rfl rfl rfl ?_
    refine s_ifnullN (pc' := 184) A at_181 rfl ?_
    refine s_aload (pc' := 186) A at_184 rfl rfl rfl ?_
    refine s_aload (pc' := 188) A at_186 rfl rfl rfl ?_
    refine s_acmpN (pc' := 191) A at_188 rfl rfl rfl (by simp [XT.acmp, (Ne.symm ne281)]) ?_
    refine s_aload (pc' := 193) A at_191 rfl rfl rfl ?_
    refine s_aload (pc' := 195) A at_193 rfl rfl rfl ?_
    refine s_acmpY (pc' := 200) A at_195 rfl rfl (by simp [XT.acmp, (Ne.symm ne278)]) (by decide) (by decide) ?_
    refine s_aload (pc' := 202) A at_200 rfl rfl rfl ?_
    refine s_iload (pc' := 204) A at_202 rfl rfl ?_
    refine s_iloadN (pc' := 205) A at_204 rfl rfl ?_
    refine s_iloadN (pc' := 206) A at_205 rfl rfl ?_
    refine s_iload (pc' := 208) A at_206 rfl rfl ?_
    refine s_static (pc' := 211) (y := y16_holds) (argsL := [(.ref b268), (.int (1 : Int32)), (.int q2), (.int q3), (.int q4)]) (rest := []) A (holds1 l Z a0 hw n0 h275 A.size b268 ((q2).toInt8.toInt32).toInt8.toInt32 q2 q3 q4 V270 (own_bb _)) (w107 hw) (w108 hw) (w109 hw) (w110 hw) (by decide) pd___BIIII_Z rfl (W := 0) (by decide) (by decide) (Nat.le_of_eq rfl) (by decide) (by decide) rfl rfl at_208 rfl fun T h282 v283 A Q284 => ?_
    obtain ⟨rfl, eh⟩ := Q284
    rw [eh] at A
    refine Wp.stk (st' := [(.int (1 : Int32))]) rfl ?_
    have B285 := ((((B.keep K239).keep K254).keep K260).keep K269)
    exact rS_bool A B285 rfl (by decide) at_211 (by decide) (by decide) (fun vm hv => rfl)
   ·
    refine s_iand (pc' := 16) (z := (2 : Int32)) A at_15 rfl hkk.symm ?_
    refine s_istore (pc' := 18) (Ls' := #[iv q0, iv q1, iv q2, iv q3, iv q4, iv 0, iv 2, U0, U0, U0, U0]) A at_16 rfl rfl ?_
    refine s_iload (pc' := 20) A at_18 rfl rfl ?_
    refine s_newarrayE (pc' := 22) (aty := .byte) (ty := .byte) (dv := (.int (0 : Int32))) (i := 2) (cap := 2) (ad := "[B") A rfl (by decide) rfl (w0 hw) (by decide) (by decide) (by decide) (by decide) (by decide) at_20 rfl fun T h286 b287 A g288 ge289 X290 V291 E292 => ?_
    have bo293 : h0.size ≤ b287 := le_eq (Keep.refl h0 []).1 g288
    have V291 : AA Z h286 b287 .byte [.int (0 : Int32), .int (0 : Int32)] := V291
    refine s_astore (pc' := 24) (Ls' := #[iv q0, iv q1, iv q2, iv q3, iv q4, iv 0, iv 2, rv b287, U0, U0, U0]) A at_22 rfl rfl rfl ?_
    refine s_iload (pc' := 26) A at_24 rfl rfl ?_
    refine s_ifN (pc' := 29) A at_26 rfl (by decide) ?_
    refine s_aload (pc' := 31) A at_29 rfl rfl rfl ?_
    refine s_iconst (pc' := 32) (z := (0 : Int32)) A at_31 rfl (by decide) ?_
    refine s_iloadN (pc' := 33) A at_32 rfl rfl ?_
    refine s_i2b (pc' := 34) (z := (q2).toInt8.toInt32) A at_33 rfl rfl ?_
    refine s_bastore (pc' := 35) (i := 0) A V291 (by decide) (Nat.le_of_ble_eq_true rfl) ge289 at_34 rfl fun T h294 A W295 V296 => ?_
    have V296 : AA Z h294 b287 .byte [.int ((q2).toInt8.toInt32).toInt8.toInt32, .int (0 : Int32)] := V296
    refine s_iload (pc' := 37) A at_35 rfl rfl ?_
    refine s_iconst (pc' := 38) (z := (1 : Int32)) A at_37 rfl (by decide) ?_
    refine s_icmpN (pc' := 41) A at_38 rfl (by decide) ?_
    refine s_aload (pc' := 43) A at_41 rfl rfl rfl ?_
    refine s_iconst (pc' := 44) (z := (1 : Int32)) A at_43 rfl (by decide) ?_
    refine s_iloadN (pc' := 45) A at_44 rfl rfl ?_
    refine s_i2b (pc' := 46) (z := (q3).toInt8.toInt32) A at_45 rfl rfl ?_
    refine s_bastore (pc' := 47) (i := 1) A V296 (by decide) (Nat.le_of_ble_eq_true rfl) ge289 at_46 rfl fun T h297 A W298 V299 => ?_
    have V299 : AA Z h297 b287 .byte [.int ((q2).toInt8.toInt32).toInt8.toInt32, .int ((q3).toInt8.toInt32).toInt8.toInt32] := V299
    refine s_iload (pc' := 49) A at_47 rfl rfl ?_
    refine s_iconst (pc' := 50) (z := (2 : Int32)) A at_49 rfl (by decide) ?_
    refine s_icmpY (pc' := 60) A at_50 (by decide) (by decide) (by decide) ?_
    refine s_iload (pc' := 62) A at_60 rfl rfl ?_
    refine s_ifY (pc' := 110) A at_62 (by decide) (by decide) (by decide) ?_
    have K300 := ((((Keep.refl h0 []).ext X290).wr W295 (Or.inr bo293)).wr W298 (Or.inr bo293))
    have H301 := (H.keep K300 (fun _ q => (List.not_mem_nil q).elim))
    refine s_new (pc' := 113) A (w1 hw) (w2 hw) (w3 hw) (by decide) (by decide) at_110 rfl fun T h302 b303 A g304 ge305 X306 E307 D308 => ?_
    have ne309 : b287 ≠ b303 := lt_ne V299.lt g304
    have bo310 : h0.size ≤ b303 := le_eq K300.1 g304
    have F311 : Fld Z h302 b303 "com/example/tailorbird/tailorbird/FormRequest" "method" "Ljava/lang/String;" .null := D308 (Or.inr (w83 hw)) (ty := (.object "java/lang/String")) (by decide)
    have F312 : Fld Z h302 b303 "com/example/tailorbird/tailorbird/FormRequest" "urlText" "Ljava/lang/CharSequence;" .null := D308 (Or.inr (w96 hw)) (ty := (.object "java/lang/CharSequence")) (by decide)
    have F313 : Fld Z h302 b303 "com/example/tailorbird/tailorbird/FormRequest" "contentType" "Ljava/lang/String;" .null := D308 (Or.inr (w99 hw)) (ty := (.object "java/lang/String")) (by decide)
    have F314 : Fld Z h302 b303 "com/example/tailorbird/tailorbird/FormRequest" "body" "[B" .null := D308 (Or.inr (w101 hw)) (ty := (.array .byte)) (by decide)
    have H315 := LK.born H301 X306 (Nat.le_of_eq g304) E307.lt
    refine s_dup (pc' := 114) A at_113 rfl rfl ?_
    have B316 := ((((B.ext X290).wr W295).wr W298).ext X306)
    refine s_ldcS (pc' := 116) (i := 20) (nn := 16) A B316 H315 (List.mem_of_getElem? (i := 0) rfl) (satoms hw) tx1 tx1n (by decide) (by decide) (by decide) at_114 rfl fun sv317 T h318 a319 b320 A B H X321 E322 F323 F324 V325 na326 nb327 => ?_
    refine s_ldcS (pc' := 118) (i := 11) (nn := 40) A B H (List.mem_of_getElem? (i := 1) rfl) (satoms hw) tx3 tx3n (by decide) (by decide) (by decide) at_116 rfl fun sv328 T h329 a330 b331 A B H X332 E333 F334 F335 V336 na337 nb338 => ?_
    refine s_ldcS (pc' := 120) (i := 22) (nn := 40) A B H (List.mem_of_getElem? (i := 2) rfl) (satoms hw) tx5 tx5n (by decide) (by decide) (by decide) at_118 rfl fun sv339 T h340 a341 b342 A B H X343 E344 F345 F346 V347 na348 nb349 => ?_
    refine s_aload (pc' := 122) A at_120 rfl rfl rfl ?_
    have S350 := (((((((S_COMPACT_STRINGS.ext X290).wr W295).wr W298).ext X306).ext X321).ext X332).ext X343)
    have S351 := (((((((S_SIOOBE_FORMATTER.ext X290).wr W295).wr W298).ext X306).ext X321).ext X332).ext X343)
    have E352 := ((E322.ext X332).ext X343)
    have F353 := ((F323.ext X332).ext X343)
    have F354 := ((F324.ext X332).ext X343)
    have V355 := ((V325.ext X332).ext X343)
    have E356 := (E333.ext X343)
    have F357 := (F334.ext X343)
    have F358 := (F335.ext X343)
    have V359 := (V336.ext X343)
    have E360 := (((E307.ext X321).ext X332).ext X343)
    have F361 := (((F311.ext X321).ext X332).ext X343)
    have F362 := (((F312.ext X321).ext X332).ext X343)
    have F363 := (((F313.ext X321).ext X332).ext X343)
    have F364 := (((F314.ext X321).ext X332).ext X343)
    have V367 := ((((V299.ext X306).ext X321).ext X332).ext X343)
    have E368 := ((((((E292.wr W295).wr W298).ext X306).ext X321).ext X332).ext X343)
    refine s_specialS (pc' := 125) (y := y14_init) (argsL := [(.ref a319), (.ref a330), (.ref a341), (.ref b287)]) (rest := [(.ref b303)]) A B H (ctor1B2 l Z a0 hw n0 h340 A.size b303 a319 b320 a330 b331 a341 b342 b287 cz fv ((q2).toInt8.toInt32).toInt8.toInt32 ((q3).toInt8.toInt32).toInt8.toInt32 E360 F361 F362 F363 F364 ge305 S350 ncz hfv S351 E352 F353 F354 V355 E356 F357 F358 V359 E344 F345 F346 V347 V367 E368 (fits_nar_byte _) (fits_nar_byte _)) rfl (w13 hw) (w14 hw) (w3 hw) (w15 hw) (by decide) pd__Ljava_lang_String_Ljava_lang_String_Ljava_lang_String__B_V rfl (W := 1) (by decide) (by decide) (Nat.le_of_eq rfl) (by decide) (by decide) rfl rfl at_122 rfl fun sv376 T h373 v374 A B Q375 => ?_
    obtain ⟨rfl, K365, cc369, F366, V370, E371, g372⟩ := Q375
    have ne377 : b287 ≠ cc369 := Nat.ne_of_lt (Nat.lt_of_lt_of_le V367.lt g372)
    have ne378 : b303 ≠ cc369 := Nat.ne_of_lt (Nat.lt_of_lt_of_le E360.lt g372)
    have ne379 : a319 ≠ cc369 := Nat.ne_of_lt (Nat.lt_of_lt_of_le E352.lt g372)
    have ne380 : b320 ≠ cc369 := Nat.ne_of_lt (Nat.lt_of_lt_of_le V355.lt g372)
    have ne381 : a330 ≠ cc369 := Nat.ne_of_lt (Nat.lt_of_lt_of_le E356.lt g372)
    have ne382 : b331 ≠ cc369 := Nat.ne_of_lt (Nat.lt_of_lt_of_le V359.lt g372)
    have ne383 : a341 ≠ cc369 := Nat.ne_of_lt (Nat.lt_of_lt_of_le E344.lt g372)
    have ne384 : b342 ≠ cc369 := Nat.ne_of_lt (Nat.lt_of_lt_of_le V347.lt g372)
    refine Wp.stk (st' := [(.ref b303)]) rfl ?_
    refine s_astore (pc' := 127) (Ls' := #[iv q0, iv q1, iv q2, iv q3, iv q4, iv 0, iv 2, rv b287, rv b303, U0, U0]) A at_125 rfl rfl rfl ?_
    refine s_aload (pc' := 129) A at_127 rfl rfl rfl ?_
    have V390 := (V367.keep K365 (ninS ne309 nin0))
    have E391 := (E360.keep K365)
    refine s_virtual (pc' := 132) (y := y15_body) (argsL := []) (rest := []) (z := y15_body) A E391 (body3 l Z a0 hw n0 h373 A.size b303 cc369 ((q2).toInt8.toInt32).toInt8.toInt32 ((q3).toInt8.toInt32).toInt8.toInt32 F366 V370 E371 (fits_nar_byte _) (fits_nar_byte _)) (w102 hw) (w103 hw) (nf_same (C := "") (w105 hw)) (w105 hw) (w104 hw) (w3 hw) (w106 hw) (by decide) pd____B rfl (W := 0) (by decide) (by decide) (Nat.le_of_eq rfl) (by decide) (by decide) rfl rfl at_129 rfl fun T h392 v393 A Q394 => ?_
    obtain ⟨b385, rfl, K386, V387, g388, ge389⟩ := Q394
    have ne395 : b287 ≠ b385 := Nat.ne_of_lt (Nat.lt_of_lt_of_le V390.lt g388)
    have ne396 : b303 ≠ b385 := Nat.ne_of_lt (Nat.lt_of_lt_of_le E391.lt g388)
    have ne397 : cc369 ≠ b385 := Nat.ne_of_lt (Nat.lt_of_lt_of_le V370.lt g388)
    refine Wp.stk (st' := [(.ref b385)]) rfl ?_
    refine s_astore (pc' := 134) (Ls' := #[iv q0, iv q1, iv q2, iv q3, iv q4, iv 0, iv 2, rv b287, rv b303, rv b385, U0]) A at_132 rfl rfl rfl ?_
    refine s_aload (pc' := 136) A at_134 rfl rfl rfl ?_
    refine s_ifnullN (pc' := 139) A at_136 rfl ?_
    refine s_aload (pc' := 141) A at_139 rfl rfl rfl ?_
    refine s_aload (pc' := 143) A at_141 rfl rfl rfl ?_
    refine s_acmpN (pc' := 146) A at_143 rfl rfl rfl (by simp [XT.acmp, (Ne.symm ne395)]) ?_
    refine s_aload (pc' := 148) A at_146 rfl rfl rfl ?_
    refine s_iload (pc' := 150) A at_148 rfl rfl ?_
    refine s_iloadN (pc' := 151) A at_150 rfl rfl ?_
    refine s_iloadN (pc' := 152) A at_151 rfl rfl ?_
    refine s_iload (pc' := 154) A at_152 rfl rfl ?_
    refine s_static (pc' := 157) (y := y16_holds) (argsL := [(.ref b385), (.int (2 : Int32)), (.int q2), (.int q3), (.int q4)]) (rest := []) A (holds2 l Z a0 hw n0 h392 A.size b385 ((q2).toInt8.toInt32).toInt8.toInt32 ((q3).toInt8.toInt32).toInt8.toInt32 q2 q3 q4 V387 (own_bb _) (own_bb _)) (w107 hw) (w108 hw) (w109 hw) (w110 hw) (by decide) pd___BIIII_Z rfl (W := 0) (by decide) (by decide) (Nat.le_of_eq rfl) (by decide) (by decide) rfl rfl at_154 rfl fun T h398 v399 A Q400 => ?_
    obtain ⟨rfl, eh⟩ := Q400
    rw [eh] at A
    refine Wp.stk (st' := [(.int (1 : Int32))]) rfl ?_
    refine s_ifY (pc' := 162) A at_157 (by decide) (by decide) (by decide) ?_
    refine s_aload (pc' := 164) A at_162 rfl rfl rfl ?_
    refine s_static (pc' := 167) (y := y17_flip) (argsL := [(.ref b385)]) (rest := []) A (flip2 l Z a0 hw n0 h392 A.size b385 ((q2).toInt8.toInt32).toInt8.toInt32 ((q3).toInt8.toInt32).toInt8.toInt32 V387 ge389) (w111 hw) (w112 hw) (w109 hw) (w113 hw) (by decide) pd___B_V rfl (W := 0) (by decide) (by decide) (Nat.le_of_eq rfl) (by decide) (by decide) rfl rfl at_164 rfl fun T h403 v404 A Q405 => ?_
    obtain ⟨rfl, K401, V402⟩ := Q405
    refine Wp.stk (st' := []) rfl ?_
    refine s_aload (pc' := 169) A at_167 rfl rfl rfl ?_
    have V406 := ((V390.keep K386 nin0).keep K401 (ninS ne395 nin0))
    refine s_static (pc' := 172) (y := y17_flip) (argsL := [(.ref b287)]) (rest := []) A (flip2 l Z a0 hw n0 h403 A.size b287 ((q2).toInt8.toInt32).toInt8.toInt32 ((q3).toInt8.toInt32).toInt8.toInt32 V406 ge289) (w111 hw) (w112 hw) (w109 hw) (w113 hw) (by decide) pd___B_V rfl (W := 0) (by decide) (by decide) (Nat.le_of_eq rfl) (by decide) (by decide) rfl rfl at_169 rfl fun T h409 v410 A Q411 => ?_
    obtain ⟨rfl, K407, V408⟩ := Q411
    refine Wp.stk (st' := []) rfl ?_
    refine s_aload (pc' := 174) A at_172 rfl rfl rfl ?_
    have F412 := (((F366.keep K386 nin0).keep K401 (ninS ne396 nin0)).keep K407 (ninS (Ne.symm ne309) nin0))
    have V413 := (((V370.keep K386 nin0).keep K401 (ninS ne397 nin0)).keep K407 (ninS (Ne.symm ne377) nin0))
    have E414 := (((E371.keep K386).keep K401).keep K407)
    have E420 := (((E391.keep K386).keep K401).keep K407)
    have V421 := (V402.keep K407 (ninS (Ne.symm ne395) nin0))
    refine s_virtual (pc' := 177) (y := y15_body) (argsL := []) (rest := []) (z := y15_body) A E420 (body3 l Z a0 hw n0 h409 A.size b303 cc369 ((q2).toInt8.toInt32).toInt8.toInt32 ((q3).toInt8.toInt32).toInt8.toInt32 F412 V413 E414 (fits_nar_byte _) (fits_nar_byte _)) (w102 hw) (w103 hw) (nf_same (C := "") (w105 hw)) (w105 hw) (w104 hw) (w3 hw) (w106 hw) (by decide) pd____B rfl (W := 0) (by decide) (by decide) (Nat.le_of_eq rfl) (by decide) (by decide) rfl rfl at_174 rfl fun T h422 v423 A Q424 => ?_
    obtain ⟨b415, rfl, K416, V417, g418, ge419⟩ := Q424
    have ne425 : b287 ≠ b415 := Nat.ne_of_lt (Nat.lt_of_lt_of_le V408.lt g418)
    have ne426 : b303 ≠ b415 := Nat.ne_of_lt (Nat.lt_of_lt_of_le E420.lt g418)
    have ne427 : cc369 ≠ b415 := Nat.ne_of_lt (Nat.lt_of_lt_of_le V413.lt g418)
    have ne428 : b385 ≠ b415 := Nat.ne_of_lt (Nat.lt_of_lt_of_le V421.lt g418)
    refine Wp.stk (st' := [(.ref b415)]) rfl ?_
    refine s_astore (pc' := 179) (Ls' := #[iv q0, iv q1, iv q2, iv q3, iv q4, iv 0, iv 2, rv b287, rv b303, rv b385, rv b415]) A at_177 rfl rfl rfl ?_
    refine s_aload (pc' := 181) A at_179 rfl rfl rfl ?_
    refine s_ifnullN (pc' := 184) A at_181 rfl ?_
    refine s_aload (pc' := 186) A at_184 rfl rfl rfl ?_
    refine s_aload (pc' := 188) A at_186 rfl rfl rfl ?_
    refine s_acmpN (pc' := 191) A at_188 rfl rfl rfl (by simp [XT.acmp, (Ne.symm ne428)]) ?_
    refine s_aload (pc' := 193) A at_191 rfl rfl rfl ?_
    refine s_aload (pc' := 195) A at_193 rfl rfl rfl ?_
    refine s_acmpY (pc' := 200) A at_195 rfl rfl (by simp [XT.acmp, (Ne.symm ne425)]) (by decide) (by decide) ?_
    refine s_aload (pc' := 202) A at_200 rfl rfl rfl ?_
    refine s_iload (pc' := 204) A at_202 rfl rfl ?_
    refine s_iloadN (pc' := 205) A at_204 rfl rfl ?_
    refine s_iloadN (pc' := 206) A at_205 rfl rfl ?_
    refine s_iload (pc' := 208) A at_206 rfl rfl ?_
    refine s_static (pc' := 211) (y := y16_holds) (argsL := [(.ref b415), (.int (2 : Int32)), (.int q2), (.int q3), (.int q4)]) (rest := []) A (holds2 l Z a0 hw n0 h422 A.size b415 ((q2).toInt8.toInt32).toInt8.toInt32 ((q3).toInt8.toInt32).toInt8.toInt32 q2 q3 q4 V417 (own_bb _) (own_bb _)) (w107 hw) (w108 hw) (w109 hw) (w110 hw) (by decide) pd___BIIII_Z rfl (W := 0) (by decide) (by decide) (Nat.le_of_eq rfl) (by decide) (by decide) rfl rfl at_208 rfl fun T h429 v430 A Q431 => ?_
    obtain ⟨rfl, eh⟩ := Q431
    rw [eh] at A
    refine Wp.stk (st' := [(.int (1 : Int32))]) rfl ?_
    have B432 := ((((B.keep K386).keep K401).keep K407).keep K416)
    exact rS_bool A B432 rfl (by decide) at_211 (by decide) (by decide) (fun vm hv => rfl)
   ·
    refine s_iand (pc' := 16) (z := (3 : Int32)) A at_15 rfl hkk.symm ?_
    refine s_istore (pc' := 18) (Ls' := #[iv q0, iv q1, iv q2, iv q3, iv q4, iv 0, iv 3, U0, U0, U0, U0]) A at_16 rfl rfl ?_
    refine s_iload (pc' := 20) A at_18 rfl rfl ?_
    refine s_newarrayE (pc' := 22) (aty := .byte) (ty := .byte) (dv := (.int (0 : Int32))) (i := 3) (cap := 3) (ad := "[B") A rfl (by decide) rfl (w0 hw) (by decide) (by decide) (by decide) (by decide) (by decide) at_20 rfl fun T h433 b434 A g435 ge436 X437 V438 E439 => ?_
    have bo440 : h0.size ≤ b434 := le_eq (Keep.refl h0 []).1 g435
    have V438 : AA Z h433 b434 .byte [.int (0 : Int32), .int (0 : Int32), .int (0 : Int32)] := V438
    refine s_astore (pc' := 24) (Ls' := #[iv q0, iv q1, iv q2, iv q3, iv q4, iv 0, iv 3, rv b434, U0, U0, U0]) A at_22 rfl rfl rfl ?_
    refine s_iload (pc' := 26) A at_24 rfl rfl ?_
    refine s_ifN (pc' := 29) A at_26 rfl (by decide) ?_
    refine s_aload (pc' := 31) A at_29 rfl rfl rfl ?_
    refine s_iconst (pc' := 32) (z := (0 : Int32)) A at_31 rfl (by decide) ?_
    refine s_iloadN (pc' := 33) A at_32 rfl rfl ?_
    refine s_i2b (pc' := 34) (z := (q2).toInt8.toInt32) A at_33 rfl rfl ?_
    refine s_bastore (pc' := 35) (i := 0) A V438 (by decide) (Nat.le_of_ble_eq_true rfl) ge436 at_34 rfl fun T h441 A W442 V443 => ?_
    have V443 : AA Z h441 b434 .byte [.int ((q2).toInt8.toInt32).toInt8.toInt32, .int (0 : Int32), .int (0 : Int32)] := V443
    refine s_iload (pc' := 37) A at_35 rfl rfl ?_
    refine s_iconst (pc' := 38) (z := (1 : Int32)) A at_37 rfl (by decide) ?_
    refine s_icmpN (pc' := 41) A at_38 rfl (by decide) ?_
    refine s_aload (pc' := 43) A at_41 rfl rfl rfl ?_
    refine s_iconst (pc' := 44) (z := (1 : Int32)) A at_43 rfl (by decide) ?_
    refine s_iloadN (pc' := 45) A at_44 rfl rfl ?_
    refine s_i2b (pc' := 46) (z := (q3).toInt8.toInt32) A at_45 rfl rfl ?_
    refine s_bastore (pc' := 47) (i := 1) A V443 (by decide) (Nat.le_of_ble_eq_true rfl) ge436 at_46 rfl fun T h444 A W445 V446 => ?_
    have V446 : AA Z h444 b434 .byte [.int ((q2).toInt8.toInt32).toInt8.toInt32, .int ((q3).toInt8.toInt32).toInt8.toInt32, .int (0 : Int32)] := V446
    refine s_iload (pc' := 49) A at_47 rfl rfl ?_
    refine s_iconst (pc' := 50) (z := (2 : Int32)) A at_49 rfl (by decide) ?_
    refine s_icmpN (pc' := 53) A at_50 rfl (by decide) ?_
    refine s_aload (pc' := 55) A at_53 rfl rfl rfl ?_
    refine s_iconst (pc' := 56) (z := (2 : Int32)) A at_55 rfl (by decide) ?_
    refine s_iload (pc' := 58) A at_56 rfl rfl ?_
    refine s_i2b (pc' := 59) (z := (q4).toInt8.toInt32) A at_58 rfl rfl ?_
    refine s_bastore (pc' := 60) (i := 2) A V446 (by decide) (Nat.le_of_ble_eq_true rfl) ge436 at_59 rfl fun T h447 A W448 V449 => ?_
    have V449 : AA Z h447 b434 .byte [.int ((q2).toInt8.toInt32).toInt8.toInt32, .int ((q3).toInt8.toInt32).toInt8.toInt32, .int ((q4).toInt8.toInt32).toInt8.toInt32] := V449
    refine s_iload (pc' := 62) A at_60 rfl rfl ?_
    refine s_ifY (pc' := 110) A at_62 (by decide) (by decide) (by decide) ?_
    have K450 := (((((Keep.refl h0 []).ext X437).wr W442 (Or.inr bo440)).wr W445 (Or.inr bo440)).wr W448 (Or.inr bo440))
    have H451 := (H.keep K450 (fun _ q => (List.not_mem_nil q).elim))
    refine s_new (pc' := 113) A (w1 hw) (w2 hw) (w3 hw) (by decide) (by decide) at_110 rfl fun T h452 b453 A g454 ge455 X456 E457 D458 => ?_
    have ne459 : b434 ≠ b453 := lt_ne V449.lt g454
    have bo460 : h0.size ≤ b453 := le_eq K450.1 g454
    have F461 : Fld Z h452 b453 "com/example/tailorbird/tailorbird/FormRequest" "method" "Ljava/lang/String;" .null := D458 (Or.inr (w83 hw)) (ty := (.object "java/lang/String")) (by decide)
    have F462 : Fld Z h452 b453 "com/example/tailorbird/tailorbird/FormRequest" "urlText" "Ljava/lang/CharSequence;" .null := D458 (Or.inr (w96 hw)) (ty := (.object "java/lang/CharSequence")) (by decide)
    have F463 : Fld Z h452 b453 "com/example/tailorbird/tailorbird/FormRequest" "contentType" "Ljava/lang/String;" .null := D458 (Or.inr (w99 hw)) (ty := (.object "java/lang/String")) (by decide)
    have F464 : Fld Z h452 b453 "com/example/tailorbird/tailorbird/FormRequest" "body" "[B" .null := D458 (Or.inr (w101 hw)) (ty := (.array .byte)) (by decide)
    have H465 := LK.born H451 X456 (Nat.le_of_eq g454) E457.lt
    refine s_dup (pc' := 114) A at_113 rfl rfl ?_
    have B466 := (((((B.ext X437).wr W442).wr W445).wr W448).ext X456)
    refine s_ldcS (pc' := 116) (i := 20) (nn := 16) A B466 H465 (List.mem_of_getElem? (i := 0) rfl) (satoms hw) tx1 tx1n (by decide) (by decide) (by decide) at_114 rfl fun sv467 T h468 a469 b470 A B H X471 E472 F473 F474 V475 na476 nb477 => ?_
    refine s_ldcS (pc' := 118) (i := 11) (nn := 40) A B H (List.mem_of_getElem? (i := 1) rfl) (satoms hw) tx3 tx3n (by decide) (by decide) (by decide) at_116 rfl fun sv478 T h479 a480 b481 A B H X482 E483 F484 F485 V486 na487 nb488 => ?_
    refine s_ldcS (pc' := 120) (i := 22) (nn := 40) A B H (List.mem_of_getElem? (i := 2) rfl) (satoms hw) tx5 tx5n (by decide) (by decide) (by decide) at_118 rfl fun sv489 T h490 a491 b492 A B H X493 E494 F495 F496 V497 na498 nb499 => ?_
    refine s_aload (pc' := 122) A at_120 rfl rfl rfl ?_
    have S500 := ((((((((S_COMPACT_STRINGS.ext X437).wr W442).wr W445).wr W448).ext X456).ext X471).ext X482).ext X493)
    have S501 := ((((((((S_SIOOBE_FORMATTER.ext X437).wr W442).wr W445).wr W448).ext X456).ext X471).ext X482).ext X493)
    have E502 := ((E472.ext X482).ext X493)
    have F503 := ((F473.ext X482).ext X493)
    have F504 := ((F474.ext X482).ext X493)
    have V505 := ((V475.ext X482).ext X493)
    have E506 := (E483.ext X493)
    have F507 := (F484.ext X493)
    have F508 := (F485.ext X493)
    have V509 := (V486.ext X493)
    have E510 := (((E457.ext X471).ext X482).ext X493)
    have F511 := (((F461.ext X471).ext X482).ext X493)
    have F512 := (((F462.ext X471).ext X482).ext X493)
    have F513 := (((F463.ext X471).ext X482).ext X493)
    have F514 := (((F464.ext X471).ext X482).ext X493)
    have V517 := ((((V449.ext X456).ext X471).ext X482).ext X493)
    have E518 := (((((((E439.wr W442).wr W445).wr W448).ext X456).ext X471).ext X482).ext X493)
    refine s_specialS (pc' := 125) (y := y14_init) (argsL := [(.ref a469), (.ref a480), (.ref a491), (.ref b434)]) (rest := [(.ref b453)]) A B H (ctor1B3 l Z a0 hw n0 h490 A.size b453 a469 b470 a480 b481 a491 b492 b434 cz fv ((q2).toInt8.toInt32).toInt8.toInt32 ((q3).toInt8.toInt32).toInt8.toInt32 ((q4).toInt8.toInt32).toInt8.toInt32 E510 F511 F512 F513 F514 ge455 S500 ncz hfv S501 E502 F503 F504 V505 E506 F507 F508 V509 E494 F495 F496 V497 V517 E518 (fits_nar_byte _) (fits_nar_byte _) (fits_nar_byte _)) rfl (w13 hw) (w14 hw) (w3 hw) (w15 hw) (by decide) pd__Ljava_lang_String_Ljava_lang_String_Ljava_lang_String__B_V rfl (W := 1) (by decide) (by decide) (Nat.le_of_eq rfl) (by decide) (by decide) rfl rfl at_122 rfl fun sv526 T h523 v524 A B Q525 => ?_
    obtain ⟨rfl, K515, cc519, F516, V520, E521, g522⟩ := Q525
    have ne527 : b434 ≠ cc519 := Nat.ne_of_lt (Nat.lt_of_lt_of_le V517.lt g522)
    have ne528 : b453 ≠ cc519 := Nat.ne_of_lt (Nat.lt_of_lt_of_le E510.lt g522)
    have ne529 : a469 ≠ cc519 := Nat.ne_of_lt (Nat.lt_of_lt_of_le E502.lt g522)
    have ne530 : b470 ≠ cc519 := Nat.ne_of_lt (Nat.lt_of_lt_of_le V505.lt g522)
    have ne531 : a480 ≠ cc519 := Nat.ne_of_lt (Nat.lt_of_lt_of_le E506.lt g522)
    have ne532 : b481 ≠ cc519 := Nat.ne_of_lt (Nat.lt_of_lt_of_le V509.lt g522)
    have ne533 : a491 ≠ cc519 := Nat.ne_of_lt (Nat.lt_of_lt_of_le E494.lt g522)
    have ne534 : b492 ≠ cc519 := Nat.ne_of_lt (Nat.lt_of_lt_of_le V497.lt g522)
    refine Wp.stk (st' := [(.ref b453)]) rfl ?_
    refine s_astore (pc' := 127) (Ls' := #[iv q0, iv q1, iv q2, iv q3, iv q4, iv 0, iv 3, rv b434, rv b453, U0, U0]) A at_125 rfl rfl rfl ?_
    refine s_aload (pc' := 129) A at_127 rfl rfl rfl ?_
    have V540 := (V517.keep K515 (ninS ne459 nin0))
    have E541 := (E510.keep K515)
    refine s_virtual (pc' := 132) (y := y15_body) (argsL := []) (rest := []) (z := y15_body) A E541 (body4 l Z a0 hw n0 h523 A.size b453 cc519 ((q2).toInt8.toInt32).toInt8.toInt32 ((q3).toInt8.toInt32).toInt8.toInt32 ((q4).toInt8.toInt32).toInt8.toInt32 F516 V520 E521 (fits_nar_byte _) (fits_nar_byte _) (fits_nar_byte _)) (w102 hw) (w103 hw) (nf_same (C := "") (w105 hw)) (w105 hw) (w104 hw) (w3 hw) (w106 hw) (by decide) pd____B rfl (W := 0) (by decide) (by decide) (Nat.le_of_eq rfl) (by decide) (by decide) rfl rfl at_129 rfl fun T h542 v543 A Q544 => ?_
    obtain ⟨b535, rfl, K536, V537, g538, ge539⟩ := Q544
    have ne545 : b434 ≠ b535 := Nat.ne_of_lt (Nat.lt_of_lt_of_le V540.lt g538)
    have ne546 : b453 ≠ b535 := Nat.ne_of_lt (Nat.lt_of_lt_of_le E541.lt g538)
    have ne547 : cc519 ≠ b535 := Nat.ne_of_lt (Nat.lt_of_lt_of_le V520.lt g538)
    refine Wp.stk (st' := [(.ref b535)]) rfl ?_
    refine s_astore (pc' := 134) (Ls' := #[iv q0, iv q1, iv q2, iv q3, iv q4, iv 0, iv 3, rv b434, rv b453, rv b535, U0]) A at_132 rfl rfl rfl ?_
    refine s_aload (pc' := 136) A at_134 rfl rfl rfl ?_
    refine s_ifnullN (pc' := 139) A at_136 rfl ?_
    refine s_aload (pc' := 141) A at_139 rfl rfl rfl ?_
    refine s_aload (pc' := 143) A at_141 rfl rfl rfl ?_
    refine s_acmpN (pc' := 146) A at_143 rfl rfl rfl (by simp [XT.acmp, (Ne.symm ne545)]) ?_
    refine s_aload (pc' := 148) A at_146 rfl rfl rfl ?_
    refine s_iload (pc' := 150) A at_148 rfl rfl ?_
    refine s_iloadN (pc' := 151) A at_150 rfl rfl ?_
    refine s_iloadN (pc' := 152) A at_151 rfl rfl ?_
    refine s_iload (pc' := 154) A at_152 rfl rfl ?_
    refine s_static (pc' := 157) (y := y16_holds) (argsL := [(.ref b535), (.int (3 : Int32)), (.int q2), (.int q3), (.int q4)]) (rest := []) A (holds3 l Z a0 hw n0 h542 A.size b535 ((q2).toInt8.toInt32).toInt8.toInt32 ((q3).toInt8.toInt32).toInt8.toInt32 ((q4).toInt8.toInt32).toInt8.toInt32 q2 q3 q4 V537 (own_bb _) (own_bb _) (own_bb _)) (w107 hw) (w108 hw) (w109 hw) (w110 hw) (by decide) pd___BIIII_Z rfl (W := 0) (by decide) (by decide) (Nat.le_of_eq rfl) (by decide) (by decide) rfl rfl at_154 rfl fun T h548 v549 A Q550 => ?_
    obtain ⟨rfl, eh⟩ := Q550
    rw [eh] at A
    refine Wp.stk (st' := [(.int (1 : Int32))]) rfl ?_
    refine s_ifY (pc' := 162) A at_157 (by decide) (by decide) (by decide) ?_
    refine s_aload (pc' := 164) A at_162 rfl rfl rfl ?_
    refine s_static (pc' := 167) (y := y17_flip) (argsL := [(.ref b535)]) (rest := []) A (flip3 l Z a0 hw n0 h542 A.size b535 ((q2).toInt8.toInt32).toInt8.toInt32 ((q3).toInt8.toInt32).toInt8.toInt32 ((q4).toInt8.toInt32).toInt8.toInt32 V537 ge539) (w111 hw) (w112 hw) (w109 hw) (w113 hw) (by decide) pd___B_V rfl (W := 0) (by decide) (by decide) (Nat.le_of_eq rfl) (by decide) (by decide) rfl rfl at_164 rfl fun T h553 v554 A Q555 => ?_
    obtain ⟨rfl, K551, V552⟩ := Q555
    refine Wp.stk (st' := []) rfl ?_
    refine s_aload (pc' := 169) A at_167 rfl rfl rfl ?_
    have V556 := ((V540.keep K536 nin0).keep K551 (ninS ne545 nin0))
    refine s_static (pc' := 172) (y := y17_flip) (argsL := [(.ref b434)]) (rest := []) A (flip3 l Z a0 hw n0 h553 A.size b434 ((q2).toInt8.toInt32).toInt8.toInt32 ((q3).toInt8.toInt32).toInt8.toInt32 ((q4).toInt8.toInt32).toInt8.toInt32 V556 ge436) (w111 hw) (w112 hw) (w109 hw) (w113 hw) (by decide) pd___B_V rfl (W := 0) (by decide) (by decide) (Nat.le_of_eq rfl) (by decide) (by decide) rfl rfl at_169 rfl fun T h559 v560 A Q561 => ?_
    obtain ⟨rfl, K557, V558⟩ := Q561
    refine Wp.stk (st' := []) rfl ?_
    refine s_aload (pc' := 174) A at_172 rfl rfl rfl ?_
    have F562 := (((F516.keep K536 nin0).keep K551 (ninS ne546 nin0)).keep K557 (ninS (Ne.symm ne459) nin0))
    have V563 := (((V520.keep K536 nin0).keep K551 (ninS ne547 nin0)).keep K557 (ninS (Ne.symm ne527) nin0))
    have E564 := (((E521.keep K536).keep K551).keep K557)
    have E570 := (((E541.keep K536).keep K551).keep K557)
    have V571 := (V552.keep K557 (ninS (Ne.symm ne545) nin0))
    refine s_virtual (pc' := 177) (y := y15_body) (argsL := []) (rest := []) (z := y15_body) A E570 (body4 l Z a0 hw n0 h559 A.size b453 cc519 ((q2).toInt8.toInt32).toInt8.toInt32 ((q3).toInt8.toInt32).toInt8.toInt32 ((q4).toInt8.toInt32).toInt8.toInt32 F562 V563 E564 (fits_nar_byte _) (fits_nar_byte _) (fits_nar_byte _)) (w102 hw) (w103 hw) (nf_same (C := "") (w105 hw)) (w105 hw) (w104 hw) (w3 hw) (w106 hw) (by decide) pd____B rfl (W := 0) (by decide) (by decide) (Nat.le_of_eq rfl) (by decide) (by decide) rfl rfl at_174 rfl fun T h572 v573 A Q574 => ?_
    obtain ⟨b565, rfl, K566, V567, g568, ge569⟩ := Q574
    have ne575 : b434 ≠ b565 := Nat.ne_of_lt (Nat.lt_of_lt_of_le V558.lt g568)
    have ne576 : b453 ≠ b565 := Nat.ne_of_lt (Nat.lt_of_lt_of_le E570.lt g568)
    have ne577 : cc519 ≠ b565 := Nat.ne_of_lt (Nat.lt_of_lt_of_le V563.lt g568)
    have ne578 : b535 ≠ b565 := Nat.ne_of_lt (Nat.lt_of_lt_of_le V571.lt g568)
    refine Wp.stk (st' := [(.ref b565)]) rfl ?_
    refine s_astore (pc' := 179) (Ls' := #[iv q0, iv q1, iv q2, iv q3, iv q4, iv 0, iv 3, rv b434, rv b453, rv b535, rv b565]) A at_177 rfl rfl rfl ?_
    refine s_aload (pc' := 181) A at_179 rfl rfl rfl ?_
    refine s_ifnullN (pc' := 184) A at_181 rfl ?_
    refine s_aload (pc' := 186) A at_184 rfl rfl rfl ?_
    refine s_aload (pc' := 188) A at_186 rfl rfl rfl ?_
    refine s_acmpN (pc' := 191) A at_188 rfl rfl rfl (by simp [XT.acmp, (Ne.symm ne578)]) ?_
    refine s_aload (pc' := 193) A at_191 rfl rfl rfl ?_
    refine s_aload (pc' := 195) A at_193 rfl rfl rfl ?_
    refine s_acmpY (pc' := 200) A at_195 rfl rfl (by simp [XT.acmp, (Ne.symm ne575)]) (by decide) (by decide) ?_
    refine s_aload (pc' := 202) A at_200 rfl rfl rfl ?_
    refine s_iload (pc' := 204) A at_202 rfl rfl ?_
    refine s_iloadN (pc' := 205) A at_204 rfl rfl ?_
    refine s_iloadN (pc' := 206) A at_205 rfl rfl ?_
    refine s_iload (pc' := 208) A at_206 rfl rfl ?_
    refine s_static (pc' := 211) (y := y16_holds) (argsL := [(.ref b565), (.int (3 : Int32)), (.int q2), (.int q3), (.int q4)]) (rest := []) A (holds3 l Z a0 hw n0 h572 A.size b565 ((q2).toInt8.toInt32).toInt8.toInt32 ((q3).toInt8.toInt32).toInt8.toInt32 ((q4).toInt8.toInt32).toInt8.toInt32 q2 q3 q4 V567 (own_bb _) (own_bb _) (own_bb _)) (w107 hw) (w108 hw) (w109 hw) (w110 hw) (by decide) pd___BIIII_Z rfl (W := 0) (by decide) (by decide) (Nat.le_of_eq rfl) (by decide) (by decide) rfl rfl at_208 rfl fun T h579 v580 A Q581 => ?_
    obtain ⟨rfl, eh⟩ := Q581
    rw [eh] at A
    refine Wp.stk (st' := [(.int (1 : Int32))]) rfl ?_
    have B582 := ((((B.keep K536).keep K551).keep K557).keep K566)
    exact rS_bool A B582 rfl (by decide) at_211 (by decide) (by decide) (fun vm hv => rfl)
  ·
   refine s_ifN (pc' := 6) A at_3 rfl ((if0 _ _).trans (feq hc3_1).1) ?_
   refine s_iconst (pc' := 7) (z := (1 : Int32)) A at_6 rfl (by decide) ?_
   refine s_goto (pc' := 11) A at_7 (by decide) (by decide) ?_
   refine s_istore (pc' := 13) (Ls' := #[iv q0, iv q1, iv q2, iv q3, iv q4, iv 1, U0, U0, U0, U0, U0]) A at_11 rfl rfl ?_
   refine s_iloadN (pc' := 14) A at_13 rfl rfl ?_
   refine s_iconst (pc' := 15) (z := (3 : Int32)) A at_14 rfl (by decide) ?_
   obtain ⟨kk, hkk⟩ : ∃ z, z = (q1 &&& (3 : Int32)) := ⟨_, rfl⟩
   have ck := own_m4 q1
   rw [← hkk] at ck
   rcases ck with rfl | rfl | rfl | rfl
   ·
    refine s_iand (pc' := 16) (z := (0 : Int32)) A at_15 rfl hkk.symm ?_
    refine s_istore (pc' := 18) (Ls' := #[iv q0, iv q1, iv q2, iv q3, iv q4, iv 1, iv 0, U0, U0, U0, U0]) A at_16 rfl rfl ?_
    refine s_iload (pc' := 20) A at_18 rfl rfl ?_
    refine s_newarrayE (pc' := 22) (aty := .byte) (ty := .byte) (dv := (.int (0 : Int32))) (i := 0) (cap := 0) (ad := "[B") A rfl (by decide) rfl (w0 hw) (by decide) (by decide) (by decide) (by decide) (by decide) at_20 rfl fun T h583 b584 A g585 ge586 X587 V588 E589 => ?_
    have bo590 : h0.size ≤ b584 := le_eq (Keep.refl h0 []).1 g585
    have V588 : AA Z h583 b584 .byte [] := V588
    refine s_astore (pc' := 24) (Ls' := #[iv q0, iv q1, iv q2, iv q3, iv q4, iv 1, iv 0, rv b584, U0, U0, U0]) A at_22 rfl rfl rfl ?_
    refine s_iload (pc' := 26) A at_24 rfl rfl ?_
    refine s_ifY (pc' := 35) A at_26 (by decide) (by decide) (by decide) ?_
    refine s_iload (pc' := 37) A at_35 rfl rfl ?_
    refine s_iconst (pc' := 38) (z := (1 : Int32)) A at_37 rfl (by decide) ?_
    refine s_icmpY (pc' := 47) A at_38 (by decide) (by decide) (by decide) ?_
    refine s_iload (pc' := 49) A at_47 rfl rfl ?_
    refine s_iconst (pc' := 50) (z := (2 : Int32)) A at_49 rfl (by decide) ?_
    refine s_icmpY (pc' := 60) A at_50 (by decide) (by decide) (by decide) ?_
    refine s_iload (pc' := 62) A at_60 rfl rfl ?_
    refine s_ifN (pc' := 65) A at_62 rfl (by decide) ?_
    have K591 := ((Keep.refl h0 []).ext X587)
    have H592 := (H.keep K591 (fun _ q => (List.not_mem_nil q).elim))
    refine s_new (pc' := 68) A (w1 hw) (w2 hw) (w3 hw) (by decide) (by decide) at_65 rfl fun T h593 b594 A g595 ge596 X597 E598 D599 => ?_
    have ne600 : b584 ≠ b594 := lt_ne V588.lt g595
    have bo601 : h0.size ≤ b594 := le_eq K591.1 g595
    have F602 : Fld Z h593 b594 "com/example/tailorbird/tailorbird/FormRequest" "method" "Ljava/lang/String;" .null := D599 (Or.inr (w83 hw)) (ty := (.object "java/lang/String")) (by decide)
    have F603 : Fld Z h593 b594 "com/example/tailorbird/tailorbird/FormRequest" "urlText" "Ljava/lang/CharSequence;" .null := D599 (Or.inr (w96 hw)) (ty := (.object "java/lang/CharSequence")) (by decide)
    have F604 : Fld Z h593 b594 "com/example/tailorbird/tailorbird/FormRequest" "contentType" "Ljava/lang/String;" .null := D599 (Or.inr (w99 hw)) (ty := (.object "java/lang/String")) (by decide)
    have F605 : Fld Z h593 b594 "com/example/tailorbird/tailorbird/FormRequest" "body" "[B" .null := D599 (Or.inr (w101 hw)) (ty := (.array .byte)) (by decide)
    have H606 := LK.born H592 X597 (Nat.le_of_eq g595) E598.lt
    refine s_dup (pc' := 69) A at_68 rfl rfl ?_
    have B607 := ((B.ext X587).ext X597)
    refine s_ldcS (pc' := 71) (i := 9) (nn := 12) A B607 H606 (List.mem_of_getElem? (i := 6) rfl) (satoms hw) tx0 tx0n (by decide) (by decide) (by decide) at_69 rfl fun sv608 T h609 a610 b611 A B H X612 E613 F614 F615 V616 na617 nb618 => ?_
    refine s_ldcS (pc' := 73) (i := 11) (nn := 40) A B H (List.mem_of_getElem? (i := 1) rfl) (satoms hw) tx3 tx3n (by decide) (by decide) (by decide) at_71 rfl fun sv619 T h620 a621 b622 A B H X623 E624 F625 F626 V627 na628 nb629 => ?_
    refine s_aconstNull (pc' := 74) A at_73 rfl ?_
    refine s_aconstNull (pc' := 75) A at_74 rfl ?_
    have S630 := ((((S_COMPACT_STRINGS.ext X587).ext X597).ext X612).ext X623)
    have S631 := ((((S_SIOOBE_FORMATTER.ext X587).ext X597).ext X612).ext X623)
    have E632 := (E613.ext X623)
    have F633 := (F614.ext X623)
    have F634 := (F615.ext X623)
    have V635 := (V616.ext X623)
    have E636 := ((E598.ext X612).ext X623)
    have F637 := ((F602.ext X612).ext X623)
    have F638 := ((F603.ext X612).ext X623)
    have F639 := ((F604.ext X612).ext X623)
    have F640 := ((F605.ext X612).ext X623)
    refine s_specialS (pc' := 78) (y := y14_init) (argsL := [(.ref a610), (.ref a621), .null, .null]) (rest := [(.ref b594)]) A B H (ctor1A l Z a0 hw n0 h620 A.size b594 a610 b611 a621 b622 cz fv E636 F637 F638 F639 F640 ge596 S630 ncz hfv S631 E632 F633 F634 V635 E624 F625 F626 V627) rfl (w13 hw) (w14 hw) (w3 hw) (w15 hw) (by decide) pd__Ljava_lang_String_Ljava_lang_String_Ljava_lang_String__B_V rfl (W := 1) (by decide) (by decide) (Nat.le_of_eq rfl) (by decide) (by decide) rfl rfl at_75 rfl fun sv646 T h643 v644 A B Q645 => ?_
    obtain ⟨rfl, K641, F642⟩ := Q645
    refine Wp.stk (st' := [(.ref b594)]) rfl ?_
    refine s_astore (pc' := 80) (Ls' := #[iv q0, iv q1, iv q2, iv q3, iv q4, iv 1, iv 0, rv b584, rv b594, U0, U0]) A at_78 rfl rfl rfl ?_
    refine s_aload (pc' := 82) A at_80 rfl rfl rfl ?_
    have E650 := (E636.keep K641)
    refine s_virtual (pc' := 85) (y := y15_body) (argsL := []) (rest := []) (z := y15_body) A E650 (body0 l Z a0 hw n0 h643 A.size b594 F642) (w102 hw) (w103 hw) (nf_same (C := "") (w105 hw)) (w105 hw) (w104 hw) (w3 hw) (w106 hw) (by decide) pd____B rfl (W := 0) (by decide) (by decide) (Nat.le_of_eq rfl) (by decide) (by decide) rfl rfl at_82 rfl fun T h647 v648 A Q649 => ?_
    obtain ⟨rfl, eh⟩ := Q649
    rw [eh] at A
    refine Wp.stk (st' := [.null]) rfl ?_
    refine s_astore (pc' := 87) (Ls' := #[iv q0, iv q1, iv q2, iv q3, iv q4, iv 1, iv 0, rv b584, rv b594, .val .null, U0]) A at_85 rfl rfl rfl ?_
    refine s_aload (pc' := 89) A at_87 rfl rfl rfl ?_
    refine s_virtual (pc' := 92) (y := y15_body) (argsL := []) (rest := []) (z := y15_body) A E650 (body0 l Z a0 hw n0 h643 A.size b594 F642) (w102 hw) (w103 hw) (nf_same (C := "") (w105 hw)) (w105 hw) (w104 hw) (w3 hw) (w106 hw) (by decide) pd____B rfl (W := 0) (by decide) (by decide) (Nat.le_of_eq rfl) (by decide) (by decide) rfl rfl at_89 rfl fun T h651 v652 A Q653 => ?_
    obtain ⟨rfl, eh⟩ := Q653
    rw [eh] at A
    refine Wp.stk (st' := [.null]) rfl ?_
    refine s_astore (pc' := 94) (Ls' := #[iv q0, iv q1, iv q2, iv q3, iv q4, iv 1, iv 0, rv b584, rv b594, .val .null, .val .null]) A at_92 rfl rfl rfl ?_
    refine s_aload (pc' := 96) A at_94 rfl rfl rfl ?_
    refine s_ifnonnullN (pc' := 99) A at_96 rfl ?_
    refine s_aload (pc' := 101) A at_99 rfl rfl rfl ?_
    refine s_ifnonnullN (pc' := 104) A at_101 rfl ?_
    refine s_iconst (pc' := 105) (z := (1 : Int32)) A at_104 rfl (by decide) ?_
    refine s_goto (pc' := 109) A at_105 (by decide) (by decide) ?_
    exact rS_bool A B rfl (by decide) at_109 (by decide) (by decide) (fun vm hv => rfl)
   ·
    refine s_iand (pc' := 16) (z := (1 : Int32)) A at_15 rfl hkk.symm ?_
    refine s_istore (pc' := 18) (Ls' := #[iv q0, iv q1, iv q2, iv q3, iv q4, iv 1, iv 1, U0, U0, U0, U0]) A at_16 rfl rfl ?_
    refine s_iload (pc' := 20) A at_18 rfl rfl ?_
    refine s_newarrayE (pc' := 22) (aty := .byte) (ty := .byte) (dv := (.int (0 : Int32))) (i := 1) (cap := 1) (ad := "[B") A rfl (by decide) rfl (w0 hw) (by decide) (by decide) (by decide) (by decide) (by decide) at_20 rfl fun T h654 b655 A g656 ge657 X658 V659 E660 => ?_
    have bo661 : h0.size ≤ b655 := le_eq (Keep.refl h0 []).1 g656
    have V659 : AA Z h654 b655 .byte [.int (0 : Int32)] := V659
    refine s_astore (pc' := 24) (Ls' := #[iv q0, iv q1, iv q2, iv q3, iv q4, iv 1, iv 1, rv b655, U0, U0, U0]) A at_22 rfl rfl rfl ?_
    refine s_iload (pc' := 26) A at_24 rfl rfl ?_
    refine s_ifN (pc' := 29) A at_26 rfl (by decide) ?_
    refine s_aload (pc' := 31) A at_29 rfl rfl rfl ?_
    refine s_iconst (pc' := 32) (z := (0 : Int32)) A at_31 rfl (by decide) ?_
    refine s_iloadN (pc' := 33) A at_32 rfl rfl ?_
    refine s_i2b (pc' := 34) (z := (q2).toInt8.toInt32) A at_33 rfl rfl ?_
    refine s_bastore (pc' := 35) (i := 0) A V659 (by decide) (Nat.le_of_ble_eq_true rfl) ge657 at_34 rfl fun T h662 A W663 V664 => ?_
    have V664 : AA Z h662 b655 .byte [.int ((q2).toInt8.toInt32).toInt8.toInt32] := V664
    refine s_iload (pc' := 37) A at_35 rfl rfl ?_
    refine s_iconst (pc' := 38) (z := (1 : Int32)) A at_37 rfl (by decide) ?_
    refine s_icmpY (pc' := 47) A at_38 (by decide) (by decide) (by decide) ?_
    refine s_iload (pc' := 49) A at_47 rfl rfl ?_
    refine s_iconst (pc' := 50) (z := (2 : Int32)) A at_49 rfl (by decide) ?_
    refine s_icmpY (pc' := 60) A at_50 (by decide) (by decide) (by decide) ?_
    refine s_iload (pc' := 62) A at_60 rfl rfl ?_
    refine s_ifN (pc' := 65) A at_62 rfl (by decide) ?_
    have K665 := (((Keep.refl h0 []).ext X658).wr W663 (Or.inr bo661))
    have H666 := (H.keep K665 (fun _ q => (List.not_mem_nil q).elim))
    refine s_new (pc' := 68) A (w1 hw) (w2 hw) (w3 hw) (by decide) (by decide) at_65 rfl fun T h667 b668 A g669 ge670 X671 E672 D673 => ?_
    have ne674 : b655 ≠ b668 := lt_ne V664.lt g669
    have bo675 : h0.size ≤ b668 := le_eq K665.1 g669
    have F676 : Fld Z h667 b668 "com/example/tailorbird/tailorbird/FormRequest" "method" "Ljava/lang/String;" .null := D673 (Or.inr (w83 hw)) (ty := (.object "java/lang/String")) (by decide)
    have F677 : Fld Z h667 b668 "com/example/tailorbird/tailorbird/FormRequest" "urlText" "Ljava/lang/CharSequence;" .null := D673 (Or.inr (w96 hw)) (ty := (.object "java/lang/CharSequence")) (by decide)
    have F678 : Fld Z h667 b668 "com/example/tailorbird/tailorbird/FormRequest" "contentType" "Ljava/lang/String;" .null := D673 (Or.inr (w99 hw)) (ty := (.object "java/lang/String")) (by decide)
    have F679 : Fld Z h667 b668 "com/example/tailorbird/tailorbird/FormRequest" "body" "[B" .null := D673 (Or.inr (w101 hw)) (ty := (.array .byte)) (by decide)
    have H680 := LK.born H666 X671 (Nat.le_of_eq g669) E672.lt
    refine s_dup (pc' := 69) A at_68 rfl rfl ?_
    have B681 := (((B.ext X658).wr W663).ext X671)
    refine s_ldcS (pc' := 71) (i := 9) (nn := 12) A B681 H680 (List.mem_of_getElem? (i := 6) rfl) (satoms hw) tx0 tx0n (by decide) (by decide) (by decide) at_69 rfl fun sv682 T h683 a684 b685 A B H X686 E687 F688 F689 V690 na691 nb692 => ?_
    refine s_ldcS (pc' := 73) (i := 11) (nn := 40) A B H (List.mem_of_getElem? (i := 1) rfl) (satoms hw) tx3 tx3n (by decide) (by decide) (by decide) at_71 rfl fun sv693 T h694 a695 b696 A B H X697 E698 F699 F700 V701 na702 nb703 => ?_
    refine s_aconstNull (pc' := 74) A at_73 rfl ?_
    refine s_aconstNull (pc' := 75) A at_74 rfl ?_
    have S704 := (((((S_COMPACT_STRINGS.ext X658).wr W663).ext X671).ext X686).ext X697)
    have S705 := (((((S_SIOOBE_FORMATTER.ext X658).wr W663).ext X671).ext X686).ext X697)
    have E706 := (E687.ext X697)
    have F707 := (F688.ext X697)
    have F708 := (F689.ext X697)
    have V709 := (V690.ext X697)
    have E710 := ((E672.ext X686).ext X697)
    have F711 := ((F676.ext X686).ext X697)
    have F712 := ((F677.ext X686).ext X697)
    have F713 := ((F678.ext X686).ext X697)
    have F714 := ((F679.ext X686).ext X697)
    refine s_specialS (pc' := 78) (y := y14_init) (argsL := [(.ref a684), (.ref a695), .null, .null]) (rest := [(.ref b668)]) A B H (ctor1A l Z a0 hw n0 h694 A.size b668 a684 b685 a695 b696 cz fv E710 F711 F712 F713 F714 ge670 S704 ncz hfv S705 E706 F707 F708 V709 E698 F699 F700 V701) rfl (w13 hw) (w14 hw) (w3 hw) (w15 hw) (by decide) pd__Ljava_lang_String_Ljava_lang_String_Ljava_lang_String__B_V rfl (W := 1) (by decide) (by decide) (Nat.le_of_eq rfl) (by decide) (by decide) rfl rfl at_75 rfl fun sv720 T h717 v718 A B Q719 => ?_
    obtain ⟨rfl, K715, F716⟩ := Q719
    refine Wp.stk (st' := [(.ref b668)]) rfl ?_
    refine s_astore (pc' := 80) (Ls' := #[iv q0, iv q1, iv q2, iv q3, iv q4, iv 1, iv 1, rv b655, rv b668, U0, U0]) A at_78 rfl rfl rfl ?_
    refine s_aload (pc' := 82) A at_80 rfl rfl rfl ?_
    have E724 := (E710.keep K715)
    refine s_virtual (pc' := 85) (y := y15_body) (argsL := []) (rest := []) (z := y15_body) A E724 (body0 l Z a0 hw n0 h717 A.size b668 F716) (w102 hw) (w103 hw) (nf_same (C := "") (w105 hw)) (w105 hw) (w104 hw) (w3 hw) (w106 hw) (by decide) pd____B rfl (W := 0) (by decide) (by decide) (Nat.le_of_eq rfl) (by decide) (by decide) rfl rfl at_82 rfl fun T h721 v722 A Q723 => ?_
    obtain ⟨rfl, eh⟩ := Q723
    rw [eh] at A
    refine Wp.stk (st' := [.null]) rfl ?_
    refine s_astore (pc' := 87) (Ls' := #[iv q0, iv q1, iv q2, iv q3, iv q4, iv 1, iv 1, rv b655, rv b668, .val .null, U0]) A at_85 rfl rfl rfl ?_
    refine s_aload (pc' := 89) A at_87 rfl rfl rfl ?_
    refine s_virtual (pc' := 92) (y := y15_body) (argsL := []) (rest := []) (z := y15_body) A E724 (body0 l Z a0 hw n0 h717 A.size b668 F716) (w102 hw) (w103 hw) (nf_same (C := "") (w105 hw)) (w105 hw) (w104 hw) (w3 hw) (w106 hw) (by decide) pd____B rfl (W := 0) (by decide) (by decide) (Nat.le_of_eq rfl) (by decide) (by decide) rfl rfl at_89 rfl fun T h725 v726 A Q727 => ?_
    obtain ⟨rfl, eh⟩ := Q727
    rw [eh] at A
    refine Wp.stk (st' := [.null]) rfl ?_
    refine s_astore (pc' := 94) (Ls' := #[iv q0, iv q1, iv q2, iv q3, iv q4, iv 1, iv 1, rv b655, rv b668, .val .null, .val .null]) A at_92 rfl rfl rfl ?_
    refine s_aload (pc' := 96) A at_94 rfl rfl rfl ?_
    refine s_ifnonnullN (pc' := 99) A at_96 rfl ?_
    refine s_aload (pc' := 101) A at_99 rfl rfl rfl ?_
    refine s_ifnonnullN (pc' := 104) A at_101 rfl ?_
    refine s_iconst (pc' := 105) (z := (1 : Int32)) A at_104 rfl (by decide) ?_
    refine s_goto (pc' := 109) A at_105 (by decide) (by decide) ?_
    exact rS_bool A B rfl (by decide) at_109 (by decide) (by decide) (fun vm hv => rfl)
   ·
    refine s_iand (pc' := 16) (z := (2 : Int32)) A at_15 rfl hkk.symm ?_
    refine s_istore (pc' := 18) (Ls' := #[iv q0, iv q1, iv q2, iv q3, iv q4, iv 1, iv 2, U0, U0, U0, U0]) A at_16 rfl rfl ?_
    refine s_iload (pc' := 20) A at_18 rfl rfl ?_
    refine s_newarrayE (pc' := 22) (aty := .byte) (ty := .byte) (dv := (.int (0 : Int32))) (i := 2) (cap := 2) (ad := "[B") A rfl (by decide) rfl (w0 hw) (by decide) (by decide) (by decide) (by decide) (by decide) at_20 rfl fun T h728 b729 A g730 ge731 X732 V733 E734 => ?_
    have bo735 : h0.size ≤ b729 := le_eq (Keep.refl h0 []).1 g730
    have V733 : AA Z h728 b729 .byte [.int (0 : Int32), .int (0 : Int32)] := V733
    refine s_astore (pc' := 24) (Ls' := #[iv q0, iv q1, iv q2, iv q3, iv q4, iv 1, iv 2, rv b729, U0, U0, U0]) A at_22 rfl rfl rfl ?_
    refine s_iload (pc' := 26) A at_24 rfl rfl ?_
    refine s_ifN (pc' := 29) A at_26 rfl (by decide) ?_
    refine s_aload (pc' := 31) A at_29 rfl rfl rfl ?_
    refine s_iconst (pc' := 32) (z := (0 : Int32)) A at_31 rfl (by decide) ?_
    refine s_iloadN (pc' := 33) A at_32 rfl rfl ?_
    refine s_i2b (pc' := 34) (z := (q2).toInt8.toInt32) A at_33 rfl rfl ?_
    refine s_bastore (pc' := 35) (i := 0) A V733 (by decide) (Nat.le_of_ble_eq_true rfl) ge731 at_34 rfl fun T h736 A W737 V738 => ?_
    have V738 : AA Z h736 b729 .byte [.int ((q2).toInt8.toInt32).toInt8.toInt32, .int (0 : Int32)] := V738
    refine s_iload (pc' := 37) A at_35 rfl rfl ?_
    refine s_iconst (pc' := 38) (z := (1 : Int32)) A at_37 rfl (by decide) ?_
    refine s_icmpN (pc' := 41) A at_38 rfl (by decide) ?_
    refine s_aload (pc' := 43) A at_41 rfl rfl rfl ?_
    refine s_iconst (pc' := 44) (z := (1 : Int32)) A at_43 rfl (by decide) ?_
    refine s_iloadN (pc' := 45) A at_44 rfl rfl ?_
    refine s_i2b (pc' := 46) (z := (q3).toInt8.toInt32) A at_45 rfl rfl ?_
    refine s_bastore (pc' := 47) (i := 1) A V738 (by decide) (Nat.le_of_ble_eq_true rfl) ge731 at_46 rfl fun T h739 A W740 V741 => ?_
    have V741 : AA Z h739 b729 .byte [.int ((q2).toInt8.toInt32).toInt8.toInt32, .int ((q3).toInt8.toInt32).toInt8.toInt32] := V741
    refine s_iload (pc' := 49) A at_47 rfl rfl ?_
    refine s_iconst (pc' := 50) (z := (2 : Int32)) A at_49 rfl (by decide) ?_
    refine s_icmpY (pc' := 60) A at_50 (by decide) (by decide) (by decide) ?_
    refine s_iload (pc' := 62) A at_60 rfl rfl ?_
    refine s_ifN (pc' := 65) A at_62 rfl (by decide) ?_
    have K742 := ((((Keep.refl h0 []).ext X732).wr W737 (Or.inr bo735)).wr W740 (Or.inr bo735))
    have H743 := (H.keep K742 (fun _ q => (List.not_mem_nil q).elim))
    refine s_new (pc' := 68) A (w1 hw) (w2 hw) (w3 hw) (by decide) (by decide) at_65 rfl fun T h744 b745 A g746 ge747 X748 E749 D750 => ?_
    have ne751 : b729 ≠ b745 := lt_ne V741.lt g746
    have bo752 : h0.size ≤ b745 := le_eq K742.1 g746
    have F753 : Fld Z h744 b745 "com/example/tailorbird/tailorbird/FormRequest" "method" "Ljava/lang/String;" .null := D750 (Or.inr (w83 hw)) (ty := (.object "java/lang/String")) (by decide)
    have F754 : Fld Z h744 b745 "com/example/tailorbird/tailorbird/FormRequest" "urlText" "Ljava/lang/CharSequence;" .null := D750 (Or.inr (w96 hw)) (ty := (.object "java/lang/CharSequence")) (by decide)
    have F755 : Fld Z h744 b745 "com/example/tailorbird/tailorbird/FormRequest" "contentType" "Ljava/lang/String;" .null := D750 (Or.inr (w99 hw)) (ty := (.object "java/lang/String")) (by decide)
    have F756 : Fld Z h744 b745 "com/example/tailorbird/tailorbird/FormRequest" "body" "[B" .null := D750 (Or.inr (w101 hw)) (ty := (.array .byte)) (by decide)
    have H757 := LK.born H743 X748 (Nat.le_of_eq g746) E749.lt
    refine s_dup (pc' := 69) A at_68 rfl rfl ?_
    have B758 := ((((B.ext X732).wr W737).wr W740).ext X748)
    refine s_ldcS (pc' := 71) (i := 9) (nn := 12) A B758 H757 (List.mem_of_getElem? (i := 6) rfl) (satoms hw) tx0 tx0n (by decide) (by decide) (by decide) at_69 rfl fun sv759 T h760 a761 b762 A B H X763 E764 F765 F766 V767 na768 nb769 => ?_
    refine s_ldcS (pc' := 73) (i := 11) (nn := 40) A B H (List.mem_of_getElem? (i := 1) rfl) (satoms hw) tx3 tx3n (by decide) (by decide) (by decide) at_71 rfl fun sv770 T h771 a772 b773 A B H X774 E775 F776 F777 V778 na779 nb780 => ?_
    refine s_aconstNull (pc' := 74) A at_73 rfl ?_
    refine s_aconstNull (pc' := 75) A at_74 rfl ?_
    have S781 := ((((((S_COMPACT_STRINGS.ext X732).wr W737).wr W740).ext X748).ext X763).ext X774)
    have S782 := ((((((S_SIOOBE_FORMATTER.ext X732).wr W737).wr W740).ext X748).ext X763).ext X774)
    have E783 := (E764.ext X774)
    have F784 := (F765.ext X774)
    have F785 := (F766.ext X774)
    have V786 := (V767.ext X774)
    have E787 := ((E749.ext X763).ext X774)
    have F788 := ((F753.ext X763).ext X774)
    have F789 := ((F754.ext X763).ext X774)
    have F790 := ((F755.ext X763).ext X774)
    have F791 := ((F756.ext X763).ext X774)
    refine s_specialS (pc' := 78) (y := y14_init) (argsL := [(.ref a761), (.ref a772), .null, .null]) (rest := [(.ref b745)]) A B H (ctor1A l Z a0 hw n0 h771 A.size b745 a761 b762 a772 b773 cz fv E787 F788 F789 F790 F791 ge747 S781 ncz hfv S782 E783 F784 F785 V786 E775 F776 F777 V778) rfl (w13 hw) (w14 hw) (w3 hw) (w15 hw) (by decide) pd__Ljava_lang_String_Ljava_lang_String_Ljava_lang_String__B_V rfl (W := 1) (by decide) (by decide) (Nat.le_of_eq rfl) (by decide) (by decide) rfl rfl at_75 rfl fun sv797 T h794 v795 A B Q796 => ?_
    obtain ⟨rfl, K792, F793⟩ := Q796
    refine Wp.stk (st' := [(.ref b745)]) rfl ?_
    refine s_astore (pc' := 80) (Ls' := #[iv q0, iv q1, iv q2, iv q3, iv q4, iv 1, iv 2, rv b729, rv b745, U0, U0]) A at_78 rfl rfl rfl ?_
    refine s_aload (pc' := 82) A at_80 rfl rfl rfl ?_
    have E801 := (E787.keep K792)
    refine s_virtual (pc' := 85) (y := y15_body) (argsL := []) (rest := []) (z := y15_body) A E801 (body0 l Z a0 hw n0 h794 A.size b745 F793) (w102 hw) (w103 hw) (nf_same (C := "") (w105 hw)) (w105 hw) (w104 hw) (w3 hw) (w106 hw) (by decide) pd____B rfl (W := 0) (by decide) (by decide) (Nat.le_of_eq rfl) (by decide) (by decide) rfl rfl at_82 rfl fun T h798 v799 A Q800 => ?_
    obtain ⟨rfl, eh⟩ := Q800
    rw [eh] at A
    refine Wp.stk (st' := [.null]) rfl ?_
    refine s_astore (pc' := 87) (Ls' := #[iv q0, iv q1, iv q2, iv q3, iv q4, iv 1, iv 2, rv b729, rv b745, .val .null, U0]) A at_85 rfl rfl rfl ?_
    refine s_aload (pc' := 89) A at_87 rfl rfl rfl ?_
    refine s_virtual (pc' := 92) (y := y15_body) (argsL := []) (rest := []) (z := y15_body) A E801 (body0 l Z a0 hw n0 h794 A.size b745 F793) (w102 hw) (w103 hw) (nf_same (C := "") (w105 hw)) (w105 hw) (w104 hw) (w3 hw) (w106 hw) (by decide) pd____B rfl (W := 0) (by decide) (by decide) (Nat.le_of_eq rfl) (by decide) (by decide) rfl rfl at_89 rfl fun T h802 v803 A Q804 => ?_
    obtain ⟨rfl, eh⟩ := Q804
    rw [eh] at A
    refine Wp.stk (st' := [.null]) rfl ?_
    refine s_astore (pc' := 94) (Ls' := #[iv q0, iv q1, iv q2, iv q3, iv q4, iv 1, iv 2, rv b729, rv b745, .val .null, .val .null]) A at_92 rfl rfl rfl ?_
    refine s_aload (pc' := 96) A at_94 rfl rfl rfl ?_
    refine s_ifnonnullN (pc' := 99) A at_96 rfl ?_
    refine s_aload (pc' := 101) A at_99 rfl rfl rfl ?_
    refine s_ifnonnullN (pc' := 104) A at_101 rfl ?_
    refine s_iconst (pc' := 105) (z := (1 : Int32)) A at_104 rfl (by decide) ?_
    refine s_goto (pc' := 109) A at_105 (by decide) (by decide) ?_
    exact rS_bool A B rfl (by decide) at_109 (by decide) (by decide) (fun vm hv => rfl)
   ·
    refine s_iand (pc' := 16) (z := (3 : Int32)) A at_15 rfl hkk.symm ?_
    refine s_istore (pc' := 18) (Ls' := #[iv q0, iv q1, iv q2, iv q3, iv q4, iv 1, iv 3, U0, U0, U0, U0]) A at_16 rfl rfl ?_
    refine s_iload (pc' := 20) A at_18 rfl rfl ?_
    refine s_newarrayE (pc' := 22) (aty := .byte) (ty := .byte) (dv := (.int (0 : Int32))) (i := 3) (cap := 3) (ad := "[B") A rfl (by decide) rfl (w0 hw) (by decide) (by decide) (by decide) (by decide) (by decide) at_20 rfl fun T h805 b806 A g807 ge808 X809 V810 E811 => ?_
    have bo812 : h0.size ≤ b806 := le_eq (Keep.refl h0 []).1 g807
    have V810 : AA Z h805 b806 .byte [.int (0 : Int32), .int (0 : Int32), .int (0 : Int32)] := V810
    refine s_astore (pc' := 24) (Ls' := #[iv q0, iv q1, iv q2, iv q3, iv q4, iv 1, iv 3, rv b806, U0, U0, U0]) A at_22 rfl rfl rfl ?_
    refine s_iload (pc' := 26) A at_24 rfl rfl ?_
    refine s_ifN (pc' := 29) A at_26 rfl (by decide) ?_
    refine s_aload (pc' := 31) A at_29 rfl rfl rfl ?_
    refine s_iconst (pc' := 32) (z := (0 : Int32)) A at_31 rfl (by decide) ?_
    refine s_iloadN (pc' := 33) A at_32 rfl rfl ?_
    refine s_i2b (pc' := 34) (z := (q2).toInt8.toInt32) A at_33 rfl rfl ?_
    refine s_bastore (pc' := 35) (i := 0) A V810 (by decide) (Nat.le_of_ble_eq_true rfl) ge808 at_34 rfl fun T h813 A W814 V815 => ?_
    have V815 : AA Z h813 b806 .byte [.int ((q2).toInt8.toInt32).toInt8.toInt32, .int (0 : Int32), .int (0 : Int32)] := V815
    refine s_iload (pc' := 37) A at_35 rfl rfl ?_
    refine s_iconst (pc' := 38) (z := (1 : Int32)) A at_37 rfl (by decide) ?_
    refine s_icmpN (pc' := 41) A at_38 rfl (by decide) ?_
    refine s_aload (pc' := 43) A at_41 rfl rfl rfl ?_
    refine s_iconst (pc' := 44) (z := (1 : Int32)) A at_43 rfl (by decide) ?_
    refine s_iloadN (pc' := 45) A at_44 rfl rfl ?_
    refine s_i2b (pc' := 46) (z := (q3).toInt8.toInt32) A at_45 rfl rfl ?_
    refine s_bastore (pc' := 47) (i := 1) A V815 (by decide) (Nat.le_of_ble_eq_true rfl) ge808 at_46 rfl fun T h816 A W817 V818 => ?_
    have V818 : AA Z h816 b806 .byte [.int ((q2).toInt8.toInt32).toInt8.toInt32, .int ((q3).toInt8.toInt32).toInt8.toInt32, .int (0 : Int32)] := V818
    refine s_iload (pc' := 49) A at_47 rfl rfl ?_
    refine s_iconst (pc' := 50) (z := (2 : Int32)) A at_49 rfl (by decide) ?_
    refine s_icmpN (pc' := 53) A at_50 rfl (by decide) ?_
    refine s_aload (pc' := 55) A at_53 rfl rfl rfl ?_
    refine s_iconst (pc' := 56) (z := (2 : Int32)) A at_55 rfl (by decide) ?_
    refine s_iload (pc' := 58) A at_56 rfl rfl ?_
    refine s_i2b (pc' := 59) (z := (q4).toInt8.toInt32) A at_58 rfl rfl ?_
    refine s_bastore (pc' := 60) (i := 2) A V818 (by decide) (Nat.le_of_ble_eq_true rfl) ge808 at_59 rfl fun T h819 A W820 V821 => ?_
    have V821 : AA Z h819 b806 .byte [.int ((q2).toInt8.toInt32).toInt8.toInt32, .int ((q3).toInt8.toInt32).toInt8.toInt32, .int ((q4).toInt8.toInt32).toInt8.toInt32] := V821
    refine s_iload (pc' := 62) A at_60 rfl rfl ?_
    refine s_ifN (pc' := 65) A at_62 rfl (by decide) ?_
    have K822 := (((((Keep.refl h0 []).ext X809).wr W814 (Or.inr bo812)).wr W817 (Or.inr bo812)).wr W820 (Or.inr bo812))
    have H823 := (H.keep K822 (fun _ q => (List.not_mem_nil q).elim))
    refine s_new (pc' := 68) A (w1 hw) (w2 hw) (w3 hw) (by decide) (by decide) at_65 rfl fun T h824 b825 A g826 ge827 X828 E829 D830 => ?_
    have ne831 : b806 ≠ b825 := lt_ne V821.lt g826
    have bo832 : h0.size ≤ b825 := le_eq K822.1 g826
    have F833 : Fld Z h824 b825 "com/example/tailorbird/tailorbird/FormRequest" "method" "Ljava/lang/String;" .null := D830 (Or.inr (w83 hw)) (ty := (.object "java/lang/String")) (by decide)
    have F834 : Fld Z h824 b825 "com/example/tailorbird/tailorbird/FormRequest" "urlText" "Ljava/lang/CharSequence;" .null := D830 (Or.inr (w96 hw)) (ty := (.object "java/lang/CharSequence")) (by decide)
    have F835 : Fld Z h824 b825 "com/example/tailorbird/tailorbird/FormRequest" "contentType" "Ljava/lang/String;" .null := D830 (Or.inr (w99 hw)) (ty := (.object "java/lang/String")) (by decide)
    have F836 : Fld Z h824 b825 "com/example/tailorbird/tailorbird/FormRequest" "body" "[B" .null := D830 (Or.inr (w101 hw)) (ty := (.array .byte)) (by decide)
    have H837 := LK.born H823 X828 (Nat.le_of_eq g826) E829.lt
    refine s_dup (pc' := 69) A at_68 rfl rfl ?_
    have B838 := (((((B.ext X809).wr W814).wr W817).wr W820).ext X828)
    refine s_ldcS (pc' := 71) (i := 9) (nn := 12) A B838 H837 (List.mem_of_getElem? (i := 6) rfl) (satoms hw) tx0 tx0n (by decide) (by decide) (by decide) at_69 rfl fun sv839 T h840 a841 b842 A B H X843 E844 F845 F846 V847 na848 nb849 => ?_
    refine s_ldcS (pc' := 73) (i := 11) (nn := 40) A B H (List.mem_of_getElem? (i := 1) rfl) (satoms hw) tx3 tx3n (by decide) (by decide) (by decide) at_71 rfl fun sv850 T h851 a852 b853 A B H X854 E855 F856 F857 V858 na859 nb860 => ?_
    refine s_aconstNull (pc' := 74) A at_73 rfl ?_
    refine s_aconstNull (pc' := 75) A at_74 rfl ?_
    have S861 := (((((((S_COMPACT_STRINGS.ext X809).wr W814).wr W817).wr W820).ext X828).ext X843).ext X854)
    have S862 := (((((((S_SIOOBE_FORMATTER.ext X809).wr W814).wr W817).wr W820).ext X828).ext X843).ext X854)
    have E863 := (E844.ext X854)
    have F864 := (F845.ext X854)
    have F865 := (F846.ext X854)
    have V866 := (V847.ext X854)
    have E867 := ((E829.ext X843).ext X854)
    have F868 := ((F833.ext X843).ext X854)
    have F869 := ((F834.ext X843).ext X854)
    have F870 := ((F835.ext X843).ext X854)
    have F871 := ((F836.ext X843).ext X854)
    refine s_specialS (pc' := 78) (y := y14_init) (argsL := [(.ref a841), (.ref a852), .null, .null]) (rest := [(.ref b825)]) A B H (ctor1A l Z a0 hw n0 h851 A.size b825 a841 b842 a852 b853 cz fv E867 F868 F869 F870 F871 ge827 S861 ncz hfv S862 E863 F864 F865 V866 E855 F856 F857 V858) rfl (w13 hw) (w14 hw) (w3 hw) (w15 hw) (by decide) pd__Ljava_lang_String_Ljava_lang_String_Ljava_lang_String__B_V rfl (W := 1) (by decide) (by decide) (Nat.le_of_eq rfl) (by decide) (by decide) rfl rfl at_75 rfl fun sv877 T h874 v875 A B Q876 => ?_
    obtain ⟨rfl, K872, F873⟩ := Q876
    refine Wp.stk (st' := [(.ref b825)]) rfl ?_
    refine s_astore (pc' := 80) (Ls' := #[iv q0, iv q1, iv q2, iv q3, iv q4, iv 1, iv 3, rv b806, rv b825, U0, U0]) A at_78 rfl rfl rfl ?_
    refine s_aload (pc' := 82) A at_80 rfl rfl rfl ?_
    have E881 := (E867.keep K872)
    refine s_virtual (pc' := 85) (y := y15_body) (argsL := []) (rest := []) (z := y15_body) A E881 (body0 l Z a0 hw n0 h874 A.size b825 F873) (w102 hw) (w103 hw) (nf_same (C := "") (w105 hw)) (w105 hw) (w104 hw) (w3 hw) (w106 hw) (by decide) pd____B rfl (W := 0) (by decide) (by decide) (Nat.le_of_eq rfl) (by decide) (by decide) rfl rfl at_82 rfl fun T h878 v879 A Q880 => ?_
    obtain ⟨rfl, eh⟩ := Q880
    rw [eh] at A
    refine Wp.stk (st' := [.null]) rfl ?_
    refine s_astore (pc' := 87) (Ls' := #[iv q0, iv q1, iv q2, iv q3, iv q4, iv 1, iv 3, rv b806, rv b825, .val .null, U0]) A at_85 rfl rfl rfl ?_
    refine s_aload (pc' := 89) A at_87 rfl rfl rfl ?_
    refine s_virtual (pc' := 92) (y := y15_body) (argsL := []) (rest := []) (z := y15_body) A E881 (body0 l Z a0 hw n0 h874 A.size b825 F873) (w102 hw) (w103 hw) (nf_same (C := "") (w105 hw)) (w105 hw) (w104 hw) (w3 hw) (w106 hw) (by decide) pd____B rfl (W := 0) (by decide) (by decide) (Nat.le_of_eq rfl) (by decide) (by decide) rfl rfl at_89 rfl fun T h882 v883 A Q884 => ?_
    obtain ⟨rfl, eh⟩ := Q884
    rw [eh] at A
    refine Wp.stk (st' := [.null]) rfl ?_
    refine s_astore (pc' := 94) (Ls' := #[iv q0, iv q1, iv q2, iv q3, iv q4, iv 1, iv 3, rv b806, rv b825, .val .null, .val .null]) A at_92 rfl rfl rfl ?_
    refine s_aload (pc' := 96) A at_94 rfl rfl rfl ?_
    refine s_ifnonnullN (pc' := 99) A at_96 rfl ?_
    refine s_aload (pc' := 101) A at_99 rfl rfl rfl ?_
    refine s_ifnonnullN (pc' := 104) A at_101 rfl ?_
    refine s_iconst (pc' := 105) (z := (1 : Int32)) A at_104 rfl (by decide) ?_
    refine s_goto (pc' := 109) A at_105 (by decide) (by decide) ?_
    exact rS_bool A B rfl (by decide) at_109 (by decide) (by decide) (fun vm hv => rfl)
set_option maxRecDepth 65536 in
set_option maxHeartbeats 40000000 in
theorem comes_1 {Post : Tables → Env → Array Value → State → Outcome → State → Prop} (hpost : ∀ tb e args s v u, (limb_1_1.after args s (.returned v) u = true ∧ limb_1_2.after args s (.returned v) u = true ∧ True) → ReturnedEndW s (.returned v) u (Jvm.fieldLocs frame_1_writes args s ++ Jvm.arrayLocs frame_1_arrays args s ++ Jvm.staticLocs frame_1_statics s) 32 7296 → Post tb e args s (.returned v) u) :
    ArmFor flags0 classFile x code maxLocals ret World_1 tables_1 room_1 Calls_1 rest_1 Pre_1 Post := by
  intro l hfl _ _ p e ha hc hk s m args below hf hA hF happ hP
  obtain ⟨hcalls, hrest, hpre⟩ := hP
  obtain ⟨-, -, -, hnamed, -, -, -, hat⟩ := (Spec.applies_iff hf).mp happ
  obtain ⟨hg, hn⟩ := and_e (Cond.before_iff.mp (show (Jvm.Cond.and given_1 narrow_1).before args s = true from hpre))
  obtain ⟨hcnt, hg⟩ := and_e hg
  obtain ⟨w0, w1, w2, w3, w4, rfl⟩ : ∃ w0 w1 w2 w3 w4 : Value, args = #[w0, w1, w2, w3, w4] := by
    have hs : args.size = 5 := by simpa [Cond.value, given_1] using hcnt
    obtain ⟨L⟩ := args
    match L, hs with
    | [w0, w1, w2, w3, w4], _ => exact ⟨w0, w1, w2, w3, w4, rfl⟩
  have hw := fun d (hd : d ∈ tables_1) => atoms_spec (ws := Jvm.Cond.code x code maxLocals ret :: tables_1) hat d (List.mem_cons_of_mem _ hd)
  have hfit : Fit s := fun {y c} hc i hi => by
    obtain ⟨ha, rfl⟩ := Array.getElem?_eq_some_iff.mp hc
    have q := List.all_eq_true.mp ((Array.all_eq_true_iff_forall_mem.mp hF) _ (Array.getElem_mem ha)) i (List.mem_range.mpr hi)
    simpa [Array.getElem?_eq_getElem hi] using q
  obtain ⟨g0, hg⟩ := and_e hg
  obtain ⟨x0, e0⟩ := is_v g0
  obtain rfl : w0 = (.int x0) := Option.some.inj e0
  obtain ⟨g1, hg⟩ := and_e hg
  obtain ⟨x1, e1⟩ := is_v g1
  obtain rfl : w1 = (.int x1) := Option.some.inj e1
  obtain ⟨g2, hg⟩ := and_e hg
  obtain ⟨x2, e2⟩ := is_v g2
  obtain rfl : w2 = (.int x2) := Option.some.inj e2
  obtain ⟨g3, hg⟩ := and_e hg
  obtain ⟨x3, e3⟩ := is_v g3
  obtain rfl : w3 = (.int x3) := Option.some.inj e3
  obtain ⟨x4, e4⟩ := is_v hg
  obtain rfl : w4 = (.int x4) := Option.some.inj e4
  have hsets := (atoms_of jdkStatics_1 (own := restOwn_1) (by have q := hrest; rw [show rest_1 = Jvm.D.preC rest_1_c from rfl] at q; exact q)).1
  obtain ⟨cz, ecz⟩ := is_v (Cond.before_iff.mp (hsets _ (List.mem_of_getElem? (i := 1) rfl)))
  have S_COMPACT_STRINGS : Sta s s.heap "java/lang/String" "COMPACT_STRINGS" "Z" (.int cz) := Sta.start ecz (Or.inl (hsets _ (List.mem_of_getElem? (i := 0) rfl)))
  have ncz := x_neI ecz (Cond.before_iff.mp (hsets _ (List.mem_of_getElem? (i := 2) rfl)))
  obtain ⟨fv, efv, hfv⟩ := isR_v (Cond.before_iff.mp (hsets _ (List.mem_of_getElem? (i := 8) rfl)))
  have S_SIOOBE_FORMATTER : Sta s s.heap "jdk/internal/util/Preconditions" "SIOOBE_FORMATTER" "Ljava/util/function/BiFunction;" fv := Sta.start efv (Or.inl (hsets _ (List.mem_of_getElem? (i := 7) rfl)))
  have hLK := lkstart hw hcalls.1 (hsets _ (List.mem_of_getElem? (i := 2) rfl))
  obtain ⟨n, o, h1, h2, h3, _, L, rfl, ⟨N, rfl⟩, hq⟩ := rm0 l s _ hw s.heap.size s.heap (Nat.le_refl _) x0 x1 x2 x3 x4 cz S_COMPACT_STRINGS ncz fv hfv S_SIOOBE_FORMATTER tables_1 p e ha hc hk s m _ below hf ((Spec.applies_iff_loose hf).mp happ).1 ⟨rfl, State.Warmed39.refl s, rfl, hLK⟩ trivial
  refine ⟨n, _, h1, h2, h3, hpost _ _ _ _ _ _ ⟨Cond.after_iff.mpr rfl, Cond.after_iff.mpr (eq_i res_at (Term.int_eval (1)) rfl), trivial⟩ ⟨hq.1, hq.2.1, hq.2.2.1, (hq.2.2.2.sift fun y hy => Or.inr (N y hy)).mono (by decide) (by decide)⟩⟩
theorem main_1_1 : Claimed_1_1 := comes_1 fun _ _ _ _ _ _ h hF => ⟨h.1, hF⟩
theorem main_1_2 : Claimed_1_2 := comes_1 fun _ _ _ _ _ _ h hF => ⟨h.2.1, hF⟩
end Jvm.Pilot.@@N@@
namespace Jvm.Pilot.@@N@@
open Jvm Jvm.ClassFile Sem Op Lib Jvm.Free Jvm.Stand Jvm.Pilot.@@N@@.Jvm.D
/-! MADE BY PROGRAM (witnessworld.py) out of the Statement's table words and the real class files: 18 classes; the members and pool entries that the words name. The judged class is class 1, her method 1. -/
namespace start1
open Jvm.ClassFile
def u (s : String) : CpInfo := .utf8 (stringToUtf16 s)
/-- a pool by its gaps: so many unusable entries, then the entry; so many at the end -/
def gap : Nat → List CpInfo → List CpInfo
  | 0, r => r
  | n + 1, r => .unusable :: gap n r
def poolList (es : List (Nat × CpInfo)) (last : Nat) : List CpInfo := es.foldr (fun e r => gap e.1 (e.2 :: r)) (gap last [])
def pool (es : List (Nat × CpInfo)) (last : Nat) : Array CpInfo := ⟨poolList es last⟩
def fileOf (pool : Array CpInfo) (this : Nat) (attrs : Array Attribute := #[]) (ms : Array MethodInfo := #[]) (fl : Nat := 33) (sup : Nat := 0) (ifs : Array Nat := #[]) (fds : Array FieldInfo := #[]) : ClassFile where
  minorVersion := 0
  majorVersion := 65
  constantPool := pool
  accessFlags := fl
  thisClass := this
  superClass := sup
  interfaces := ifs
  fields := fds
  methods := ms
  attributes := attrs
def plain (name : String) (sup : Option ClassId) : Class where
  name := name
  kind := .ordinary
  loader := none
  accessFlags := 33
  super := sup
  interfaces := #[]
  cf := none
  fields := #[]
  methods := #[]
  instanceTypes := #[]
  staticTypes := #[]
  resolved := #[]
  callSites := []
  init := .initialized
  statics := none
  mirror := none

def pool0 : Array CpInfo := pool [(5, u "<init>"), (0, u "()V"), (1, .class_ 10), (1, u "java/lang/Object"), (85, u "clone"), (0, u "()Ljava/lang/Object;")] 26

def k0c0 : Code := { maxStack := 0, maxLocals := 1, code := object_method_1_code, exceptionTable := #[], attributes := #[] }
def k0m0 : Method := { name := "<init>", desc := "()V", sig := { parameters := [], returnType := none }, accessFlags := 1, code := some k0c0 }
def k0m1 : Method := { name := "clone", desc := "()Ljava/lang/Object;", sig := { parameters := [], returnType := some (.object "java/lang/Object") }, accessFlags := 260, code := none }
/-- java/lang/Object -/
def k0 : Class := { plain "java/lang/Object" none with
  accessFlags := 33
  interfaces := #[]
  cf := some (fileOf pool0 8 #[] #[{ accessFlags := 1, nameIndex := 5, descriptorIndex := 6, attributes := #[] }, { accessFlags := 260, nameIndex := 96, descriptorIndex := 97, attributes := #[] }] 33 0 #[] #[])
  fields := #[]
  methods := #[k0m0, k0m1]
  instanceTypes := #[]
  staticTypes := #[]
  resolved := Array.replicate 124 none
  statics := none }

def pool1 : Array CpInfo := pool [(2, .class_ 4), (1, u "java/lang/Object"), (0, u "<init>"), (0, u "()V"), (0, .class_ 8), (0, u "com/example/tailorbird/tailorbird/FormRequest"), (0, .string 10), (0, u "GET"), (0, .string 12), (0, u "http://h/p"), (0, .methodref 7 14), (0, .nameAndType 5 15), (0, u "(Ljava/lang/String;Ljava/lang/String;Ljava/lang/String;[B)V"), (0, .methodref 7 17), (0, .nameAndType 18 19), (0, u "body"), (0, u "()[B"), (0, .string 21), (0, u "POST"), (0, .string 23), (0, u "text/plain"), (0, .methodref 25 26), (0, .class_ 27), (0, .nameAndType 28 29), (0, u "com/example/tailorbird/tailorbird/FormRequestBodyPinLaw"), (0, u "holds"), (0, u "([BIIII)Z"), (0, .methodref 25 31), (0, .nameAndType 32 33), (0, u "flip"), (0, u "([B)V"), (2, u "law"), (0, u "(IIIII)Z")] 5

def k1m0 : Method := { name := "<init>", desc := "()V", sig := { parameters := [], returnType := none }, accessFlags := 1, code := none }
def k1c1 : Code := { maxStack := 6, maxLocals := 11, code := code, exceptionTable := #[], attributes := #[] }
def k1m1 : Method := { name := "law", desc := "(IIIII)Z", sig := { parameters := [.int, .int, .int, .int, .int], returnType := some .boolean }, accessFlags := 9, code := some k1c1 }
def k1c2 : Code := { maxStack := 2, maxLocals := 6, code := method_3_code, exceptionTable := #[], attributes := #[] }
def k1m2 : Method := { name := "holds", desc := "([BIIII)Z", sig := { parameters := [(.array .byte), .int, .int, .int, .int], returnType := some .boolean }, accessFlags := 10, code := some k1c2 }
def k1c3 : Code := { maxStack := 4, maxLocals := 1, code := method_4_code, exceptionTable := #[], attributes := #[] }
def k1m3 : Method := { name := "flip", desc := "([B)V", sig := { parameters := [(.array .byte)], returnType := none }, accessFlags := 10, code := some k1c3 }
/-- com/example/tailorbird/tailorbird/FormRequestBodyPinLaw -/
def k1 : Class := { plain "com/example/tailorbird/tailorbird/FormRequestBodyPinLaw" (some 0) with
  accessFlags := 49
  interfaces := #[]
  cf := some (fileOf pool1 25 #[] #[{ accessFlags := 1, nameIndex := 5, descriptorIndex := 6, attributes := #[] }, { accessFlags := 9, nameIndex := 36, descriptorIndex := 37, attributes := #[] }, { accessFlags := 10, nameIndex := 28, descriptorIndex := 29, attributes := #[] }, { accessFlags := 10, nameIndex := 32, descriptorIndex := 33, attributes := #[] }] 49 2 #[] #[])
  fields := #[]
  methods := #[k1m0, k1m1, k1m2, k1m3]
  instanceTypes := #[]
  staticTypes := #[]
  resolved := Array.replicate 43 none
  statics := none }

def pool2 : Array CpInfo := pool [(1, .methodref 2 3), (0, .class_ 4), (0, .nameAndType 5 6), (0, u "[B"), (0, u "clone"), (0, u "()Ljava/lang/Object;"), (0, .methodref 8 9), (0, .class_ 10), (0, .nameAndType 11 12), (0, u "com/example/tailorbird/tailorbird/FormRequest"), (0, u "<init>"), (0, u "(Ljava/lang/String;Ljava/lang/CharSequence;Ljava/lang/String;[BZ)V"), (0, .methodref 14 15), (0, .class_ 16), (0, .nameAndType 11 17), (0, u "java/lang/Object"), (0, u "()V"), (0, .string 19), (0, u "method"), (0, .methodref 21 22), (0, .class_ 23), (0, .nameAndType 24 25), (0, u "java/util/Objects"), (0, u "requireNonNull"), (0, u "(Ljava/lang/Object;Ljava/lang/String;)Ljava/lang/Object;"), (0, .class_ 27), (0, u "java/lang/String"), (0, .methodref 8 29), (0, .nameAndType 30 31), (0, u "requireNoControlCharacter"), (0, u "(Ljava/lang/String;Ljava/lang/String;)Ljava/lang/String;"), (0, .fieldref 8 33), (0, .nameAndType 19 34), (0, u "Ljava/lang/String;"), (0, .string 36), (0, u "url"), (0, .class_ 38), (0, u "java/lang/CharSequence"), (0, .interfaceMethodref 37 40), (0, .nameAndType 41 42), (0, u "toString"), (0, u "()Ljava/lang/String;"), (0, .fieldref 8 44), (0, .nameAndType 45 46), (0, u "urlText"), (0, u "Ljava/lang/CharSequence;"), (7, .string 55), (0, u "contentType"), (0, .fieldref 8 57), (0, .nameAndType 55 34), (0, .fieldref 8 59), (0, .nameAndType 60 4), (0, u "body"), (0, .methodref 26 62), (0, .nameAndType 63 64), (0, u "length"), (0, u "()I"), (0, .methodref 26 66), (0, .nameAndType 67 68), (0, u "charAt"), (0, u "(I)C"), (0, .methodref 8 70), (0, .nameAndType 71 72), (0, u "isControlCharacter"), (0, u "(I)Z"), (2, u "CONTROL_CHARACTERS"), (0, u "Lcom/example/tailorbird/tailorbird/UriText$Stops;"), (7, .methodref 8 85), (0, .nameAndType 86 87), (0, u "indexOfControlCharacter"), (0, u "(Ljava/lang/String;)I"), (23, u "(Ljava/lang/String;Ljava/lang/String;Ljava/lang/String;[B)V"), (6, u "()[B")] 20

def k2c0 : Code := { maxStack := 6, maxLocals := 5, code := prog_13_method_1_code, exceptionTable := #[], attributes := #[] }
def k2m0 : Method := { name := "<init>", desc := "(Ljava/lang/String;Ljava/lang/String;Ljava/lang/String;[B)V", sig := { parameters := [(.object "java/lang/String"), (.object "java/lang/String"), (.object "java/lang/String"), (.array .byte)], returnType := none }, accessFlags := 1, code := some k2c0 }
def k2c1 : Code := { maxStack := 3, maxLocals := 6, code := prog_13_method_2_code, exceptionTable := #[], attributes := #[] }
def k2m1 : Method := { name := "<init>", desc := "(Ljava/lang/String;Ljava/lang/CharSequence;Ljava/lang/String;[BZ)V", sig := { parameters := [(.object "java/lang/String"), (.object "java/lang/CharSequence"), (.object "java/lang/String"), (.array .byte), .boolean], returnType := none }, accessFlags := 2, code := some k2c1 }
def k2c2 : Code := { maxStack := 2, maxLocals := 2, code := prog_13_method_4_code, exceptionTable := #[], attributes := #[] }
def k2m2 : Method := { name := "indexOfControlCharacter", desc := "(Ljava/lang/String;)I", sig := { parameters := [(.object "java/lang/String")], returnType := some .int }, accessFlags := 8, code := some k2c2 }
def k2c3 : Code := { maxStack := 2, maxLocals := 1, code := prog_13_method_6_code, exceptionTable := #[], attributes := #[] }
def k2m3 : Method := { name := "isControlCharacter", desc := "(I)Z", sig := { parameters := [.int], returnType := some .boolean }, accessFlags := 10, code := some k2c3 }
def k2c4 : Code := { maxStack := 8, maxLocals := 3, code := prog_13_method_7_code, exceptionTable := #[], attributes := #[] }
def k2m4 : Method := { name := "requireNoControlCharacter", desc := "(Ljava/lang/String;Ljava/lang/String;)Ljava/lang/String;", sig := { parameters := [(.object "java/lang/String"), (.object "java/lang/String")], returnType := some (.object "java/lang/String") }, accessFlags := 10, code := some k2c4 }
def k2c5 : Code := { maxStack := 1, maxLocals := 1, code := prog_13_method_11_code, exceptionTable := #[], attributes := #[] }
def k2m5 : Method := { name := "body", desc := "()[B", sig := { parameters := [], returnType := some (.array .byte) }, accessFlags := 1, code := some k2c5 }
/-- com/example/tailorbird/tailorbird/FormRequest -/
def k2 : Class := { plain "com/example/tailorbird/tailorbird/FormRequest" (some 0) with
  accessFlags := 49
  interfaces := #[]
  cf := some (fileOf pool2 8 #[] #[{ accessFlags := 1, nameIndex := 11, descriptorIndex := 111, attributes := #[] }, { accessFlags := 2, nameIndex := 11, descriptorIndex := 12, attributes := #[] }, { accessFlags := 8, nameIndex := 86, descriptorIndex := 87, attributes := #[] }, { accessFlags := 10, nameIndex := 71, descriptorIndex := 72, attributes := #[] }, { accessFlags := 10, nameIndex := 30, descriptorIndex := 31, attributes := #[] }, { accessFlags := 1, nameIndex := 60, descriptorIndex := 118, attributes := #[] }] 49 14 #[] #[{ accessFlags := 26, nameIndex := 75, descriptorIndex := 76, attributes := #[] }, { accessFlags := 18, nameIndex := 19, descriptorIndex := 34, attributes := #[] }, { accessFlags := 18, nameIndex := 45, descriptorIndex := 46, attributes := #[] }, { accessFlags := 2, nameIndex := 36, descriptorIndex := 34, attributes := #[] }, { accessFlags := 18, nameIndex := 55, descriptorIndex := 34, attributes := #[] }, { accessFlags := 18, nameIndex := 60, descriptorIndex := 4, attributes := #[] }])
  fields := #[{ name := "CONTROL_CHARACTERS", type := (.object "com/example/tailorbird/tailorbird/UriText$Stops"), accessFlags := 26, slot := 0, constantValue := 0 }, { name := "method", type := (.object "java/lang/String"), accessFlags := 18, slot := 0, constantValue := 0 }, { name := "urlText", type := (.object "java/lang/CharSequence"), accessFlags := 18, slot := 1, constantValue := 0 }, { name := "url", type := (.object "java/lang/String"), accessFlags := 2, slot := 2, constantValue := 0 }, { name := "contentType", type := (.object "java/lang/String"), accessFlags := 18, slot := 3, constantValue := 0 }, { name := "body", type := (.array .byte), accessFlags := 18, slot := 4, constantValue := 0 }]
  methods := #[k2m0, k2m1, k2m2, k2m3, k2m4, k2m5]
  instanceTypes := #[(.object "java/lang/String"), (.object "java/lang/CharSequence"), (.object "java/lang/String"), (.object "java/lang/String"), (.array .byte)]
  staticTypes := #[(.object "com/example/tailorbird/tailorbird/UriText$Stops")]
  resolved := Array.replicate 139 none
  statics := none }

def pool3 : Array CpInfo := pool [(1, .class_ 2), (0, u "java/io/Serializable"), (0, .class_ 4), (0, u "java/lang/Object")] 2

/-- java/io/Serializable -/
def k3 : Class := { plain "java/io/Serializable" (some 0) with
  accessFlags := 1537
  interfaces := #[]
  cf := some (fileOf pool3 1 #[] #[] 1537 3 #[] #[])
  fields := #[]
  methods := #[]
  instanceTypes := #[]
  staticTypes := #[]
  resolved := Array.replicate 7 none
  statics := none }

def pool4 : Array CpInfo := pool [(1, .class_ 2), (0, u "java/lang/Comparable"), (0, .class_ 4), (0, u "java/lang/Object")] 7

/-- java/lang/Comparable -/
def k4 : Class := { plain "java/lang/Comparable" (some 0) with
  accessFlags := 1537
  interfaces := #[]
  cf := some (fileOf pool4 1 #[] #[] 1537 3 #[] #[])
  fields := #[]
  methods := #[]
  instanceTypes := #[]
  staticTypes := #[]
  resolved := Array.replicate 12 none
  statics := none }

def pool5 : Array CpInfo := pool [(2, .class_ 4), (1, u "java/lang/CharSequence"), (42, .class_ 48), (0, u "java/lang/CharSequence$1CodePointIterator"), (10, .class_ 60), (0, u "java/lang/CharSequence$1CharIterator"), (5, .class_ 67), (0, u "java/lang/Object"), (10, u "toString"), (0, u "()Ljava/lang/String;")] 51

def k5m0 : Method := { name := "toString", desc := "()Ljava/lang/String;", sig := { parameters := [], returnType := some (.object "java/lang/String") }, accessFlags := 1025, code := none }
/-- java/lang/CharSequence -/
def k5 : Class := { plain "java/lang/CharSequence" (some 0) with
  accessFlags := 1537
  interfaces := #[]
  cf := some (fileOf pool5 2 #[.nestMembers #[47, 59]] #[{ accessFlags := 1025, nameIndex := 78, descriptorIndex := 79, attributes := #[] }] 1537 66 #[] #[])
  fields := #[]
  methods := #[k5m0]
  instanceTypes := #[]
  staticTypes := #[]
  resolved := Array.replicate 131 none
  statics := none }

def pool6 : Array CpInfo := pool [(1, .class_ 2), (0, u "java/lang/constant/Constable"), (0, .class_ 4), (0, u "java/lang/Object")] 6

/-- java/lang/constant/Constable -/
def k6 : Class := { plain "java/lang/constant/Constable" (some 0) with
  accessFlags := 1537
  interfaces := #[]
  cf := some (fileOf pool6 1 #[] #[] 1537 3 #[] #[])
  fields := #[]
  methods := #[]
  instanceTypes := #[]
  staticTypes := #[]
  resolved := Array.replicate 11 none
  statics := none }

def pool7 : Array CpInfo := pool [(1, .class_ 2), (0, u "java/lang/constant/ConstantDesc"), (0, .class_ 4), (0, u "java/lang/Object")] 32

/-- java/lang/constant/ConstantDesc -/
def k7 : Class := { plain "java/lang/constant/ConstantDesc" (some 0) with
  accessFlags := 1537
  interfaces := #[]
  cf := some (fileOf pool7 1 #[] #[] 1537 3 #[] #[])
  fields := #[]
  methods := #[]
  instanceTypes := #[]
  staticTypes := #[]
  resolved := Array.replicate 37 none
  statics := none }

def pool8 : Array CpInfo := pool [(2, .class_ 4), (1, u "java/lang/Object"), (0, u "<init>"), (0, u "()V"), (2, .fieldref 10 11), (0, .class_ 12), (0, .nameAndType 13 14), (0, u "java/lang/String"), (0, u "value"), (0, u "[B"), (0, .fieldref 10 16), (0, .nameAndType 17 18), (0, u "coder"), (0, u "B"), (2, u "hash"), (0, u "I"), (2, u "hashIsZero"), (0, u "Z"), (11, .fieldref 10 39), (0, .nameAndType 40 26), (0, u "COMPACT_STRINGS"), (66, .class_ 109), (1, u "java/lang/StringLatin1"), (32, u "()Z"), (191, u "()I"), (0, .methodref 10 336), (0, .nameAndType 17 337), (0, u "()B"), (25, u "([BI)C"), (27, u "(II)V"), (35, u "(I)C"), (35, u "toString"), (0, u "()Ljava/lang/String;"), (27, .methodref 10 493), (0, .nameAndType 494 142), (0, u "isLatin1"), (0, .methodref 107 496), (0, .nameAndType 497 363), (0, u "charAt"), (3, u "checkIndex"), (5, u "length"), (67, .class_ 576), (0, u "java/lang/CharSequence"), (22, u "CASE_INSENSITIVE_ORDER"), (0, u "Ljava/util/Comparator;"), (452, .fieldref 1054 1055), (0, .class_ 1056), (0, .nameAndType 1057 1058), (0, u "jdk/internal/util/Preconditions"), (0, u "SIOOBE_FORMATTER"), (0, u "Ljava/util/function/BiFunction;"), (0, .methodref 1054 1060), (0, .nameAndType 501 1061), (0, u "(IILjava/util/function/BiFunction;)I"), (39, u "serialPersistentFields"), (0, u "[Ljava/io/ObjectStreamField;"), (0, .class_ 1104), (0, u "java/lang/String$CaseInsensitiveComparator"), (1, .class_ 1107), (0, u "java/io/Serializable"), (0, .class_ 1109), (0, u "java/lang/Comparable"), (0, .class_ 1111), (0, u "java/lang/constant/Constable"), (0, .class_ 1113), (0, u "java/lang/constant/ConstantDesc"), (2, u "serialVersionUID"), (0, u "J"), (3, u "REPL"), (0, u "C"), (2, u "LATIN1"), (1, u "UTF16")] 323

def k8m0 : Method := { name := "<init>", desc := "()V", sig := { parameters := [], returnType := none }, accessFlags := 1, code := none }
def k8c1 : Code := { maxStack := 2, maxLocals := 1, code := jdk_42_method_54_code, exceptionTable := #[], attributes := #[] }
def k8m1 : Method := { name := "length", desc := "()I", sig := { parameters := [], returnType := some .int }, accessFlags := 1, code := some k8c1 }
def k8c2 : Code := { maxStack := 2, maxLocals := 2, code := jdk_42_method_56_code, exceptionTable := #[], attributes := #[] }
def k8m2 : Method := { name := "charAt", desc := "(I)C", sig := { parameters := [.int], returnType := some .char }, accessFlags := 1, code := some k8c2 }
def k8c3 : Code := { maxStack := 1, maxLocals := 1, code := jdk_42_method_126_code, exceptionTable := #[], attributes := #[] }
def k8m3 : Method := { name := "toString", desc := "()Ljava/lang/String;", sig := { parameters := [], returnType := some (.object "java/lang/String") }, accessFlags := 1, code := some k8c3 }
def k8c4 : Code := { maxStack := 1, maxLocals := 1, code := jdk_42_method_152_code, exceptionTable := #[], attributes := #[] }
def k8m4 : Method := { name := "coder", desc := "()B", sig := { parameters := [], returnType := some .byte }, accessFlags := 0, code := some k8c4 }
def k8c5 : Code := { maxStack := 1, maxLocals := 1, code := jdk_42_method_154_code, exceptionTable := #[], attributes := #[] }
def k8m5 : Method := { name := "isLatin1", desc := "()Z", sig := { parameters := [], returnType := some .boolean }, accessFlags := 0, code := some k8c5 }
def k8c6 : Code := { maxStack := 3, maxLocals := 2, code := jdk_42_method_155_code, exceptionTable := #[], attributes := #[] }
def k8m6 : Method := { name := "checkIndex", desc := "(II)V", sig := { parameters := [.int, .int], returnType := none }, accessFlags := 8, code := some k8c6 }
/-- java/lang/String -/
def k8 : Class := { plain "java/lang/String" (some 0) with
  accessFlags := 49
  interfaces := #[3, 4, 5, 6, 7]
  cf := some (fileOf pool8 10 #[.nestMembers #[1103]] #[{ accessFlags := 1, nameIndex := 5, descriptorIndex := 6, attributes := #[] }, { accessFlags := 1, nameIndex := 507, descriptorIndex := 334, attributes := #[] }, { accessFlags := 1, nameIndex := 497, descriptorIndex := 427, attributes := #[] }, { accessFlags := 1, nameIndex := 463, descriptorIndex := 464, attributes := #[] }, { accessFlags := 0, nameIndex := 17, descriptorIndex := 337, attributes := #[] }, { accessFlags := 0, nameIndex := 494, descriptorIndex := 142, attributes := #[] }, { accessFlags := 8, nameIndex := 501, descriptorIndex := 391, attributes := #[] }] 49 2 #[1106, 1108, 575, 1110, 1112] #[{ accessFlags := 18, nameIndex := 13, descriptorIndex := 14, attributes := #[] }, { accessFlags := 18, nameIndex := 17, descriptorIndex := 18, attributes := #[] }, { accessFlags := 2, nameIndex := 21, descriptorIndex := 22, attributes := #[] }, { accessFlags := 2, nameIndex := 25, descriptorIndex := 26, attributes := #[] }, { accessFlags := 26, nameIndex := 1116, descriptorIndex := 1117, attributes := #[] }, { accessFlags := 24, nameIndex := 40, descriptorIndex := 26, attributes := #[] }, { accessFlags := 26, nameIndex := 1101, descriptorIndex := 1102, attributes := #[] }, { accessFlags := 26, nameIndex := 1121, descriptorIndex := 1122, attributes := #[] }, { accessFlags := 25, nameIndex := 599, descriptorIndex := 600, attributes := #[] }, { accessFlags := 24, nameIndex := 1125, descriptorIndex := 18, attributes := #[] }, { accessFlags := 24, nameIndex := 1127, descriptorIndex := 18, attributes := #[] }])
  fields := #[{ name := "value", type := (.array .byte), accessFlags := 18, slot := 0, constantValue := 0 }, { name := "coder", type := .byte, accessFlags := 18, slot := 1, constantValue := 0 }, { name := "hash", type := .int, accessFlags := 2, slot := 2, constantValue := 0 }, { name := "hashIsZero", type := .boolean, accessFlags := 2, slot := 3, constantValue := 0 }, { name := "serialVersionUID", type := .long, accessFlags := 26, slot := 0, constantValue := 0 }, { name := "COMPACT_STRINGS", type := .boolean, accessFlags := 24, slot := 1, constantValue := 0 }, { name := "serialPersistentFields", type := (.array (.object "java/io/ObjectStreamField")), accessFlags := 26, slot := 2, constantValue := 0 }, { name := "REPL", type := .char, accessFlags := 26, slot := 3, constantValue := 0 }, { name := "CASE_INSENSITIVE_ORDER", type := (.object "java/util/Comparator"), accessFlags := 25, slot := 4, constantValue := 0 }, { name := "LATIN1", type := .byte, accessFlags := 24, slot := 5, constantValue := 0 }, { name := "UTF16", type := .byte, accessFlags := 24, slot := 6, constantValue := 0 }]
  methods := #[k8m0, k8m1, k8m2, k8m3, k8m4, k8m5, k8m6]
  instanceTypes := #[(.array .byte), .byte, .int, .boolean]
  staticTypes := #[.long, .boolean, (.array (.object "java/io/ObjectStreamField")), .char, (.object "java/util/Comparator"), .byte, .byte]
  resolved := Array.replicate 1451 none
  statics := some 0 }

def pool9 : Array CpInfo := pool [(1, .class_ 2), (0, u "java/lang/Cloneable"), (0, .class_ 4), (0, u "java/lang/Object")] 2

/-- java/lang/Cloneable -/
def k9 : Class := { plain "java/lang/Cloneable" (some 0) with
  accessFlags := 1537
  interfaces := #[]
  cf := some (fileOf pool9 1 #[] #[] 1537 3 #[] #[])
  fields := #[]
  methods := #[]
  instanceTypes := #[]
  staticTypes := #[]
  resolved := Array.replicate 7 none
  statics := none }

def pool10 : Array CpInfo := pool [(2, .class_ 4), (1, u "java/lang/Object"), (0, u "<init>"), (0, u "()V"), (35, .class_ 44), (1, u "java/util/Objects"), (0, u "requireNonNull"), (48, u "(Ljava/lang/Object;Ljava/lang/String;)Ljava/lang/Object;")] 89

def k10m0 : Method := { name := "<init>", desc := "()V", sig := { parameters := [], returnType := none }, accessFlags := 2, code := none }
def k10c1 : Code := { maxStack := 3, maxLocals := 2, code := jdk_31_method_11_code, exceptionTable := #[], attributes := #[] }
def k10m1 : Method := { name := "requireNonNull", desc := "(Ljava/lang/Object;Ljava/lang/String;)Ljava/lang/Object;", sig := { parameters := [(.object "java/lang/Object"), (.object "java/lang/String")], returnType := some (.object "java/lang/Object") }, accessFlags := 9, code := some k10c1 }
/-- java/util/Objects -/
def k10 : Class := { plain "java/util/Objects" (some 0) with
  accessFlags := 49
  interfaces := #[]
  cf := some (fileOf pool10 42 #[] #[{ accessFlags := 2, nameIndex := 5, descriptorIndex := 6, attributes := #[] }, { accessFlags := 9, nameIndex := 45, descriptorIndex := 94, attributes := #[] }] 49 2 #[] #[])
  fields := #[]
  methods := #[k10m0, k10m1]
  instanceTypes := #[]
  staticTypes := #[]
  resolved := Array.replicate 184 none
  statics := none }

def pool11 : Array CpInfo := pool [(1, .class_ 2), (0, u "java/lang/String"), (1, .class_ 6), (1, u "java/lang/Object"), (0, u "<init>"), (0, u "()V"), (0, .methodref 1 10), (0, .nameAndType 11 12), (0, u "checkIndex"), (0, u "(II)V"), (1, .class_ 16), (1, u "java/lang/StringLatin1"), (36, u "([BI)C"), (67, u "$assertionsDisabled"), (0, u "Z"), (98, .class_ 223), (1, u "java/lang/StringLatin1$LinesSpliterator"), (28, u "charAt"), (137, .class_ 391), (0, u "java/lang/StringLatin1$CharsSpliterator")] 3

def k11m0 : Method := { name := "<init>", desc := "()V", sig := { parameters := [], returnType := none }, accessFlags := 0, code := none }
def k11c1 : Code := { maxStack := 2, maxLocals := 2, code := jdk_43_method_2_code, exceptionTable := #[], attributes := #[] }
def k11m1 : Method := { name := "charAt", desc := "([BI)C", sig := { parameters := [(.array .byte), .int], returnType := some .char }, accessFlags := 9, code := some k11c1 }
/-- java/lang/StringLatin1 -/
def k11 : Class := { plain "java/lang/StringLatin1" (some 0) with
  accessFlags := 48
  interfaces := #[]
  cf := some (fileOf pool11 14 #[.nestMembers #[390, 221]] #[{ accessFlags := 0, nameIndex := 7, descriptorIndex := 8, attributes := #[] }, { accessFlags := 9, nameIndex := 252, descriptorIndex := 53, attributes := #[] }] 48 4 #[] #[{ accessFlags := 4120, nameIndex := 121, descriptorIndex := 122, attributes := #[] }])
  fields := #[{ name := "$assertionsDisabled", type := .boolean, accessFlags := 4120, slot := 0, constantValue := 0 }]
  methods := #[k11m0, k11m1]
  instanceTypes := #[]
  staticTypes := #[.boolean]
  resolved := Array.replicate 395 none
  statics := none }

def pool12 : Array CpInfo := pool [(2, .class_ 4), (1, u "java/lang/Object"), (0, u "<init>"), (0, u "()V"), (17, .class_ 26), (1, u "jdk/internal/util/Preconditions"), (6, u "checkIndex"), (21, .class_ 56), (0, u "jdk/internal/util/Preconditions$4"), (57, .class_ 115), (0, u "jdk/internal/util/Preconditions$1"), (7, u "SIOOBE_FORMATTER"), (0, u "Ljava/util/function/BiFunction;"), (0, .class_ 126), (0, u "jdk/internal/util/Preconditions$2"), (3, u "AIOOBE_FORMATTER"), (0, .class_ 132), (0, u "jdk/internal/util/Preconditions$3"), (3, u "IOOBE_FORMATTER"), (41, u "(IILjava/util/function/BiFunction;)I")] 15

def k12m0 : Method := { name := "<init>", desc := "()V", sig := { parameters := [], returnType := none }, accessFlags := 1, code := none }
def k12c1 : Code := { maxStack := 3, maxLocals := 3, code := jdk_41_method_11_code, exceptionTable := #[], attributes := #[] }
def k12m1 : Method := { name := "checkIndex", desc := "(IILjava/util/function/BiFunction;)I", sig := { parameters := [.int, .int, (.object "java/util/function/BiFunction")], returnType := some .int }, accessFlags := 9, code := some k12c1 }
/-- jdk/internal/util/Preconditions -/
def k12 : Class := { plain "jdk/internal/util/Preconditions" (some 0) with
  accessFlags := 33
  interfaces := #[]
  cf := some (fileOf pool12 24 #[.nestMembers #[55, 131, 125, 114]] #[{ accessFlags := 1, nameIndex := 5, descriptorIndex := 6, attributes := #[] }, { accessFlags := 9, nameIndex := 33, descriptorIndex := 178, attributes := #[] }] 33 2 #[] #[{ accessFlags := 25, nameIndex := 123, descriptorIndex := 124, attributes := #[] }, { accessFlags := 25, nameIndex := 130, descriptorIndex := 124, attributes := #[] }, { accessFlags := 25, nameIndex := 136, descriptorIndex := 124, attributes := #[] }])
  fields := #[{ name := "SIOOBE_FORMATTER", type := (.object "java/util/function/BiFunction"), accessFlags := 25, slot := 0, constantValue := 0 }, { name := "AIOOBE_FORMATTER", type := (.object "java/util/function/BiFunction"), accessFlags := 25, slot := 1, constantValue := 0 }, { name := "IOOBE_FORMATTER", type := (.object "java/util/function/BiFunction"), accessFlags := 25, slot := 2, constantValue := 0 }]
  methods := #[k12m0, k12m1]
  instanceTypes := #[]
  staticTypes := #[(.object "java/util/function/BiFunction"), (.object "java/util/function/BiFunction"), (.object "java/util/function/BiFunction")]
  resolved := Array.replicate 194 none
  statics := some 1 }

def pool13 : Array CpInfo := pool [(9, u "<init>"), (6, .class_ 18), (1, u "java/lang/Object"), (0, u "()V"), (1, .class_ 23), (1, u "jdk/internal/util/ArraysSupport"), (0, u "LOG2_ARRAY_LONG_INDEX_SCALE"), (0, u "I"), (2, u "U"), (0, u "Ljdk/internal/misc/Unsafe;"), (8, u "BIG_ENDIAN"), (0, u "Z"), (8, u "LOG2_BYTE_BIT_SIZE"), (4, u "LOG2_ARRAY_INT_INDEX_SCALE"), (54, u "JLA"), (0, u "Ljdk/internal/access/JavaLangAccess;"), (11, u "LOG2_ARRAY_BOOLEAN_INDEX_SCALE"), (9, u "LOG2_ARRAY_BYTE_INDEX_SCALE"), (5, u "LOG2_ARRAY_CHAR_INDEX_SCALE"), (5, u "LOG2_ARRAY_SHORT_INDEX_SCALE"), (18, u "LOG2_ARRAY_FLOAT_INDEX_SCALE"), (24, u "LOG2_ARRAY_DOUBLE_INDEX_SCALE"), (89, u "T_BOOLEAN"), (2, u "T_CHAR"), (1, u "T_FLOAT"), (1, u "T_DOUBLE"), (1, u "T_BYTE"), (1, u "T_SHORT"), (1, u "T_INT"), (1, u "T_LONG"), (1, u "SOFT_MAX_ARRAY_LENGTH")] 83

def k13m0 : Method := { name := "<init>", desc := "()V", sig := { parameters := [], returnType := none }, accessFlags := 2, code := none }
/-- jdk/internal/util/ArraysSupport -/
def k13 : Class := { plain "jdk/internal/util/ArraysSupport" (some 0) with
  accessFlags := 33
  interfaces := #[]
  cf := some (fileOf pool13 21 #[] #[{ accessFlags := 2, nameIndex := 9, descriptorIndex := 19, attributes := #[] }] 33 16 #[] #[{ accessFlags := 24, nameIndex := 28, descriptorIndex := 29, attributes := #[] }, { accessFlags := 26, nameIndex := 38, descriptorIndex := 39, attributes := #[] }, { accessFlags := 25, nameIndex := 121, descriptorIndex := 25, attributes := #[] }, { accessFlags := 25, nameIndex := 131, descriptorIndex := 25, attributes := #[] }, { accessFlags := 25, nameIndex := 137, descriptorIndex := 25, attributes := #[] }, { accessFlags := 25, nameIndex := 143, descriptorIndex := 25, attributes := #[] }, { accessFlags := 25, nameIndex := 53, descriptorIndex := 25, attributes := #[] }, { accessFlags := 25, nameIndex := 24, descriptorIndex := 25, attributes := #[] }, { accessFlags := 25, nameIndex := 162, descriptorIndex := 25, attributes := #[] }, { accessFlags := 25, nameIndex := 187, descriptorIndex := 25, attributes := #[] }, { accessFlags := 26, nameIndex := 48, descriptorIndex := 25, attributes := #[] }, { accessFlags := 25, nameIndex := 277, descriptorIndex := 25, attributes := #[] }, { accessFlags := 25, nameIndex := 280, descriptorIndex := 25, attributes := #[] }, { accessFlags := 25, nameIndex := 282, descriptorIndex := 25, attributes := #[] }, { accessFlags := 25, nameIndex := 284, descriptorIndex := 25, attributes := #[] }, { accessFlags := 25, nameIndex := 286, descriptorIndex := 25, attributes := #[] }, { accessFlags := 25, nameIndex := 288, descriptorIndex := 25, attributes := #[] }, { accessFlags := 25, nameIndex := 290, descriptorIndex := 25, attributes := #[] }, { accessFlags := 25, nameIndex := 292, descriptorIndex := 25, attributes := #[] }, { accessFlags := 26, nameIndex := 108, descriptorIndex := 109, attributes := #[] }, { accessFlags := 25, nameIndex := 294, descriptorIndex := 25, attributes := #[] }])
  fields := #[{ name := "U", type := (.object "jdk/internal/misc/Unsafe"), accessFlags := 24, slot := 0, constantValue := 0 }, { name := "BIG_ENDIAN", type := .boolean, accessFlags := 26, slot := 1, constantValue := 0 }, { name := "LOG2_ARRAY_BOOLEAN_INDEX_SCALE", type := .int, accessFlags := 25, slot := 2, constantValue := 0 }, { name := "LOG2_ARRAY_BYTE_INDEX_SCALE", type := .int, accessFlags := 25, slot := 3, constantValue := 0 }, { name := "LOG2_ARRAY_CHAR_INDEX_SCALE", type := .int, accessFlags := 25, slot := 4, constantValue := 0 }, { name := "LOG2_ARRAY_SHORT_INDEX_SCALE", type := .int, accessFlags := 25, slot := 5, constantValue := 0 }, { name := "LOG2_ARRAY_INT_INDEX_SCALE", type := .int, accessFlags := 25, slot := 6, constantValue := 0 }, { name := "LOG2_ARRAY_LONG_INDEX_SCALE", type := .int, accessFlags := 25, slot := 7, constantValue := 0 }, { name := "LOG2_ARRAY_FLOAT_INDEX_SCALE", type := .int, accessFlags := 25, slot := 8, constantValue := 0 }, { name := "LOG2_ARRAY_DOUBLE_INDEX_SCALE", type := .int, accessFlags := 25, slot := 9, constantValue := 0 }, { name := "LOG2_BYTE_BIT_SIZE", type := .int, accessFlags := 26, slot := 10, constantValue := 0 }, { name := "T_BOOLEAN", type := .int, accessFlags := 25, slot := 11, constantValue := 0 }, { name := "T_CHAR", type := .int, accessFlags := 25, slot := 12, constantValue := 0 }, { name := "T_FLOAT", type := .int, accessFlags := 25, slot := 13, constantValue := 0 }, { name := "T_DOUBLE", type := .int, accessFlags := 25, slot := 14, constantValue := 0 }, { name := "T_BYTE", type := .int, accessFlags := 25, slot := 15, constantValue := 0 }, { name := "T_SHORT", type := .int, accessFlags := 25, slot := 16, constantValue := 0 }, { name := "T_INT", type := .int, accessFlags := 25, slot := 17, constantValue := 0 }, { name := "T_LONG", type := .int, accessFlags := 25, slot := 18, constantValue := 0 }, { name := "JLA", type := (.object "jdk/internal/access/JavaLangAccess"), accessFlags := 26, slot := 19, constantValue := 0 }, { name := "SOFT_MAX_ARRAY_LENGTH", type := .int, accessFlags := 25, slot := 20, constantValue := 0 }]
  methods := #[k13m0]
  instanceTypes := #[]
  staticTypes := #[(.object "jdk/internal/misc/Unsafe"), .boolean, .int, .int, .int, .int, .int, .int, .int, .int, .int, .int, .int, .int, .int, .int, .int, .int, .int, (.object "jdk/internal/access/JavaLangAccess"), .int]
  resolved := Array.replicate 378 none
  statics := none }

/-- the primitive byte -/
def k14 : Class := { plain "byte" none with kind := .primitive 'B', accessFlags := 0x411 }
/-- [B -/
def k15 : Class := { plain "[B" (some 0) with kind := .array 14 .byte, interfaces := #[9, 3], accessFlags := 1041 }

/-- the primitive int -/
def k16 : Class := { plain "int" none with kind := .primitive 'I', accessFlags := 0x411 }
/-- [I -/
def k17 : Class := { plain "[I" (some 0) with kind := .array 16 .int, interfaces := #[9, 3], accessFlags := 1041 }

def heap : Heap := #[{ cls := 8, slots := #[.long 0, .int 1, .null, .int 0, .null, .int 0, .int 0], vm := .statics 8 },
  { cls := 12, slots := #[.null, .null, .null], vm := .statics 12 }]
def classes : Array Class := #[k0, k1, k2, k3, k4, k5, k6, k7, k8, k9, k10, k11, k12, k13, k14, k15, k16, k17]
def interned : List (Array UInt16 × Addr) := []
def slotsUsed : Nat := 10
def theMethod : MethodId := ⟨1, 1⟩
def args0 : Array Value := #[.int 5, .int 4, .int 3, .int 2, .int 1]
def aboutOver (below : List Frame) : State where
  vm := { classes := classes, interned := interned.toArray }
  heap := heap
  slotsUsed := slotsUsed
  threads := #[{ frames := .invoking theMethod args0 :: below }]
def below0 : List Frame := [.native { method := ⟨0, 0⟩, args := #[] }]
def about1 : State := aboutOver below0
def p0 : Program := .bare "" "" ""
def e0 : Env := launch0.env 0 0 0
theorem w_frames : about1.frames = Frame.invoking theMethod args0 :: below0 := rfl
set_option maxRecDepth 65536 in
theorem w_args : argsFit about1.vm theMethod args0 = true := by decide +kernel
set_option maxRecDepth 65536 in
theorem w_heap : heapFits about1 = true := by decide +kernel
set_option maxRecDepth 65536 in
theorem w_runnable : about1.curStatus? = some .runnable := by decide +kernel
set_option maxRecDepth 65536 in
theorem w_alone : about1.alone = true := by decide +kernel
set_option maxRecDepth 65536 in
theorem w_named : about1.methodNamed? x = some theMethod := by decide +kernel
set_option maxRecDepth 65536 in
theorem w_hears : about1.hears theMethod below0 = true := by decide +kernel
set_option maxRecDepth 65536 in
theorem w_ripe : about1.ripe theMethod args0 below0 = true := by decide +kernel
theorem w_running : about1.status = .running := rfl
set_option maxRecDepth 65536 in
theorem w_room : about1.hasRoom e0.platform room_1 = true :=
  launch0.hasRoom_least _ room_1 (by decide +kernel) (by decide +kernel) (by decide +kernel) (by decide +kernel) (by decide +kernel) (by decide +kernel)
theorem allAtoms_all (ts : List Jvm.Cond) (a : Array Jvm.Value) (st : Jvm.State) : (allAtoms ts).before a st = ts.all (fun c => c.before a st) := by
  induction ts with
  | nil => rfl
  | cons c t ih =>
    show (Jvm.Cond.and c (allAtoms t)).before a st = _
    rw [Jvm.Cond.before_and, ih, List.all_cons]
def words1 : List Jvm.Cond := Jvm.Cond.code x code maxLocals ret :: tables_1
/-- a 'code' word, met by the world's own term for the bytes: nothing is compared byte by byte -/
theorem code_word {y : MethodName} {bytes : ByteArray} {mx : Nat} {rt : Option FieldType} {a : Array Value} {s : State} {m : MethodId} {meth : Method} {c : Code} (h1 : s.methodNamed? y = some m) (h2 : s.vm.method? m = some meth) (h3 : meth.code = some c) (h4 : c.code = bytes)
    (h5 : (c.maxLocals == mx && c.exceptionTable.isEmpty && decide (c.maxStack ≤ mostOperands) && decide (meth.sig.returnType = rt) && !meth.locks && decide (parseMethodDescriptor y.desc = some meth.sig)) = true) : (Jvm.Cond.code y bytes mx rt).before a s = true := by
  simp only [Bool.and_eq_true, beq_iff_eq, Bool.not_eq_true', decide_eq_true_eq] at h5
  obtain ⟨⟨⟨⟨⟨g1, g2⟩, g3⟩, g4⟩, g5⟩, g6⟩ := h5
  simp [Cond.before, Cond.holds, Cond.value, h1, h2, h3, h4, g1, g2, g3, g4, g5, g6]
def isCode : Jvm.Cond → Bool
  | .code _ _ _ _ => true
  | _ => false
theorem all_split {L : List Jvm.Cond} {P : Jvm.Cond → Bool} (h1 : L.all (fun c => isCode c || P c) = true) (h2 : ∀ c ∈ L.filter isCode, P c = true) : L.all P = true := by
  refine List.all_eq_true.mpr fun c hc => ?_
  have h := List.all_eq_true.mp h1 c hc
  rcases Bool.eq_false_or_eq_true (isCode c) with hi | hi
  · exact h2 c (List.mem_filter.mpr ⟨hc, hi⟩)
  · simpa [hi] using h
set_option maxRecDepth 65536 in
theorem w_c0 : (Jvm.Cond.code x code maxLocals ret).before args0 about1 = true := code_word (m := ⟨1, 1⟩) (meth := k1m1) (c := k1c1) (by decide +kernel) rfl rfl rfl (by decide +kernel)
set_option maxRecDepth 65536 in
theorem w_c1 : (Jvm.Cond.code ({ cls := "com/example/tailorbird/tailorbird/FormRequest", name := "<init>", desc := "(Ljava/lang/String;Ljava/lang/String;Ljava/lang/String;[B)V" } : Jvm.MethodName) prog_13_method_1_code (5 : Nat) (Option.none : Option Jvm.ClassFile.FieldType)).before args0 about1 = true := code_word (m := ⟨2, 0⟩) (meth := k2m0) (c := k2c0) (by decide +kernel) rfl rfl rfl (by decide +kernel)
set_option maxRecDepth 65536 in
theorem w_c2 : (Jvm.Cond.code ({ cls := "com/example/tailorbird/tailorbird/FormRequest", name := "<init>", desc := "(Ljava/lang/String;Ljava/lang/CharSequence;Ljava/lang/String;[BZ)V" } : Jvm.MethodName) prog_13_method_2_code (6 : Nat) (Option.none : Option Jvm.ClassFile.FieldType)).before args0 about1 = true := code_word (m := ⟨2, 1⟩) (meth := k2m1) (c := k2c1) (by decide +kernel) rfl rfl rfl (by decide +kernel)
set_option maxRecDepth 65536 in
theorem w_c3 : (Jvm.Cond.code ({ cls := "java/lang/Object", name := "<init>", desc := "()V" } : Jvm.MethodName) object_method_1_code (1 : Nat) (Option.none : Option Jvm.ClassFile.FieldType)).before args0 about1 = true := code_word (m := ⟨0, 0⟩) (meth := k0m0) (c := k0c0) (by decide +kernel) rfl rfl rfl (by decide +kernel)
set_option maxRecDepth 65536 in
theorem w_c4 : (Jvm.Cond.code ({ cls := "java/util/Objects", name := "requireNonNull", desc := "(Ljava/lang/Object;Ljava/lang/String;)Ljava/lang/Object;" } : Jvm.MethodName) jdk_31_method_11_code (2 : Nat) (Option.some (Jvm.ClassFile.FieldType.object "java/lang/Object"))).before args0 about1 = true := code_word (m := ⟨10, 1⟩) (meth := k10m1) (c := k10c1) (by decide +kernel) rfl rfl rfl (by decide +kernel)
set_option maxRecDepth 65536 in
theorem w_c5 : (Jvm.Cond.code ({ cls := "com/example/tailorbird/tailorbird/FormRequest", name := "requireNoControlCharacter", desc := "(Ljava/lang/String;Ljava/lang/String;)Ljava/lang/String;" } : Jvm.MethodName) prog_13_method_7_code (3 : Nat) (Option.some (Jvm.ClassFile.FieldType.object "java/lang/String"))).before args0 about1 = true := code_word (m := ⟨2, 4⟩) (meth := k2m4) (c := k2c4) (by decide +kernel) rfl rfl rfl (by decide +kernel)
set_option maxRecDepth 65536 in
theorem w_c6 : (Jvm.Cond.code ({ cls := "com/example/tailorbird/tailorbird/FormRequest", name := "indexOfControlCharacter", desc := "(Ljava/lang/String;)I" } : Jvm.MethodName) prog_13_method_4_code (2 : Nat) (Option.some Jvm.ClassFile.FieldType.int)).before args0 about1 = true := code_word (m := ⟨2, 2⟩) (meth := k2m2) (c := k2c2) (by decide +kernel) rfl rfl rfl (by decide +kernel)
set_option maxRecDepth 65536 in
theorem w_c7 : (Jvm.Cond.code ({ cls := "java/lang/String", name := "length", desc := "()I" } : Jvm.MethodName) jdk_42_method_54_code (1 : Nat) (Option.some Jvm.ClassFile.FieldType.int)).before args0 about1 = true := code_word (m := ⟨8, 1⟩) (meth := k8m1) (c := k8c1) (by decide +kernel) rfl rfl rfl (by decide +kernel)
set_option maxRecDepth 65536 in
theorem w_c8 : (Jvm.Cond.code ({ cls := "java/lang/String", name := "coder", desc := "()B" } : Jvm.MethodName) jdk_42_method_152_code (1 : Nat) (Option.some Jvm.ClassFile.FieldType.byte)).before args0 about1 = true := code_word (m := ⟨8, 4⟩) (meth := k8m4) (c := k8c4) (by decide +kernel) rfl rfl rfl (by decide +kernel)
set_option maxRecDepth 65536 in
theorem w_c9 : (Jvm.Cond.code ({ cls := "java/lang/String", name := "charAt", desc := "(I)C" } : Jvm.MethodName) jdk_42_method_56_code (2 : Nat) (Option.some Jvm.ClassFile.FieldType.char)).before args0 about1 = true := code_word (m := ⟨8, 2⟩) (meth := k8m2) (c := k8c2) (by decide +kernel) rfl rfl rfl (by decide +kernel)
set_option maxRecDepth 65536 in
theorem w_c10 : (Jvm.Cond.code ({ cls := "java/lang/String", name := "isLatin1", desc := "()Z" } : Jvm.MethodName) jdk_42_method_154_code (1 : Nat) (Option.some Jvm.ClassFile.FieldType.boolean)).before args0 about1 = true := code_word (m := ⟨8, 5⟩) (meth := k8m5) (c := k8c5) (by decide +kernel) rfl rfl rfl (by decide +kernel)
set_option maxRecDepth 65536 in
theorem w_c11 : (Jvm.Cond.code ({ cls := "java/lang/StringLatin1", name := "charAt", desc := "([BI)C" } : Jvm.MethodName) jdk_43_method_2_code (2 : Nat) (Option.some Jvm.ClassFile.FieldType.char)).before args0 about1 = true := code_word (m := ⟨11, 1⟩) (meth := k11m1) (c := k11c1) (by decide +kernel) rfl rfl rfl (by decide +kernel)
set_option maxRecDepth 65536 in
theorem w_c12 : (Jvm.Cond.code ({ cls := "java/lang/String", name := "checkIndex", desc := "(II)V" } : Jvm.MethodName) jdk_42_method_155_code (2 : Nat) (Option.none : Option Jvm.ClassFile.FieldType)).before args0 about1 = true := code_word (m := ⟨8, 6⟩) (meth := k8m6) (c := k8c6) (by decide +kernel) rfl rfl rfl (by decide +kernel)
set_option maxRecDepth 65536 in
theorem w_c13 : (Jvm.Cond.code ({ cls := "jdk/internal/util/Preconditions", name := "checkIndex", desc := "(IILjava/util/function/BiFunction;)I" } : Jvm.MethodName) jdk_41_method_11_code (3 : Nat) (Option.some Jvm.ClassFile.FieldType.int)).before args0 about1 = true := code_word (m := ⟨12, 1⟩) (meth := k12m1) (c := k12c1) (by decide +kernel) rfl rfl rfl (by decide +kernel)
set_option maxRecDepth 65536 in
theorem w_c14 : (Jvm.Cond.code ({ cls := "com/example/tailorbird/tailorbird/FormRequest", name := "isControlCharacter", desc := "(I)Z" } : Jvm.MethodName) prog_13_method_6_code (1 : Nat) (Option.some Jvm.ClassFile.FieldType.boolean)).before args0 about1 = true := code_word (m := ⟨2, 3⟩) (meth := k2m3) (c := k2c3) (by decide +kernel) rfl rfl rfl (by decide +kernel)
set_option maxRecDepth 65536 in
theorem w_c15 : (Jvm.Cond.code ({ cls := "java/lang/String", name := "toString", desc := "()Ljava/lang/String;" } : Jvm.MethodName) jdk_42_method_126_code (1 : Nat) (Option.some (Jvm.ClassFile.FieldType.object "java/lang/String"))).before args0 about1 = true := code_word (m := ⟨8, 3⟩) (meth := k8m3) (c := k8c3) (by decide +kernel) rfl rfl rfl (by decide +kernel)
set_option maxRecDepth 65536 in
theorem w_c16 : (Jvm.Cond.code ({ cls := "com/example/tailorbird/tailorbird/FormRequest", name := "body", desc := "()[B" } : Jvm.MethodName) prog_13_method_11_code (1 : Nat) (Option.some (Jvm.ClassFile.FieldType.array Jvm.ClassFile.FieldType.byte))).before args0 about1 = true := code_word (m := ⟨2, 5⟩) (meth := k2m5) (c := k2c5) (by decide +kernel) rfl rfl rfl (by decide +kernel)
set_option maxRecDepth 65536 in
theorem w_c17 : (Jvm.Cond.code ({ cls := "com/example/tailorbird/tailorbird/FormRequestBodyPinLaw", name := "holds", desc := "([BIIII)Z" } : Jvm.MethodName) method_3_code (6 : Nat) (Option.some Jvm.ClassFile.FieldType.boolean)).before args0 about1 = true := code_word (m := ⟨1, 2⟩) (meth := k1m2) (c := k1c2) (by decide +kernel) rfl rfl rfl (by decide +kernel)
set_option maxRecDepth 65536 in
theorem w_c18 : (Jvm.Cond.code ({ cls := "com/example/tailorbird/tailorbird/FormRequestBodyPinLaw", name := "flip", desc := "([B)V" } : Jvm.MethodName) method_4_code (1 : Nat) (Option.none : Option Jvm.ClassFile.FieldType)).before args0 about1 = true := code_word (m := ⟨1, 3⟩) (meth := k1m3) (c := k1c3) (by decide +kernel) rfl rfl rfl (by decide +kernel)
def codes1 : List Jvm.Cond := [Jvm.Cond.code x code maxLocals ret, Jvm.Cond.code ({ cls := "com/example/tailorbird/tailorbird/FormRequest", name := "<init>", desc := "(Ljava/lang/String;Ljava/lang/String;Ljava/lang/String;[B)V" } : Jvm.MethodName) prog_13_method_1_code (5 : Nat) (Option.none : Option Jvm.ClassFile.FieldType), Jvm.Cond.code ({ cls := "com/example/tailorbird/tailorbird/FormRequest", name := "<init>", desc := "(Ljava/lang/String;Ljava/lang/CharSequence;Ljava/lang/String;[BZ)V" } : Jvm.MethodName) prog_13_method_2_code (6 : Nat) (Option.none : Option Jvm.ClassFile.FieldType), Jvm.Cond.code ({ cls := "java/lang/Object", name := "<init>", desc := "()V" } : Jvm.MethodName) object_method_1_code (1 : Nat) (Option.none : Option Jvm.ClassFile.FieldType), Jvm.Cond.code ({ cls := "java/util/Objects", name := "requireNonNull", desc := "(Ljava/lang/Object;Ljava/lang/String;)Ljava/lang/Object;" } : Jvm.MethodName) jdk_31_method_11_code (2 : Nat) (Option.some (Jvm.ClassFile.FieldType.object "java/lang/Object")), Jvm.Cond.code ({ cls := "com/example/tailorbird/tailorbird/FormRequest", name := "requireNoControlCharacter", desc := "(Ljava/lang/String;Ljava/lang/String;)Ljava/lang/String;" } : Jvm.MethodName) prog_13_method_7_code (3 : Nat) (Option.some (Jvm.ClassFile.FieldType.object "java/lang/String")), Jvm.Cond.code ({ cls := "com/example/tailorbird/tailorbird/FormRequest", name := "indexOfControlCharacter", desc := "(Ljava/lang/String;)I" } : Jvm.MethodName) prog_13_method_4_code (2 : Nat) (Option.some Jvm.ClassFile.FieldType.int), Jvm.Cond.code ({ cls := "java/lang/String", name := "length", desc := "()I" } : Jvm.MethodName) jdk_42_method_54_code (1 : Nat) (Option.some Jvm.ClassFile.FieldType.int), Jvm.Cond.code ({ cls := "java/lang/String", name := "coder", desc := "()B" } : Jvm.MethodName) jdk_42_method_152_code (1 : Nat) (Option.some Jvm.ClassFile.FieldType.byte), Jvm.Cond.code ({ cls := "java/lang/String", name := "charAt", desc := "(I)C" } : Jvm.MethodName) jdk_42_method_56_code (2 : Nat) (Option.some Jvm.ClassFile.FieldType.char), Jvm.Cond.code ({ cls := "java/lang/String", name := "isLatin1", desc := "()Z" } : Jvm.MethodName) jdk_42_method_154_code (1 : Nat) (Option.some Jvm.ClassFile.FieldType.boolean), Jvm.Cond.code ({ cls := "java/lang/StringLatin1", name := "charAt", desc := "([BI)C" } : Jvm.MethodName) jdk_43_method_2_code (2 : Nat) (Option.some Jvm.ClassFile.FieldType.char), Jvm.Cond.code ({ cls := "java/lang/String", name := "checkIndex", desc := "(II)V" } : Jvm.MethodName) jdk_42_method_155_code (2 : Nat) (Option.none : Option Jvm.ClassFile.FieldType), Jvm.Cond.code ({ cls := "jdk/internal/util/Preconditions", name := "checkIndex", desc := "(IILjava/util/function/BiFunction;)I" } : Jvm.MethodName) jdk_41_method_11_code (3 : Nat) (Option.some Jvm.ClassFile.FieldType.int), Jvm.Cond.code ({ cls := "com/example/tailorbird/tailorbird/FormRequest", name := "isControlCharacter", desc := "(I)Z" } : Jvm.MethodName) prog_13_method_6_code (1 : Nat) (Option.some Jvm.ClassFile.FieldType.boolean), Jvm.Cond.code ({ cls := "java/lang/String", name := "toString", desc := "()Ljava/lang/String;" } : Jvm.MethodName) jdk_42_method_126_code (1 : Nat) (Option.some (Jvm.ClassFile.FieldType.object "java/lang/String")), Jvm.Cond.code ({ cls := "com/example/tailorbird/tailorbird/FormRequest", name := "body", desc := "()[B" } : Jvm.MethodName) prog_13_method_11_code (1 : Nat) (Option.some (Jvm.ClassFile.FieldType.array Jvm.ClassFile.FieldType.byte)), Jvm.Cond.code ({ cls := "com/example/tailorbird/tailorbird/FormRequestBodyPinLaw", name := "holds", desc := "([BIIII)Z" } : Jvm.MethodName) method_3_code (6 : Nat) (Option.some Jvm.ClassFile.FieldType.boolean), Jvm.Cond.code ({ cls := "com/example/tailorbird/tailorbird/FormRequestBodyPinLaw", name := "flip", desc := "([B)V" } : Jvm.MethodName) method_4_code (1 : Nat) (Option.none : Option Jvm.ClassFile.FieldType)]
set_option maxRecDepth 65536 in
theorem codes_eq : words1.filter isCode = codes1 := rfl
theorem w_codes : ∀ c ∈ words1.filter isCode, c.before args0 about1 = true := by
  rw [codes_eq]
  intro c hc
  simp only [codes1, List.mem_cons, List.not_mem_nil, or_false] at hc
  rcases hc with rfl | rfl | rfl | rfl | rfl | rfl | rfl | rfl | rfl | rfl | rfl | rfl | rfl | rfl | rfl | rfl | rfl | rfl | rfl
  · exact w_c0
  · exact w_c1
  · exact w_c2
  · exact w_c3
  · exact w_c4
  · exact w_c5
  · exact w_c6
  · exact w_c7
  · exact w_c8
  · exact w_c9
  · exact w_c10
  · exact w_c11
  · exact w_c12
  · exact w_c13
  · exact w_c14
  · exact w_c15
  · exact w_c16
  · exact w_c17
  · exact w_c18
set_option maxRecDepth 65536 in
theorem w_t1 : (words1.take 24).all (fun c => isCode c || c.before args0 about1) = true := by decide +kernel
set_option maxRecDepth 65536 in
theorem w_t2 : ((words1.drop 24).take 24).all (fun c => isCode c || c.before args0 about1) = true := by decide +kernel
set_option maxRecDepth 65536 in
theorem w_t3 : (((words1.drop 24).drop 24).take 24).all (fun c => isCode c || c.before args0 about1) = true := by decide +kernel
set_option maxRecDepth 65536 in
theorem w_t4 : ((((words1.drop 24).drop 24).drop 24).take 24).all (fun c => isCode c || c.before args0 about1) = true := by decide +kernel
set_option maxRecDepth 65536 in
theorem w_t5 : ((((words1.drop 24).drop 24).drop 24).drop 24).all (fun c => isCode c || c.before args0 about1) = true := by decide +kernel
theorem w_tables : (allAtoms (Jvm.Cond.code x code maxLocals ret :: tables_1)).before args0 about1 = true := by
  rw [allAtoms_all]
  show words1.all (fun c => c.before args0 about1) = true
  refine all_split ?_ w_codes
  rw [← List.take_append_drop 24 words1, List.all_append, w_t1, ← List.take_append_drop 24 (words1.drop 24), List.all_append, w_t2, ← List.take_append_drop 24 ((words1.drop 24).drop 24), List.all_append, w_t3, ← List.take_append_drop 24 (((words1.drop 24).drop 24).drop 24), List.all_append, w_t4, w_t5]
  rfl
set_option maxRecDepth 65536 in
theorem w_rest : rest_1_c.before args0 about1 = true := by decide +kernel
set_option maxRecDepth 65536 in
theorem w_case : (Jvm.Cond.and given_1 narrow_1).before args0 about1 = true := by decide +kernel
set_option maxRecDepth 65536 in
theorem w_consts : constsHeld consts_1 about1 := Jvm.Lit.constsHeldB_iff.mp (by decide +kernel)
theorem w_applies : (headSpec (Jvm.Cond.code x code maxLocals ret :: tables_1) room_1).applies x e0.platform about1 = true :=
  (Spec.applies_iff w_frames).mpr ⟨w_running, w_runnable, w_alone, w_named, w_hears, w_ripe, w_room, w_tables⟩
theorem atStart : AtStart classFile x code maxLocals ret World_1 tables_1 room_1 Calls_1 rest_1 Pre_1 launch0 p0 e0 about1 theMethod args0 below0 :=
  ⟨lists_1, trivial, launch0.admits_env _ _ _, launch0.least_env, fairChoices_fair.cas, fairChoices_fair.clock, w_frames, w_args, w_heap, w_applies, ⟨w_consts, trivial⟩, w_rest, w_case⟩
end start1
theorem witness_1 : WitnessClaimed_1 := ⟨start1.p0, start1.e0, start1.about1, start1.theMethod, start1.args0, start1.below0, start1.atStart⟩
end Jvm.Pilot.@@N@@
