import JvmDerived
import JvmDerived.Pilot.@@N@@Statement
import JvmDerived.Pilot.@@N@@Code
set_option linter.unusedVariables false
set_option linter.unusedSimpArgs false
namespace Jvm.Ow
open Sem ClassFile Op Lib Jvm.Stand Jvm.Free Jvm.LawKit Jvm.RoadKit
abbrev jv (x : Int64) : Slot := .val (.long x)
abbrev U0 : Slot := .unset
abbrev S2 : Slot := .second
def ush (x y : Int32) : Int32 := (x.toUInt32 >>> (y &&& 31).toUInt32).toInt32
def On (l : Launch) (Z : State) (n0 : Nat) (own : String) (bytes : ByteArray) (maxL : Nat) (ret : Option FieldType) (R : Room) (p : Program) (e : Env) (s : State) (m : MethodId) (args : Array Value) (below : List Frame) (meth : Method) (c : Code) (T : State) (h : Heap) (k n : Nat) : Prop :=
  ∃ locs, Stand p l e R s m args below meth c T locs k n ∧ Fr n0 locs ∧ T.heap = h ∧ p.tables.exec = Jvm.exec ∧ Z.Warmed39 s.vm ∧ c.code = bytes ∧ c.maxLocals = maxL ∧ s.vm.findClass own = some m.cls ∧ meth.sig.returnType = ret ∧ meth.locks = false ∧ n0 ≤ s.heap.size
def Wp (p : Program) (e : Env) (below : List Frame) (s : State) (n0 ck cs : Nat) (Q : Option Value → Heap → Prop) (U : State) : Prop :=
  ∃ t o, Steps p.tables e below U t ∧ t.status = .running ∧ Ended t below o ∧ ∃ v L, o = .returned v ∧ (Fr n0 L ∧ Q v t.heap) ∧ FrameEnd s o t L ck cs
def Met (l : Launch) (Z : State) (n0 : Nat) (y : MethodName) (bytes : ByteArray) (maxL : Nat) (ret : Option FieldType) (rm : Room) (as : Array Value) (h : Heap) (Q : Option Value → Heap → Prop) : Prop :=
  ∀ ws, MetFree l y (head1 (Cond.code y bytes maxL ret :: ws) rm) (fun a U => a = as ∧ Z.Warmed39 U.vm ∧ U.heap = h) (fun _ _ _ _ _ => True) (fun _ U o U' => ∃ v L, o = .returned v ∧ (Fr n0 L ∧ Q v U'.heap) ∧ FrameEnd U o U' L rm.cells rm.slots)
def AA (Z : State) (h : Heap) (a : Addr) (ty : FieldType) (vs : List Value) : Prop := ∃ c : Cell, Arr Z h a c ty ∧ c.slots = vs.toArray ∧ vs.length < 2147483648
section Kit
variable {l : Launch} {Z : State} {n0 : Nat} {own : String} {bytes : ByteArray} {maxL : Nat} {ret : Option FieldType} {R : Room} {p : Program} {e : Env} {s : State} {m : MethodId} {args : Array Value} {below : List Frame} {meth : Method} {c : Code} {T : State} {h h' : Heap} {k n ck cs : Nat} {Q : Option Value → Heap → Prop} {pc pc' : Nat} {Ls Ls' : Array Slot} {st : List Value} {a0 : Array Value} {a b : Addr} {ty : FieldType} {vs : List Value} {sl : Nat} {v w : Value} {ws : List Addr}
theorem AA.ext (F : AA Z h a ty vs) (E : Ext h h') : AA Z h' a ty vs := by obtain ⟨c, A, r⟩ := F; exact ⟨c, A.ext E, r⟩
theorem AA.other (F : AA Z h b ty vs) (W : Wr h h' a sl v) (q : b ≠ a) : AA Z h' b ty vs := by obtain ⟨c, A, r⟩ := F; exact ⟨c, A.other W q, r⟩
theorem AA.keep (F : AA Z h a ty vs) (K : Keep h h' ws) (q : a ∉ ws) : AA Z h' a ty vs := by obtain ⟨c, A, r⟩ := F; exact ⟨c, ⟨K.2.1 a c A.1 q, A.2⟩, r⟩
theorem AA.set (F : AA Z h a ty vs) (W : Wr h h' a sl v) : AA Z h' a ty (vs.set sl v) := by
  obtain ⟨c, A, r1, r2⟩ := F
  exact ⟨_, A.same W, by simp [Cell.setSlot, r1], by simpa using r2⟩
theorem AA.lt (F : AA Z h a ty vs) : a < h.size := by obtain ⟨c, A, -⟩ := F; exact A.lt
theorem AA.cast {vs' : List Value} (F : AA Z h a ty vs) (q : vs = vs') : AA Z h a ty vs' := q ▸ F
theorem Fld.cast {C f d : String} (F : Fld Z h a C f d v) (q : v = w) : Fld Z h a C f d w := q ▸ F
theorem AA.new {cA : ClassId} {z : Int32} {i : Nat} (A : Arr Z h a (newA cA ty z) ty) (hz : z.toInt = (i : Int)) : AA Z h a ty (List.replicate i (defaultValue ty)) := by
  have q : z.toNatClampNeg = i := by show z.toInt.toNat = i; omega
  have := z.toInt_lt
  refine ⟨_, A, ?_, ?_⟩
  · simp [newA, q]
  · simp; omega
theorem lt_ne {x y z : Nat} (q : x < y) (r : y = z) : x ≠ z := by omega
theorem le_eq {x y z : Nat} (q : x ≤ y) (r : y = z) : x ≤ z := by omega
theorem On.size(A : On l Z n0 own bytes maxL ret R p e s m args below meth c T h k n) : n0 ≤ h.size := by
  obtain ⟨locs, X, N, eT, hx, hZ, hby, hml, hown, hret, hlk, hsz⟩ := A
  have := X.same.2.1
  subst eT
  exact Nat.le_trans hsz this
theorem Wp.goo {U U' : State} (f : ∀ t, Steps p.tables e below U' t → Steps p.tables e below U t) (K : Wp p e below s n0 ck cs Q U') : Wp p e below s n0 ck cs Q U := by
  obtain ⟨t, o, q, r⟩ := K; exact ⟨t, o, f t q, r⟩
theorem Wp.cast {g g' : JFrame} (q : g = g') (K : Wp p e below s n0 ck cs Q (T.setTop g')) : Wp p e below s n0 ck cs Q (T.setTop g) := q ▸ K
theorem Wp.stk {st' : List Value} (q : st = st') (K : Wp p e below s n0 ck cs Q (T.setTop (mkF m pc Ls st'))) : Wp p e below s n0 ck cs Q (T.setTop (mkF m pc Ls st)) := q ▸ K
theorem Wp.mono {Q' : Option Value → Heap → Prop} {U : State} (K : Wp p e below s n0 ck cs Q U) (q : ∀ v h, Q v h → Q' v h) : Wp p e below s n0 ck cs Q' U := by
  obtain ⟨t, o, h1, h2, h3, v, L, h4, ⟨h5, h6⟩, h7⟩ := K; exact ⟨t, o, h1, h2, h3, v, L, h4, ⟨h5, q _ _ h6⟩, h7⟩
theorem met_intro {y : MethodName} {rm : Room} {as : Array Value} (hpl : plainFor y = true) (ho : y.cls = own) (hsz : n0 ≤ h.size)
    (body : ∀ p e s m below meth c T, On l Z n0 own bytes maxL ret rm p e s m as below meth c T h 0 0 → meth.name = y.name → Wp p e below s n0 rm.cells rm.slots Q (T.setTop (entryFrame m as maxL))) : Met l Z n0 y bytes maxL ret rm as h Q := by
  subst ho
  intro ws
  refine MetFree.of_bodySF hpl hisR ?_
  intro p e s m args below meth c s₁ Bd hml0 hP hK
  obtain ⟨rfl, hZ, hh⟩ := hP
  have X0 : Stand p l e rm s m args below meth c s₁ [] 0 0 := Stand.of_body Bd
  have e0 : s₁.heap = h := by rw [← hh, Bd.state]; rfl
  exact body p e s m below meth c s₁ ⟨[], X0, Fr.nil n0, e0, Bd.exec, hZ, Bd.bytes, hml0, findClass_of_methodNamed Bd.named, Bd.returns, Bd.notSynchronized, by rw [hh]; exact hsz⟩ (name_of_methodNamed Bd.named Bd.method).1
theorem Met.mono {y : MethodName} {rm : Room} {as : Array Value} {Q' : Option Value → Heap → Prop} (M : Met l Z n0 y bytes maxL ret rm as h Q) (q : ∀ v h, Q v h → Q' v h) : Met l Z n0 y bytes maxL ret rm as h Q' := by
  intro ws p e ha hc hk s m args below hf happ hP hK
  obtain ⟨n, o, h1, h2, h3, v, L, h4, ⟨h5, h6⟩, h7⟩ := M ws p e ha hc hk s m args below hf happ hP hK
  exact ⟨n, o, h1, h2, h3, v, L, h4, ⟨h5, q _ _ h6⟩, h7⟩
theorem s_iloadN (A : On l Z n0 own bytes maxL ret R p e s m args below meth c T h k n) {i : Fin 4} {z : Int32} (hd : decode bytes pc = .ok (.iload_n i, 1)) (hp : pc + 1 = pc') (hl : Ls[i.val]? = some (.val (.int z))) (K : Wp p e below s n0 ck cs Q (T.setTop (mkF m pc' Ls (.int z :: st)))) : Wp p e below s n0 ck cs Q (T.setTop (mkF m pc Ls st)) := by
  obtain ⟨locs, X, N, eT, hx, hZ, hby, hml, hown, hret, hlk, hsz⟩ := A
  subst hp
  exact K.goo fun t q => XS.iloadN X.here hx rfl (hb hby hd) hl q
theorem s_aloadN (A : On l Z n0 own bytes maxL ret R p e s m args below meth c T h k n) {i : Fin 4} (hd : decode bytes pc = .ok (.aload_n i, 1)) (hp : pc + 1 = pc') (hl : Ls[i.val]? = some (.val v)) (hv : v.isRef = true) (K : Wp p e below s n0 ck cs Q (T.setTop (mkF m pc' Ls (v :: st)))) : Wp p e below s n0 ck cs Q (T.setTop (mkF m pc Ls st)) := by
  obtain ⟨locs, X, N, eT, hx, hZ, hby, hml, hown, hret, hlk, hsz⟩ := A
  subst hp
  exact K.goo fun t q => XS.aloadN X.here hx rfl (hb hby hd) hl hv q
theorem s_istoreN (A : On l Z n0 own bytes maxL ret R p e s m args below meth c T h k n) {i : Fin 4} {z : Int32} (hd : decode bytes pc = .ok (.istore_n i, 1)) (hp : pc + 1 = pc') (hl : storeLocals Ls i.val (.int z) = some Ls') (K : Wp p e below s n0 ck cs Q (T.setTop (mkF m pc' Ls' st))) : Wp p e below s n0 ck cs Q (T.setTop (mkF m pc Ls (.int z :: st))) := by
  obtain ⟨locs, X, N, eT, hx, hZ, hby, hml, hown, hret, hlk, hsz⟩ := A
  subst hp
  exact K.goo fun t q => XS.istoreN X.here hx rfl (hb hby hd) rfl hl q
theorem s_astoreN (A : On l Z n0 own bytes maxL ret R p e s m args below meth c T h k n) {i : Fin 4} (hd : decode bytes pc = .ok (.astore_n i, 1)) (hp : pc + 1 = pc') (hv : v.isRef = true) (hl : storeLocals Ls i.val v = some Ls') (K : Wp p e below s n0 ck cs Q (T.setTop (mkF m pc' Ls' st))) : Wp p e below s n0 ck cs Q (T.setTop (mkF m pc Ls (v :: st))) := by
  obtain ⟨locs, X, N, eT, hx, hZ, hby, hml, hown, hret, hlk, hsz⟩ := A
  subst hp
  exact K.goo fun t q => XS.astoreN X.here hx rfl (hb hby hd) rfl hv hl q
theorem s_iload (A : On l Z n0 own bytes maxL ret R p e s m args below meth c T h k n) {i : Nat} {z : Int32} (hd : decode bytes pc = .ok (.iload i, 2)) (hp : pc + 2 = pc') (hl : Ls[i]? = some (.val (.int z))) (K : Wp p e below s n0 ck cs Q (T.setTop (mkF m pc' Ls (.int z :: st)))) : Wp p e below s n0 ck cs Q (T.setTop (mkF m pc Ls st)) := by
  obtain ⟨locs, X, N, eT, hx, hZ, hby, hml, hown, hret, hlk, hsz⟩ := A
  subst hp
  exact K.goo fun t q => XS.iload X.here hx rfl (hb hby hd) hl q
theorem s_aload (A : On l Z n0 own bytes maxL ret R p e s m args below meth c T h k n) {i : Nat} (hd : decode bytes pc = .ok (.aload i, 2)) (hp : pc + 2 = pc') (hl : Ls[i]? = some (.val v)) (hv : v.isRef = true) (K : Wp p e below s n0 ck cs Q (T.setTop (mkF m pc' Ls (v :: st)))) : Wp p e below s n0 ck cs Q (T.setTop (mkF m pc Ls st)) := by
  obtain ⟨locs, X, N, eT, hx, hZ, hby, hml, hown, hret, hlk, hsz⟩ := A
  subst hp
  exact K.goo fun t q => XS.aload X.here hx rfl (hb hby hd) hl hv q
theorem s_istore (A : On l Z n0 own bytes maxL ret R p e s m args below meth c T h k n) {i : Nat} {z : Int32} (hd : decode bytes pc = .ok (.istore i, 2)) (hp : pc + 2 = pc') (hl : storeLocals Ls i (.int z) = some Ls') (K : Wp p e below s n0 ck cs Q (T.setTop (mkF m pc' Ls' st))) : Wp p e below s n0 ck cs Q (T.setTop (mkF m pc Ls (.int z :: st))) := by
  obtain ⟨locs, X, N, eT, hx, hZ, hby, hml, hown, hret, hlk, hsz⟩ := A
  subst hp
  exact K.goo fun t q => XS.istore X.here hx rfl (hb hby hd) rfl hl q
theorem s_astore (A : On l Z n0 own bytes maxL ret R p e s m args below meth c T h k n) {i : Nat} (hd : decode bytes pc = .ok (.astore i, 2)) (hp : pc + 2 = pc') (hv : v.isRef = true) (hl : storeLocals Ls i v = some Ls') (K : Wp p e below s n0 ck cs Q (T.setTop (mkF m pc' Ls' st))) : Wp p e below s n0 ck cs Q (T.setTop (mkF m pc Ls (v :: st))) := by
  obtain ⟨locs, X, N, eT, hx, hZ, hby, hml, hown, hret, hlk, hsz⟩ := A
  subst hp
  exact K.goo fun t q => XS.astore X.here hx rfl (hb hby hd) rfl hv hl q
theorem s_iconst (A : On l Z n0 own bytes maxL ret R p e s m args below meth c T h k n) {i : Int} {z : Int32} (hd : decode bytes pc = .ok (.iconst i, 1)) (hp : pc + 1 = pc') (hz : Int32.ofInt i = z) (K : Wp p e below s n0 ck cs Q (T.setTop (mkF m pc' Ls (.int z :: st)))) : Wp p e below s n0 ck cs Q (T.setTop (mkF m pc Ls st)) := by
  obtain ⟨locs, X, N, eT, hx, hZ, hby, hml, hown, hret, hlk, hsz⟩ := A
  subst hp
  subst hz
  exact K.goo fun t q => XS.iconst X.here hx rfl (hb hby hd) q
theorem s_bipush (A : On l Z n0 own bytes maxL ret R p e s m args below meth c T h k n) {i : Int} {z : Int32} (hd : decode bytes pc = .ok (.bipush i, 2)) (hp : pc + 2 = pc') (hz : (Int8.ofInt i).toInt32 = z) (K : Wp p e below s n0 ck cs Q (T.setTop (mkF m pc' Ls (.int z :: st)))) : Wp p e below s n0 ck cs Q (T.setTop (mkF m pc Ls st)) := by
  obtain ⟨locs, X, N, eT, hx, hZ, hby, hml, hown, hret, hlk, hsz⟩ := A
  subst hp
  subst hz
  exact K.goo fun t q => XS.bipush X.here hx rfl (hb hby hd) q
theorem s_iand (A : On l Z n0 own bytes maxL ret R p e s m args below meth c T h k n) {x y z : Int32} (hd : decode bytes pc = .ok (.iand, 1)) (hp : pc + 1 = pc') (hz : x &&& y = z) (K : Wp p e below s n0 ck cs Q (T.setTop (mkF m pc' Ls (.int z :: st)))) : Wp p e below s n0 ck cs Q (T.setTop (mkF m pc Ls (.int y :: .int x :: st))) := by
  obtain ⟨locs, X, N, eT, hx, hZ, hby, hml, hown, hret, hlk, hsz⟩ := A
  subst hp
  subst hz
  exact K.goo fun t q => XS.iand X.here hx rfl (hb hby hd) rfl q
theorem s_iushr (A : On l Z n0 own bytes maxL ret R p e s m args below meth c T h k n) {x y z : Int32} (hd : decode bytes pc = .ok (.iushr, 1)) (hp : pc + 1 = pc') (hz : ush x y = z) (K : Wp p e below s n0 ck cs Q (T.setTop (mkF m pc' Ls (.int z :: st)))) : Wp p e below s n0 ck cs Q (T.setTop (mkF m pc Ls (.int y :: .int x :: st))) := by
  obtain ⟨locs, X, N, eT, hx, hZ, hby, hml, hown, hret, hlk, hsz⟩ := A
  subst hp
  subst hz
  exact K.goo fun t q => XS.iushr X.here hx rfl (hb hby hd) rfl q
theorem s_dup (A : On l Z n0 own bytes maxL ret R p e s m args below meth c T h k n)  (hd : decode bytes pc = .ok (.dup, 1)) (hp : pc + 1 = pc') (hc : v.category = 1) (K : Wp p e below s n0 ck cs Q (T.setTop (mkF m pc' Ls (v :: v :: st)))) : Wp p e below s n0 ck cs Q (T.setTop (mkF m pc Ls (v :: st))) := by
  obtain ⟨locs, X, N, eT, hx, hZ, hby, hml, hown, hret, hlk, hsz⟩ := A
  subst hp
  exact K.goo fun t q => XS.dup X.here hx rfl (hb hby hd) rfl hc q
theorem s_iinc (A : On l Z n0 own bytes maxL ret R p e s m args below meth c T h k n) {i : Nat} {j : Int} {x z : Int32} (hd : decode bytes pc = .ok (.iinc i j, 3)) (hp : pc + 3 = pc') (hl : Ls[i]? = some (.val (.int x))) (hz : x + Int32.ofInt j = z) (hs : storeLocals Ls i (.int z) = some Ls') (K : Wp p e below s n0 ck cs Q (T.setTop (mkF m pc' Ls' st))) : Wp p e below s n0 ck cs Q (T.setTop (mkF m pc Ls st)) := by
  obtain ⟨locs, X, N, eT, hx, hZ, hby, hml, hown, hret, hlk, hsz⟩ := A
  subst hp
  subst hz
  exact K.goo fun t q => XS.iinc X.here hx rfl (hb hby hd) hl hs q
theorem s_goto (A : On l Z n0 own bytes maxL ret R p e s m args below meth c T h k n)  {o : Int} (hd : decode bytes pc = .ok (.goto o, 3))  (ho : 0 ≤ (pc : Int) + o) (hp : ((pc : Int) + o).toNat = pc') (K : Wp p e below s n0 ck cs Q (T.setTop (mkF m pc' Ls st))) : Wp p e below s n0 ck cs Q (T.setTop (mkF m pc Ls st)) := by
  obtain ⟨locs, X, N, eT, hx, hZ, hby, hml, hown, hret, hlk, hsz⟩ := A
  exact K.goo fun t q => XS.goto X.here hx rfl (pc0 := pc) rfl (hb hby hd) ho hp q
theorem s_ifY (A : On l Z n0 own bytes maxL ret R p e s m args below meth c T h k n) {cd : ClassFile.Cond} {x : Int32} {o : Int} (hd : decode bytes pc = .ok (.ifCond cd o, 3)) (hc : ifCond.holds cd x = true) (ho : 0 ≤ (pc : Int) + o) (hp : ((pc : Int) + o).toNat = pc') (K : Wp p e below s n0 ck cs Q (T.setTop (mkF m pc' Ls st))) : Wp p e below s n0 ck cs Q (T.setTop (mkF m pc Ls (.int x :: st))) := by
  obtain ⟨locs, X, N, eT, hx, hZ, hby, hml, hown, hret, hlk, hsz⟩ := A
  exact K.goo fun t q => XS.ifYes X.here hx rfl (pc0 := pc) rfl (hb hby hd) rfl hc ho hp q
theorem s_icmpY (A : On l Z n0 own bytes maxL ret R p e s m args below meth c T h k n) {cd : ClassFile.Cond} {x y : Int32} {o : Int} (hd : decode bytes pc = .ok (.if_icmp cd o, 3)) (hc : if_icmp.holds cd x y = true) (ho : 0 ≤ (pc : Int) + o) (hp : ((pc : Int) + o).toNat = pc') (K : Wp p e below s n0 ck cs Q (T.setTop (mkF m pc' Ls st))) : Wp p e below s n0 ck cs Q (T.setTop (mkF m pc Ls (.int y :: .int x :: st))) := by
  obtain ⟨locs, X, N, eT, hx, hZ, hby, hml, hown, hret, hlk, hsz⟩ := A
  exact K.goo fun t q => XS.icmpYes X.here hx rfl (pc0 := pc) rfl (hb hby hd) rfl hc ho hp q
theorem s_ifN (A : On l Z n0 own bytes maxL ret R p e s m args below meth c T h k n) {cd : ClassFile.Cond} {x : Int32} {o : Int} (hd : decode bytes pc = .ok (.ifCond cd o, 3)) (hp : pc + 3 = pc') (hc : ifCond.holds cd x = false) (K : Wp p e below s n0 ck cs Q (T.setTop (mkF m pc' Ls st))) : Wp p e below s n0 ck cs Q (T.setTop (mkF m pc Ls (.int x :: st))) := by
  obtain ⟨locs, X, N, eT, hx, hZ, hby, hml, hown, hret, hlk, hsz⟩ := A
  subst hp
  exact K.goo fun t q => XS.ifNo X.here hx rfl (hb hby hd) rfl hc q
theorem s_icmpN (A : On l Z n0 own bytes maxL ret R p e s m args below meth c T h k n) {cd : ClassFile.Cond} {x y : Int32} {o : Int} (hd : decode bytes pc = .ok (.if_icmp cd o, 3)) (hp : pc + 3 = pc') (hc : if_icmp.holds cd x y = false) (K : Wp p e below s n0 ck cs Q (T.setTop (mkF m pc' Ls st))) : Wp p e below s n0 ck cs Q (T.setTop (mkF m pc Ls (.int y :: .int x :: st))) := by
  obtain ⟨locs, X, N, eT, hx, hZ, hby, hml, hown, hret, hlk, hsz⟩ := A
  subst hp
  exact K.goo fun t q => XS.icmpNo X.here hx rfl (hb hby hd) rfl hc q
theorem idx_ok {j : Int32} {i : Nat} (hj : j.toInt = (i : Int)) : j.toNatClampNeg = i := by show j.toInt.toNat = i; omega
theorem idx_in' {j : Int32} {i : Nat} {N : Nat} (hj : j.toInt = (i : Int)) (hi : i < N) : ¬ (j < 0 ∨ N ≤ j.toNatClampNeg) := by
  rw [idx_ok hj, Int32.lt_iff_toInt_lt, hj]
  have : (0 : Int32).toInt = 0 := by decide
  omega
theorem s_getfield (A : On l Z n0 own bytes maxL ret R p e s m args below meth c T h k n) {index : Nat} {R0 O f d host : String} (w0 : (Cond.fieldLink own index R0 f d).before a0 Z = true ∨ (Cond.fieldLinkNest own index R0 f d host).before a0 Z = true) (via : Via Z R0 O f d) (F : Fld Z h a O f d v) (hd : decode bytes pc = .ok (.getfield index, 3)) (hp : pc + 3 = pc') (K : ∀ T' , On l Z n0 own bytes maxL ret R p e s m args below meth c T' h k n → Wp p e below s n0 ck cs Q (T'.setTop (mkF m pc' Ls (v :: st)))) : Wp p e below s n0 ck cs Q (T.setTop (mkF m pc Ls (.ref a :: st))) := by
  obtain ⟨locs, X, N, eT, hx, hZ, hby, hml, hown, hret, hlk, hsz⟩ := A
  subst hp
  obtain ⟨T', X', e', q⟩ := getF X hx hZ hown w0 via eT F (g := mkF m pc Ls (.ref a :: st)) rfl rfl (hb hby hd)
  exact (K T' ⟨_, X', N, e', hx, hZ, hby, hml, hown, hret, hlk, hsz⟩).goo q
theorem s_putfield (A : On l Z n0 own bytes maxL ret R p e s m args below meth c T h k n) {index kk : Nat} {R0 O f d host C : String} (w0 : (Cond.fieldLink own index R0 f d).before a0 Z = true ∨ (Cond.fieldLinkNest own index R0 f d host).before a0 Z = true) (via : Via Z R0 O f d) (F : Fld Z h a O f d w) (E : Exa Z h a C) (L : (Cond.lays C O f d).before a0 Z = true ∨ ((Cond.laysFinal C O f d).before a0 Z = true ∧ own = O ∧ meth.name = "<init>")) (wi : (Cond.instantiable C kk).before a0 Z = true) (hty : parseFieldDescriptor d = some ty) (hnar : narrow ty v = v) (hfit : fits ty v = true) (ha : n0 ≤ a) (hd : decode bytes pc = .ok (.putfield index, 3)) (hp : pc + 3 = pc') (K : ∀ T' h', On l Z n0 own bytes maxL ret R p e s m args below meth c T' h' k n → Wr h h' a (Jvm.RoadKit.slotOf Z O f d) v → Wp p e below s n0 ck cs Q (T'.setTop (mkF m pc' Ls st))) : Wp p e below s n0 ck cs Q (T.setTop (mkF m pc Ls (v :: .ref a :: st))) := by
  obtain ⟨locs, X, N, eT, hx, hZ, hby, hml, hown, hret, hlk, hsz⟩ := A
  subst hp
  obtain ⟨T', h', X', e', W, q⟩ := putF X hx hZ hown w0 via eT F E L wi hty hnar hfit (g := mkF m pc Ls (v :: .ref a :: st)) rfl rfl (hb hby hd)
  exact (K T' h' ⟨_, X', Fr.snoc X' N ha, e', hx, hZ, hby, hml, hown, hret, hlk, hsz⟩ W).goo q
theorem s_new (A : On l Z n0 own bytes maxL ret R p e s m args below meth c T h k n) {index ns : Nat} {C : String} (w0 : (Cond.classLink own index C).before a0 Z = true) (wi : (Cond.instantiable C ns).before a0 Z = true) (wz : (Cond.initialized C).before a0 Z = true) (hc : k + 1 ≤ R.cells) (hs : n + ns ≤ R.slots) (hd : decode bytes pc = .ok (.new index, 3)) (hp : pc + 3 = pc') (K : ∀ T' h' b, On l Z n0 own bytes maxL ret R p e s m args below meth c T' h' (k + 1) (n + ns) → h.size = b → n0 ≤ b → Ext h h' → Exa Z h' b C → (∀ {O nm d : String} {ty : FieldType}, Laid Z a0 C O nm d → parseFieldDescriptor d = some ty → Fld Z h' b O nm d (defaultValue ty)) → Wp p e below s n0 ck cs Q (T'.setTop (mkF m pc' Ls (.ref b :: st)))) : Wp p e below s n0 ck cs Q (T.setTop (mkF m pc Ls st)) := by
  obtain ⟨locs, X, N, eT, hx, hZ, hby, hml, hown, hret, hlk, hsz⟩ := A
  subst hp
  obtain ⟨T', h', X', e', E, A', D, -, q⟩ := newO X hx hZ hown w0 wi wz eT (g := mkF m pc Ls st) rfl (hb hby hd) hc hs
  have hz : n0 ≤ h.size := by rw [← eT]; exact Nat.le_trans hsz X.same.2.1
  exact (K T' h' _ ⟨_, X', N, e', hx, hZ, hby, hml, hown, hret, hlk, hsz⟩ rfl hz E A' D).goo q
theorem s_newarray (A : On l Z n0 own bytes maxL ret R p e s m args below meth c T h k n) {aty : ArrayType} {dv : Value} {z : Int32} {i cap : Nat} (hty : newarray.typeOf aty = ty) (hdv : defaultValue ty = dv) (wa : (Cond.arrayClass ty).before a0 Z = true) (hz : z.toInt = (i : Int)) (hcap : i ≤ cap) (hbig : cap * 8 ≤ 536870912) (hc : k + 1 ≤ R.cells) (hs : n + cap ≤ R.slots) (hd : decode bytes pc = .ok (.newarray aty, 2)) (hp : pc + 2 = pc') (K : ∀ T' h' b, On l Z n0 own bytes maxL ret R p e s m args below meth c T' h' (k + 1) (n + cap) → h.size = b → n0 ≤ b → Ext h h' → AA Z h' b ty (List.replicate i dv) → Wp p e below s n0 ck cs Q (T'.setTop (mkF m pc' Ls (.ref b :: st)))) : Wp p e below s n0 ck cs Q (T.setTop (mkF m pc Ls (.int z :: st))) := by
  obtain ⟨locs, X, N, eT, hx, hZ, hby, hml, hown, hret, hlk, hsz⟩ := A
  subst hp
  subst hty hdv
  have z0 : ¬ z < 0 := by rw [Int32.lt_iff_toInt_lt, hz]; have : (0 : Int32).toInt = 0 := by decide
                          omega
  obtain ⟨T', h', cA, X', e', E, A', q⟩ := newP X hx hZ wa eT (g := mkF m pc Ls (.int z :: st)) rfl (hb hby hd) rfl z0 (cap := cap) (by rw [idx_ok hz]; exact hcap) hbig hc hs
  have hz' : n0 ≤ h.size := by rw [← eT]; exact Nat.le_trans hsz X.same.2.1
  exact (K T' h' _ ⟨_, X', N, e', hx, hZ, hby, hml, hown, hret, hlk, hsz⟩ rfl hz' E (AA.new A' hz)).goo q
theorem s_iastore (A : On l Z n0 own bytes maxL ret R p e s m args below meth c T h k n) {x : Int32} {j : Int32} {i : Nat} (V : AA Z h a .int vs) (hj : j.toInt = (i : Int)) (hi : i < vs.length) (ha : n0 ≤ a) (hd : decode bytes pc = .ok (.iastore, 1)) (hp : pc + 1 = pc') (K : ∀ T' h', On l Z n0 own bytes maxL ret R p e s m args below meth c T' h' k n → Wr h h' a i (.int x) → AA Z h' a .int (vs.set i (.int x)) → Wp p e below s n0 ck cs Q (T'.setTop (mkF m pc' Ls st))) : Wp p e below s n0 ck cs Q (T.setTop (mkF m pc Ls (.int x :: .int j :: .ref a :: st))) := by
  obtain ⟨locs, X, N, eT, hx, hZ, hby, hml, hown, hret, hlk, hsz⟩ := A
  subst hp
  have V0 := V
  obtain ⟨cl, Ar, r1, r2⟩ := V0
  obtain ⟨T', h', X', e', W, q⟩ := stI X hx hZ eT Ar (j := j) (idx_in' hj (by rw [r1]; simpa using hi)) (g := mkF m pc Ls (.int x :: .int j :: .ref a :: st)) rfl rfl (hb hby hd)
  have W' := W
  rw [idx_ok hj] at W'
  exact (K T' h' ⟨_, X', Fr.snoc X' N ha, e', hx, hZ, hby, hml, hown, hret, hlk, hsz⟩ W' (V.set W')).goo q
theorem s_iaload (A : On l Z n0 own bytes maxL ret R p e s m args below meth c T h k n) {j : Int32} {i : Nat} (V : AA Z h a .int vs) (hj : j.toInt = (i : Int)) (hv : vs[i]? = some v) (hd : decode bytes pc = .ok (.iaload, 1)) (hp : pc + 1 = pc') (K : Wp p e below s n0 ck cs Q (T.setTop (mkF m pc' Ls (v :: st)))) : Wp p e below s n0 ck cs Q (T.setTop (mkF m pc Ls (.int j :: .ref a :: st))) := by
  obtain ⟨locs, X, N, eT, hx, hZ, hby, hml, hown, hret, hlk, hsz⟩ := A
  subst hp
  obtain ⟨cl, Ar, r1, r2⟩ := V
  have hi : i < vs.length := (List.getElem?_eq_some_iff.mp hv).1
  exact K.goo fun t q => X.iaload hx (j := j) (v := v) (by rw [eT]; exact Ar.1) (State.isArrayOf_alike hZ.alike Ar.2.1) Ar.2.2 (idx_in' hj (by rw [r1]; simpa using hi)) (by rw [idx_ok hj, r1]; simpa using hv) (g := mkF m pc Ls (.int j :: .ref a :: st)) rfl rfl (hb hby hd) t q
theorem s_static (A : On l Z n0 own bytes maxL ret R p e s m args below meth c T h k n) {index : Nat} {y : MethodName} {bytes' : ByteArray} {maxL' : Nat} {ret' : Option FieldType} {rm : Room} {argsL rest : List Value} {Q' : Option Value → Heap → Prop} (M : Met l Z n0 y bytes' maxL' ret' rm argsL.toArray h Q') (wl : (Cond.methodLink own index y).before a0 Z = true) (ws : (Cond.static y).before a0 Z = true) (wz : (Cond.initialized y.cls).before a0 Z = true) (wc : (Cond.code y bytes' maxL' ret').before a0 Z = true) (hy : y.cls ≠ "java/lang/invoke/MethodHandle" ∧ y.cls ≠ "java/lang/invoke/VarHandle") {sig : MethodDescriptor} (hsig : parseMethodDescriptor y.desc = some sig) (hlen : argsL.length = sig.parameters.length) {W : Nat} (hf : rm.frames + 1 ≤ R.frames) (hl : W + (maxL' + 11) + rm.locals ≤ R.locals) (hW : (rest.map fun v => v.category).sum ≤ W) (hc : k + rm.cells ≤ R.cells) (hs : n + rm.slots ≤ R.slots) (hLs : Ls.size = maxL) {stk : List Value} (hst : stk = argsL.reverse ++ rest) (hd : decode bytes pc = .ok (.invokestatic index, 3)) (hp : pc + 3 = pc') (K : ∀ T' h' v, On l Z n0 own bytes maxL ret R p e s m args below meth c T' h' (k + rm.cells) (n + rm.slots) → Q' v h' → Wp p e below s n0 ck cs Q (T'.setTop (mkF m pc' Ls (v.toList ++ rest)))) : Wp p e below s n0 ck cs Q (T.setTop (mkF m pc Ls stk)) := by
  obtain ⟨locs, X, N, eT, hx, hZ, hby, hml, hown, hret, hlk, hsz⟩ := A
  subst hp
  obtain ⟨v, _, ⟨T', L', k', n'⟩, -, X', ⟨Lc, ⟨Nq, hQ⟩, l1, l2, l3⟩, q⟩ := Jvm.LawKit.callS X hx (y := y) hown (mvT hZ wl) (mvT hZ ws) (mvT hZ wz) (mvT hZ wc) hy (backOf (Q := fun v h L => Fr n0 L ∧ Q' v h) (W := W) (M []) hZ wc wz hf hl) (g := mkF m pc Ls stk) rfl (by rw [hml]; exact hLs) (argsL := argsL) (rest := rest) (lenOf hsig hlen) hst (by show 2 * 0 + _ ≤ _; simpa using hW) (hb hby hd) (fun _ _ => ⟨rfl, eT, hc, hs⟩)
  dsimp only [Pt.U, Pt.locs, Pt.cells, Pt.slots] at X' l1 l2 l3 q hQ Nq
  subst l1 l2 l3
  exact (K T' T'.heap v ⟨_, X', Fr.app N Nq, rfl, hx, hZ, hby, hml, hown, hret, hlk, hsz⟩ hQ).goo q
theorem s_virtual (A : On l Z n0 own bytes maxL ret R p e s m args below meth c T h k n) {index : Nat} {y : MethodName} {bytes' : ByteArray} {maxL' : Nat} {ret' : Option FieldType} {rm : Room} {argsL rest : List Value} {Q' : Option Value → Heap → Prop} {C : String} {z : MethodName} (E : Exa Z h b C) (M : Met l Z n0 z bytes' maxL' ret' rm (.ref b :: argsL).toArray h Q') (wl : (Cond.methodLink own index y).before a0 Z = true) (wd : (Cond.declares y).before a0 Z = true) (wn : ∀ (args : Array Value) (s : State), Z.Warmed39 s.vm → NotFace s y) (wsel : (Cond.selects C y z).before a0 Z = true) (wim : (Cond.instanceMethod z).before a0 Z = true) (wz : (Cond.initialized z.cls).before a0 Z = true) (wc : (Cond.code z bytes' maxL' ret').before a0 Z = true) (hy : y.cls ≠ "java/lang/invoke/MethodHandle" ∧ y.cls ≠ "java/lang/invoke/VarHandle") {sig : MethodDescriptor} (hsig : parseMethodDescriptor y.desc = some sig) (hlen : argsL.length = sig.parameters.length) {W : Nat} (hf : rm.frames + 1 ≤ R.frames) (hl : W + (maxL' + 11) + rm.locals ≤ R.locals) (hW : (rest.map fun v => v.category).sum ≤ W) (hc : k + rm.cells ≤ R.cells) (hs : n + rm.slots ≤ R.slots) (hLs : Ls.size = maxL) {stk : List Value} (hst : stk = argsL.reverse ++ .ref b :: rest) (hd : decode bytes pc = .ok (.invokevirtual index, 3)) (hp : pc + 3 = pc') (K : ∀ T' h' v, On l Z n0 own bytes maxL ret R p e s m args below meth c T' h' (k + rm.cells) (n + rm.slots) → Q' v h' → Wp p e below s n0 ck cs Q (T'.setTop (mkF m pc' Ls (v.toList ++ rest)))) : Wp p e below s n0 ck cs Q (T.setTop (mkF m pc Ls stk)) := by
  obtain ⟨locs, X, N, eT, hx, hZ, hby, hml, hown, hret, hlk, hsz⟩ := A
  subst hp
  obtain ⟨cq, kq, qa, qb, qc⟩ := isOf hZ eT E
  obtain ⟨v, _, ⟨T', L', k', n'⟩, -, X', ⟨Lc, ⟨Nq, hQ⟩, l1, l2, l3⟩, q⟩ := X.virtualBack hx (y := y) (z := z) hown (mvT hZ wl) (mvT hZ wd) (wn #[] s hZ) (mvT hZ wsel) (mvT hZ wim) hy (backOf (Q := fun v h L => Fr n0 L ∧ Q' v h) (W := W) (M []) hZ wc wz hf hl) qa qc (g := mkF m pc Ls stk) rfl (by rw [hml]; exact hLs) (Steps.refl _) (argsL := argsL) (rest := rest) (lenOf hsig hlen) hst (by show 2 * 0 + _ ≤ _; simpa using hW) (hb hby hd) (fun _ _ => ⟨rfl, eT, hc, hs⟩)
  dsimp only [Pt.U, Pt.locs, Pt.cells, Pt.slots] at X' l1 l2 l3 q hQ Nq
  subst l1 l2 l3
  exact (K T' T'.heap v ⟨_, X', Fr.app N Nq, rfl, hx, hZ, hby, hml, hown, hret, hlk, hsz⟩ hQ).goo (fun t r => q.trans r)
theorem nf_same {y : MethodName} {C : String} (wsel : (Cond.selects y.cls y y).before a0 Z = true) : ∀ (args : Array Value) (s : State), Z.Warmed39 s.vm → NotFace s y := fun args s hZ => notFace_of_selects (args := #[]) (mvT hZ wsel)
theorem s_special (A : On l Z n0 own bytes maxL ret R p e s m args below meth c T h k n) {index : Nat} {y : MethodName} {bytes' : ByteArray} {maxL' : Nat} {rm : Room} {argsL rest : List Value} {Q' : Option Value → Heap → Prop} (M : Met l Z n0 y bytes' maxL' none rm (.ref b :: argsL).toArray h Q') (hy1 : y.name = "<init>") (wl : (Cond.methodLink own index y).before a0 Z = true) (wim : (Cond.instanceMethod y).before a0 Z = true) (wz : (Cond.initialized y.cls).before a0 Z = true) (wc : (Cond.code y bytes' maxL' none).before a0 Z = true) (hy : y.cls ≠ "java/lang/invoke/MethodHandle" ∧ y.cls ≠ "java/lang/invoke/VarHandle") {sig : MethodDescriptor} (hsig : parseMethodDescriptor y.desc = some sig) (hlen : argsL.length = sig.parameters.length) {W : Nat} (hf : rm.frames + 1 ≤ R.frames) (hl : W + (maxL' + 11) + rm.locals ≤ R.locals) (hW : (rest.map fun v => v.category).sum ≤ W) (hc : k + rm.cells ≤ R.cells) (hs : n + rm.slots ≤ R.slots) (hLs : Ls.size = maxL) {stk : List Value} (hst : stk = argsL.reverse ++ .ref b :: rest) (hd : decode bytes pc = .ok (.invokespecial index, 3)) (hp : pc + 3 = pc') (K : ∀ T' h' v, On l Z n0 own bytes maxL ret R p e s m args below meth c T' h' (k + rm.cells) (n + rm.slots) → Q' v h' → Wp p e below s n0 ck cs Q (T'.setTop (mkF m pc' Ls (v.toList ++ rest)))) : Wp p e below s n0 ck cs Q (T.setTop (mkF m pc Ls stk)) := by
  obtain ⟨locs, X, N, eT, hx, hZ, hby, hml, hown, hret, hlk, hsz⟩ := A
  subst hp
  obtain ⟨v, _, ⟨T', L', k', n'⟩, -, X', ⟨Lc, ⟨Nq, hQ⟩, l1, l2, l3⟩, q⟩ := X.specialBack hx (y := y) hy1 hown (mvT hZ wl) (mvT hZ wim) (mvT hZ wc) hy (backOf (Q := fun v h L => Fr n0 L ∧ Q' v h) (W := W) (M []) hZ wc wz hf hl) (g := mkF m pc Ls stk) rfl (by rw [hml]; exact hLs) (Steps.refl _) (a := b) (argsL := argsL) (rest := rest) (lenOf hsig hlen) hst (by show 2 * 0 + _ ≤ _; simpa using hW) (hb hby hd) (fun _ _ => ⟨rfl, eT, hc, hs⟩)
  dsimp only [Pt.U, Pt.locs, Pt.cells, Pt.slots] at X' l1 l2 l3 q hQ Nq
  subst l1 l2 l3
  exact (K T' T'.heap v ⟨_, X', Fr.app N Nq, rfl, hx, hZ, hby, hml, hown, hret, hlk, hsz⟩ hQ).goo (fun t r => q.trans r)
theorem s_initO (A : On l Z n0 own bytes maxL ret R p e s m args below meth c T h k n) {index : Nat} (w1 : (Cond.methodLink own index Lib.objectInit).before a0 Z = true) (w2 : (Cond.instanceMethod Lib.objectInit).before a0 Z = true) (w3 : (Cond.code Lib.objectInit ⟨#[0xb1]⟩ 1 none).before a0 Z = true) {W : Nat} (hf : 1 ≤ R.frames) (hW : (st.map fun v => v.category).sum ≤ W) (hl : W + 12 ≤ R.locals) (hLs : Ls.size = maxL) (hd : decode bytes pc = .ok (.invokespecial index, 3)) (hp : pc + 3 = pc') (K : ∀ T', On l Z n0 own bytes maxL ret R p e s m args below meth c T' h k n → Wp p e below s n0 ck cs Q (T'.setTop (mkF m pc' Ls st))) : Wp p e below s n0 ck cs Q (T.setTop (mkF m pc Ls (.ref a :: st))) := by
  obtain ⟨locs, X, N, eT, hx, hZ, hby, hml, hown, hret, hlk, hsz⟩ := A
  subst hp
  obtain ⟨T', X', e', q⟩ := initO X hx hZ hown w1 w2 w3 eT (g := mkF m pc Ls (.ref a :: st)) rfl (by rw [hml]; exact hLs) rfl (hb hby hd) hf (W := W) (by show 2 * 0 + _ ≤ _; simpa using hW) hl
  exact (K T' ⟨_, X', N, e', hx, hZ, hby, hml, hown, hret, hlk, hsz⟩).goo q
theorem r_void (A : On l Z n0 own bytes maxL ret R p e s m args below meth c T h k n) (hr : ret = none) (hd : decode bytes pc = .ok (.return_, 1)) (hk : k ≤ ck) (hn : n ≤ cs) (q : Q none h) : Wp p e below s n0 ck cs Q (T.setTop (mkF m pc Ls [])) := by
  obtain ⟨locs, X, N, eT, hx, hZ, hby, hml, hown, hret, hlk, hsz⟩ := A
  have hR : meth.sig.returnType = none := hret.trans hr
  obtain ⟨fs, h1, hrun, hended, hW, hsame⟩ := X.leave (v := none) (fun _ => rfl) hlk
  exact ⟨_, _, X.returnOut hx hR (hb hby hd) h1, hrun, hended, _, _, rfl, ⟨N, by show Q none T.heap; rw [eT]; exact q⟩, ⟨_, rfl⟩, hW, hsame.mono hk hn⟩
theorem r_val (A : On l Z n0 own bytes maxL ret R p e s m args below meth c T h k n) {i : Instr} {t : FieldType} (hr : ret = some t) (hn0 : narrow t v = v) (hi : (i = .ireturn ∧ (t = .int ∨ t = .boolean ∨ t = .byte ∨ t = .char ∨ t = .short) ∧ ∃ z, v = .int z) ∨ (i = .lreturn ∧ t = .long ∧ ∃ z, v = .long z) ∨ (i = .dreturn ∧ t = .double ∧ ∃ z, v = .double z) ∨ (i = .freturn ∧ t = .float ∧ ∃ z, v = .float z) ∨ (i = .areturn ∧ t.isReference = true ∧ v.isRef = true)) (hd : decode bytes pc = .ok (i, 1)) (hk : k ≤ ck) (hn : n ≤ cs) (q : Q (some v) h) : Wp p e below s n0 ck cs Q (T.setTop (mkF m pc Ls (v :: st))) := by
  obtain ⟨locs, X, N, eT, hx, hZ, hby, hml, hown, hret, hlk, hsz⟩ := A
  have hR : meth.sig.returnType = some t := hret.trans hr
  obtain ⟨fs, h1, hrun, hended, hW, hsame⟩ := X.leave (v := some v) (fun z => by rw [hR] at z; cases z) hlk
  exact ⟨_, _, retOut X hx hR hn0 hi (hb hby hd) h1, hrun, hended, _, _, rfl, ⟨N, by show Q (some v) T.heap; rw [eT]; exact q⟩, ⟨_, rfl⟩, hW, hsame.mono hk hn⟩
theorem r_int (A : On l Z n0 own bytes maxL ret R p e s m args below meth c T h k n) {z : Int32} (hr : ret = some .int) (hd : decode bytes pc = .ok (.ireturn, 1)) (hk : k ≤ ck) (hn : n ≤ cs) (q : Q (some (.int z)) h) : Wp p e below s n0 ck cs Q (T.setTop (mkF m pc Ls (.int z :: st))) := r_val A hr rfl (Or.inl ⟨rfl, Or.inl rfl, _, rfl⟩) hd hk hn q
theorem r_bool (A : On l Z n0 own bytes maxL ret R p e s m args below meth c T h k n) {z : Int32} (hr : ret = some .boolean) (hz : z = 0 ∨ z = 1) (hd : decode bytes pc = .ok (.ireturn, 1)) (hk : k ≤ ck) (hn : n ≤ cs) (q : Q (some (.int z)) h) : Wp p e below s n0 ck cs Q (T.setTop (mkF m pc Ls (.int z :: st))) := r_val A hr (by rcases hz with rfl | rfl <;> rfl) (Or.inl ⟨rfl, Or.inr (Or.inl rfl), _, rfl⟩) hd hk hn q
end Kit
end Jvm.Ow
namespace Jvm.Pilot.@@N@@
open Jvm Jvm.ClassFile Sem Op Lib Jvm.Free Jvm.Stand Jvm.LawKit Jvm.RoadKit Jvm.Ow Bundle Jvm.Pilot.@@N@@.Jvm.D
theorem d4_0 : decode prog_15_method_2_code 0 = .ok (.aload_n 0, 1) := by decide +kernel
theorem d4_1 : decode prog_15_method_2_code 1 = .ok (.getfield 7, 3) := by decide +kernel
theorem w10 {Z : State} {a0 : Array Value} (hw : ∀ d ∈ tables_1, d.before a0 Z = true) : (Jvm.Cond.fieldLink "com/example/kithgraph/kithgraph/cluster/DisjointSets" (7 : Nat) "com/example/kithgraph/kithgraph/cluster/DisjointSets" "parents" "[I").before a0 Z = true := hw _ (List.mem_of_getElem? (i := 10) rfl)
theorem d4_4 : decode prog_15_method_2_code 4 = .ok (.astore_n 2, 1) := by decide +kernel
theorem d4_5 : decode prog_15_method_2_code 5 = .ok (.aload_n 2, 1) := by decide +kernel
theorem d4_6 : decode prog_15_method_2_code 6 = .ok (.iload_n 1, 1) := by decide +kernel
theorem d4_7 : decode prog_15_method_2_code 7 = .ok (.iaload, 1) := by decide +kernel
theorem d4_8 : decode prog_15_method_2_code 8 = .ok (.iload_n 1, 1) := by decide +kernel
theorem d4_9 : decode prog_15_method_2_code 9 = .ok (.if_icmp .eq 18, 3) := by decide +kernel
theorem d4_27 : decode prog_15_method_2_code 27 = .ok (.iload_n 1, 1) := by decide +kernel
theorem d4_28 : decode prog_15_method_2_code 28 = .ok (.ireturn, 1) := by decide +kernel
abbrev y0_find : MethodName := ⟨"com/example/kithgraph/kithgraph/cluster/DisjointSets", "find", "(I)I"⟩
theorem pn_com_example_kithgraph_kithgraph_cluster_DisjointSets : plainName "com/example/kithgraph/kithgraph/cluster/DisjointSets" = true := by first | (simp [plainName, overriddenIn]; done) | decide +kernel
abbrev c0_DisjointSets : String := "com/example/kithgraph/kithgraph/cluster/DisjointSets"
theorem d4_12 : decode prog_15_method_2_code 12 = .ok (.aload_n 2, 1) := by decide +kernel
theorem d4_13 : decode prog_15_method_2_code 13 = .ok (.iload_n 1, 1) := by decide +kernel
theorem d4_14 : decode prog_15_method_2_code 14 = .ok (.aload_n 2, 1) := by decide +kernel
theorem d4_15 : decode prog_15_method_2_code 15 = .ok (.aload_n 2, 1) := by decide +kernel
theorem d4_16 : decode prog_15_method_2_code 16 = .ok (.iload_n 1, 1) := by decide +kernel
theorem d4_17 : decode prog_15_method_2_code 17 = .ok (.iaload, 1) := by decide +kernel
theorem d4_18 : decode prog_15_method_2_code 18 = .ok (.iaload, 1) := by decide +kernel
theorem d4_19 : decode prog_15_method_2_code 19 = .ok (.iastore, 1) := by decide +kernel
theorem d4_20 : decode prog_15_method_2_code 20 = .ok (.aload_n 2, 1) := by decide +kernel
theorem d4_21 : decode prog_15_method_2_code 21 = .ok (.iload_n 1, 1) := by decide +kernel
theorem d4_22 : decode prog_15_method_2_code 22 = .ok (.iaload, 1) := by decide +kernel
theorem d4_23 : decode prog_15_method_2_code 23 = .ok (.istore_n 1, 1) := by decide +kernel
theorem d4_24 : decode prog_15_method_2_code 24 = .ok (.goto (-19), 3) := by decide +kernel
theorem d6_0 : decode jdk_29_method_69_code 0 = .ok (.iload_n 0, 1) := by decide +kernel
theorem d6_1 : decode jdk_29_method_69_code 1 = .ok (.iload_n 1, 1) := by decide +kernel
theorem d6_2 : decode jdk_29_method_69_code 2 = .ok (.if_icmp .gt 7, 3) := by decide +kernel
theorem d6_9 : decode jdk_29_method_69_code 9 = .ok (.iload_n 1, 1) := by decide +kernel
theorem d6_10 : decode jdk_29_method_69_code 10 = .ok (.ireturn, 1) := by decide +kernel
theorem d6_5 : decode jdk_29_method_69_code 5 = .ok (.iload_n 0, 1) := by decide +kernel
theorem d6_6 : decode jdk_29_method_69_code 6 = .ok (.goto 4, 3) := by decide +kernel
abbrev y1_min : MethodName := ⟨"java/lang/Math", "min", "(II)I"⟩
abbrev c1_Math : String := "java/lang/Math"
theorem d5_0 : decode jdk_29_method_65_code 0 = .ok (.iload_n 0, 1) := by decide +kernel
theorem d5_1 : decode jdk_29_method_65_code 1 = .ok (.iload_n 1, 1) := by decide +kernel
theorem d5_2 : decode jdk_29_method_65_code 2 = .ok (.if_icmp .lt 7, 3) := by decide +kernel
theorem d5_9 : decode jdk_29_method_65_code 9 = .ok (.iload_n 1, 1) := by decide +kernel
theorem d5_10 : decode jdk_29_method_65_code 10 = .ok (.ireturn, 1) := by decide +kernel
theorem d5_5 : decode jdk_29_method_65_code 5 = .ok (.iload_n 0, 1) := by decide +kernel
theorem d5_6 : decode jdk_29_method_65_code 6 = .ok (.goto 4, 3) := by decide +kernel
abbrev y2_max : MethodName := ⟨"java/lang/Math", "max", "(II)I"⟩
theorem d3_0 : decode prog_15_method_3_code 0 = .ok (.aload_n 0, 1) := by decide +kernel
theorem d3_1 : decode prog_15_method_3_code 1 = .ok (.iload_n 1, 1) := by decide +kernel
theorem d3_2 : decode prog_15_method_3_code 2 = .ok (.invokevirtual 13, 3) := by decide +kernel
theorem w17 {Z : State} {a0 : Array Value} (hw : ∀ d ∈ tables_1, d.before a0 Z = true) : (Jvm.Cond.methodLink "com/example/kithgraph/kithgraph/cluster/DisjointSets" (13 : Nat) ({ cls := "com/example/kithgraph/kithgraph/cluster/DisjointSets", name := "find", desc := "(I)I" } : Jvm.MethodName)).before a0 Z = true := hw _ (List.mem_of_getElem? (i := 17) rfl)
theorem pd__I_I : parseMethodDescriptor "(I)I" = some ⟨[.int], some .int⟩ := by decide +kernel
theorem w2 {Z : State} {a0 : Array Value} (hw : ∀ d ∈ tables_1, d.before a0 Z = true) : (Jvm.Cond.initialized "com/example/kithgraph/kithgraph/cluster/DisjointSets").before a0 Z = true := hw _ (List.mem_of_getElem? (i := 2) rfl)
theorem w21 {Z : State} {a0 : Array Value} (hw : ∀ d ∈ tables_1, d.before a0 Z = true) : (Jvm.Cond.code ({ cls := "com/example/kithgraph/kithgraph/cluster/DisjointSets", name := "find", desc := "(I)I" } : Jvm.MethodName) prog_15_method_2_code (3 : Nat) (Option.some Jvm.ClassFile.FieldType.int)).before a0 Z = true := hw _ (List.mem_of_getElem? (i := 21) rfl)
theorem w20 {Z : State} {a0 : Array Value} (hw : ∀ d ∈ tables_1, d.before a0 Z = true) : (Jvm.Cond.selects "com/example/kithgraph/kithgraph/cluster/DisjointSets" ({ cls := "com/example/kithgraph/kithgraph/cluster/DisjointSets", name := "find", desc := "(I)I" } : Jvm.MethodName) ({ cls := "com/example/kithgraph/kithgraph/cluster/DisjointSets", name := "find", desc := "(I)I" } : Jvm.MethodName)).before a0 Z = true := hw _ (List.mem_of_getElem? (i := 20) rfl)
theorem w18 {Z : State} {a0 : Array Value} (hw : ∀ d ∈ tables_1, d.before a0 Z = true) : (Jvm.Cond.declares ({ cls := "com/example/kithgraph/kithgraph/cluster/DisjointSets", name := "find", desc := "(I)I" } : Jvm.MethodName)).before a0 Z = true := hw _ (List.mem_of_getElem? (i := 18) rfl)
theorem w19 {Z : State} {a0 : Array Value} (hw : ∀ d ∈ tables_1, d.before a0 Z = true) : (Jvm.Cond.instanceMethod ({ cls := "com/example/kithgraph/kithgraph/cluster/DisjointSets", name := "find", desc := "(I)I" } : Jvm.MethodName)).before a0 Z = true := hw _ (List.mem_of_getElem? (i := 19) rfl)
theorem d3_5 : decode prog_15_method_3_code 5 = .ok (.istore_n 3, 1) := by decide +kernel
theorem d3_6 : decode prog_15_method_3_code 6 = .ok (.aload_n 0, 1) := by decide +kernel
theorem d3_7 : decode prog_15_method_3_code 7 = .ok (.iload_n 2, 1) := by decide +kernel
theorem d3_8 : decode prog_15_method_3_code 8 = .ok (.invokevirtual 13, 3) := by decide +kernel
theorem d3_11 : decode prog_15_method_3_code 11 = .ok (.istore 4, 2) := by decide +kernel
theorem d3_13 : decode prog_15_method_3_code 13 = .ok (.aload_n 0, 1) := by decide +kernel
theorem d3_14 : decode prog_15_method_3_code 14 = .ok (.getfield 7, 3) := by decide +kernel
theorem d3_17 : decode prog_15_method_3_code 17 = .ok (.iload_n 3, 1) := by decide +kernel
theorem d3_18 : decode prog_15_method_3_code 18 = .ok (.iload 4, 2) := by decide +kernel
theorem d3_20 : decode prog_15_method_3_code 20 = .ok (.invokestatic 17, 3) := by decide +kernel
theorem w22 {Z : State} {a0 : Array Value} (hw : ∀ d ∈ tables_1, d.before a0 Z = true) : (Jvm.Cond.methodLink "com/example/kithgraph/kithgraph/cluster/DisjointSets" (17 : Nat) ({ cls := "java/lang/Math", name := "max", desc := "(II)I" } : Jvm.MethodName)).before a0 Z = true := hw _ (List.mem_of_getElem? (i := 22) rfl)
theorem pd__II_I : parseMethodDescriptor "(II)I" = some ⟨[.int, .int], some .int⟩ := by decide +kernel
theorem w24 {Z : State} {a0 : Array Value} (hw : ∀ d ∈ tables_1, d.before a0 Z = true) : (Jvm.Cond.initialized "java/lang/Math").before a0 Z = true := hw _ (List.mem_of_getElem? (i := 24) rfl)
theorem w25 {Z : State} {a0 : Array Value} (hw : ∀ d ∈ tables_1, d.before a0 Z = true) : (Jvm.Cond.code ({ cls := "java/lang/Math", name := "max", desc := "(II)I" } : Jvm.MethodName) jdk_29_method_65_code (2 : Nat) (Option.some Jvm.ClassFile.FieldType.int)).before a0 Z = true := hw _ (List.mem_of_getElem? (i := 25) rfl)
theorem w23 {Z : State} {a0 : Array Value} (hw : ∀ d ∈ tables_1, d.before a0 Z = true) : (Jvm.Cond.static ({ cls := "java/lang/Math", name := "max", desc := "(II)I" } : Jvm.MethodName)).before a0 Z = true := hw _ (List.mem_of_getElem? (i := 23) rfl)
theorem d3_23 : decode prog_15_method_3_code 23 = .ok (.iload_n 3, 1) := by decide +kernel
theorem d3_24 : decode prog_15_method_3_code 24 = .ok (.iload 4, 2) := by decide +kernel
theorem d3_26 : decode prog_15_method_3_code 26 = .ok (.invokestatic 23, 3) := by decide +kernel
theorem w26 {Z : State} {a0 : Array Value} (hw : ∀ d ∈ tables_1, d.before a0 Z = true) : (Jvm.Cond.methodLink "com/example/kithgraph/kithgraph/cluster/DisjointSets" (23 : Nat) ({ cls := "java/lang/Math", name := "min", desc := "(II)I" } : Jvm.MethodName)).before a0 Z = true := hw _ (List.mem_of_getElem? (i := 26) rfl)
theorem w28 {Z : State} {a0 : Array Value} (hw : ∀ d ∈ tables_1, d.before a0 Z = true) : (Jvm.Cond.code ({ cls := "java/lang/Math", name := "min", desc := "(II)I" } : Jvm.MethodName) jdk_29_method_69_code (2 : Nat) (Option.some Jvm.ClassFile.FieldType.int)).before a0 Z = true := hw _ (List.mem_of_getElem? (i := 28) rfl)
theorem w27 {Z : State} {a0 : Array Value} (hw : ∀ d ∈ tables_1, d.before a0 Z = true) : (Jvm.Cond.static ({ cls := "java/lang/Math", name := "min", desc := "(II)I" } : Jvm.MethodName)).before a0 Z = true := hw _ (List.mem_of_getElem? (i := 27) rfl)
theorem d3_29 : decode prog_15_method_3_code 29 = .ok (.iastore, 1) := by decide +kernel
theorem d3_30 : decode prog_15_method_3_code 30 = .ok (.return_, 1) := by decide +kernel
abbrev y3_join : MethodName := ⟨"com/example/kithgraph/kithgraph/cluster/DisjointSets", "join", "(II)V"⟩
theorem d7_0 : decode method_2_code 0 = .ok (.aload_n 0, 1) := by decide +kernel
theorem d7_1 : decode method_2_code 1 = .ok (.iload_n 1, 1) := by decide +kernel
theorem d7_2 : decode method_2_code 2 = .ok (.iaload, 1) := by decide +kernel
theorem d7_3 : decode method_2_code 3 = .ok (.istore_n 3, 1) := by decide +kernel
theorem d7_4 : decode method_2_code 4 = .ok (.aload_n 0, 1) := by decide +kernel
theorem d7_5 : decode method_2_code 5 = .ok (.iload_n 2, 1) := by decide +kernel
theorem d7_6 : decode method_2_code 6 = .ok (.iaload, 1) := by decide +kernel
theorem d7_7 : decode method_2_code 7 = .ok (.istore 4, 2) := by decide +kernel
theorem d7_9 : decode method_2_code 9 = .ok (.iload_n 3, 1) := by decide +kernel
theorem d7_10 : decode method_2_code 10 = .ok (.iload 4, 2) := by decide +kernel
theorem d7_12 : decode method_2_code 12 = .ok (.invokestatic 7, 3) := by decide +kernel
theorem w33 {Z : State} {a0 : Array Value} (hw : ∀ d ∈ tables_1, d.before a0 Z = true) : (Jvm.Cond.methodLink "com/example/kithgraph/kithgraph/cluster/DisjointSetsFindPinLaw" (7 : Nat) ({ cls := "java/lang/Math", name := "min", desc := "(II)I" } : Jvm.MethodName)).before a0 Z = true := hw _ (List.mem_of_getElem? (i := 33) rfl)
theorem d7_15 : decode method_2_code 15 = .ok (.istore 5, 2) := by decide +kernel
theorem d7_17 : decode method_2_code 17 = .ok (.iload_n 3, 1) := by decide +kernel
theorem d7_18 : decode method_2_code 18 = .ok (.iload 4, 2) := by decide +kernel
theorem d7_20 : decode method_2_code 20 = .ok (.invokestatic 13, 3) := by decide +kernel
theorem w34 {Z : State} {a0 : Array Value} (hw : ∀ d ∈ tables_1, d.before a0 Z = true) : (Jvm.Cond.methodLink "com/example/kithgraph/kithgraph/cluster/DisjointSetsFindPinLaw" (13 : Nat) ({ cls := "java/lang/Math", name := "max", desc := "(II)I" } : Jvm.MethodName)).before a0 Z = true := hw _ (List.mem_of_getElem? (i := 34) rfl)
theorem d7_23 : decode method_2_code 23 = .ok (.istore 6, 2) := by decide +kernel
theorem d7_25 : decode method_2_code 25 = .ok (.aload_n 0, 1) := by decide +kernel
theorem d7_26 : decode method_2_code 26 = .ok (.iconst 0, 1) := by decide +kernel
theorem d7_27 : decode method_2_code 27 = .ok (.iaload, 1) := by decide +kernel
theorem d7_28 : decode method_2_code 28 = .ok (.iload 6, 2) := by decide +kernel
theorem d7_30 : decode method_2_code 30 = .ok (.if_icmp .ne 8, 3) := by decide +kernel
theorem d7_33 : decode method_2_code 33 = .ok (.aload_n 0, 1) := by decide +kernel
theorem d7_34 : decode method_2_code 34 = .ok (.iconst 0, 1) := by decide +kernel
theorem d7_35 : decode method_2_code 35 = .ok (.iload 5, 2) := by decide +kernel
theorem d7_37 : decode method_2_code 37 = .ok (.iastore, 1) := by decide +kernel
theorem d7_38 : decode method_2_code 38 = .ok (.aload_n 0, 1) := by decide +kernel
theorem d7_39 : decode method_2_code 39 = .ok (.iconst 1, 1) := by decide +kernel
theorem d7_40 : decode method_2_code 40 = .ok (.iaload, 1) := by decide +kernel
theorem d7_41 : decode method_2_code 41 = .ok (.iload 6, 2) := by decide +kernel
theorem d7_43 : decode method_2_code 43 = .ok (.if_icmp .ne 8, 3) := by decide +kernel
theorem d7_46 : decode method_2_code 46 = .ok (.aload_n 0, 1) := by decide +kernel
theorem d7_47 : decode method_2_code 47 = .ok (.iconst 1, 1) := by decide +kernel
theorem d7_48 : decode method_2_code 48 = .ok (.iload 5, 2) := by decide +kernel
theorem d7_50 : decode method_2_code 50 = .ok (.iastore, 1) := by decide +kernel
theorem d7_51 : decode method_2_code 51 = .ok (.aload_n 0, 1) := by decide +kernel
theorem d7_52 : decode method_2_code 52 = .ok (.iconst 2, 1) := by decide +kernel
theorem d7_53 : decode method_2_code 53 = .ok (.iaload, 1) := by decide +kernel
theorem d7_54 : decode method_2_code 54 = .ok (.iload 6, 2) := by decide +kernel
theorem d7_56 : decode method_2_code 56 = .ok (.if_icmp .ne 8, 3) := by decide +kernel
theorem d7_59 : decode method_2_code 59 = .ok (.aload_n 0, 1) := by decide +kernel
theorem d7_60 : decode method_2_code 60 = .ok (.iconst 2, 1) := by decide +kernel
theorem d7_61 : decode method_2_code 61 = .ok (.iload 5, 2) := by decide +kernel
theorem d7_63 : decode method_2_code 63 = .ok (.iastore, 1) := by decide +kernel
theorem d7_64 : decode method_2_code 64 = .ok (.aload_n 0, 1) := by decide +kernel
theorem d7_65 : decode method_2_code 65 = .ok (.iconst 3, 1) := by decide +kernel
theorem d7_66 : decode method_2_code 66 = .ok (.iaload, 1) := by decide +kernel
theorem d7_67 : decode method_2_code 67 = .ok (.iload 6, 2) := by decide +kernel
theorem d7_69 : decode method_2_code 69 = .ok (.if_icmp .ne 8, 3) := by decide +kernel
theorem d7_72 : decode method_2_code 72 = .ok (.aload_n 0, 1) := by decide +kernel
theorem d7_73 : decode method_2_code 73 = .ok (.iconst 3, 1) := by decide +kernel
theorem d7_74 : decode method_2_code 74 = .ok (.iload 5, 2) := by decide +kernel
theorem d7_76 : decode method_2_code 76 = .ok (.iastore, 1) := by decide +kernel
theorem d7_77 : decode method_2_code 77 = .ok (.return_, 1) := by decide +kernel
abbrev y4_merge : MethodName := ⟨"com/example/kithgraph/kithgraph/cluster/DisjointSetsFindPinLaw", "merge", "([III)V"⟩
theorem pn_com_example_kithgraph_kithgraph_cluster_DisjointSetsFindPinLaw : plainName "com/example/kithgraph/kithgraph/cluster/DisjointSetsFindPinLaw" = true := by first | (simp [plainName, overriddenIn]; done) | decide +kernel
abbrev c2_DisjointSetsFindPinLaw : String := "com/example/kithgraph/kithgraph/cluster/DisjointSetsFindPinLaw"
theorem w0 {Z : State} {a0 : Array Value} (hw : ∀ d ∈ tables_1, d.before a0 Z = true) : (Jvm.Cond.classLink "com/example/kithgraph/kithgraph/cluster/DisjointSetsFindPinLaw" (16 : Nat) "com/example/kithgraph/kithgraph/cluster/DisjointSets").before a0 Z = true := hw _ (List.mem_of_getElem? (i := 0) rfl)
theorem w1 {Z : State} {a0 : Array Value} (hw : ∀ d ∈ tables_1, d.before a0 Z = true) : (Jvm.Cond.instantiable "com/example/kithgraph/kithgraph/cluster/DisjointSets" (1 : Nat)).before a0 Z = true := hw _ (List.mem_of_getElem? (i := 1) rfl)
theorem w11 {Z : State} {a0 : Array Value} (hw : ∀ d ∈ tables_1, d.before a0 Z = true) : (Jvm.Cond.laysFinal "com/example/kithgraph/kithgraph/cluster/DisjointSets" "com/example/kithgraph/kithgraph/cluster/DisjointSets" "parents" "[I").before a0 Z = true := hw _ (List.mem_of_getElem? (i := 11) rfl)
theorem w3 {Z : State} {a0 : Array Value} (hw : ∀ d ∈ tables_1, d.before a0 Z = true) : (Jvm.Cond.methodLink "com/example/kithgraph/kithgraph/cluster/DisjointSetsFindPinLaw" (18 : Nat) ({ cls := "com/example/kithgraph/kithgraph/cluster/DisjointSets", name := "<init>", desc := "(I)V" } : Jvm.MethodName)).before a0 Z = true := hw _ (List.mem_of_getElem? (i := 3) rfl)
theorem d1_0 : decode prog_15_method_1_code 0 = .ok (.aload_n 0, 1) := by decide +kernel
theorem d1_1 : decode prog_15_method_1_code 1 = .ok (.invokespecial 1, 3) := by decide +kernel
theorem w6 {Z : State} {a0 : Array Value} (hw : ∀ d ∈ tables_1, d.before a0 Z = true) : (Jvm.Cond.methodLink "com/example/kithgraph/kithgraph/cluster/DisjointSets" (1 : Nat) ({ cls := "java/lang/Object", name := "<init>", desc := "()V" } : Jvm.MethodName)).before a0 Z = true := hw _ (List.mem_of_getElem? (i := 6) rfl)
theorem w7 {Z : State} {a0 : Array Value} (hw : ∀ d ∈ tables_1, d.before a0 Z = true) : (Jvm.Cond.instanceMethod ({ cls := "java/lang/Object", name := "<init>", desc := "()V" } : Jvm.MethodName)).before a0 Z = true := hw _ (List.mem_of_getElem? (i := 7) rfl)
theorem w8 {Z : State} {a0 : Array Value} (hw : ∀ d ∈ tables_1, d.before a0 Z = true) : (Jvm.Cond.code ({ cls := "java/lang/Object", name := "<init>", desc := "()V" } : Jvm.MethodName) object_method_1_code (1 : Nat) (Option.none : Option Jvm.ClassFile.FieldType)).before a0 Z = true := hw _ (List.mem_of_getElem? (i := 8) rfl)
theorem d1_4 : decode prog_15_method_1_code 4 = .ok (.aload_n 0, 1) := by decide +kernel
theorem d1_5 : decode prog_15_method_1_code 5 = .ok (.iload_n 1, 1) := by decide +kernel
theorem d1_6 : decode prog_15_method_1_code 6 = .ok (.newarray .int, 2) := by decide +kernel
theorem w9 {Z : State} {a0 : Array Value} (hw : ∀ d ∈ tables_1, d.before a0 Z = true) : (Jvm.Cond.arrayClass Jvm.ClassFile.FieldType.int).before a0 Z = true := hw _ (List.mem_of_getElem? (i := 9) rfl)
theorem d1_8 : decode prog_15_method_1_code 8 = .ok (.putfield 7, 3) := by decide +kernel
theorem d1_11 : decode prog_15_method_1_code 11 = .ok (.iconst 0, 1) := by decide +kernel
theorem d1_12 : decode prog_15_method_1_code 12 = .ok (.istore_n 2, 1) := by decide +kernel
theorem d1_13 : decode prog_15_method_1_code 13 = .ok (.iload_n 2, 1) := by decide +kernel
theorem d1_14 : decode prog_15_method_1_code 14 = .ok (.iload_n 1, 1) := by decide +kernel
theorem d1_15 : decode prog_15_method_1_code 15 = .ok (.if_icmp .ge 16, 3) := by decide +kernel
theorem d1_18 : decode prog_15_method_1_code 18 = .ok (.aload_n 0, 1) := by decide +kernel
theorem d1_19 : decode prog_15_method_1_code 19 = .ok (.getfield 7, 3) := by decide +kernel
theorem d1_22 : decode prog_15_method_1_code 22 = .ok (.iload_n 2, 1) := by decide +kernel
theorem d1_23 : decode prog_15_method_1_code 23 = .ok (.iload_n 2, 1) := by decide +kernel
theorem d1_24 : decode prog_15_method_1_code 24 = .ok (.iastore, 1) := by decide +kernel
theorem d1_25 : decode prog_15_method_1_code 25 = .ok (.iinc 2 1, 3) := by decide +kernel
theorem d1_28 : decode prog_15_method_1_code 28 = .ok (.goto (-15), 3) := by decide +kernel
theorem d1_31 : decode prog_15_method_1_code 31 = .ok (.return_, 1) := by decide +kernel
abbrev y5_init : MethodName := ⟨"com/example/kithgraph/kithgraph/cluster/DisjointSets", "<init>", "(I)V"⟩
theorem pd__I_V : parseMethodDescriptor "(I)V" = some ⟨[.int], none⟩ := by decide +kernel
theorem w5 {Z : State} {a0 : Array Value} (hw : ∀ d ∈ tables_1, d.before a0 Z = true) : (Jvm.Cond.code ({ cls := "com/example/kithgraph/kithgraph/cluster/DisjointSets", name := "<init>", desc := "(I)V" } : Jvm.MethodName) prog_15_method_1_code (3 : Nat) (Option.none : Option Jvm.ClassFile.FieldType)).before a0 Z = true := hw _ (List.mem_of_getElem? (i := 5) rfl)
theorem w4 {Z : State} {a0 : Array Value} (hw : ∀ d ∈ tables_1, d.before a0 Z = true) : (Jvm.Cond.instanceMethod ({ cls := "com/example/kithgraph/kithgraph/cluster/DisjointSets", name := "<init>", desc := "(I)V" } : Jvm.MethodName)).before a0 Z = true := hw _ (List.mem_of_getElem? (i := 4) rfl)
theorem w12 {Z : State} {a0 : Array Value} (hw : ∀ d ∈ tables_1, d.before a0 Z = true) : (Jvm.Cond.methodLink "com/example/kithgraph/kithgraph/cluster/DisjointSetsFindPinLaw" (21 : Nat) ({ cls := "com/example/kithgraph/kithgraph/cluster/DisjointSets", name := "join", desc := "(II)V" } : Jvm.MethodName)).before a0 Z = true := hw _ (List.mem_of_getElem? (i := 12) rfl)
theorem pd__II_V : parseMethodDescriptor "(II)V" = some ⟨[.int, .int], none⟩ := by decide +kernel
theorem w16 {Z : State} {a0 : Array Value} (hw : ∀ d ∈ tables_1, d.before a0 Z = true) : (Jvm.Cond.code ({ cls := "com/example/kithgraph/kithgraph/cluster/DisjointSets", name := "join", desc := "(II)V" } : Jvm.MethodName) prog_15_method_3_code (5 : Nat) (Option.none : Option Jvm.ClassFile.FieldType)).before a0 Z = true := hw _ (List.mem_of_getElem? (i := 16) rfl)
theorem w15 {Z : State} {a0 : Array Value} (hw : ∀ d ∈ tables_1, d.before a0 Z = true) : (Jvm.Cond.selects "com/example/kithgraph/kithgraph/cluster/DisjointSets" ({ cls := "com/example/kithgraph/kithgraph/cluster/DisjointSets", name := "join", desc := "(II)V" } : Jvm.MethodName) ({ cls := "com/example/kithgraph/kithgraph/cluster/DisjointSets", name := "join", desc := "(II)V" } : Jvm.MethodName)).before a0 Z = true := hw _ (List.mem_of_getElem? (i := 15) rfl)
theorem w13 {Z : State} {a0 : Array Value} (hw : ∀ d ∈ tables_1, d.before a0 Z = true) : (Jvm.Cond.declares ({ cls := "com/example/kithgraph/kithgraph/cluster/DisjointSets", name := "join", desc := "(II)V" } : Jvm.MethodName)).before a0 Z = true := hw _ (List.mem_of_getElem? (i := 13) rfl)
theorem w14 {Z : State} {a0 : Array Value} (hw : ∀ d ∈ tables_1, d.before a0 Z = true) : (Jvm.Cond.instanceMethod ({ cls := "com/example/kithgraph/kithgraph/cluster/DisjointSets", name := "join", desc := "(II)V" } : Jvm.MethodName)).before a0 Z = true := hw _ (List.mem_of_getElem? (i := 14) rfl)
theorem w29 {Z : State} {a0 : Array Value} (hw : ∀ d ∈ tables_1, d.before a0 Z = true) : (Jvm.Cond.methodLink "com/example/kithgraph/kithgraph/cluster/DisjointSetsFindPinLaw" (25 : Nat) ({ cls := "com/example/kithgraph/kithgraph/cluster/DisjointSetsFindPinLaw", name := "merge", desc := "([III)V" } : Jvm.MethodName)).before a0 Z = true := hw _ (List.mem_of_getElem? (i := 29) rfl)
theorem pd___III_V : parseMethodDescriptor "([III)V" = some ⟨[(.array .int), .int, .int], none⟩ := by decide +kernel
theorem w31 {Z : State} {a0 : Array Value} (hw : ∀ d ∈ tables_1, d.before a0 Z = true) : (Jvm.Cond.initialized "com/example/kithgraph/kithgraph/cluster/DisjointSetsFindPinLaw").before a0 Z = true := hw _ (List.mem_of_getElem? (i := 31) rfl)
theorem w32 {Z : State} {a0 : Array Value} (hw : ∀ d ∈ tables_1, d.before a0 Z = true) : (Jvm.Cond.code ({ cls := "com/example/kithgraph/kithgraph/cluster/DisjointSetsFindPinLaw", name := "merge", desc := "([III)V" } : Jvm.MethodName) method_2_code (7 : Nat) (Option.none : Option Jvm.ClassFile.FieldType)).before a0 Z = true := hw _ (List.mem_of_getElem? (i := 32) rfl)
theorem w30 {Z : State} {a0 : Array Value} (hw : ∀ d ∈ tables_1, d.before a0 Z = true) : (Jvm.Cond.static ({ cls := "com/example/kithgraph/kithgraph/cluster/DisjointSetsFindPinLaw", name := "merge", desc := "([III)V" } : Jvm.MethodName)).before a0 Z = true := hw _ (List.mem_of_getElem? (i := 30) rfl)
theorem w35 {Z : State} {a0 : Array Value} (hw : ∀ d ∈ tables_1, d.before a0 Z = true) : (Jvm.Cond.methodLink "com/example/kithgraph/kithgraph/cluster/DisjointSetsFindPinLaw" (31 : Nat) ({ cls := "com/example/kithgraph/kithgraph/cluster/DisjointSets", name := "find", desc := "(I)I" } : Jvm.MethodName)).before a0 Z = true := hw _ (List.mem_of_getElem? (i := 35) rfl)
def DS (Z : State) (n0 : Nat) (h : Heap) (a : Addr) (r_parents : Addr) (l_parents : List Value) : Prop :=
  Exa Z h a "com/example/kithgraph/kithgraph/cluster/DisjointSets" ∧ Fld Z h a "com/example/kithgraph/kithgraph/cluster/DisjointSets" "parents" "[I" (.ref r_parents) ∧ AA Z h r_parents .int l_parents ∧ a ≠ r_parents ∧ n0 ≤ a ∧ n0 ≤ r_parents
abbrev ii (n : Nat) : Value := .int (Int32.ofNat n)
def fn (p1 p2 p3 : Nat) : Nat → Nat
  | 0 => 0
  | 1 => p1
  | 2 => p2
  | _ => p3
def rt (p1 p2 p3 e : Nat) : Nat := fn p1 p2 p3 (fn p1 p2 p3 (fn p1 p2 p3 e))
def Lf (l0 l1 l2 l3 : Nat) : Nat → Nat
  | 0 => l0
  | 1 => l1
  | 2 => l2
  | _ => l3
theorem own_small {n : Nat} (h : n < 4) : (Int32.ofNat n).toInt = (n : Int) := by
  match n, h with
  | 0, _ => decide
  | 1, _ => decide
  | 2, _ => decide
  | 3, _ => decide
theorem own_inj {n m : Nat} (h : n < 4) (g : m < 4) (e : Int32.ofNat n = Int32.ofNat m) : n = m := by
  have := congrArg Int32.toInt e
  rw [own_small h, own_small g] at this
  omega
theorem own_lt {n m : Nat} (h : n < 4) (g : m < 4) : Int32.ofNat n < Int32.ofNat m ↔ n < m := by
  rw [Int32.lt_iff_toInt_lt, own_small h, own_small g]; omega
theorem own_rt4 : ∀ p1 < 2, ∀ p2 < 3, ∀ p3 < 4, ∀ e < 4, rt p1 p2 p3 e < 4 := by decide +kernel
theorem own_rtrt : ∀ p1 < 2, ∀ p2 < 3, ∀ p3 < 4, ∀ e < 4, rt p1 p2 p3 (rt p1 p2 p3 e) = rt p1 p2 p3 e := by decide +kernel
theorem own_at (l0 l1 l2 l3 x : Nat) (h : x < 4) : [ii l0, ii l1, ii l2, ii l3][x]? = some (ii (Lf l0 l1 l2 l3 x)) := by
  match x, h with
  | 0, _ => rfl
  | 1, _ => rfl
  | 2, _ => rfl
  | 3, _ => rfl
theorem own_Lf4 {l0 l1 l2 l3 x : Nat} (h0 : l0 < 4) (h1 : l1 < 4) (h2 : l2 < 4) (h3 : l3 < 4) : Lf l0 l1 l2 l3 x < 4 := by
  unfold Lf; split <;> assumption
theorem own_Lrt (p1 p2 p3 x : Nat) (h : x < 4) : Lf (rt p1 p2 p3 0) (rt p1 p2 p3 1) (rt p1 p2 p3 2) (rt p1 p2 p3 3) x = rt p1 p2 p3 x := by
  match x, h with
  | 0, _ => rfl
  | 1, _ => rfl
  | 2, _ => rfl
  | 3, _ => rfl
def uu1 (q M m : Nat) : Nat := if M = 1 then m else q
def uu2 (q M m : Nat) : Nat := if M = 2 then m else q
def uu3 (q M m : Nat) : Nat := if M = 3 then m else q
theorem own_set (q1 q2 q3 M m : Nat) (hM : M < 4) (hm : m ≤ M) : [ii 0, ii q1, ii q2, ii q3].set M (ii m) = [ii 0, ii (uu1 q1 M m), ii (uu2 q2 M m), ii (uu3 q3 M m)] := by
  match M, hM with
  | 0, _ => obtain rfl : m = 0 := by omega
            rfl
  | 1, _ => rfl
  | 2, _ => rfl
  | 3, _ => rfl
def chkJ (q1 q2 q3 r t : Nat) : Bool := !(rt q1 q2 q3 r == r) || !(rt q1 q2 q3 t == t) || (decide (uu1 q1 (max r t) (min r t) < 2) && decide (uu2 q2 (max r t) (min r t) < 3) && decide (uu3 q3 (max r t) (min r t) < 4) && (List.range 4).all fun e => rt (uu1 q1 (max r t) (min r t)) (uu2 q2 (max r t) (min r t)) (uu3 q3 (max r t) (min r t)) e == if rt q1 q2 q3 e = max r t then min r t else rt q1 q2 q3 e)
theorem own_chkJ : ((List.range 2).all fun q1 => (List.range 3).all fun q2 => (List.range 4).all fun q3 => (List.range 4).all fun r => (List.range 4).all fun t => chkJ q1 q2 q3 r t) = true := by decide +kernel
theorem own_join (q1 : Nat) (h1 : q1 < 2) (q2 : Nat) (h2 : q2 < 3) (q3 : Nat) (h3 : q3 < 4) (r : Nat) (hr : r < 4) (t : Nat) (ht : t < 4) (er : rt q1 q2 q3 r = r) (et : rt q1 q2 q3 t = t) :
    uu1 q1 (max r t) (min r t) < 2 ∧ uu2 q2 (max r t) (min r t) < 3 ∧ uu3 q3 (max r t) (min r t) < 4 ∧ ∀ e < 4, rt (uu1 q1 (max r t) (min r t)) (uu2 q2 (max r t) (min r t)) (uu3 q3 (max r t) (min r t)) e = if rt q1 q2 q3 e = max r t then min r t else rt q1 q2 q3 e := by
  have h := own_chkJ
  have h := List.all_eq_true.mp h q1 (List.mem_range.mpr h1)
  have h := List.all_eq_true.mp h q2 (List.mem_range.mpr h2)
  have h := List.all_eq_true.mp h q3 (List.mem_range.mpr h3)
  have h := List.all_eq_true.mp h r (List.mem_range.mpr hr)
  have h := List.all_eq_true.mp h t (List.mem_range.mpr ht)
  unfold chkJ at h
  rw [er, et] at h
  simp only [beq_self_eq_true, Bool.not_true, Bool.false_or, Bool.and_eq_true, decide_eq_true_eq] at h
  obtain ⟨⟨⟨a1, a2⟩, a3⟩, a4⟩ := h
  exact ⟨a1, a2, a3, fun e he => by simpa using List.all_eq_true.mp a4 e (List.mem_range.mpr he)⟩
set_option maxRecDepth 65536 in
set_option maxHeartbeats 40000000 in
theorem ds_find1 (l : Launch) (Z : State) (a0 : Array Value) (hw : ∀ d ∈ tables_1, d.before a0 Z = true) (n0 : Nat) (h0 : Heap) (Z0 : n0 ≤ h0.size) (a r_parents : Addr)  (H : DS Z n0 h0 a r_parents [.int (0 : Int32), .int (0 : Int32), .int (0 : Int32), .int (0 : Int32)]) :
    Met l Z n0 y0_find prog_15_method_2_code 3 (Option.some Jvm.ClassFile.FieldType.int) ({ frames := 0, cells := 0, slots := 0, locals := 0 } : Room) #[(.ref a), (.int (0 : Int32))] h0 (fun v h => v = some (.int (0 : Int32)) ∧ Keep h0 h [a, r_parents] ∧ DS Z n0 h a r_parents [.int (0 : Int32), .int (0 : Int32), .int (0 : Int32), .int (0 : Int32)]) := by
  refine met_intro (own := c0_DisjointSets) (plainFor_of_name pn_com_example_kithgraph_kithgraph_cluster_DisjointSets) rfl Z0 ?_
  intro p e s m below meth c T A hnm
  refine Wp.cast (g' := mkF m 0 #[rv a, iv 0, U0] []) (by first | (simp [entryFrame, mkF, argsToLocals, Value.category, maxLocals, jv, S2, U0, iv, rv]; done) | rfl) ?_
  obtain ⟨E1, F2, V3, ne4, ge5, ge6⟩ := H
  refine s_aloadN (pc' := 1) A d4_0 rfl rfl rfl ?_
  refine s_getfield (pc' := 4) (host := "") A (Or.inl (w10 hw)) Via.refl F2 d4_1 rfl fun T A => ?_
  refine s_astoreN (pc' := 5) (Ls' := #[rv a, iv 0, rv r_parents]) A d4_4 rfl rfl rfl ?_
  refine s_aloadN (pc' := 6) A d4_5 rfl rfl rfl ?_
  refine s_iloadN (pc' := 7) A d4_6 rfl rfl ?_
  refine s_iaload (pc' := 8) (i := 0) (v := (.int (0 : Int32))) A V3 (by decide) rfl d4_7 rfl ?_
  refine s_iloadN (pc' := 9) A d4_8 rfl rfl ?_
  refine s_icmpY (pc' := 27) A d4_9 (by decide) (by decide) (by decide) ?_
  refine s_iloadN (pc' := 28) A d4_27 rfl rfl ?_
  exact r_int A rfl d4_28 (by decide) (by decide) (⟨rfl, (Keep.refl h0 [a, r_parents]), ⟨E1, F2, V3, ne4, ge5, ge6⟩⟩)
set_option maxRecDepth 65536 in
set_option maxHeartbeats 40000000 in
theorem ds_find2 (l : Launch) (Z : State) (a0 : Array Value) (hw : ∀ d ∈ tables_1, d.before a0 Z = true) (n0 : Nat) (h0 : Heap) (Z0 : n0 ≤ h0.size) (a r_parents : Addr)  (H : DS Z n0 h0 a r_parents [.int (0 : Int32), .int (0 : Int32), .int (0 : Int32), .int (0 : Int32)]) :
    Met l Z n0 y0_find prog_15_method_2_code 3 (Option.some Jvm.ClassFile.FieldType.int) ({ frames := 0, cells := 0, slots := 0, locals := 0 } : Room) #[(.ref a), (.int (1 : Int32))] h0 (fun v h => v = some (.int (0 : Int32)) ∧ Keep h0 h [a, r_parents] ∧ DS Z n0 h a r_parents [.int (0 : Int32), .int (0 : Int32), .int (0 : Int32), .int (0 : Int32)]) := by
  refine met_intro (own := c0_DisjointSets) (plainFor_of_name pn_com_example_kithgraph_kithgraph_cluster_DisjointSets) rfl Z0 ?_
  intro p e s m below meth c T A hnm
  refine Wp.cast (g' := mkF m 0 #[rv a, iv 1, U0] []) (by first | (simp [entryFrame, mkF, argsToLocals, Value.category, maxLocals, jv, S2, U0, iv, rv]; done) | rfl) ?_
  obtain ⟨E1, F2, V3, ne4, ge5, ge6⟩ := H
  refine s_aloadN (pc' := 1) A d4_0 rfl rfl rfl ?_
  refine s_getfield (pc' := 4) (host := "") A (Or.inl (w10 hw)) Via.refl F2 d4_1 rfl fun T A => ?_
  refine s_astoreN (pc' := 5) (Ls' := #[rv a, iv 1, rv r_parents]) A d4_4 rfl rfl rfl ?_
  refine s_aloadN (pc' := 6) A d4_5 rfl rfl rfl ?_
  refine s_iloadN (pc' := 7) A d4_6 rfl rfl ?_
  refine s_iaload (pc' := 8) (i := 1) (v := (.int (0 : Int32))) A V3 (by decide) rfl d4_7 rfl ?_
  refine s_iloadN (pc' := 9) A d4_8 rfl rfl ?_
  refine s_icmpN (pc' := 12) A d4_9 rfl (by decide) ?_
  refine s_aloadN (pc' := 13) A d4_12 rfl rfl rfl ?_
  refine s_iloadN (pc' := 14) A d4_13 rfl rfl ?_
  refine s_aloadN (pc' := 15) A d4_14 rfl rfl rfl ?_
  refine s_aloadN (pc' := 16) A d4_15 rfl rfl rfl ?_
  refine s_iloadN (pc' := 17) A d4_16 rfl rfl ?_
  refine s_iaload (pc' := 18) (i := 1) (v := (.int (0 : Int32))) A V3 (by decide) rfl d4_17 rfl ?_
  refine s_iaload (pc' := 19) (i := 0) (v := (.int (0 : Int32))) A V3 (by decide) rfl d4_18 rfl ?_
  refine s_iastore (pc' := 20) (i := 1) A V3 (by decide) (Nat.le_of_ble_eq_true rfl) ge6 d4_19 rfl fun T h7 A W8 V9 => ?_
  have V9 : AA Z h7 r_parents .int [.int (0 : Int32), .int (0 : Int32), .int (0 : Int32), .int (0 : Int32)] := V9
  refine s_aloadN (pc' := 21) A d4_20 rfl rfl rfl ?_
  refine s_iloadN (pc' := 22) A d4_21 rfl rfl ?_
  refine s_iaload (pc' := 23) (i := 1) (v := (.int (0 : Int32))) A V9 (by decide) rfl d4_22 rfl ?_
  refine s_istoreN (pc' := 24) (Ls' := #[rv a, iv 0, rv r_parents]) A d4_23 rfl rfl ?_
  refine s_goto (pc' := 5) A d4_24 (by decide) (by decide) ?_
  refine s_aloadN (pc' := 6) A d4_5 rfl rfl rfl ?_
  refine s_iloadN (pc' := 7) A d4_6 rfl rfl ?_
  refine s_iaload (pc' := 8) (i := 0) (v := (.int (0 : Int32))) A V9 (by decide) rfl d4_7 rfl ?_
  refine s_iloadN (pc' := 9) A d4_8 rfl rfl ?_
  refine s_icmpY (pc' := 27) A d4_9 (by decide) (by decide) (by decide) ?_
  refine s_iloadN (pc' := 28) A d4_27 rfl rfl ?_
  have K10 := ((Keep.refl h0 [a, r_parents]).wr W8 (Or.inl (List.mem_of_getElem? (i := 1) rfl)))
  have E11 := (E1.wr W8)
  have F12 := (F2.other W8 (Or.inl ne4))
  exact r_int A rfl d4_28 (by decide) (by decide) (⟨rfl, K10, ⟨E11, F12, V9, ne4, ge5, ge6⟩⟩)
set_option maxRecDepth 65536 in
set_option maxHeartbeats 40000000 in
theorem ds_find3 (l : Launch) (Z : State) (a0 : Array Value) (hw : ∀ d ∈ tables_1, d.before a0 Z = true) (n0 : Nat) (h0 : Heap) (Z0 : n0 ≤ h0.size) (a r_parents : Addr)  (H : DS Z n0 h0 a r_parents [.int (0 : Int32), .int (0 : Int32), .int (0 : Int32), .int (0 : Int32)]) :
    Met l Z n0 y0_find prog_15_method_2_code 3 (Option.some Jvm.ClassFile.FieldType.int) ({ frames := 0, cells := 0, slots := 0, locals := 0 } : Room) #[(.ref a), (.int (2 : Int32))] h0 (fun v h => v = some (.int (0 : Int32)) ∧ Keep h0 h [a, r_parents] ∧ DS Z n0 h a r_parents [.int (0 : Int32), .int (0 : Int32), .int (0 : Int32), .int (0 : Int32)]) := by
  refine met_intro (own := c0_DisjointSets) (plainFor_of_name pn_com_example_kithgraph_kithgraph_cluster_DisjointSets) rfl Z0 ?_
  intro p e s m below meth c T A hnm
  refine Wp.cast (g' := mkF m 0 #[rv a, iv 2, U0] []) (by first | (simp [entryFrame, mkF, argsToLocals, Value.category, maxLocals, jv, S2, U0, iv, rv]; done) | rfl) ?_
  obtain ⟨E1, F2, V3, ne4, ge5, ge6⟩ := H
  refine s_aloadN (pc' := 1) A d4_0 rfl rfl rfl ?_
  refine s_getfield (pc' := 4) (host := "") A (Or.inl (w10 hw)) Via.refl F2 d4_1 rfl fun T A => ?_
  refine s_astoreN (pc' := 5) (Ls' := #[rv a, iv 2, rv r_parents]) A d4_4 rfl rfl rfl ?_
  refine s_aloadN (pc' := 6) A d4_5 rfl rfl rfl ?_
  refine s_iloadN (pc' := 7) A d4_6 rfl rfl ?_
  refine s_iaload (pc' := 8) (i := 2) (v := (.int (0 : Int32))) A V3 (by decide) rfl d4_7 rfl ?_
  refine s_iloadN (pc' := 9) A d4_8 rfl rfl ?_
  refine s_icmpN (pc' := 12) A d4_9 rfl (by decide) ?_
  refine s_aloadN (pc' := 13) A d4_12 rfl rfl rfl ?_
  refine s_iloadN (pc' := 14) A d4_13 rfl rfl ?_
  refine s_aloadN (pc' := 15) A d4_14 rfl rfl rfl ?_
  refine s_aloadN (pc' := 16) A d4_15 rfl rfl rfl ?_
  refine s_iloadN (pc' := 17) A d4_16 rfl rfl ?_
  refine s_iaload (pc' := 18) (i := 2) (v := (.int (0 : Int32))) A V3 (by decide) rfl d4_17 rfl ?_
  refine s_iaload (pc' := 19) (i := 0) (v := (.int (0 : Int32))) A V3 (by decide) rfl d4_18 rfl ?_
  refine s_iastore (pc' := 20) (i := 2) A V3 (by decide) (Nat.le_of_ble_eq_true rfl) ge6 d4_19 rfl fun T h7 A W8 V9 => ?_
  have V9 : AA Z h7 r_parents .int [.int (0 : Int32), .int (0 : Int32), .int (0 : Int32), .int (0 : Int32)] := V9
  refine s_aloadN (pc' := 21) A d4_20 rfl rfl rfl ?_
  refine s_iloadN (pc' := 22) A d4_21 rfl rfl ?_
  refine s_iaload (pc' := 23) (i := 2) (v := (.int (0 : Int32))) A V9 (by decide) rfl d4_22 rfl ?_
  refine s_istoreN (pc' := 24) (Ls' := #[rv a, iv 0, rv r_parents]) A d4_23 rfl rfl ?_
  refine s_goto (pc' := 5) A d4_24 (by decide) (by decide) ?_
  refine s_aloadN (pc' := 6) A d4_5 rfl rfl rfl ?_
  refine s_iloadN (pc' := 7) A d4_6 rfl rfl ?_
  refine s_iaload (pc' := 8) (i := 0) (v := (.int (0 : Int32))) A V9 (by decide) rfl d4_7 rfl ?_
  refine s_iloadN (pc' := 9) A d4_8 rfl rfl ?_
  refine s_icmpY (pc' := 27) A d4_9 (by decide) (by decide) (by decide) ?_
  refine s_iloadN (pc' := 28) A d4_27 rfl rfl ?_
  have K10 := ((Keep.refl h0 [a, r_parents]).wr W8 (Or.inl (List.mem_of_getElem? (i := 1) rfl)))
  have E11 := (E1.wr W8)
  have F12 := (F2.other W8 (Or.inl ne4))
  exact r_int A rfl d4_28 (by decide) (by decide) (⟨rfl, K10, ⟨E11, F12, V9, ne4, ge5, ge6⟩⟩)
set_option maxRecDepth 65536 in
set_option maxHeartbeats 40000000 in
theorem ds_find4 (l : Launch) (Z : State) (a0 : Array Value) (hw : ∀ d ∈ tables_1, d.before a0 Z = true) (n0 : Nat) (h0 : Heap) (Z0 : n0 ≤ h0.size) (a r_parents : Addr)  (H : DS Z n0 h0 a r_parents [.int (0 : Int32), .int (0 : Int32), .int (0 : Int32), .int (0 : Int32)]) :
    Met l Z n0 y0_find prog_15_method_2_code 3 (Option.some Jvm.ClassFile.FieldType.int) ({ frames := 0, cells := 0, slots := 0, locals := 0 } : Room) #[(.ref a), (.int (3 : Int32))] h0 (fun v h => v = some (.int (0 : Int32)) ∧ Keep h0 h [a, r_parents] ∧ DS Z n0 h a r_parents [.int (0 : Int32), .int (0 : Int32), .int (0 : Int32), .int (0 : Int32)]) := by
  refine met_intro (own := c0_DisjointSets) (plainFor_of_name pn_com_example_kithgraph_kithgraph_cluster_DisjointSets) rfl Z0 ?_
  intro p e s m below meth c T A hnm
  refine Wp.cast (g' := mkF m 0 #[rv a, iv 3, U0] []) (by first | (simp [entryFrame, mkF, argsToLocals, Value.category, maxLocals, jv, S2, U0, iv, rv]; done) | rfl) ?_
  obtain ⟨E1, F2, V3, ne4, ge5, ge6⟩ := H
  refine s_aloadN (pc' := 1) A d4_0 rfl rfl rfl ?_
  refine s_getfield (pc' := 4) (host := "") A (Or.inl (w10 hw)) Via.refl F2 d4_1 rfl fun T A => ?_
  refine s_astoreN (pc' := 5) (Ls' := #[rv a, iv 3, rv r_parents]) A d4_4 rfl rfl rfl ?_
  refine s_aloadN (pc' := 6) A d4_5 rfl rfl rfl ?_
  refine s_iloadN (pc' := 7) A d4_6 rfl rfl ?_
  refine s_iaload (pc' := 8) (i := 3) (v := (.int (0 : Int32))) A V3 (by decide) rfl d4_7 rfl ?_
  refine s_iloadN (pc' := 9) A d4_8 rfl rfl ?_
  refine s_icmpN (pc' := 12) A d4_9 rfl (by decide) ?_
  refine s_aloadN (pc' := 13) A d4_12 rfl rfl rfl ?_
  refine s_iloadN (pc' := 14) A d4_13 rfl rfl ?_
  refine s_aloadN (pc' := 15) A d4_14 rfl rfl rfl ?_
  refine s_aloadN (pc' := 16) A d4_15 rfl rfl rfl ?_
  refine s_iloadN (pc' := 17) A d4_16 rfl rfl ?_
  refine s_iaload (pc' := 18) (i := 3) (v := (.int (0 : Int32))) A V3 (by decide) rfl d4_17 rfl ?_
  refine s_iaload (pc' := 19) (i := 0) (v := (.int (0 : Int32))) A V3 (by decide) rfl d4_18 rfl ?_
  refine s_iastore (pc' := 20) (i := 3) A V3 (by decide) (Nat.le_of_ble_eq_true rfl) ge6 d4_19 rfl fun T h7 A W8 V9 => ?_
  have V9 : AA Z h7 r_parents .int [.int (0 : Int32), .int (0 : Int32), .int (0 : Int32), .int (0 : Int32)] := V9
  refine s_aloadN (pc' := 21) A d4_20 rfl rfl rfl ?_
  refine s_iloadN (pc' := 22) A d4_21 rfl rfl ?_
  refine s_iaload (pc' := 23) (i := 3) (v := (.int (0 : Int32))) A V9 (by decide) rfl d4_22 rfl ?_
  refine s_istoreN (pc' := 24) (Ls' := #[rv a, iv 0, rv r_parents]) A d4_23 rfl rfl ?_
  refine s_goto (pc' := 5) A d4_24 (by decide) (by decide) ?_
  refine s_aloadN (pc' := 6) A d4_5 rfl rfl rfl ?_
  refine s_iloadN (pc' := 7) A d4_6 rfl rfl ?_
  refine s_iaload (pc' := 8) (i := 0) (v := (.int (0 : Int32))) A V9 (by decide) rfl d4_7 rfl ?_
  refine s_iloadN (pc' := 9) A d4_8 rfl rfl ?_
  refine s_icmpY (pc' := 27) A d4_9 (by decide) (by decide) (by decide) ?_
  refine s_iloadN (pc' := 28) A d4_27 rfl rfl ?_
  have K10 := ((Keep.refl h0 [a, r_parents]).wr W8 (Or.inl (List.mem_of_getElem? (i := 1) rfl)))
  have E11 := (E1.wr W8)
  have F12 := (F2.other W8 (Or.inl ne4))
  exact r_int A rfl d4_28 (by decide) (by decide) (⟨rfl, K10, ⟨E11, F12, V9, ne4, ge5, ge6⟩⟩)
set_option maxRecDepth 65536 in
set_option maxHeartbeats 40000000 in
theorem ds_find5 (l : Launch) (Z : State) (a0 : Array Value) (hw : ∀ d ∈ tables_1, d.before a0 Z = true) (n0 : Nat) (h0 : Heap) (Z0 : n0 ≤ h0.size) (a r_parents : Addr)  (H : DS Z n0 h0 a r_parents [.int (0 : Int32), .int (0 : Int32), .int (0 : Int32), .int (1 : Int32)]) :
    Met l Z n0 y0_find prog_15_method_2_code 3 (Option.some Jvm.ClassFile.FieldType.int) ({ frames := 0, cells := 0, slots := 0, locals := 0 } : Room) #[(.ref a), (.int (0 : Int32))] h0 (fun v h => v = some (.int (0 : Int32)) ∧ Keep h0 h [a, r_parents] ∧ DS Z n0 h a r_parents [.int (0 : Int32), .int (0 : Int32), .int (0 : Int32), .int (1 : Int32)]) := by
  refine met_intro (own := c0_DisjointSets) (plainFor_of_name pn_com_example_kithgraph_kithgraph_cluster_DisjointSets) rfl Z0 ?_
  intro p e s m below meth c T A hnm
  refine Wp.cast (g' := mkF m 0 #[rv a, iv 0, U0] []) (by first | (simp [entryFrame, mkF, argsToLocals, Value.category, maxLocals, jv, S2, U0, iv, rv]; done) | rfl) ?_
  obtain ⟨E1, F2, V3, ne4, ge5, ge6⟩ := H
  refine s_aloadN (pc' := 1) A d4_0 rfl rfl rfl ?_
  refine s_getfield (pc' := 4) (host := "") A (Or.inl (w10 hw)) Via.refl F2 d4_1 rfl fun T A => ?_
  refine s_astoreN (pc' := 5) (Ls' := #[rv a, iv 0, rv r_parents]) A d4_4 rfl rfl rfl ?_
  refine s_aloadN (pc' := 6) A d4_5 rfl rfl rfl ?_
  refine s_iloadN (pc' := 7) A d4_6 rfl rfl ?_
  refine s_iaload (pc' := 8) (i := 0) (v := (.int (0 : Int32))) A V3 (by decide) rfl d4_7 rfl ?_
  refine s_iloadN (pc' := 9) A d4_8 rfl rfl ?_
  refine s_icmpY (pc' := 27) A d4_9 (by decide) (by decide) (by decide) ?_
  refine s_iloadN (pc' := 28) A d4_27 rfl rfl ?_
  exact r_int A rfl d4_28 (by decide) (by decide) (⟨rfl, (Keep.refl h0 [a, r_parents]), ⟨E1, F2, V3, ne4, ge5, ge6⟩⟩)
set_option maxRecDepth 65536 in
set_option maxHeartbeats 40000000 in
theorem ds_find6 (l : Launch) (Z : State) (a0 : Array Value) (hw : ∀ d ∈ tables_1, d.before a0 Z = true) (n0 : Nat) (h0 : Heap) (Z0 : n0 ≤ h0.size) (a r_parents : Addr)  (H : DS Z n0 h0 a r_parents [.int (0 : Int32), .int (0 : Int32), .int (0 : Int32), .int (1 : Int32)]) :
    Met l Z n0 y0_find prog_15_method_2_code 3 (Option.some Jvm.ClassFile.FieldType.int) ({ frames := 0, cells := 0, slots := 0, locals := 0 } : Room) #[(.ref a), (.int (1 : Int32))] h0 (fun v h => v = some (.int (0 : Int32)) ∧ Keep h0 h [a, r_parents] ∧ DS Z n0 h a r_parents [.int (0 : Int32), .int (0 : Int32), .int (0 : Int32), .int (1 : Int32)]) := by
  refine met_intro (own := c0_DisjointSets) (plainFor_of_name pn_com_example_kithgraph_kithgraph_cluster_DisjointSets) rfl Z0 ?_
  intro p e s m below meth c T A hnm
  refine Wp.cast (g' := mkF m 0 #[rv a, iv 1, U0] []) (by first | (simp [entryFrame, mkF, argsToLocals, Value.category, maxLocals, jv, S2, U0, iv, rv]; done) | rfl) ?_
  obtain ⟨E1, F2, V3, ne4, ge5, ge6⟩ := H
  refine s_aloadN (pc' := 1) A d4_0 rfl rfl rfl ?_
  refine s_getfield (pc' := 4) (host := "") A (Or.inl (w10 hw)) Via.refl F2 d4_1 rfl fun T A => ?_
  refine s_astoreN (pc' := 5) (Ls' := #[rv a, iv 1, rv r_parents]) A d4_4 rfl rfl rfl ?_
  refine s_aloadN (pc' := 6) A d4_5 rfl rfl rfl ?_
  refine s_iloadN (pc' := 7) A d4_6 rfl rfl ?_
  refine s_iaload (pc' := 8) (i := 1) (v := (.int (0 : Int32))) A V3 (by decide) rfl d4_7 rfl ?_
  refine s_iloadN (pc' := 9) A d4_8 rfl rfl ?_
  refine s_icmpN (pc' := 12) A d4_9 rfl (by decide) ?_
  refine s_aloadN (pc' := 13) A d4_12 rfl rfl rfl ?_
  refine s_iloadN (pc' := 14) A d4_13 rfl rfl ?_
  refine s_aloadN (pc' := 15) A d4_14 rfl rfl rfl ?_
  refine s_aloadN (pc' := 16) A d4_15 rfl rfl rfl ?_
  refine s_iloadN (pc' := 17) A d4_16 rfl rfl ?_
  refine s_iaload (pc' := 18) (i := 1) (v := (.int (0 : Int32))) A V3 (by decide) rfl d4_17 rfl ?_
  refine s_iaload (pc' := 19) (i := 0) (v := (.int (0 : Int32))) A V3 (by decide) rfl d4_18 rfl ?_
  refine s_iastore (pc' := 20) (i := 1) A V3 (by decide) (Nat.le_of_ble_eq_true rfl) ge6 d4_19 rfl fun T h7 A W8 V9 => ?_
  have V9 : AA Z h7 r_parents .int [.int (0 : Int32), .int (0 : Int32), .int (0 : Int32), .int (1 : Int32)] := V9
  refine s_aloadN (pc' := 21) A d4_20 rfl rfl rfl ?_
  refine s_iloadN (pc' := 22) A d4_21 rfl rfl ?_
  refine s_iaload (pc' := 23) (i := 1) (v := (.int (0 : Int32))) A V9 (by decide) rfl d4_22 rfl ?_
  refine s_istoreN (pc' := 24) (Ls' := #[rv a, iv 0, rv r_parents]) A d4_23 rfl rfl ?_
  refine s_goto (pc' := 5) A d4_24 (by decide) (by decide) ?_
  refine s_aloadN (pc' := 6) A d4_5 rfl rfl rfl ?_
  refine s_iloadN (pc' := 7) A d4_6 rfl rfl ?_
  refine s_iaload (pc' := 8) (i := 0) (v := (.int (0 : Int32))) A V9 (by decide) rfl d4_7 rfl ?_
  refine s_iloadN (pc' := 9) A d4_8 rfl rfl ?_
  refine s_icmpY (pc' := 27) A d4_9 (by decide) (by decide) (by decide) ?_
  refine s_iloadN (pc' := 28) A d4_27 rfl rfl ?_
  have K10 := ((Keep.refl h0 [a, r_parents]).wr W8 (Or.inl (List.mem_of_getElem? (i := 1) rfl)))
  have E11 := (E1.wr W8)
  have F12 := (F2.other W8 (Or.inl ne4))
  exact r_int A rfl d4_28 (by decide) (by decide) (⟨rfl, K10, ⟨E11, F12, V9, ne4, ge5, ge6⟩⟩)
set_option maxRecDepth 65536 in
set_option maxHeartbeats 40000000 in
theorem ds_find7 (l : Launch) (Z : State) (a0 : Array Value) (hw : ∀ d ∈ tables_1, d.before a0 Z = true) (n0 : Nat) (h0 : Heap) (Z0 : n0 ≤ h0.size) (a r_parents : Addr)  (H : DS Z n0 h0 a r_parents [.int (0 : Int32), .int (0 : Int32), .int (0 : Int32), .int (1 : Int32)]) :
    Met l Z n0 y0_find prog_15_method_2_code 3 (Option.some Jvm.ClassFile.FieldType.int) ({ frames := 0, cells := 0, slots := 0, locals := 0 } : Room) #[(.ref a), (.int (2 : Int32))] h0 (fun v h => v = some (.int (0 : Int32)) ∧ Keep h0 h [a, r_parents] ∧ DS Z n0 h a r_parents [.int (0 : Int32), .int (0 : Int32), .int (0 : Int32), .int (1 : Int32)]) := by
  refine met_intro (own := c0_DisjointSets) (plainFor_of_name pn_com_example_kithgraph_kithgraph_cluster_DisjointSets) rfl Z0 ?_
  intro p e s m below meth c T A hnm
  refine Wp.cast (g' := mkF m 0 #[rv a, iv 2, U0] []) (by first | (simp [entryFrame, mkF, argsToLocals, Value.category, maxLocals, jv, S2, U0, iv, rv]; done) | rfl) ?_
  obtain ⟨E1, F2, V3, ne4, ge5, ge6⟩ := H
  refine s_aloadN (pc' := 1) A d4_0 rfl rfl rfl ?_
  refine s_getfield (pc' := 4) (host := "") A (Or.inl (w10 hw)) Via.refl F2 d4_1 rfl fun T A => ?_
  refine s_astoreN (pc' := 5) (Ls' := #[rv a, iv 2, rv r_parents]) A d4_4 rfl rfl rfl ?_
  refine s_aloadN (pc' := 6) A d4_5 rfl rfl rfl ?_
  refine s_iloadN (pc' := 7) A d4_6 rfl rfl ?_
  refine s_iaload (pc' := 8) (i := 2) (v := (.int (0 : Int32))) A V3 (by decide) rfl d4_7 rfl ?_
  refine s_iloadN (pc' := 9) A d4_8 rfl rfl ?_
  refine s_icmpN (pc' := 12) A d4_9 rfl (by decide) ?_
  refine s_aloadN (pc' := 13) A d4_12 rfl rfl rfl ?_
  refine s_iloadN (pc' := 14) A d4_13 rfl rfl ?_
  refine s_aloadN (pc' := 15) A d4_14 rfl rfl rfl ?_
  refine s_aloadN (pc' := 16) A d4_15 rfl rfl rfl ?_
  refine s_iloadN (pc' := 17) A d4_16 rfl rfl ?_
  refine s_iaload (pc' := 18) (i := 2) (v := (.int (0 : Int32))) A V3 (by decide) rfl d4_17 rfl ?_
  refine s_iaload (pc' := 19) (i := 0) (v := (.int (0 : Int32))) A V3 (by decide) rfl d4_18 rfl ?_
  refine s_iastore (pc' := 20) (i := 2) A V3 (by decide) (Nat.le_of_ble_eq_true rfl) ge6 d4_19 rfl fun T h7 A W8 V9 => ?_
  have V9 : AA Z h7 r_parents .int [.int (0 : Int32), .int (0 : Int32), .int (0 : Int32), .int (1 : Int32)] := V9
  refine s_aloadN (pc' := 21) A d4_20 rfl rfl rfl ?_
  refine s_iloadN (pc' := 22) A d4_21 rfl rfl ?_
  refine s_iaload (pc' := 23) (i := 2) (v := (.int (0 : Int32))) A V9 (by decide) rfl d4_22 rfl ?_
  refine s_istoreN (pc' := 24) (Ls' := #[rv a, iv 0, rv r_parents]) A d4_23 rfl rfl ?_
  refine s_goto (pc' := 5) A d4_24 (by decide) (by decide) ?_
  refine s_aloadN (pc' := 6) A d4_5 rfl rfl rfl ?_
  refine s_iloadN (pc' := 7) A d4_6 rfl rfl ?_
  refine s_iaload (pc' := 8) (i := 0) (v := (.int (0 : Int32))) A V9 (by decide) rfl d4_7 rfl ?_
  refine s_iloadN (pc' := 9) A d4_8 rfl rfl ?_
  refine s_icmpY (pc' := 27) A d4_9 (by decide) (by decide) (by decide) ?_
  refine s_iloadN (pc' := 28) A d4_27 rfl rfl ?_
  have K10 := ((Keep.refl h0 [a, r_parents]).wr W8 (Or.inl (List.mem_of_getElem? (i := 1) rfl)))
  have E11 := (E1.wr W8)
  have F12 := (F2.other W8 (Or.inl ne4))
  exact r_int A rfl d4_28 (by decide) (by decide) (⟨rfl, K10, ⟨E11, F12, V9, ne4, ge5, ge6⟩⟩)
set_option maxRecDepth 65536 in
set_option maxHeartbeats 40000000 in
theorem ds_find8 (l : Launch) (Z : State) (a0 : Array Value) (hw : ∀ d ∈ tables_1, d.before a0 Z = true) (n0 : Nat) (h0 : Heap) (Z0 : n0 ≤ h0.size) (a r_parents : Addr)  (H : DS Z n0 h0 a r_parents [.int (0 : Int32), .int (0 : Int32), .int (0 : Int32), .int (1 : Int32)]) :
    Met l Z n0 y0_find prog_15_method_2_code 3 (Option.some Jvm.ClassFile.FieldType.int) ({ frames := 0, cells := 0, slots := 0, locals := 0 } : Room) #[(.ref a), (.int (3 : Int32))] h0 (fun v h => v = some (.int (0 : Int32)) ∧ Keep h0 h [a, r_parents] ∧ DS Z n0 h a r_parents [.int (0 : Int32), .int (0 : Int32), .int (0 : Int32), .int (0 : Int32)]) := by
  refine met_intro (own := c0_DisjointSets) (plainFor_of_name pn_com_example_kithgraph_kithgraph_cluster_DisjointSets) rfl Z0 ?_
  intro p e s m below meth c T A hnm
  refine Wp.cast (g' := mkF m 0 #[rv a, iv 3, U0] []) (by first | (simp [entryFrame, mkF, argsToLocals, Value.category, maxLocals, jv, S2, U0, iv, rv]; done) | rfl) ?_
  obtain ⟨E1, F2, V3, ne4, ge5, ge6⟩ := H
  refine s_aloadN (pc' := 1) A d4_0 rfl rfl rfl ?_
  refine s_getfield (pc' := 4) (host := "") A (Or.inl (w10 hw)) Via.refl F2 d4_1 rfl fun T A => ?_
  refine s_astoreN (pc' := 5) (Ls' := #[rv a, iv 3, rv r_parents]) A d4_4 rfl rfl rfl ?_
  refine s_aloadN (pc' := 6) A d4_5 rfl rfl rfl ?_
  refine s_iloadN (pc' := 7) A d4_6 rfl rfl ?_
  refine s_iaload (pc' := 8) (i := 3) (v := (.int (1 : Int32))) A V3 (by decide) rfl d4_7 rfl ?_
  refine s_iloadN (pc' := 9) A d4_8 rfl rfl ?_
  refine s_icmpN (pc' := 12) A d4_9 rfl (by decide) ?_
  refine s_aloadN (pc' := 13) A d4_12 rfl rfl rfl ?_
  refine s_iloadN (pc' := 14) A d4_13 rfl rfl ?_
  refine s_aloadN (pc' := 15) A d4_14 rfl rfl rfl ?_
  refine s_aloadN (pc' := 16) A d4_15 rfl rfl rfl ?_
  refine s_iloadN (pc' := 17) A d4_16 rfl rfl ?_
  refine s_iaload (pc' := 18) (i := 3) (v := (.int (1 : Int32))) A V3 (by decide) rfl d4_17 rfl ?_
  refine s_iaload (pc' := 19) (i := 1) (v := (.int (0 : Int32))) A V3 (by decide) rfl d4_18 rfl ?_
  refine s_iastore (pc' := 20) (i := 3) A V3 (by decide) (Nat.le_of_ble_eq_true rfl) ge6 d4_19 rfl fun T h7 A W8 V9 => ?_
  have V9 : AA Z h7 r_parents .int [.int (0 : Int32), .int (0 : Int32), .int (0 : Int32), .int (0 : Int32)] := V9
  refine s_aloadN (pc' := 21) A d4_20 rfl rfl rfl ?_
  refine s_iloadN (pc' := 22) A d4_21 rfl rfl ?_
  refine s_iaload (pc' := 23) (i := 3) (v := (.int (0 : Int32))) A V9 (by decide) rfl d4_22 rfl ?_
  refine s_istoreN (pc' := 24) (Ls' := #[rv a, iv 0, rv r_parents]) A d4_23 rfl rfl ?_
  refine s_goto (pc' := 5) A d4_24 (by decide) (by decide) ?_
  refine s_aloadN (pc' := 6) A d4_5 rfl rfl rfl ?_
  refine s_iloadN (pc' := 7) A d4_6 rfl rfl ?_
  refine s_iaload (pc' := 8) (i := 0) (v := (.int (0 : Int32))) A V9 (by decide) rfl d4_7 rfl ?_
  refine s_iloadN (pc' := 9) A d4_8 rfl rfl ?_
  refine s_icmpY (pc' := 27) A d4_9 (by decide) (by decide) (by decide) ?_
  refine s_iloadN (pc' := 28) A d4_27 rfl rfl ?_
  have K10 := ((Keep.refl h0 [a, r_parents]).wr W8 (Or.inl (List.mem_of_getElem? (i := 1) rfl)))
  have E11 := (E1.wr W8)
  have F12 := (F2.other W8 (Or.inl ne4))
  exact r_int A rfl d4_28 (by decide) (by decide) (⟨rfl, K10, ⟨E11, F12, V9, ne4, ge5, ge6⟩⟩)
set_option maxRecDepth 65536 in
set_option maxHeartbeats 40000000 in
theorem ds_find9 (l : Launch) (Z : State) (a0 : Array Value) (hw : ∀ d ∈ tables_1, d.before a0 Z = true) (n0 : Nat) (h0 : Heap) (Z0 : n0 ≤ h0.size) (a r_parents : Addr)  (H : DS Z n0 h0 a r_parents [.int (0 : Int32), .int (0 : Int32), .int (0 : Int32), .int (2 : Int32)]) :
    Met l Z n0 y0_find prog_15_method_2_code 3 (Option.some Jvm.ClassFile.FieldType.int) ({ frames := 0, cells := 0, slots := 0, locals := 0 } : Room) #[(.ref a), (.int (0 : Int32))] h0 (fun v h => v = some (.int (0 : Int32)) ∧ Keep h0 h [a, r_parents] ∧ DS Z n0 h a r_parents [.int (0 : Int32), .int (0 : Int32), .int (0 : Int32), .int (2 : Int32)]) := by
  refine met_intro (own := c0_DisjointSets) (plainFor_of_name pn_com_example_kithgraph_kithgraph_cluster_DisjointSets) rfl Z0 ?_
  intro p e s m below meth c T A hnm
  refine Wp.cast (g' := mkF m 0 #[rv a, iv 0, U0] []) (by first | (simp [entryFrame, mkF, argsToLocals, Value.category, maxLocals, jv, S2, U0, iv, rv]; done) | rfl) ?_
  obtain ⟨E1, F2, V3, ne4, ge5, ge6⟩ := H
  refine s_aloadN (pc' := 1) A d4_0 rfl rfl rfl ?_
  refine s_getfield (pc' := 4) (host := "") A (Or.inl (w10 hw)) Via.refl F2 d4_1 rfl fun T A => ?_
  refine s_astoreN (pc' := 5) (Ls' := #[rv a, iv 0, rv r_parents]) A d4_4 rfl rfl rfl ?_
  refine s_aloadN (pc' := 6) A d4_5 rfl rfl rfl ?_
  refine s_iloadN (pc' := 7) A d4_6 rfl rfl ?_
  refine s_iaload (pc' := 8) (i := 0) (v := (.int (0 : Int32))) A V3 (by decide) rfl d4_7 rfl ?_
  refine s_iloadN (pc' := 9) A d4_8 rfl rfl ?_
  refine s_icmpY (pc' := 27) A d4_9 (by decide) (by decide) (by decide) ?_
  refine s_iloadN (pc' := 28) A d4_27 rfl rfl ?_
  exact r_int A rfl d4_28 (by decide) (by decide) (⟨rfl, (Keep.refl h0 [a, r_parents]), ⟨E1, F2, V3, ne4, ge5, ge6⟩⟩)
set_option maxRecDepth 65536 in
set_option maxHeartbeats 40000000 in
theorem ds_find10 (l : Launch) (Z : State) (a0 : Array Value) (hw : ∀ d ∈ tables_1, d.before a0 Z = true) (n0 : Nat) (h0 : Heap) (Z0 : n0 ≤ h0.size) (a r_parents : Addr)  (H : DS Z n0 h0 a r_parents [.int (0 : Int32), .int (0 : Int32), .int (0 : Int32), .int (2 : Int32)]) :
    Met l Z n0 y0_find prog_15_method_2_code 3 (Option.some Jvm.ClassFile.FieldType.int) ({ frames := 0, cells := 0, slots := 0, locals := 0 } : Room) #[(.ref a), (.int (1 : Int32))] h0 (fun v h => v = some (.int (0 : Int32)) ∧ Keep h0 h [a, r_parents] ∧ DS Z n0 h a r_parents [.int (0 : Int32), .int (0 : Int32), .int (0 : Int32), .int (2 : Int32)]) := by
  refine met_intro (own := c0_DisjointSets) (plainFor_of_name pn_com_example_kithgraph_kithgraph_cluster_DisjointSets) rfl Z0 ?_
  intro p e s m below meth c T A hnm
  refine Wp.cast (g' := mkF m 0 #[rv a, iv 1, U0] []) (by first | (simp [entryFrame, mkF, argsToLocals, Value.category, maxLocals, jv, S2, U0, iv, rv]; done) | rfl) ?_
  obtain ⟨E1, F2, V3, ne4, ge5, ge6⟩ := H
  refine s_aloadN (pc' := 1) A d4_0 rfl rfl rfl ?_
  refine s_getfield (pc' := 4) (host := "") A (Or.inl (w10 hw)) Via.refl F2 d4_1 rfl fun T A => ?_
  refine s_astoreN (pc' := 5) (Ls' := #[rv a, iv 1, rv r_parents]) A d4_4 rfl rfl rfl ?_
  refine s_aloadN (pc' := 6) A d4_5 rfl rfl rfl ?_
  refine s_iloadN (pc' := 7) A d4_6 rfl rfl ?_
  refine s_iaload (pc' := 8) (i := 1) (v := (.int (0 : Int32))) A V3 (by decide) rfl d4_7 rfl ?_
  refine s_iloadN (pc' := 9) A d4_8 rfl rfl ?_
  refine s_icmpN (pc' := 12) A d4_9 rfl (by decide) ?_
  refine s_aloadN (pc' := 13) A d4_12 rfl rfl rfl ?_
  refine s_iloadN (pc' := 14) A d4_13 rfl rfl ?_
  refine s_aloadN (pc' := 15) A d4_14 rfl rfl rfl ?_
  refine s_aloadN (pc' := 16) A d4_15 rfl rfl rfl ?_
  refine s_iloadN (pc' := 17) A d4_16 rfl rfl ?_
  refine s_iaload (pc' := 18) (i := 1) (v := (.int (0 : Int32))) A V3 (by decide) rfl d4_17 rfl ?_
  refine s_iaload (pc' := 19) (i := 0) (v := (.int (0 : Int32))) A V3 (by decide) rfl d4_18 rfl ?_
  refine s_iastore (pc' := 20) (i := 1) A V3 (by decide) (Nat.le_of_ble_eq_true rfl) ge6 d4_19 rfl fun T h7 A W8 V9 => ?_
  have V9 : AA Z h7 r_parents .int [.int (0 : Int32), .int (0 : Int32), .int (0 : Int32), .int (2 : Int32)] := V9
  refine s_aloadN (pc' := 21) A d4_20 rfl rfl rfl ?_
  refine s_iloadN (pc' := 22) A d4_21 rfl rfl ?_
  refine s_iaload (pc' := 23) (i := 1) (v := (.int (0 : Int32))) A V9 (by decide) rfl d4_22 rfl ?_
  refine s_istoreN (pc' := 24) (Ls' := #[rv a, iv 0, rv r_parents]) A d4_23 rfl rfl ?_
  refine s_goto (pc' := 5) A d4_24 (by decide) (by decide) ?_
  refine s_aloadN (pc' := 6) A d4_5 rfl rfl rfl ?_
  refine s_iloadN (pc' := 7) A d4_6 rfl rfl ?_
  refine s_iaload (pc' := 8) (i := 0) (v := (.int (0 : Int32))) A V9 (by decide) rfl d4_7 rfl ?_
  refine s_iloadN (pc' := 9) A d4_8 rfl rfl ?_
  refine s_icmpY (pc' := 27) A d4_9 (by decide) (by decide) (by decide) ?_
  refine s_iloadN (pc' := 28) A d4_27 rfl rfl ?_
  have K10 := ((Keep.refl h0 [a, r_parents]).wr W8 (Or.inl (List.mem_of_getElem? (i := 1) rfl)))
  have E11 := (E1.wr W8)
  have F12 := (F2.other W8 (Or.inl ne4))
  exact r_int A rfl d4_28 (by decide) (by decide) (⟨rfl, K10, ⟨E11, F12, V9, ne4, ge5, ge6⟩⟩)
set_option maxRecDepth 65536 in
set_option maxHeartbeats 40000000 in
theorem ds_find11 (l : Launch) (Z : State) (a0 : Array Value) (hw : ∀ d ∈ tables_1, d.before a0 Z = true) (n0 : Nat) (h0 : Heap) (Z0 : n0 ≤ h0.size) (a r_parents : Addr)  (H : DS Z n0 h0 a r_parents [.int (0 : Int32), .int (0 : Int32), .int (0 : Int32), .int (2 : Int32)]) :
    Met l Z n0 y0_find prog_15_method_2_code 3 (Option.some Jvm.ClassFile.FieldType.int) ({ frames := 0, cells := 0, slots := 0, locals := 0 } : Room) #[(.ref a), (.int (2 : Int32))] h0 (fun v h => v = some (.int (0 : Int32)) ∧ Keep h0 h [a, r_parents] ∧ DS Z n0 h a r_parents [.int (0 : Int32), .int (0 : Int32), .int (0 : Int32), .int (2 : Int32)]) := by
  refine met_intro (own := c0_DisjointSets) (plainFor_of_name pn_com_example_kithgraph_kithgraph_cluster_DisjointSets) rfl Z0 ?_
  intro p e s m below meth c T A hnm
  refine Wp.cast (g' := mkF m 0 #[rv a, iv 2, U0] []) (by first | (simp [entryFrame, mkF, argsToLocals, Value.category, maxLocals, jv, S2, U0, iv, rv]; done) | rfl) ?_
  obtain ⟨E1, F2, V3, ne4, ge5, ge6⟩ := H
  refine s_aloadN (pc' := 1) A d4_0 rfl rfl rfl ?_
  refine s_getfield (pc' := 4) (host := "") A (Or.inl (w10 hw)) Via.refl F2 d4_1 rfl fun T A => ?_
  refine s_astoreN (pc' := 5) (Ls' := #[rv a, iv 2, rv r_parents]) A d4_4 rfl rfl rfl ?_
  refine s_aloadN (pc' := 6) A d4_5 rfl rfl rfl ?_
  refine s_iloadN (pc' := 7) A d4_6 rfl rfl ?_
  refine s_iaload (pc' := 8) (i := 2) (v := (.int (0 : Int32))) A V3 (by decide) rfl d4_7 rfl ?_
  refine s_iloadN (pc' := 9) A d4_8 rfl rfl ?_
  refine s_icmpN (pc' := 12) A d4_9 rfl (by decide) ?_
  refine s_aloadN (pc' := 13) A d4_12 rfl rfl rfl ?_
  refine s_iloadN (pc' := 14) A d4_13 rfl rfl ?_
  refine s_aloadN (pc' := 15) A d4_14 rfl rfl rfl ?_
  refine s_aloadN (pc' := 16) A d4_15 rfl rfl rfl ?_
  refine s_iloadN (pc' := 17) A d4_16 rfl rfl ?_
  refine s_iaload (pc' := 18) (i := 2) (v := (.int (0 : Int32))) A V3 (by decide) rfl d4_17 rfl ?_
  refine s_iaload (pc' := 19) (i := 0) (v := (.int (0 : Int32))) A V3 (by decide) rfl d4_18 rfl ?_
  refine s_iastore (pc' := 20) (i := 2) A V3 (by decide) (Nat.le_of_ble_eq_true rfl) ge6 d4_19 rfl fun T h7 A W8 V9 => ?_
  have V9 : AA Z h7 r_parents .int [.int (0 : Int32), .int (0 : Int32), .int (0 : Int32), .int (2 : Int32)] := V9
  refine s_aloadN (pc' := 21) A d4_20 rfl rfl rfl ?_
  refine s_iloadN (pc' := 22) A d4_21 rfl rfl ?_
  refine s_iaload (pc' := 23) (i := 2) (v := (.int (0 : Int32))) A V9 (by decide) rfl d4_22 rfl ?_
  refine s_istoreN (pc' := 24) (Ls' := #[rv a, iv 0, rv r_parents]) A d4_23 rfl rfl ?_
  refine s_goto (pc' := 5) A d4_24 (by decide) (by decide) ?_
  refine s_aloadN (pc' := 6) A d4_5 rfl rfl rfl ?_
  refine s_iloadN (pc' := 7) A d4_6 rfl rfl ?_
  refine s_iaload (pc' := 8) (i := 0) (v := (.int (0 : Int32))) A V9 (by decide) rfl d4_7 rfl ?_
  refine s_iloadN (pc' := 9) A d4_8 rfl rfl ?_
  refine s_icmpY (pc' := 27) A d4_9 (by decide) (by decide) (by decide) ?_
  refine s_iloadN (pc' := 28) A d4_27 rfl rfl ?_
  have K10 := ((Keep.refl h0 [a, r_parents]).wr W8 (Or.inl (List.mem_of_getElem? (i := 1) rfl)))
  have E11 := (E1.wr W8)
  have F12 := (F2.other W8 (Or.inl ne4))
  exact r_int A rfl d4_28 (by decide) (by decide) (⟨rfl, K10, ⟨E11, F12, V9, ne4, ge5, ge6⟩⟩)
set_option maxRecDepth 65536 in
set_option maxHeartbeats 40000000 in
theorem ds_find12 (l : Launch) (Z : State) (a0 : Array Value) (hw : ∀ d ∈ tables_1, d.before a0 Z = true) (n0 : Nat) (h0 : Heap) (Z0 : n0 ≤ h0.size) (a r_parents : Addr)  (H : DS Z n0 h0 a r_parents [.int (0 : Int32), .int (0 : Int32), .int (0 : Int32), .int (2 : Int32)]) :
    Met l Z n0 y0_find prog_15_method_2_code 3 (Option.some Jvm.ClassFile.FieldType.int) ({ frames := 0, cells := 0, slots := 0, locals := 0 } : Room) #[(.ref a), (.int (3 : Int32))] h0 (fun v h => v = some (.int (0 : Int32)) ∧ Keep h0 h [a, r_parents] ∧ DS Z n0 h a r_parents [.int (0 : Int32), .int (0 : Int32), .int (0 : Int32), .int (0 : Int32)]) := by
  refine met_intro (own := c0_DisjointSets) (plainFor_of_name pn_com_example_kithgraph_kithgraph_cluster_DisjointSets) rfl Z0 ?_
  intro p e s m below meth c T A hnm
  refine Wp.cast (g' := mkF m 0 #[rv a, iv 3, U0] []) (by first | (simp [entryFrame, mkF, argsToLocals, Value.category, maxLocals, jv, S2, U0, iv, rv]; done) | rfl) ?_
  obtain ⟨E1, F2, V3, ne4, ge5, ge6⟩ := H
  refine s_aloadN (pc' := 1) A d4_0 rfl rfl rfl ?_
  refine s_getfield (pc' := 4) (host := "") A (Or.inl (w10 hw)) Via.refl F2 d4_1 rfl fun T A => ?_
  refine s_astoreN (pc' := 5) (Ls' := #[rv a, iv 3, rv r_parents]) A d4_4 rfl rfl rfl ?_
  refine s_aloadN (pc' := 6) A d4_5 rfl rfl rfl ?_
  refine s_iloadN (pc' := 7) A d4_6 rfl rfl ?_
  refine s_iaload (pc' := 8) (i := 3) (v := (.int (2 : Int32))) A V3 (by decide) rfl d4_7 rfl ?_
  refine s_iloadN (pc' := 9) A d4_8 rfl rfl ?_
  refine s_icmpN (pc' := 12) A d4_9 rfl (by decide) ?_
  refine s_aloadN (pc' := 13) A d4_12 rfl rfl rfl ?_
  refine s_iloadN (pc' := 14) A d4_13 rfl rfl ?_
  refine s_aloadN (pc' := 15) A d4_14 rfl rfl rfl ?_
  refine s_aloadN (pc' := 16) A d4_15 rfl rfl rfl ?_
  refine s_iloadN (pc' := 17) A d4_16 rfl rfl ?_
  refine s_iaload (pc' := 18) (i := 3) (v := (.int (2 : Int32))) A V3 (by decide) rfl d4_17 rfl ?_
  refine s_iaload (pc' := 19) (i := 2) (v := (.int (0 : Int32))) A V3 (by decide) rfl d4_18 rfl ?_
  refine s_iastore (pc' := 20) (i := 3) A V3 (by decide) (Nat.le_of_ble_eq_true rfl) ge6 d4_19 rfl fun T h7 A W8 V9 => ?_
  have V9 : AA Z h7 r_parents .int [.int (0 : Int32), .int (0 : Int32), .int (0 : Int32), .int (0 : Int32)] := V9
  refine s_aloadN (pc' := 21) A d4_20 rfl rfl rfl ?_
  refine s_iloadN (pc' := 22) A d4_21 rfl rfl ?_
  refine s_iaload (pc' := 23) (i := 3) (v := (.int (0 : Int32))) A V9 (by decide) rfl d4_22 rfl ?_
  refine s_istoreN (pc' := 24) (Ls' := #[rv a, iv 0, rv r_parents]) A d4_23 rfl rfl ?_
  refine s_goto (pc' := 5) A d4_24 (by decide) (by decide) ?_
  refine s_aloadN (pc' := 6) A d4_5 rfl rfl rfl ?_
  refine s_iloadN (pc' := 7) A d4_6 rfl rfl ?_
  refine s_iaload (pc' := 8) (i := 0) (v := (.int (0 : Int32))) A V9 (by decide) rfl d4_7 rfl ?_
  refine s_iloadN (pc' := 9) A d4_8 rfl rfl ?_
  refine s_icmpY (pc' := 27) A d4_9 (by decide) (by decide) (by decide) ?_
  refine s_iloadN (pc' := 28) A d4_27 rfl rfl ?_
  have K10 := ((Keep.refl h0 [a, r_parents]).wr W8 (Or.inl (List.mem_of_getElem? (i := 1) rfl)))
  have E11 := (E1.wr W8)
  have F12 := (F2.other W8 (Or.inl ne4))
  exact r_int A rfl d4_28 (by decide) (by decide) (⟨rfl, K10, ⟨E11, F12, V9, ne4, ge5, ge6⟩⟩)
set_option maxRecDepth 65536 in
set_option maxHeartbeats 40000000 in
theorem ds_find13 (l : Launch) (Z : State) (a0 : Array Value) (hw : ∀ d ∈ tables_1, d.before a0 Z = true) (n0 : Nat) (h0 : Heap) (Z0 : n0 ≤ h0.size) (a r_parents : Addr)  (H : DS Z n0 h0 a r_parents [.int (0 : Int32), .int (0 : Int32), .int (0 : Int32), .int (3 : Int32)]) :
    Met l Z n0 y0_find prog_15_method_2_code 3 (Option.some Jvm.ClassFile.FieldType.int) ({ frames := 0, cells := 0, slots := 0, locals := 0 } : Room) #[(.ref a), (.int (0 : Int32))] h0 (fun v h => v = some (.int (0 : Int32)) ∧ Keep h0 h [a, r_parents] ∧ DS Z n0 h a r_parents [.int (0 : Int32), .int (0 : Int32), .int (0 : Int32), .int (3 : Int32)]) := by
  refine met_intro (own := c0_DisjointSets) (plainFor_of_name pn_com_example_kithgraph_kithgraph_cluster_DisjointSets) rfl Z0 ?_
  intro p e s m below meth c T A hnm
  refine Wp.cast (g' := mkF m 0 #[rv a, iv 0, U0] []) (by first | (simp [entryFrame, mkF, argsToLocals, Value.category, maxLocals, jv, S2, U0, iv, rv]; done) | rfl) ?_
  obtain ⟨E1, F2, V3, ne4, ge5, ge6⟩ := H
  refine s_aloadN (pc' := 1) A d4_0 rfl rfl rfl ?_
  refine s_getfield (pc' := 4) (host := "") A (Or.inl (w10 hw)) Via.refl F2 d4_1 rfl fun T A => ?_
  refine s_astoreN (pc' := 5) (Ls' := #[rv a, iv 0, rv r_parents]) A d4_4 rfl rfl rfl ?_
  refine s_aloadN (pc' := 6) A d4_5 rfl rfl rfl ?_
  refine s_iloadN (pc' := 7) A d4_6 rfl rfl ?_
  refine s_iaload (pc' := 8) (i := 0) (v := (.int (0 : Int32))) A V3 (by decide) rfl d4_7 rfl ?_
  refine s_iloadN (pc' := 9) A d4_8 rfl rfl ?_
  refine s_icmpY (pc' := 27) A d4_9 (by decide) (by decide) (by decide) ?_
  refine s_iloadN (pc' := 28) A d4_27 rfl rfl ?_
  exact r_int A rfl d4_28 (by decide) (by decide) (⟨rfl, (Keep.refl h0 [a, r_parents]), ⟨E1, F2, V3, ne4, ge5, ge6⟩⟩)
set_option maxRecDepth 65536 in
set_option maxHeartbeats 40000000 in
theorem ds_find14 (l : Launch) (Z : State) (a0 : Array Value) (hw : ∀ d ∈ tables_1, d.before a0 Z = true) (n0 : Nat) (h0 : Heap) (Z0 : n0 ≤ h0.size) (a r_parents : Addr)  (H : DS Z n0 h0 a r_parents [.int (0 : Int32), .int (0 : Int32), .int (0 : Int32), .int (3 : Int32)]) :
    Met l Z n0 y0_find prog_15_method_2_code 3 (Option.some Jvm.ClassFile.FieldType.int) ({ frames := 0, cells := 0, slots := 0, locals := 0 } : Room) #[(.ref a), (.int (1 : Int32))] h0 (fun v h => v = some (.int (0 : Int32)) ∧ Keep h0 h [a, r_parents] ∧ DS Z n0 h a r_parents [.int (0 : Int32), .int (0 : Int32), .int (0 : Int32), .int (3 : Int32)]) := by
  refine met_intro (own := c0_DisjointSets) (plainFor_of_name pn_com_example_kithgraph_kithgraph_cluster_DisjointSets) rfl Z0 ?_
  intro p e s m below meth c T A hnm
  refine Wp.cast (g' := mkF m 0 #[rv a, iv 1, U0] []) (by first | (simp [entryFrame, mkF, argsToLocals, Value.category, maxLocals, jv, S2, U0, iv, rv]; done) | rfl) ?_
  obtain ⟨E1, F2, V3, ne4, ge5, ge6⟩ := H
  refine s_aloadN (pc' := 1) A d4_0 rfl rfl rfl ?_
  refine s_getfield (pc' := 4) (host := "") A (Or.inl (w10 hw)) Via.refl F2 d4_1 rfl fun T A => ?_
  refine s_astoreN (pc' := 5) (Ls' := #[rv a, iv 1, rv r_parents]) A d4_4 rfl rfl rfl ?_
  refine s_aloadN (pc' := 6) A d4_5 rfl rfl rfl ?_
  refine s_iloadN (pc' := 7) A d4_6 rfl rfl ?_
  refine s_iaload (pc' := 8) (i := 1) (v := (.int (0 : Int32))) A V3 (by decide) rfl d4_7 rfl ?_
  refine s_iloadN (pc' := 9) A d4_8 rfl rfl ?_
  refine s_icmpN (pc' := 12) A d4_9 rfl (by decide) ?_
  refine s_aloadN (pc' := 13) A d4_12 rfl rfl rfl ?_
  refine s_iloadN (pc' := 14) A d4_13 rfl rfl ?_
  refine s_aloadN (pc' := 15) A d4_14 rfl rfl rfl ?_
  refine s_aloadN (pc' := 16) A d4_15 rfl rfl rfl ?_
  refine s_iloadN (pc' := 17) A d4_16 rfl rfl ?_
  refine s_iaload (pc' := 18) (i := 1) (v := (.int (0 : Int32))) A V3 (by decide) rfl d4_17 rfl ?_
  refine s_iaload (pc' := 19) (i := 0) (v := (.int (0 : Int32))) A V3 (by decide) rfl d4_18 rfl ?_
  refine s_iastore (pc' := 20) (i := 1) A V3 (by decide) (Nat.le_of_ble_eq_true rfl) ge6 d4_19 rfl fun T h7 A W8 V9 => ?_
  have V9 : AA Z h7 r_parents .int [.int (0 : Int32), .int (0 : Int32), .int (0 : Int32), .int (3 : Int32)] := V9
  refine s_aloadN (pc' := 21) A d4_20 rfl rfl rfl ?_
  refine s_iloadN (pc' := 22) A d4_21 rfl rfl ?_
  refine s_iaload (pc' := 23) (i := 1) (v := (.int (0 : Int32))) A V9 (by decide) rfl d4_22 rfl ?_
  refine s_istoreN (pc' := 24) (Ls' := #[rv a, iv 0, rv r_parents]) A d4_23 rfl rfl ?_
  refine s_goto (pc' := 5) A d4_24 (by decide) (by decide) ?_
  refine s_aloadN (pc' := 6) A d4_5 rfl rfl rfl ?_
  refine s_iloadN (pc' := 7) A d4_6 rfl rfl ?_
  refine s_iaload (pc' := 8) (i := 0) (v := (.int (0 : Int32))) A V9 (by decide) rfl d4_7 rfl ?_
  refine s_iloadN (pc' := 9) A d4_8 rfl rfl ?_
  refine s_icmpY (pc' := 27) A d4_9 (by decide) (by decide) (by decide) ?_
  refine s_iloadN (pc' := 28) A d4_27 rfl rfl ?_
  have K10 := ((Keep.refl h0 [a, r_parents]).wr W8 (Or.inl (List.mem_of_getElem? (i := 1) rfl)))
  have E11 := (E1.wr W8)
  have F12 := (F2.other W8 (Or.inl ne4))
  exact r_int A rfl d4_28 (by decide) (by decide) (⟨rfl, K10, ⟨E11, F12, V9, ne4, ge5, ge6⟩⟩)
set_option maxRecDepth 65536 in
set_option maxHeartbeats 40000000 in
theorem ds_find15 (l : Launch) (Z : State) (a0 : Array Value) (hw : ∀ d ∈ tables_1, d.before a0 Z = true) (n0 : Nat) (h0 : Heap) (Z0 : n0 ≤ h0.size) (a r_parents : Addr)  (H : DS Z n0 h0 a r_parents [.int (0 : Int32), .int (0 : Int32), .int (0 : Int32), .int (3 : Int32)]) :
    Met l Z n0 y0_find prog_15_method_2_code 3 (Option.some Jvm.ClassFile.FieldType.int) ({ frames := 0, cells := 0, slots := 0, locals := 0 } : Room) #[(.ref a), (.int (2 : Int32))] h0 (fun v h => v = some (.int (0 : Int32)) ∧ Keep h0 h [a, r_parents] ∧ DS Z n0 h a r_parents [.int (0 : Int32), .int (0 : Int32), .int (0 : Int32), .int (3 : Int32)]) := by
  refine met_intro (own := c0_DisjointSets) (plainFor_of_name pn_com_example_kithgraph_kithgraph_cluster_DisjointSets) rfl Z0 ?_
  intro p e s m below meth c T A hnm
  refine Wp.cast (g' := mkF m 0 #[rv a, iv 2, U0] []) (by first | (simp [entryFrame, mkF, argsToLocals, Value.category, maxLocals, jv, S2, U0, iv, rv]; done) | rfl) ?_
  obtain ⟨E1, F2, V3, ne4, ge5, ge6⟩ := H
  refine s_aloadN (pc' := 1) A d4_0 rfl rfl rfl ?_
  refine s_getfield (pc' := 4) (host := "") A (Or.inl (w10 hw)) Via.refl F2 d4_1 rfl fun T A => ?_
  refine s_astoreN (pc' := 5) (Ls' := #[rv a, iv 2, rv r_parents]) A d4_4 rfl rfl rfl ?_
  refine s_aloadN (pc' := 6) A d4_5 rfl rfl rfl ?_
  refine s_iloadN (pc' := 7) A d4_6 rfl rfl ?_
  refine s_iaload (pc' := 8) (i := 2) (v := (.int (0 : Int32))) A V3 (by decide) rfl d4_7 rfl ?_
  refine s_iloadN (pc' := 9) A d4_8 rfl rfl ?_
  refine s_icmpN (pc' := 12) A d4_9 rfl (by decide) ?_
  refine s_aloadN (pc' := 13) A d4_12 rfl rfl rfl ?_
  refine s_iloadN (pc' := 14) A d4_13 rfl rfl ?_
  refine s_aloadN (pc' := 15) A d4_14 rfl rfl rfl ?_
  refine s_aloadN (pc' := 16) A d4_15 rfl rfl rfl ?_
  refine s_iloadN (pc' := 17) A d4_16 rfl rfl ?_
  refine s_iaload (pc' := 18) (i := 2) (v := (.int (0 : Int32))) A V3 (by decide) rfl d4_17 rfl ?_
  refine s_iaload (pc' := 19) (i := 0) (v := (.int (0 : Int32))) A V3 (by decide) rfl d4_18 rfl ?_
  refine s_iastore (pc' := 20) (i := 2) A V3 (by decide) (Nat.le_of_ble_eq_true rfl) ge6 d4_19 rfl fun T h7 A W8 V9 => ?_
  have V9 : AA Z h7 r_parents .int [.int (0 : Int32), .int (0 : Int32), .int (0 : Int32), .int (3 : Int32)] := V9
  refine s_aloadN (pc' := 21) A d4_20 rfl rfl rfl ?_
  refine s_iloadN (pc' := 22) A d4_21 rfl rfl ?_
  refine s_iaload (pc' := 23) (i := 2) (v := (.int (0 : Int32))) A V9 (by decide) rfl d4_22 rfl ?_
  refine s_istoreN (pc' := 24) (Ls' := #[rv a, iv 0, rv r_parents]) A d4_23 rfl rfl ?_
  refine s_goto (pc' := 5) A d4_24 (by decide) (by decide) ?_
  refine s_aloadN (pc' := 6) A d4_5 rfl rfl rfl ?_
  refine s_iloadN (pc' := 7) A d4_6 rfl rfl ?_
  refine s_iaload (pc' := 8) (i := 0) (v := (.int (0 : Int32))) A V9 (by decide) rfl d4_7 rfl ?_
  refine s_iloadN (pc' := 9) A d4_8 rfl rfl ?_
  refine s_icmpY (pc' := 27) A d4_9 (by decide) (by decide) (by decide) ?_
  refine s_iloadN (pc' := 28) A d4_27 rfl rfl ?_
  have K10 := ((Keep.refl h0 [a, r_parents]).wr W8 (Or.inl (List.mem_of_getElem? (i := 1) rfl)))
  have E11 := (E1.wr W8)
  have F12 := (F2.other W8 (Or.inl ne4))
  exact r_int A rfl d4_28 (by decide) (by decide) (⟨rfl, K10, ⟨E11, F12, V9, ne4, ge5, ge6⟩⟩)
set_option maxRecDepth 65536 in
set_option maxHeartbeats 40000000 in
theorem ds_find16 (l : Launch) (Z : State) (a0 : Array Value) (hw : ∀ d ∈ tables_1, d.before a0 Z = true) (n0 : Nat) (h0 : Heap) (Z0 : n0 ≤ h0.size) (a r_parents : Addr)  (H : DS Z n0 h0 a r_parents [.int (0 : Int32), .int (0 : Int32), .int (0 : Int32), .int (3 : Int32)]) :
    Met l Z n0 y0_find prog_15_method_2_code 3 (Option.some Jvm.ClassFile.FieldType.int) ({ frames := 0, cells := 0, slots := 0, locals := 0 } : Room) #[(.ref a), (.int (3 : Int32))] h0 (fun v h => v = some (.int (3 : Int32)) ∧ Keep h0 h [a, r_parents] ∧ DS Z n0 h a r_parents [.int (0 : Int32), .int (0 : Int32), .int (0 : Int32), .int (3 : Int32)]) := by
  refine met_intro (own := c0_DisjointSets) (plainFor_of_name pn_com_example_kithgraph_kithgraph_cluster_DisjointSets) rfl Z0 ?_
  intro p e s m below meth c T A hnm
  refine Wp.cast (g' := mkF m 0 #[rv a, iv 3, U0] []) (by first | (simp [entryFrame, mkF, argsToLocals, Value.category, maxLocals, jv, S2, U0, iv, rv]; done) | rfl) ?_
  obtain ⟨E1, F2, V3, ne4, ge5, ge6⟩ := H
  refine s_aloadN (pc' := 1) A d4_0 rfl rfl rfl ?_
  refine s_getfield (pc' := 4) (host := "") A (Or.inl (w10 hw)) Via.refl F2 d4_1 rfl fun T A => ?_
  refine s_astoreN (pc' := 5) (Ls' := #[rv a, iv 3, rv r_parents]) A d4_4 rfl rfl rfl ?_
  refine s_aloadN (pc' := 6) A d4_5 rfl rfl rfl ?_
  refine s_iloadN (pc' := 7) A d4_6 rfl rfl ?_
  refine s_iaload (pc' := 8) (i := 3) (v := (.int (3 : Int32))) A V3 (by decide) rfl d4_7 rfl ?_
  refine s_iloadN (pc' := 9) A d4_8 rfl rfl ?_
  refine s_icmpY (pc' := 27) A d4_9 (by decide) (by decide) (by decide) ?_
  refine s_iloadN (pc' := 28) A d4_27 rfl rfl ?_
  exact r_int A rfl d4_28 (by decide) (by decide) (⟨rfl, (Keep.refl h0 [a, r_parents]), ⟨E1, F2, V3, ne4, ge5, ge6⟩⟩)
set_option maxRecDepth 65536 in
set_option maxHeartbeats 40000000 in
theorem ds_find17 (l : Launch) (Z : State) (a0 : Array Value) (hw : ∀ d ∈ tables_1, d.before a0 Z = true) (n0 : Nat) (h0 : Heap) (Z0 : n0 ≤ h0.size) (a r_parents : Addr)  (H : DS Z n0 h0 a r_parents [.int (0 : Int32), .int (0 : Int32), .int (1 : Int32), .int (0 : Int32)]) :
    Met l Z n0 y0_find prog_15_method_2_code 3 (Option.some Jvm.ClassFile.FieldType.int) ({ frames := 0, cells := 0, slots := 0, locals := 0 } : Room) #[(.ref a), (.int (0 : Int32))] h0 (fun v h => v = some (.int (0 : Int32)) ∧ Keep h0 h [a, r_parents] ∧ DS Z n0 h a r_parents [.int (0 : Int32), .int (0 : Int32), .int (1 : Int32), .int (0 : Int32)]) := by
  refine met_intro (own := c0_DisjointSets) (plainFor_of_name pn_com_example_kithgraph_kithgraph_cluster_DisjointSets) rfl Z0 ?_
  intro p e s m below meth c T A hnm
  refine Wp.cast (g' := mkF m 0 #[rv a, iv 0, U0] []) (by first | (simp [entryFrame, mkF, argsToLocals, Value.category, maxLocals, jv, S2, U0, iv, rv]; done) | rfl) ?_
  obtain ⟨E1, F2, V3, ne4, ge5, ge6⟩ := H
  refine s_aloadN (pc' := 1) A d4_0 rfl rfl rfl ?_
  refine s_getfield (pc' := 4) (host := "") A (Or.inl (w10 hw)) Via.refl F2 d4_1 rfl fun T A => ?_
  refine s_astoreN (pc' := 5) (Ls' := #[rv a, iv 0, rv r_parents]) A d4_4 rfl rfl rfl ?_
  refine s_aloadN (pc' := 6) A d4_5 rfl rfl rfl ?_
  refine s_iloadN (pc' := 7) A d4_6 rfl rfl ?_
  refine s_iaload (pc' := 8) (i := 0) (v := (.int (0 : Int32))) A V3 (by decide) rfl d4_7 rfl ?_
  refine s_iloadN (pc' := 9) A d4_8 rfl rfl ?_
  refine s_icmpY (pc' := 27) A d4_9 (by decide) (by decide) (by decide) ?_
  refine s_iloadN (pc' := 28) A d4_27 rfl rfl ?_
  exact r_int A rfl d4_28 (by decide) (by decide) (⟨rfl, (Keep.refl h0 [a, r_parents]), ⟨E1, F2, V3, ne4, ge5, ge6⟩⟩)
set_option maxRecDepth 65536 in
set_option maxHeartbeats 40000000 in
theorem ds_find18 (l : Launch) (Z : State) (a0 : Array Value) (hw : ∀ d ∈ tables_1, d.before a0 Z = true) (n0 : Nat) (h0 : Heap) (Z0 : n0 ≤ h0.size) (a r_parents : Addr)  (H : DS Z n0 h0 a r_parents [.int (0 : Int32), .int (0 : Int32), .int (1 : Int32), .int (0 : Int32)]) :
    Met l Z n0 y0_find prog_15_method_2_code 3 (Option.some Jvm.ClassFile.FieldType.int) ({ frames := 0, cells := 0, slots := 0, locals := 0 } : Room) #[(.ref a), (.int (1 : Int32))] h0 (fun v h => v = some (.int (0 : Int32)) ∧ Keep h0 h [a, r_parents] ∧ DS Z n0 h a r_parents [.int (0 : Int32), .int (0 : Int32), .int (1 : Int32), .int (0 : Int32)]) := by
  refine met_intro (own := c0_DisjointSets) (plainFor_of_name pn_com_example_kithgraph_kithgraph_cluster_DisjointSets) rfl Z0 ?_
  intro p e s m below meth c T A hnm
  refine Wp.cast (g' := mkF m 0 #[rv a, iv 1, U0] []) (by first | (simp [entryFrame, mkF, argsToLocals, Value.category, maxLocals, jv, S2, U0, iv, rv]; done) | rfl) ?_
  obtain ⟨E1, F2, V3, ne4, ge5, ge6⟩ := H
  refine s_aloadN (pc' := 1) A d4_0 rfl rfl rfl ?_
  refine s_getfield (pc' := 4) (host := "") A (Or.inl (w10 hw)) Via.refl F2 d4_1 rfl fun T A => ?_
  refine s_astoreN (pc' := 5) (Ls' := #[rv a, iv 1, rv r_parents]) A d4_4 rfl rfl rfl ?_
  refine s_aloadN (pc' := 6) A d4_5 rfl rfl rfl ?_
  refine s_iloadN (pc' := 7) A d4_6 rfl rfl ?_
  refine s_iaload (pc' := 8) (i := 1) (v := (.int (0 : Int32))) A V3 (by decide) rfl d4_7 rfl ?_
  refine s_iloadN (pc' := 9) A d4_8 rfl rfl ?_
  refine s_icmpN (pc' := 12) A d4_9 rfl (by decide) ?_
  refine s_aloadN (pc' := 13) A d4_12 rfl rfl rfl ?_
  refine s_iloadN (pc' := 14) A d4_13 rfl rfl ?_
  refine s_aloadN (pc' := 15) A d4_14 rfl rfl rfl ?_
  refine s_aloadN (pc' := 16) A d4_15 rfl rfl rfl ?_
  refine s_iloadN (pc' := 17) A d4_16 rfl rfl ?_
  refine s_iaload (pc' := 18) (i := 1) (v := (.int (0 : Int32))) A V3 (by decide) rfl d4_17 rfl ?_
  refine s_iaload (pc' := 19) (i := 0) (v := (.int (0 : Int32))) A V3 (by decide) rfl d4_18 rfl ?_
  refine s_iastore (pc' := 20) (i := 1) A V3 (by decide) (Nat.le_of_ble_eq_true rfl) ge6 d4_19 rfl fun T h7 A W8 V9 => ?_
  have V9 : AA Z h7 r_parents .int [.int (0 : Int32), .int (0 : Int32), .int (1 : Int32), .int (0 : Int32)] := V9
  refine s_aloadN (pc' := 21) A d4_20 rfl rfl rfl ?_
  refine s_iloadN (pc' := 22) A d4_21 rfl rfl ?_
  refine s_iaload (pc' := 23) (i := 1) (v := (.int (0 : Int32))) A V9 (by decide) rfl d4_22 rfl ?_
  refine s_istoreN (pc' := 24) (Ls' := #[rv a, iv 0, rv r_parents]) A d4_23 rfl rfl ?_
  refine s_goto (pc' := 5) A d4_24 (by decide) (by decide) ?_
  refine s_aloadN (pc' := 6) A d4_5 rfl rfl rfl ?_
  refine s_iloadN (pc' := 7) A d4_6 rfl rfl ?_
  refine s_iaload (pc' := 8) (i := 0) (v := (.int (0 : Int32))) A V9 (by decide) rfl d4_7 rfl ?_
  refine s_iloadN (pc' := 9) A d4_8 rfl rfl ?_
  refine s_icmpY (pc' := 27) A d4_9 (by decide) (by decide) (by decide) ?_
  refine s_iloadN (pc' := 28) A d4_27 rfl rfl ?_
  have K10 := ((Keep.refl h0 [a, r_parents]).wr W8 (Or.inl (List.mem_of_getElem? (i := 1) rfl)))
  have E11 := (E1.wr W8)
  have F12 := (F2.other W8 (Or.inl ne4))
  exact r_int A rfl d4_28 (by decide) (by decide) (⟨rfl, K10, ⟨E11, F12, V9, ne4, ge5, ge6⟩⟩)
set_option maxRecDepth 65536 in
set_option maxHeartbeats 40000000 in
theorem ds_find19 (l : Launch) (Z : State) (a0 : Array Value) (hw : ∀ d ∈ tables_1, d.before a0 Z = true) (n0 : Nat) (h0 : Heap) (Z0 : n0 ≤ h0.size) (a r_parents : Addr)  (H : DS Z n0 h0 a r_parents [.int (0 : Int32), .int (0 : Int32), .int (1 : Int32), .int (0 : Int32)]) :
    Met l Z n0 y0_find prog_15_method_2_code 3 (Option.some Jvm.ClassFile.FieldType.int) ({ frames := 0, cells := 0, slots := 0, locals := 0 } : Room) #[(.ref a), (.int (2 : Int32))] h0 (fun v h => v = some (.int (0 : Int32)) ∧ Keep h0 h [a, r_parents] ∧ DS Z n0 h a r_parents [.int (0 : Int32), .int (0 : Int32), .int (0 : Int32), .int (0 : Int32)]) := by
  refine met_intro (own := c0_DisjointSets) (plainFor_of_name pn_com_example_kithgraph_kithgraph_cluster_DisjointSets) rfl Z0 ?_
  intro p e s m below meth c T A hnm
  refine Wp.cast (g' := mkF m 0 #[rv a, iv 2, U0] []) (by first | (simp [entryFrame, mkF, argsToLocals, Value.category, maxLocals, jv, S2, U0, iv, rv]; done) | rfl) ?_
  obtain ⟨E1, F2, V3, ne4, ge5, ge6⟩ := H
  refine s_aloadN (pc' := 1) A d4_0 rfl rfl rfl ?_
  refine s_getfield (pc' := 4) (host := "") A (Or.inl (w10 hw)) Via.refl F2 d4_1 rfl fun T A => ?_
  refine s_astoreN (pc' := 5) (Ls' := #[rv a, iv 2, rv r_parents]) A d4_4 rfl rfl rfl ?_
  refine s_aloadN (pc' := 6) A d4_5 rfl rfl rfl ?_
  refine s_iloadN (pc' := 7) A d4_6 rfl rfl ?_
  refine s_iaload (pc' := 8) (i := 2) (v := (.int (1 : Int32))) A V3 (by decide) rfl d4_7 rfl ?_
  refine s_iloadN (pc' := 9) A d4_8 rfl rfl ?_
  refine s_icmpN (pc' := 12) A d4_9 rfl (by decide) ?_
  refine s_aloadN (pc' := 13) A d4_12 rfl rfl rfl ?_
  refine s_iloadN (pc' := 14) A d4_13 rfl rfl ?_
  refine s_aloadN (pc' := 15) A d4_14 rfl rfl rfl ?_
  refine s_aloadN (pc' := 16) A d4_15 rfl rfl rfl ?_
  refine s_iloadN (pc' := 17) A d4_16 rfl rfl ?_
  refine s_iaload (pc' := 18) (i := 2) (v := (.int (1 : Int32))) A V3 (by decide) rfl d4_17 rfl ?_
  refine s_iaload (pc' := 19) (i := 1) (v := (.int (0 : Int32))) A V3 (by decide) rfl d4_18 rfl ?_
  refine s_iastore (pc' := 20) (i := 2) A V3 (by decide) (Nat.le_of_ble_eq_true rfl) ge6 d4_19 rfl fun T h7 A W8 V9 => ?_
  have V9 : AA Z h7 r_parents .int [.int (0 : Int32), .int (0 : Int32), .int (0 : Int32), .int (0 : Int32)] := V9
  refine s_aloadN (pc' := 21) A d4_20 rfl rfl rfl ?_
  refine s_iloadN (pc' := 22) A d4_21 rfl rfl ?_
  refine s_iaload (pc' := 23) (i := 2) (v := (.int (0 : Int32))) A V9 (by decide) rfl d4_22 rfl ?_
  refine s_istoreN (pc' := 24) (Ls' := #[rv a, iv 0, rv r_parents]) A d4_23 rfl rfl ?_
  refine s_goto (pc' := 5) A d4_24 (by decide) (by decide) ?_
  refine s_aloadN (pc' := 6) A d4_5 rfl rfl rfl ?_
  refine s_iloadN (pc' := 7) A d4_6 rfl rfl ?_
  refine s_iaload (pc' := 8) (i := 0) (v := (.int (0 : Int32))) A V9 (by decide) rfl d4_7 rfl ?_
  refine s_iloadN (pc' := 9) A d4_8 rfl rfl ?_
  refine s_icmpY (pc' := 27) A d4_9 (by decide) (by decide) (by decide) ?_
  refine s_iloadN (pc' := 28) A d4_27 rfl rfl ?_
  have K10 := ((Keep.refl h0 [a, r_parents]).wr W8 (Or.inl (List.mem_of_getElem? (i := 1) rfl)))
  have E11 := (E1.wr W8)
  have F12 := (F2.other W8 (Or.inl ne4))
  exact r_int A rfl d4_28 (by decide) (by decide) (⟨rfl, K10, ⟨E11, F12, V9, ne4, ge5, ge6⟩⟩)
set_option maxRecDepth 65536 in
set_option maxHeartbeats 40000000 in
theorem ds_find20 (l : Launch) (Z : State) (a0 : Array Value) (hw : ∀ d ∈ tables_1, d.before a0 Z = true) (n0 : Nat) (h0 : Heap) (Z0 : n0 ≤ h0.size) (a r_parents : Addr)  (H : DS Z n0 h0 a r_parents [.int (0 : Int32), .int (0 : Int32), .int (1 : Int32), .int (0 : Int32)]) :
    Met l Z n0 y0_find prog_15_method_2_code 3 (Option.some Jvm.ClassFile.FieldType.int) ({ frames := 0, cells := 0, slots := 0, locals := 0 } : Room) #[(.ref a), (.int (3 : Int32))] h0 (fun v h => v = some (.int (0 : Int32)) ∧ Keep h0 h [a, r_parents] ∧ DS Z n0 h a r_parents [.int (0 : Int32), .int (0 : Int32), .int (1 : Int32), .int (0 : Int32)]) := by
  refine met_intro (own := c0_DisjointSets) (plainFor_of_name pn_com_example_kithgraph_kithgraph_cluster_DisjointSets) rfl Z0 ?_
  intro p e s m below meth c T A hnm
  refine Wp.cast (g' := mkF m 0 #[rv a, iv 3, U0] []) (by first | (simp [entryFrame, mkF, argsToLocals, Value.category, maxLocals, jv, S2, U0, iv, rv]; done) | rfl) ?_
  obtain ⟨E1, F2, V3, ne4, ge5, ge6⟩ := H
  refine s_aloadN (pc' := 1) A d4_0 rfl rfl rfl ?_
  refine s_getfield (pc' := 4) (host := "") A (Or.inl (w10 hw)) Via.refl F2 d4_1 rfl fun T A => ?_
  refine s_astoreN (pc' := 5) (Ls' := #[rv a, iv 3, rv r_parents]) A d4_4 rfl rfl rfl ?_
  refine s_aloadN (pc' := 6) A d4_5 rfl rfl rfl ?_
  refine s_iloadN (pc' := 7) A d4_6 rfl rfl ?_
  refine s_iaload (pc' := 8) (i := 3) (v := (.int (0 : Int32))) A V3 (by decide) rfl d4_7 rfl ?_
  refine s_iloadN (pc' := 9) A d4_8 rfl rfl ?_
  refine s_icmpN (pc' := 12) A d4_9 rfl (by decide) ?_
  refine s_aloadN (pc' := 13) A d4_12 rfl rfl rfl ?_
  refine s_iloadN (pc' := 14) A d4_13 rfl rfl ?_
  refine s_aloadN (pc' := 15) A d4_14 rfl rfl rfl ?_
  refine s_aloadN (pc' := 16) A d4_15 rfl rfl rfl ?_
  refine s_iloadN (pc' := 17) A d4_16 rfl rfl ?_
  refine s_iaload (pc' := 18) (i := 3) (v := (.int (0 : Int32))) A V3 (by decide) rfl d4_17 rfl ?_
  refine s_iaload (pc' := 19) (i := 0) (v := (.int (0 : Int32))) A V3 (by decide) rfl d4_18 rfl ?_
  refine s_iastore (pc' := 20) (i := 3) A V3 (by decide) (Nat.le_of_ble_eq_true rfl) ge6 d4_19 rfl fun T h7 A W8 V9 => ?_
  have V9 : AA Z h7 r_parents .int [.int (0 : Int32), .int (0 : Int32), .int (1 : Int32), .int (0 : Int32)] := V9
  refine s_aloadN (pc' := 21) A d4_20 rfl rfl rfl ?_
  refine s_iloadN (pc' := 22) A d4_21 rfl rfl ?_
  refine s_iaload (pc' := 23) (i := 3) (v := (.int (0 : Int32))) A V9 (by decide) rfl d4_22 rfl ?_
  refine s_istoreN (pc' := 24) (Ls' := #[rv a, iv 0, rv r_parents]) A d4_23 rfl rfl ?_
  refine s_goto (pc' := 5) A d4_24 (by decide) (by decide) ?_
  refine s_aloadN (pc' := 6) A d4_5 rfl rfl rfl ?_
  refine s_iloadN (pc' := 7) A d4_6 rfl rfl ?_
  refine s_iaload (pc' := 8) (i := 0) (v := (.int (0 : Int32))) A V9 (by decide) rfl d4_7 rfl ?_
  refine s_iloadN (pc' := 9) A d4_8 rfl rfl ?_
  refine s_icmpY (pc' := 27) A d4_9 (by decide) (by decide) (by decide) ?_
  refine s_iloadN (pc' := 28) A d4_27 rfl rfl ?_
  have K10 := ((Keep.refl h0 [a, r_parents]).wr W8 (Or.inl (List.mem_of_getElem? (i := 1) rfl)))
  have E11 := (E1.wr W8)
  have F12 := (F2.other W8 (Or.inl ne4))
  exact r_int A rfl d4_28 (by decide) (by decide) (⟨rfl, K10, ⟨E11, F12, V9, ne4, ge5, ge6⟩⟩)
set_option maxRecDepth 65536 in
set_option maxHeartbeats 40000000 in
theorem ds_find21 (l : Launch) (Z : State) (a0 : Array Value) (hw : ∀ d ∈ tables_1, d.before a0 Z = true) (n0 : Nat) (h0 : Heap) (Z0 : n0 ≤ h0.size) (a r_parents : Addr)  (H : DS Z n0 h0 a r_parents [.int (0 : Int32), .int (0 : Int32), .int (1 : Int32), .int (1 : Int32)]) :
    Met l Z n0 y0_find prog_15_method_2_code 3 (Option.some Jvm.ClassFile.FieldType.int) ({ frames := 0, cells := 0, slots := 0, locals := 0 } : Room) #[(.ref a), (.int (0 : Int32))] h0 (fun v h => v = some (.int (0 : Int32)) ∧ Keep h0 h [a, r_parents] ∧ DS Z n0 h a r_parents [.int (0 : Int32), .int (0 : Int32), .int (1 : Int32), .int (1 : Int32)]) := by
  refine met_intro (own := c0_DisjointSets) (plainFor_of_name pn_com_example_kithgraph_kithgraph_cluster_DisjointSets) rfl Z0 ?_
  intro p e s m below meth c T A hnm
  refine Wp.cast (g' := mkF m 0 #[rv a, iv 0, U0] []) (by first | (simp [entryFrame, mkF, argsToLocals, Value.category, maxLocals, jv, S2, U0, iv, rv]; done) | rfl) ?_
  obtain ⟨E1, F2, V3, ne4, ge5, ge6⟩ := H
  refine s_aloadN (pc' := 1) A d4_0 rfl rfl rfl ?_
  refine s_getfield (pc' := 4) (host := "") A (Or.inl (w10 hw)) Via.refl F2 d4_1 rfl fun T A => ?_
  refine s_astoreN (pc' := 5) (Ls' := #[rv a, iv 0, rv r_parents]) A d4_4 rfl rfl rfl ?_
  refine s_aloadN (pc' := 6) A d4_5 rfl rfl rfl ?_
  refine s_iloadN (pc' := 7) A d4_6 rfl rfl ?_
  refine s_iaload (pc' := 8) (i := 0) (v := (.int (0 : Int32))) A V3 (by decide) rfl d4_7 rfl ?_
  refine s_iloadN (pc' := 9) A d4_8 rfl rfl ?_
  refine s_icmpY (pc' := 27) A d4_9 (by decide) (by decide) (by decide) ?_
  refine s_iloadN (pc' := 28) A d4_27 rfl rfl ?_
  exact r_int A rfl d4_28 (by decide) (by decide) (⟨rfl, (Keep.refl h0 [a, r_parents]), ⟨E1, F2, V3, ne4, ge5, ge6⟩⟩)
set_option maxRecDepth 65536 in
set_option maxHeartbeats 40000000 in
theorem ds_find22 (l : Launch) (Z : State) (a0 : Array Value) (hw : ∀ d ∈ tables_1, d.before a0 Z = true) (n0 : Nat) (h0 : Heap) (Z0 : n0 ≤ h0.size) (a r_parents : Addr)  (H : DS Z n0 h0 a r_parents [.int (0 : Int32), .int (0 : Int32), .int (1 : Int32), .int (1 : Int32)]) :
    Met l Z n0 y0_find prog_15_method_2_code 3 (Option.some Jvm.ClassFile.FieldType.int) ({ frames := 0, cells := 0, slots := 0, locals := 0 } : Room) #[(.ref a), (.int (1 : Int32))] h0 (fun v h => v = some (.int (0 : Int32)) ∧ Keep h0 h [a, r_parents] ∧ DS Z n0 h a r_parents [.int (0 : Int32), .int (0 : Int32), .int (1 : Int32), .int (1 : Int32)]) := by
  refine met_intro (own := c0_DisjointSets) (plainFor_of_name pn_com_example_kithgraph_kithgraph_cluster_DisjointSets) rfl Z0 ?_
  intro p e s m below meth c T A hnm
  refine Wp.cast (g' := mkF m 0 #[rv a, iv 1, U0] []) (by first | (simp [entryFrame, mkF, argsToLocals, Value.category, maxLocals, jv, S2, U0, iv, rv]; done) | rfl) ?_
  obtain ⟨E1, F2, V3, ne4, ge5, ge6⟩ := H
  refine s_aloadN (pc' := 1) A d4_0 rfl rfl rfl ?_
  refine s_getfield (pc' := 4) (host := "") A (Or.inl (w10 hw)) Via.refl F2 d4_1 rfl fun T A => ?_
  refine s_astoreN (pc' := 5) (Ls' := #[rv a, iv 1, rv r_parents]) A d4_4 rfl rfl rfl ?_
  refine s_aloadN (pc' := 6) A d4_5 rfl rfl rfl ?_
  refine s_iloadN (pc' := 7) A d4_6 rfl rfl ?_
  refine s_iaload (pc' := 8) (i := 1) (v := (.int (0 : Int32))) A V3 (by decide) rfl d4_7 rfl ?_
  refine s_iloadN (pc' := 9) A d4_8 rfl rfl ?_
  refine s_icmpN (pc' := 12) A d4_9 rfl (by decide) ?_
  refine s_aloadN (pc' := 13) A d4_12 rfl rfl rfl ?_
  refine s_iloadN (pc' := 14) A d4_13 rfl rfl ?_
  refine s_aloadN (pc' := 15) A d4_14 rfl rfl rfl ?_
  refine s_aloadN (pc' := 16) A d4_15 rfl rfl rfl ?_
  refine s_iloadN (pc' := 17) A d4_16 rfl rfl ?_
  refine s_iaload (pc' := 18) (i := 1) (v := (.int (0 : Int32))) A V3 (by decide) rfl d4_17 rfl ?_
  refine s_iaload (pc' := 19) (i := 0) (v := (.int (0 : Int32))) A V3 (by decide) rfl d4_18 rfl ?_
  refine s_iastore (pc' := 20) (i := 1) A V3 (by decide) (Nat.le_of_ble_eq_true rfl) ge6 d4_19 rfl fun T h7 A W8 V9 => ?_
  have V9 : AA Z h7 r_parents .int [.int (0 : Int32), .int (0 : Int32), .int (1 : Int32), .int (1 : Int32)] := V9
  refine s_aloadN (pc' := 21) A d4_20 rfl rfl rfl ?_
  refine s_iloadN (pc' := 22) A d4_21 rfl rfl ?_
  refine s_iaload (pc' := 23) (i := 1) (v := (.int (0 : Int32))) A V9 (by decide) rfl d4_22 rfl ?_
  refine s_istoreN (pc' := 24) (Ls' := #[rv a, iv 0, rv r_parents]) A d4_23 rfl rfl ?_
  refine s_goto (pc' := 5) A d4_24 (by decide) (by decide) ?_
  refine s_aloadN (pc' := 6) A d4_5 rfl rfl rfl ?_
  refine s_iloadN (pc' := 7) A d4_6 rfl rfl ?_
  refine s_iaload (pc' := 8) (i := 0) (v := (.int (0 : Int32))) A V9 (by decide) rfl d4_7 rfl ?_
  refine s_iloadN (pc' := 9) A d4_8 rfl rfl ?_
  refine s_icmpY (pc' := 27) A d4_9 (by decide) (by decide) (by decide) ?_
  refine s_iloadN (pc' := 28) A d4_27 rfl rfl ?_
  have K10 := ((Keep.refl h0 [a, r_parents]).wr W8 (Or.inl (List.mem_of_getElem? (i := 1) rfl)))
  have E11 := (E1.wr W8)
  have F12 := (F2.other W8 (Or.inl ne4))
  exact r_int A rfl d4_28 (by decide) (by decide) (⟨rfl, K10, ⟨E11, F12, V9, ne4, ge5, ge6⟩⟩)
set_option maxRecDepth 65536 in
set_option maxHeartbeats 40000000 in
theorem ds_find23 (l : Launch) (Z : State) (a0 : Array Value) (hw : ∀ d ∈ tables_1, d.before a0 Z = true) (n0 : Nat) (h0 : Heap) (Z0 : n0 ≤ h0.size) (a r_parents : Addr)  (H : DS Z n0 h0 a r_parents [.int (0 : Int32), .int (0 : Int32), .int (1 : Int32), .int (1 : Int32)]) :
    Met l Z n0 y0_find prog_15_method_2_code 3 (Option.some Jvm.ClassFile.FieldType.int) ({ frames := 0, cells := 0, slots := 0, locals := 0 } : Room) #[(.ref a), (.int (2 : Int32))] h0 (fun v h => v = some (.int (0 : Int32)) ∧ Keep h0 h [a, r_parents] ∧ DS Z n0 h a r_parents [.int (0 : Int32), .int (0 : Int32), .int (0 : Int32), .int (1 : Int32)]) := by
  refine met_intro (own := c0_DisjointSets) (plainFor_of_name pn_com_example_kithgraph_kithgraph_cluster_DisjointSets) rfl Z0 ?_
  intro p e s m below meth c T A hnm
  refine Wp.cast (g' := mkF m 0 #[rv a, iv 2, U0] []) (by first | (simp [entryFrame, mkF, argsToLocals, Value.category, maxLocals, jv, S2, U0, iv, rv]; done) | rfl) ?_
  obtain ⟨E1, F2, V3, ne4, ge5, ge6⟩ := H
  refine s_aloadN (pc' := 1) A d4_0 rfl rfl rfl ?_
  refine s_getfield (pc' := 4) (host := "") A (Or.inl (w10 hw)) Via.refl F2 d4_1 rfl fun T A => ?_
  refine s_astoreN (pc' := 5) (Ls' := #[rv a, iv 2, rv r_parents]) A d4_4 rfl rfl rfl ?_
  refine s_aloadN (pc' := 6) A d4_5 rfl rfl rfl ?_
  refine s_iloadN (pc' := 7) A d4_6 rfl rfl ?_
  refine s_iaload (pc' := 8) (i := 2) (v := (.int (1 : Int32))) A V3 (by decide) rfl d4_7 rfl ?_
  refine s_iloadN (pc' := 9) A d4_8 rfl rfl ?_
  refine s_icmpN (pc' := 12) A d4_9 rfl (by decide) ?_
  refine s_aloadN (pc' := 13) A d4_12 rfl rfl rfl ?_
  refine s_iloadN (pc' := 14) A d4_13 rfl rfl ?_
  refine s_aloadN (pc' := 15) A d4_14 rfl rfl rfl ?_
  refine s_aloadN (pc' := 16) A d4_15 rfl rfl rfl ?_
  refine s_iloadN (pc' := 17) A d4_16 rfl rfl ?_
  refine s_iaload (pc' := 18) (i := 2) (v := (.int (1 : Int32))) A V3 (by decide) rfl d4_17 rfl ?_
  refine s_iaload (pc' := 19) (i := 1) (v := (.int (0 : Int32))) A V3 (by decide) rfl d4_18 rfl ?_
  refine s_iastore (pc' := 20) (i := 2) A V3 (by decide) (Nat.le_of_ble_eq_true rfl) ge6 d4_19 rfl fun T h7 A W8 V9 => ?_
  have V9 : AA Z h7 r_parents .int [.int (0 : Int32), .int (0 : Int32), .int (0 : Int32), .int (1 : Int32)] := V9
  refine s_aloadN (pc' := 21) A d4_20 rfl rfl rfl ?_
  refine s_iloadN (pc' := 22) A d4_21 rfl rfl ?_
  refine s_iaload (pc' := 23) (i := 2) (v := (.int (0 : Int32))) A V9 (by decide) rfl d4_22 rfl ?_
  refine s_istoreN (pc' := 24) (Ls' := #[rv a, iv 0, rv r_parents]) A d4_23 rfl rfl ?_
  refine s_goto (pc' := 5) A d4_24 (by decide) (by decide) ?_
  refine s_aloadN (pc' := 6) A d4_5 rfl rfl rfl ?_
  refine s_iloadN (pc' := 7) A d4_6 rfl rfl ?_
  refine s_iaload (pc' := 8) (i := 0) (v := (.int (0 : Int32))) A V9 (by decide) rfl d4_7 rfl ?_
  refine s_iloadN (pc' := 9) A d4_8 rfl rfl ?_
  refine s_icmpY (pc' := 27) A d4_9 (by decide) (by decide) (by decide) ?_
  refine s_iloadN (pc' := 28) A d4_27 rfl rfl ?_
  have K10 := ((Keep.refl h0 [a, r_parents]).wr W8 (Or.inl (List.mem_of_getElem? (i := 1) rfl)))
  have E11 := (E1.wr W8)
  have F12 := (F2.other W8 (Or.inl ne4))
  exact r_int A rfl d4_28 (by decide) (by decide) (⟨rfl, K10, ⟨E11, F12, V9, ne4, ge5, ge6⟩⟩)
set_option maxRecDepth 65536 in
set_option maxHeartbeats 40000000 in
theorem ds_find24 (l : Launch) (Z : State) (a0 : Array Value) (hw : ∀ d ∈ tables_1, d.before a0 Z = true) (n0 : Nat) (h0 : Heap) (Z0 : n0 ≤ h0.size) (a r_parents : Addr)  (H : DS Z n0 h0 a r_parents [.int (0 : Int32), .int (0 : Int32), .int (1 : Int32), .int (1 : Int32)]) :
    Met l Z n0 y0_find prog_15_method_2_code 3 (Option.some Jvm.ClassFile.FieldType.int) ({ frames := 0, cells := 0, slots := 0, locals := 0 } : Room) #[(.ref a), (.int (3 : Int32))] h0 (fun v h => v = some (.int (0 : Int32)) ∧ Keep h0 h [a, r_parents] ∧ DS Z n0 h a r_parents [.int (0 : Int32), .int (0 : Int32), .int (1 : Int32), .int (0 : Int32)]) := by
  refine met_intro (own := c0_DisjointSets) (plainFor_of_name pn_com_example_kithgraph_kithgraph_cluster_DisjointSets) rfl Z0 ?_
  intro p e s m below meth c T A hnm
  refine Wp.cast (g' := mkF m 0 #[rv a, iv 3, U0] []) (by first | (simp [entryFrame, mkF, argsToLocals, Value.category, maxLocals, jv, S2, U0, iv, rv]; done) | rfl) ?_
  obtain ⟨E1, F2, V3, ne4, ge5, ge6⟩ := H
  refine s_aloadN (pc' := 1) A d4_0 rfl rfl rfl ?_
  refine s_getfield (pc' := 4) (host := "") A (Or.inl (w10 hw)) Via.refl F2 d4_1 rfl fun T A => ?_
  refine s_astoreN (pc' := 5) (Ls' := #[rv a, iv 3, rv r_parents]) A d4_4 rfl rfl rfl ?_
  refine s_aloadN (pc' := 6) A d4_5 rfl rfl rfl ?_
  refine s_iloadN (pc' := 7) A d4_6 rfl rfl ?_
  refine s_iaload (pc' := 8) (i := 3) (v := (.int (1 : Int32))) A V3 (by decide) rfl d4_7 rfl ?_
  refine s_iloadN (pc' := 9) A d4_8 rfl rfl ?_
  refine s_icmpN (pc' := 12) A d4_9 rfl (by decide) ?_
  refine s_aloadN (pc' := 13) A d4_12 rfl rfl rfl ?_
  refine s_iloadN (pc' := 14) A d4_13 rfl rfl ?_
  refine s_aloadN (pc' := 15) A d4_14 rfl rfl rfl ?_
  refine s_aloadN (pc' := 16) A d4_15 rfl rfl rfl ?_
  refine s_iloadN (pc' := 17) A d4_16 rfl rfl ?_
  refine s_iaload (pc' := 18) (i := 3) (v := (.int (1 : Int32))) A V3 (by decide) rfl d4_17 rfl ?_
  refine s_iaload (pc' := 19) (i := 1) (v := (.int (0 : Int32))) A V3 (by decide) rfl d4_18 rfl ?_
  refine s_iastore (pc' := 20) (i := 3) A V3 (by decide) (Nat.le_of_ble_eq_true rfl) ge6 d4_19 rfl fun T h7 A W8 V9 => ?_
  have V9 : AA Z h7 r_parents .int [.int (0 : Int32), .int (0 : Int32), .int (1 : Int32), .int (0 : Int32)] := V9
  refine s_aloadN (pc' := 21) A d4_20 rfl rfl rfl ?_
  refine s_iloadN (pc' := 22) A d4_21 rfl rfl ?_
  refine s_iaload (pc' := 23) (i := 3) (v := (.int (0 : Int32))) A V9 (by decide) rfl d4_22 rfl ?_
  refine s_istoreN (pc' := 24) (Ls' := #[rv a, iv 0, rv r_parents]) A d4_23 rfl rfl ?_
  refine s_goto (pc' := 5) A d4_24 (by decide) (by decide) ?_
  refine s_aloadN (pc' := 6) A d4_5 rfl rfl rfl ?_
  refine s_iloadN (pc' := 7) A d4_6 rfl rfl ?_
  refine s_iaload (pc' := 8) (i := 0) (v := (.int (0 : Int32))) A V9 (by decide) rfl d4_7 rfl ?_
  refine s_iloadN (pc' := 9) A d4_8 rfl rfl ?_
  refine s_icmpY (pc' := 27) A d4_9 (by decide) (by decide) (by decide) ?_
  refine s_iloadN (pc' := 28) A d4_27 rfl rfl ?_
  have K10 := ((Keep.refl h0 [a, r_parents]).wr W8 (Or.inl (List.mem_of_getElem? (i := 1) rfl)))
  have E11 := (E1.wr W8)
  have F12 := (F2.other W8 (Or.inl ne4))
  exact r_int A rfl d4_28 (by decide) (by decide) (⟨rfl, K10, ⟨E11, F12, V9, ne4, ge5, ge6⟩⟩)
set_option maxRecDepth 65536 in
set_option maxHeartbeats 40000000 in
theorem ds_find25 (l : Launch) (Z : State) (a0 : Array Value) (hw : ∀ d ∈ tables_1, d.before a0 Z = true) (n0 : Nat) (h0 : Heap) (Z0 : n0 ≤ h0.size) (a r_parents : Addr)  (H : DS Z n0 h0 a r_parents [.int (0 : Int32), .int (0 : Int32), .int (1 : Int32), .int (2 : Int32)]) :
    Met l Z n0 y0_find prog_15_method_2_code 3 (Option.some Jvm.ClassFile.FieldType.int) ({ frames := 0, cells := 0, slots := 0, locals := 0 } : Room) #[(.ref a), (.int (0 : Int32))] h0 (fun v h => v = some (.int (0 : Int32)) ∧ Keep h0 h [a, r_parents] ∧ DS Z n0 h a r_parents [.int (0 : Int32), .int (0 : Int32), .int (1 : Int32), .int (2 : Int32)]) := by
  refine met_intro (own := c0_DisjointSets) (plainFor_of_name pn_com_example_kithgraph_kithgraph_cluster_DisjointSets) rfl Z0 ?_
  intro p e s m below meth c T A hnm
  refine Wp.cast (g' := mkF m 0 #[rv a, iv 0, U0] []) (by first | (simp [entryFrame, mkF, argsToLocals, Value.category, maxLocals, jv, S2, U0, iv, rv]; done) | rfl) ?_
  obtain ⟨E1, F2, V3, ne4, ge5, ge6⟩ := H
  refine s_aloadN (pc' := 1) A d4_0 rfl rfl rfl ?_
  refine s_getfield (pc' := 4) (host := "") A (Or.inl (w10 hw)) Via.refl F2 d4_1 rfl fun T A => ?_
  refine s_astoreN (pc' := 5) (Ls' := #[rv a, iv 0, rv r_parents]) A d4_4 rfl rfl rfl ?_
  refine s_aloadN (pc' := 6) A d4_5 rfl rfl rfl ?_
  refine s_iloadN (pc' := 7) A d4_6 rfl rfl ?_
  refine s_iaload (pc' := 8) (i := 0) (v := (.int (0 : Int32))) A V3 (by decide) rfl d4_7 rfl ?_
  refine s_iloadN (pc' := 9) A d4_8 rfl rfl ?_
  refine s_icmpY (pc' := 27) A d4_9 (by decide) (by decide) (by decide) ?_
  refine s_iloadN (pc' := 28) A d4_27 rfl rfl ?_
  exact r_int A rfl d4_28 (by decide) (by decide) (⟨rfl, (Keep.refl h0 [a, r_parents]), ⟨E1, F2, V3, ne4, ge5, ge6⟩⟩)
set_option maxRecDepth 65536 in
set_option maxHeartbeats 40000000 in
theorem ds_find26 (l : Launch) (Z : State) (a0 : Array Value) (hw : ∀ d ∈ tables_1, d.before a0 Z = true) (n0 : Nat) (h0 : Heap) (Z0 : n0 ≤ h0.size) (a r_parents : Addr)  (H : DS Z n0 h0 a r_parents [.int (0 : Int32), .int (0 : Int32), .int (1 : Int32), .int (2 : Int32)]) :
    Met l Z n0 y0_find prog_15_method_2_code 3 (Option.some Jvm.ClassFile.FieldType.int) ({ frames := 0, cells := 0, slots := 0, locals := 0 } : Room) #[(.ref a), (.int (1 : Int32))] h0 (fun v h => v = some (.int (0 : Int32)) ∧ Keep h0 h [a, r_parents] ∧ DS Z n0 h a r_parents [.int (0 : Int32), .int (0 : Int32), .int (1 : Int32), .int (2 : Int32)]) := by
  refine met_intro (own := c0_DisjointSets) (plainFor_of_name pn_com_example_kithgraph_kithgraph_cluster_DisjointSets) rfl Z0 ?_
  intro p e s m below meth c T A hnm
  refine Wp.cast (g' := mkF m 0 #[rv a, iv 1, U0] []) (by first | (simp [entryFrame, mkF, argsToLocals, Value.category, maxLocals, jv, S2, U0, iv, rv]; done) | rfl) ?_
  obtain ⟨E1, F2, V3, ne4, ge5, ge6⟩ := H
  refine s_aloadN (pc' := 1) A d4_0 rfl rfl rfl ?_
  refine s_getfield (pc' := 4) (host := "") A (Or.inl (w10 hw)) Via.refl F2 d4_1 rfl fun T A => ?_
  refine s_astoreN (pc' := 5) (Ls' := #[rv a, iv 1, rv r_parents]) A d4_4 rfl rfl rfl ?_
  refine s_aloadN (pc' := 6) A d4_5 rfl rfl rfl ?_
  refine s_iloadN (pc' := 7) A d4_6 rfl rfl ?_
  refine s_iaload (pc' := 8) (i := 1) (v := (.int (0 : Int32))) A V3 (by decide) rfl d4_7 rfl ?_
  refine s_iloadN (pc' := 9) A d4_8 rfl rfl ?_
  refine s_icmpN (pc' := 12) A d4_9 rfl (by decide) ?_
  refine s_aloadN (pc' := 13) A d4_12 rfl rfl rfl ?_
  refine s_iloadN (pc' := 14) A d4_13 rfl rfl ?_
  refine s_aloadN (pc' := 15) A d4_14 rfl rfl rfl ?_
  refine s_aloadN (pc' := 16) A d4_15 rfl rfl rfl ?_
  refine s_iloadN (pc' := 17) A d4_16 rfl rfl ?_
  refine s_iaload (pc' := 18) (i := 1) (v := (.int (0 : Int32))) A V3 (by decide) rfl d4_17 rfl ?_
  refine s_iaload (pc' := 19) (i := 0) (v := (.int (0 : Int32))) A V3 (by decide) rfl d4_18 rfl ?_
  refine s_iastore (pc' := 20) (i := 1) A V3 (by decide) (Nat.le_of_ble_eq_true rfl) ge6 d4_19 rfl fun T h7 A W8 V9 => ?_
  have V9 : AA Z h7 r_parents .int [.int (0 : Int32), .int (0 : Int32), .int (1 : Int32), .int (2 : Int32)] := V9
  refine s_aloadN (pc' := 21) A d4_20 rfl rfl rfl ?_
  refine s_iloadN (pc' := 22) A d4_21 rfl rfl ?_
  refine s_iaload (pc' := 23) (i := 1) (v := (.int (0 : Int32))) A V9 (by decide) rfl d4_22 rfl ?_
  refine s_istoreN (pc' := 24) (Ls' := #[rv a, iv 0, rv r_parents]) A d4_23 rfl rfl ?_
  refine s_goto (pc' := 5) A d4_24 (by decide) (by decide) ?_
  refine s_aloadN (pc' := 6) A d4_5 rfl rfl rfl ?_
  refine s_iloadN (pc' := 7) A d4_6 rfl rfl ?_
  refine s_iaload (pc' := 8) (i := 0) (v := (.int (0 : Int32))) A V9 (by decide) rfl d4_7 rfl ?_
  refine s_iloadN (pc' := 9) A d4_8 rfl rfl ?_
  refine s_icmpY (pc' := 27) A d4_9 (by decide) (by decide) (by decide) ?_
  refine s_iloadN (pc' := 28) A d4_27 rfl rfl ?_
  have K10 := ((Keep.refl h0 [a, r_parents]).wr W8 (Or.inl (List.mem_of_getElem? (i := 1) rfl)))
  have E11 := (E1.wr W8)
  have F12 := (F2.other W8 (Or.inl ne4))
  exact r_int A rfl d4_28 (by decide) (by decide) (⟨rfl, K10, ⟨E11, F12, V9, ne4, ge5, ge6⟩⟩)
set_option maxRecDepth 65536 in
set_option maxHeartbeats 40000000 in
theorem ds_find27 (l : Launch) (Z : State) (a0 : Array Value) (hw : ∀ d ∈ tables_1, d.before a0 Z = true) (n0 : Nat) (h0 : Heap) (Z0 : n0 ≤ h0.size) (a r_parents : Addr)  (H : DS Z n0 h0 a r_parents [.int (0 : Int32), .int (0 : Int32), .int (1 : Int32), .int (2 : Int32)]) :
    Met l Z n0 y0_find prog_15_method_2_code 3 (Option.some Jvm.ClassFile.FieldType.int) ({ frames := 0, cells := 0, slots := 0, locals := 0 } : Room) #[(.ref a), (.int (2 : Int32))] h0 (fun v h => v = some (.int (0 : Int32)) ∧ Keep h0 h [a, r_parents] ∧ DS Z n0 h a r_parents [.int (0 : Int32), .int (0 : Int32), .int (0 : Int32), .int (2 : Int32)]) := by
  refine met_intro (own := c0_DisjointSets) (plainFor_of_name pn_com_example_kithgraph_kithgraph_cluster_DisjointSets) rfl Z0 ?_
  intro p e s m below meth c T A hnm
  refine Wp.cast (g' := mkF m 0 #[rv a, iv 2, U0] []) (by first | (simp [entryFrame, mkF, argsToLocals, Value.category, maxLocals, jv, S2, U0, iv, rv]; done) | rfl) ?_
  obtain ⟨E1, F2, V3, ne4, ge5, ge6⟩ := H
  refine s_aloadN (pc' := 1) A d4_0 rfl rfl rfl ?_
  refine s_getfield (pc' := 4) (host := "") A (Or.inl (w10 hw)) Via.refl F2 d4_1 rfl fun T A => ?_
  refine s_astoreN (pc' := 5) (Ls' := #[rv a, iv 2, rv r_parents]) A d4_4 rfl rfl rfl ?_
  refine s_aloadN (pc' := 6) A d4_5 rfl rfl rfl ?_
  refine s_iloadN (pc' := 7) A d4_6 rfl rfl ?_
  refine s_iaload (pc' := 8) (i := 2) (v := (.int (1 : Int32))) A V3 (by decide) rfl d4_7 rfl ?_
  refine s_iloadN (pc' := 9) A d4_8 rfl rfl ?_
  refine s_icmpN (pc' := 12) A d4_9 rfl (by decide) ?_
  refine s_aloadN (pc' := 13) A d4_12 rfl rfl rfl ?_
  refine s_iloadN (pc' := 14) A d4_13 rfl rfl ?_
  refine s_aloadN (pc' := 15) A d4_14 rfl rfl rfl ?_
  refine s_aloadN (pc' := 16) A d4_15 rfl rfl rfl ?_
  refine s_iloadN (pc' := 17) A d4_16 rfl rfl ?_
  refine s_iaload (pc' := 18) (i := 2) (v := (.int (1 : Int32))) A V3 (by decide) rfl d4_17 rfl ?_
  refine s_iaload (pc' := 19) (i := 1) (v := (.int (0 : Int32))) A V3 (by decide) rfl d4_18 rfl ?_
  refine s_iastore (pc' := 20) (i := 2) A V3 (by decide) (Nat.le_of_ble_eq_true rfl) ge6 d4_19 rfl fun T h7 A W8 V9 => ?_
  have V9 : AA Z h7 r_parents .int [.int (0 : Int32), .int (0 : Int32), .int (0 : Int32), .int (2 : Int32)] := V9
  refine s_aloadN (pc' := 21) A d4_20 rfl rfl rfl ?_
  refine s_iloadN (pc' := 22) A d4_21 rfl rfl ?_
  refine s_iaload (pc' := 23) (i := 2) (v := (.int (0 : Int32))) A V9 (by decide) rfl d4_22 rfl ?_
  refine s_istoreN (pc' := 24) (Ls' := #[rv a, iv 0, rv r_parents]) A d4_23 rfl rfl ?_
  refine s_goto (pc' := 5) A d4_24 (by decide) (by decide) ?_
  refine s_aloadN (pc' := 6) A d4_5 rfl rfl rfl ?_
  refine s_iloadN (pc' := 7) A d4_6 rfl rfl ?_
  refine s_iaload (pc' := 8) (i := 0) (v := (.int (0 : Int32))) A V9 (by decide) rfl d4_7 rfl ?_
  refine s_iloadN (pc' := 9) A d4_8 rfl rfl ?_
  refine s_icmpY (pc' := 27) A d4_9 (by decide) (by decide) (by decide) ?_
  refine s_iloadN (pc' := 28) A d4_27 rfl rfl ?_
  have K10 := ((Keep.refl h0 [a, r_parents]).wr W8 (Or.inl (List.mem_of_getElem? (i := 1) rfl)))
  have E11 := (E1.wr W8)
  have F12 := (F2.other W8 (Or.inl ne4))
  exact r_int A rfl d4_28 (by decide) (by decide) (⟨rfl, K10, ⟨E11, F12, V9, ne4, ge5, ge6⟩⟩)
set_option maxRecDepth 65536 in
set_option maxHeartbeats 40000000 in
theorem ds_find28 (l : Launch) (Z : State) (a0 : Array Value) (hw : ∀ d ∈ tables_1, d.before a0 Z = true) (n0 : Nat) (h0 : Heap) (Z0 : n0 ≤ h0.size) (a r_parents : Addr)  (H : DS Z n0 h0 a r_parents [.int (0 : Int32), .int (0 : Int32), .int (1 : Int32), .int (2 : Int32)]) :
    Met l Z n0 y0_find prog_15_method_2_code 3 (Option.some Jvm.ClassFile.FieldType.int) ({ frames := 0, cells := 0, slots := 0, locals := 0 } : Room) #[(.ref a), (.int (3 : Int32))] h0 (fun v h => v = some (.int (0 : Int32)) ∧ Keep h0 h [a, r_parents] ∧ DS Z n0 h a r_parents [.int (0 : Int32), .int (0 : Int32), .int (1 : Int32), .int (1 : Int32)]) := by
  refine met_intro (own := c0_DisjointSets) (plainFor_of_name pn_com_example_kithgraph_kithgraph_cluster_DisjointSets) rfl Z0 ?_
  intro p e s m below meth c T A hnm
  refine Wp.cast (g' := mkF m 0 #[rv a, iv 3, U0] []) (by first | (simp [entryFrame, mkF, argsToLocals, Value.category, maxLocals, jv, S2, U0, iv, rv]; done) | rfl) ?_
  obtain ⟨E1, F2, V3, ne4, ge5, ge6⟩ := H
  refine s_aloadN (pc' := 1) A d4_0 rfl rfl rfl ?_
  refine s_getfield (pc' := 4) (host := "") A (Or.inl (w10 hw)) Via.refl F2 d4_1 rfl fun T A => ?_
  refine s_astoreN (pc' := 5) (Ls' := #[rv a, iv 3, rv r_parents]) A d4_4 rfl rfl rfl ?_
  refine s_aloadN (pc' := 6) A d4_5 rfl rfl rfl ?_
  refine s_iloadN (pc' := 7) A d4_6 rfl rfl ?_
  refine s_iaload (pc' := 8) (i := 3) (v := (.int (2 : Int32))) A V3 (by decide) rfl d4_7 rfl ?_
  refine s_iloadN (pc' := 9) A d4_8 rfl rfl ?_
  refine s_icmpN (pc' := 12) A d4_9 rfl (by decide) ?_
  refine s_aloadN (pc' := 13) A d4_12 rfl rfl rfl ?_
  refine s_iloadN (pc' := 14) A d4_13 rfl rfl ?_
  refine s_aloadN (pc' := 15) A d4_14 rfl rfl rfl ?_
  refine s_aloadN (pc' := 16) A d4_15 rfl rfl rfl ?_
  refine s_iloadN (pc' := 17) A d4_16 rfl rfl ?_
  refine s_iaload (pc' := 18) (i := 3) (v := (.int (2 : Int32))) A V3 (by decide) rfl d4_17 rfl ?_
  refine s_iaload (pc' := 19) (i := 2) (v := (.int (1 : Int32))) A V3 (by decide) rfl d4_18 rfl ?_
  refine s_iastore (pc' := 20) (i := 3) A V3 (by decide) (Nat.le_of_ble_eq_true rfl) ge6 d4_19 rfl fun T h7 A W8 V9 => ?_
  have V9 : AA Z h7 r_parents .int [.int (0 : Int32), .int (0 : Int32), .int (1 : Int32), .int (1 : Int32)] := V9
  refine s_aloadN (pc' := 21) A d4_20 rfl rfl rfl ?_
  refine s_iloadN (pc' := 22) A d4_21 rfl rfl ?_
  refine s_iaload (pc' := 23) (i := 3) (v := (.int (1 : Int32))) A V9 (by decide) rfl d4_22 rfl ?_
  refine s_istoreN (pc' := 24) (Ls' := #[rv a, iv 1, rv r_parents]) A d4_23 rfl rfl ?_
  refine s_goto (pc' := 5) A d4_24 (by decide) (by decide) ?_
  refine s_aloadN (pc' := 6) A d4_5 rfl rfl rfl ?_
  refine s_iloadN (pc' := 7) A d4_6 rfl rfl ?_
  refine s_iaload (pc' := 8) (i := 1) (v := (.int (0 : Int32))) A V9 (by decide) rfl d4_7 rfl ?_
  refine s_iloadN (pc' := 9) A d4_8 rfl rfl ?_
  refine s_icmpN (pc' := 12) A d4_9 rfl (by decide) ?_
  refine s_aloadN (pc' := 13) A d4_12 rfl rfl rfl ?_
  refine s_iloadN (pc' := 14) A d4_13 rfl rfl ?_
  refine s_aloadN (pc' := 15) A d4_14 rfl rfl rfl ?_
  refine s_aloadN (pc' := 16) A d4_15 rfl rfl rfl ?_
  refine s_iloadN (pc' := 17) A d4_16 rfl rfl ?_
  refine s_iaload (pc' := 18) (i := 1) (v := (.int (0 : Int32))) A V9 (by decide) rfl d4_17 rfl ?_
  refine s_iaload (pc' := 19) (i := 0) (v := (.int (0 : Int32))) A V9 (by decide) rfl d4_18 rfl ?_
  refine s_iastore (pc' := 20) (i := 1) A V9 (by decide) (Nat.le_of_ble_eq_true rfl) ge6 d4_19 rfl fun T h10 A W11 V12 => ?_
  have V12 : AA Z h10 r_parents .int [.int (0 : Int32), .int (0 : Int32), .int (1 : Int32), .int (1 : Int32)] := V12
  refine s_aloadN (pc' := 21) A d4_20 rfl rfl rfl ?_
  refine s_iloadN (pc' := 22) A d4_21 rfl rfl ?_
  refine s_iaload (pc' := 23) (i := 1) (v := (.int (0 : Int32))) A V12 (by decide) rfl d4_22 rfl ?_
  refine s_istoreN (pc' := 24) (Ls' := #[rv a, iv 0, rv r_parents]) A d4_23 rfl rfl ?_
  refine s_goto (pc' := 5) A d4_24 (by decide) (by decide) ?_
  refine s_aloadN (pc' := 6) A d4_5 rfl rfl rfl ?_
  refine s_iloadN (pc' := 7) A d4_6 rfl rfl ?_
  refine s_iaload (pc' := 8) (i := 0) (v := (.int (0 : Int32))) A V12 (by decide) rfl d4_7 rfl ?_
  refine s_iloadN (pc' := 9) A d4_8 rfl rfl ?_
  refine s_icmpY (pc' := 27) A d4_9 (by decide) (by decide) (by decide) ?_
  refine s_iloadN (pc' := 28) A d4_27 rfl rfl ?_
  have K13 := (((Keep.refl h0 [a, r_parents]).wr W8 (Or.inl (List.mem_of_getElem? (i := 1) rfl))).wr W11 (Or.inl (List.mem_of_getElem? (i := 1) rfl)))
  have E14 := ((E1.wr W8).wr W11)
  have F15 := ((F2.other W8 (Or.inl ne4)).other W11 (Or.inl ne4))
  exact r_int A rfl d4_28 (by decide) (by decide) (⟨rfl, K13, ⟨E14, F15, V12, ne4, ge5, ge6⟩⟩)
set_option maxRecDepth 65536 in
set_option maxHeartbeats 40000000 in
theorem ds_find29 (l : Launch) (Z : State) (a0 : Array Value) (hw : ∀ d ∈ tables_1, d.before a0 Z = true) (n0 : Nat) (h0 : Heap) (Z0 : n0 ≤ h0.size) (a r_parents : Addr)  (H : DS Z n0 h0 a r_parents [.int (0 : Int32), .int (0 : Int32), .int (1 : Int32), .int (3 : Int32)]) :
    Met l Z n0 y0_find prog_15_method_2_code 3 (Option.some Jvm.ClassFile.FieldType.int) ({ frames := 0, cells := 0, slots := 0, locals := 0 } : Room) #[(.ref a), (.int (0 : Int32))] h0 (fun v h => v = some (.int (0 : Int32)) ∧ Keep h0 h [a, r_parents] ∧ DS Z n0 h a r_parents [.int (0 : Int32), .int (0 : Int32), .int (1 : Int32), .int (3 : Int32)]) := by
  refine met_intro (own := c0_DisjointSets) (plainFor_of_name pn_com_example_kithgraph_kithgraph_cluster_DisjointSets) rfl Z0 ?_
  intro p e s m below meth c T A hnm
  refine Wp.cast (g' := mkF m 0 #[rv a, iv 0, U0] []) (by first | (simp [entryFrame, mkF, argsToLocals, Value.category, maxLocals, jv, S2, U0, iv, rv]; done) | rfl) ?_
  obtain ⟨E1, F2, V3, ne4, ge5, ge6⟩ := H
  refine s_aloadN (pc' := 1) A d4_0 rfl rfl rfl ?_
  refine s_getfield (pc' := 4) (host := "") A (Or.inl (w10 hw)) Via.refl F2 d4_1 rfl fun T A => ?_
  refine s_astoreN (pc' := 5) (Ls' := #[rv a, iv 0, rv r_parents]) A d4_4 rfl rfl rfl ?_
  refine s_aloadN (pc' := 6) A d4_5 rfl rfl rfl ?_
  refine s_iloadN (pc' := 7) A d4_6 rfl rfl ?_
  refine s_iaload (pc' := 8) (i := 0) (v := (.int (0 : Int32))) A V3 (by decide) rfl d4_7 rfl ?_
  refine s_iloadN (pc' := 9) A d4_8 rfl rfl ?_
  refine s_icmpY (pc' := 27) A d4_9 (by decide) (by decide) (by decide) ?_
  refine s_iloadN (pc' := 28) A d4_27 rfl rfl ?_
  exact r_int A rfl d4_28 (by decide) (by decide) (⟨rfl, (Keep.refl h0 [a, r_parents]), ⟨E1, F2, V3, ne4, ge5, ge6⟩⟩)
set_option maxRecDepth 65536 in
set_option maxHeartbeats 40000000 in
theorem ds_find30 (l : Launch) (Z : State) (a0 : Array Value) (hw : ∀ d ∈ tables_1, d.before a0 Z = true) (n0 : Nat) (h0 : Heap) (Z0 : n0 ≤ h0.size) (a r_parents : Addr)  (H : DS Z n0 h0 a r_parents [.int (0 : Int32), .int (0 : Int32), .int (1 : Int32), .int (3 : Int32)]) :
    Met l Z n0 y0_find prog_15_method_2_code 3 (Option.some Jvm.ClassFile.FieldType.int) ({ frames := 0, cells := 0, slots := 0, locals := 0 } : Room) #[(.ref a), (.int (1 : Int32))] h0 (fun v h => v = some (.int (0 : Int32)) ∧ Keep h0 h [a, r_parents] ∧ DS Z n0 h a r_parents [.int (0 : Int32), .int (0 : Int32), .int (1 : Int32), .int (3 : Int32)]) := by
  refine met_intro (own := c0_DisjointSets) (plainFor_of_name pn_com_example_kithgraph_kithgraph_cluster_DisjointSets) rfl Z0 ?_
  intro p e s m below meth c T A hnm
  refine Wp.cast (g' := mkF m 0 #[rv a, iv 1, U0] []) (by first | (simp [entryFrame, mkF, argsToLocals, Value.category, maxLocals, jv, S2, U0, iv, rv]; done) | rfl) ?_
  obtain ⟨E1, F2, V3, ne4, ge5, ge6⟩ := H
  refine s_aloadN (pc' := 1) A d4_0 rfl rfl rfl ?_
  refine s_getfield (pc' := 4) (host := "") A (Or.inl (w10 hw)) Via.refl F2 d4_1 rfl fun T A => ?_
  refine s_astoreN (pc' := 5) (Ls' := #[rv a, iv 1, rv r_parents]) A d4_4 rfl rfl rfl ?_
  refine s_aloadN (pc' := 6) A d4_5 rfl rfl rfl ?_
  refine s_iloadN (pc' := 7) A d4_6 rfl rfl ?_
  refine s_iaload (pc' := 8) (i := 1) (v := (.int (0 : Int32))) A V3 (by decide) rfl d4_7 rfl ?_
  refine s_iloadN (pc' := 9) A d4_8 rfl rfl ?_
  refine s_icmpN (pc' := 12) A d4_9 rfl (by decide) ?_
  refine s_aloadN (pc' := 13) A d4_12 rfl rfl rfl ?_
  refine s_iloadN (pc' := 14) A d4_13 rfl rfl ?_
  refine s_aloadN (pc' := 15) A d4_14 rfl rfl rfl ?_
  refine s_aloadN (pc' := 16) A d4_15 rfl rfl rfl ?_
  refine s_iloadN (pc' := 17) A d4_16 rfl rfl ?_
  refine s_iaload (pc' := 18) (i := 1) (v := (.int (0 : Int32))) A V3 (by decide) rfl d4_17 rfl ?_
  refine s_iaload (pc' := 19) (i := 0) (v := (.int (0 : Int32))) A V3 (by decide) rfl d4_18 rfl ?_
  refine s_iastore (pc' := 20) (i := 1) A V3 (by decide) (Nat.le_of_ble_eq_true rfl) ge6 d4_19 rfl fun T h7 A W8 V9 => ?_
  have V9 : AA Z h7 r_parents .int [.int (0 : Int32), .int (0 : Int32), .int (1 : Int32), .int (3 : Int32)] := V9
  refine s_aloadN (pc' := 21) A d4_20 rfl rfl rfl ?_
  refine s_iloadN (pc' := 22) A d4_21 rfl rfl ?_
  refine s_iaload (pc' := 23) (i := 1) (v := (.int (0 : Int32))) A V9 (by decide) rfl d4_22 rfl ?_
  refine s_istoreN (pc' := 24) (Ls' := #[rv a, iv 0, rv r_parents]) A d4_23 rfl rfl ?_
  refine s_goto (pc' := 5) A d4_24 (by decide) (by decide) ?_
  refine s_aloadN (pc' := 6) A d4_5 rfl rfl rfl ?_
  refine s_iloadN (pc' := 7) A d4_6 rfl rfl ?_
  refine s_iaload (pc' := 8) (i := 0) (v := (.int (0 : Int32))) A V9 (by decide) rfl d4_7 rfl ?_
  refine s_iloadN (pc' := 9) A d4_8 rfl rfl ?_
  refine s_icmpY (pc' := 27) A d4_9 (by decide) (by decide) (by decide) ?_
  refine s_iloadN (pc' := 28) A d4_27 rfl rfl ?_
  have K10 := ((Keep.refl h0 [a, r_parents]).wr W8 (Or.inl (List.mem_of_getElem? (i := 1) rfl)))
  have E11 := (E1.wr W8)
  have F12 := (F2.other W8 (Or.inl ne4))
  exact r_int A rfl d4_28 (by decide) (by decide) (⟨rfl, K10, ⟨E11, F12, V9, ne4, ge5, ge6⟩⟩)
set_option maxRecDepth 65536 in
set_option maxHeartbeats 40000000 in
theorem ds_find31 (l : Launch) (Z : State) (a0 : Array Value) (hw : ∀ d ∈ tables_1, d.before a0 Z = true) (n0 : Nat) (h0 : Heap) (Z0 : n0 ≤ h0.size) (a r_parents : Addr)  (H : DS Z n0 h0 a r_parents [.int (0 : Int32), .int (0 : Int32), .int (1 : Int32), .int (3 : Int32)]) :
    Met l Z n0 y0_find prog_15_method_2_code 3 (Option.some Jvm.ClassFile.FieldType.int) ({ frames := 0, cells := 0, slots := 0, locals := 0 } : Room) #[(.ref a), (.int (2 : Int32))] h0 (fun v h => v = some (.int (0 : Int32)) ∧ Keep h0 h [a, r_parents] ∧ DS Z n0 h a r_parents [.int (0 : Int32), .int (0 : Int32), .int (0 : Int32), .int (3 : Int32)]) := by
  refine met_intro (own := c0_DisjointSets) (plainFor_of_name pn_com_example_kithgraph_kithgraph_cluster_DisjointSets) rfl Z0 ?_
  intro p e s m below meth c T A hnm
  refine Wp.cast (g' := mkF m 0 #[rv a, iv 2, U0] []) (by first | (simp [entryFrame, mkF, argsToLocals, Value.category, maxLocals, jv, S2, U0, iv, rv]; done) | rfl) ?_
  obtain ⟨E1, F2, V3, ne4, ge5, ge6⟩ := H
  refine s_aloadN (pc' := 1) A d4_0 rfl rfl rfl ?_
  refine s_getfield (pc' := 4) (host := "") A (Or.inl (w10 hw)) Via.refl F2 d4_1 rfl fun T A => ?_
  refine s_astoreN (pc' := 5) (Ls' := #[rv a, iv 2, rv r_parents]) A d4_4 rfl rfl rfl ?_
  refine s_aloadN (pc' := 6) A d4_5 rfl rfl rfl ?_
  refine s_iloadN (pc' := 7) A d4_6 rfl rfl ?_
  refine s_iaload (pc' := 8) (i := 2) (v := (.int (1 : Int32))) A V3 (by decide) rfl d4_7 rfl ?_
  refine s_iloadN (pc' := 9) A d4_8 rfl rfl ?_
  refine s_icmpN (pc' := 12) A d4_9 rfl (by decide) ?_
  refine s_aloadN (pc' := 13) A d4_12 rfl rfl rfl ?_
  refine s_iloadN (pc' := 14) A d4_13 rfl rfl ?_
  refine s_aloadN (pc' := 15) A d4_14 rfl rfl rfl ?_
  refine s_aloadN (pc' := 16) A d4_15 rfl rfl rfl ?_
  refine s_iloadN (pc' := 17) A d4_16 rfl rfl ?_
  refine s_iaload (pc' := 18) (i := 2) (v := (.int (1 : Int32))) A V3 (by decide) rfl d4_17 rfl ?_
  refine s_iaload (pc' := 19) (i := 1) (v := (.int (0 : Int32))) A V3 (by decide) rfl d4_18 rfl ?_
  refine s_iastore (pc' := 20) (i := 2) A V3 (by decide) (Nat.le_of_ble_eq_true rfl) ge6 d4_19 rfl fun T h7 A W8 V9 => ?_
  have V9 : AA Z h7 r_parents .int [.int (0 : Int32), .int (0 : Int32), .int (0 : Int32), .int (3 : Int32)] := V9
  refine s_aloadN (pc' := 21) A d4_20 rfl rfl rfl ?_
  refine s_iloadN (pc' := 22) A d4_21 rfl rfl ?_
  refine s_iaload (pc' := 23) (i := 2) (v := (.int (0 : Int32))) A V9 (by decide) rfl d4_22 rfl ?_
  refine s_istoreN (pc' := 24) (Ls' := #[rv a, iv 0, rv r_parents]) A d4_23 rfl rfl ?_
  refine s_goto (pc' := 5) A d4_24 (by decide) (by decide) ?_
  refine s_aloadN (pc' := 6) A d4_5 rfl rfl rfl ?_
  refine s_iloadN (pc' := 7) A d4_6 rfl rfl ?_
  refine s_iaload (pc' := 8) (i := 0) (v := (.int (0 : Int32))) A V9 (by decide) rfl d4_7 rfl ?_
  refine s_iloadN (pc' := 9) A d4_8 rfl rfl ?_
  refine s_icmpY (pc' := 27) A d4_9 (by decide) (by decide) (by decide) ?_
  refine s_iloadN (pc' := 28) A d4_27 rfl rfl ?_
  have K10 := ((Keep.refl h0 [a, r_parents]).wr W8 (Or.inl (List.mem_of_getElem? (i := 1) rfl)))
  have E11 := (E1.wr W8)
  have F12 := (F2.other W8 (Or.inl ne4))
  exact r_int A rfl d4_28 (by decide) (by decide) (⟨rfl, K10, ⟨E11, F12, V9, ne4, ge5, ge6⟩⟩)
set_option maxRecDepth 65536 in
set_option maxHeartbeats 40000000 in
theorem ds_find32 (l : Launch) (Z : State) (a0 : Array Value) (hw : ∀ d ∈ tables_1, d.before a0 Z = true) (n0 : Nat) (h0 : Heap) (Z0 : n0 ≤ h0.size) (a r_parents : Addr)  (H : DS Z n0 h0 a r_parents [.int (0 : Int32), .int (0 : Int32), .int (1 : Int32), .int (3 : Int32)]) :
    Met l Z n0 y0_find prog_15_method_2_code 3 (Option.some Jvm.ClassFile.FieldType.int) ({ frames := 0, cells := 0, slots := 0, locals := 0 } : Room) #[(.ref a), (.int (3 : Int32))] h0 (fun v h => v = some (.int (3 : Int32)) ∧ Keep h0 h [a, r_parents] ∧ DS Z n0 h a r_parents [.int (0 : Int32), .int (0 : Int32), .int (1 : Int32), .int (3 : Int32)]) := by
  refine met_intro (own := c0_DisjointSets) (plainFor_of_name pn_com_example_kithgraph_kithgraph_cluster_DisjointSets) rfl Z0 ?_
  intro p e s m below meth c T A hnm
  refine Wp.cast (g' := mkF m 0 #[rv a, iv 3, U0] []) (by first | (simp [entryFrame, mkF, argsToLocals, Value.category, maxLocals, jv, S2, U0, iv, rv]; done) | rfl) ?_
  obtain ⟨E1, F2, V3, ne4, ge5, ge6⟩ := H
  refine s_aloadN (pc' := 1) A d4_0 rfl rfl rfl ?_
  refine s_getfield (pc' := 4) (host := "") A (Or.inl (w10 hw)) Via.refl F2 d4_1 rfl fun T A => ?_
  refine s_astoreN (pc' := 5) (Ls' := #[rv a, iv 3, rv r_parents]) A d4_4 rfl rfl rfl ?_
  refine s_aloadN (pc' := 6) A d4_5 rfl rfl rfl ?_
  refine s_iloadN (pc' := 7) A d4_6 rfl rfl ?_
  refine s_iaload (pc' := 8) (i := 3) (v := (.int (3 : Int32))) A V3 (by decide) rfl d4_7 rfl ?_
  refine s_iloadN (pc' := 9) A d4_8 rfl rfl ?_
  refine s_icmpY (pc' := 27) A d4_9 (by decide) (by decide) (by decide) ?_
  refine s_iloadN (pc' := 28) A d4_27 rfl rfl ?_
  exact r_int A rfl d4_28 (by decide) (by decide) (⟨rfl, (Keep.refl h0 [a, r_parents]), ⟨E1, F2, V3, ne4, ge5, ge6⟩⟩)
set_option maxRecDepth 65536 in
set_option maxHeartbeats 40000000 in
theorem ds_find33 (l : Launch) (Z : State) (a0 : Array Value) (hw : ∀ d ∈ tables_1, d.before a0 Z = true) (n0 : Nat) (h0 : Heap) (Z0 : n0 ≤ h0.size) (a r_parents : Addr)  (H : DS Z n0 h0 a r_parents [.int (0 : Int32), .int (0 : Int32), .int (2 : Int32), .int (0 : Int32)]) :
    Met l Z n0 y0_find prog_15_method_2_code 3 (Option.some Jvm.ClassFile.FieldType.int) ({ frames := 0, cells := 0, slots := 0, locals := 0 } : Room) #[(.ref a), (.int (0 : Int32))] h0 (fun v h => v = some (.int (0 : Int32)) ∧ Keep h0 h [a, r_parents] ∧ DS Z n0 h a r_parents [.int (0 : Int32), .int (0 : Int32), .int (2 : Int32), .int (0 : Int32)]) := by
  refine met_intro (own := c0_DisjointSets) (plainFor_of_name pn_com_example_kithgraph_kithgraph_cluster_DisjointSets) rfl Z0 ?_
  intro p e s m below meth c T A hnm
  refine Wp.cast (g' := mkF m 0 #[rv a, iv 0, U0] []) (by first | (simp [entryFrame, mkF, argsToLocals, Value.category, maxLocals, jv, S2, U0, iv, rv]; done) | rfl) ?_
  obtain ⟨E1, F2, V3, ne4, ge5, ge6⟩ := H
  refine s_aloadN (pc' := 1) A d4_0 rfl rfl rfl ?_
  refine s_getfield (pc' := 4) (host := "") A (Or.inl (w10 hw)) Via.refl F2 d4_1 rfl fun T A => ?_
  refine s_astoreN (pc' := 5) (Ls' := #[rv a, iv 0, rv r_parents]) A d4_4 rfl rfl rfl ?_
  refine s_aloadN (pc' := 6) A d4_5 rfl rfl rfl ?_
  refine s_iloadN (pc' := 7) A d4_6 rfl rfl ?_
  refine s_iaload (pc' := 8) (i := 0) (v := (.int (0 : Int32))) A V3 (by decide) rfl d4_7 rfl ?_
  refine s_iloadN (pc' := 9) A d4_8 rfl rfl ?_
  refine s_icmpY (pc' := 27) A d4_9 (by decide) (by decide) (by decide) ?_
  refine s_iloadN (pc' := 28) A d4_27 rfl rfl ?_
  exact r_int A rfl d4_28 (by decide) (by decide) (⟨rfl, (Keep.refl h0 [a, r_parents]), ⟨E1, F2, V3, ne4, ge5, ge6⟩⟩)
set_option maxRecDepth 65536 in
set_option maxHeartbeats 40000000 in
theorem ds_find34 (l : Launch) (Z : State) (a0 : Array Value) (hw : ∀ d ∈ tables_1, d.before a0 Z = true) (n0 : Nat) (h0 : Heap) (Z0 : n0 ≤ h0.size) (a r_parents : Addr)  (H : DS Z n0 h0 a r_parents [.int (0 : Int32), .int (0 : Int32), .int (2 : Int32), .int (0 : Int32)]) :
    Met l Z n0 y0_find prog_15_method_2_code 3 (Option.some Jvm.ClassFile.FieldType.int) ({ frames := 0, cells := 0, slots := 0, locals := 0 } : Room) #[(.ref a), (.int (1 : Int32))] h0 (fun v h => v = some (.int (0 : Int32)) ∧ Keep h0 h [a, r_parents] ∧ DS Z n0 h a r_parents [.int (0 : Int32), .int (0 : Int32), .int (2 : Int32), .int (0 : Int32)]) := by
  refine met_intro (own := c0_DisjointSets) (plainFor_of_name pn_com_example_kithgraph_kithgraph_cluster_DisjointSets) rfl Z0 ?_
  intro p e s m below meth c T A hnm
  refine Wp.cast (g' := mkF m 0 #[rv a, iv 1, U0] []) (by first | (simp [entryFrame, mkF, argsToLocals, Value.category, maxLocals, jv, S2, U0, iv, rv]; done) | rfl) ?_
  obtain ⟨E1, F2, V3, ne4, ge5, ge6⟩ := H
  refine s_aloadN (pc' := 1) A d4_0 rfl rfl rfl ?_
  refine s_getfield (pc' := 4) (host := "") A (Or.inl (w10 hw)) Via.refl F2 d4_1 rfl fun T A => ?_
  refine s_astoreN (pc' := 5) (Ls' := #[rv a, iv 1, rv r_parents]) A d4_4 rfl rfl rfl ?_
  refine s_aloadN (pc' := 6) A d4_5 rfl rfl rfl ?_
  refine s_iloadN (pc' := 7) A d4_6 rfl rfl ?_
  refine s_iaload (pc' := 8) (i := 1) (v := (.int (0 : Int32))) A V3 (by decide) rfl d4_7 rfl ?_
  refine s_iloadN (pc' := 9) A d4_8 rfl rfl ?_
  refine s_icmpN (pc' := 12) A d4_9 rfl (by decide) ?_
  refine s_aloadN (pc' := 13) A d4_12 rfl rfl rfl ?_
  refine s_iloadN (pc' := 14) A d4_13 rfl rfl ?_
  refine s_aloadN (pc' := 15) A d4_14 rfl rfl rfl ?_
  refine s_aloadN (pc' := 16) A d4_15 rfl rfl rfl ?_
  refine s_iloadN (pc' := 17) A d4_16 rfl rfl ?_
  refine s_iaload (pc' := 18) (i := 1) (v := (.int (0 : Int32))) A V3 (by decide) rfl d4_17 rfl ?_
  refine s_iaload (pc' := 19) (i := 0) (v := (.int (0 : Int32))) A V3 (by decide) rfl d4_18 rfl ?_
  refine s_iastore (pc' := 20) (i := 1) A V3 (by decide) (Nat.le_of_ble_eq_true rfl) ge6 d4_19 rfl fun T h7 A W8 V9 => ?_
  have V9 : AA Z h7 r_parents .int [.int (0 : Int32), .int (0 : Int32), .int (2 : Int32), .int (0 : Int32)] := V9
  refine s_aloadN (pc' := 21) A d4_20 rfl rfl rfl ?_
  refine s_iloadN (pc' := 22) A d4_21 rfl rfl ?_
  refine s_iaload (pc' := 23) (i := 1) (v := (.int (0 : Int32))) A V9 (by decide) rfl d4_22 rfl ?_
  refine s_istoreN (pc' := 24) (Ls' := #[rv a, iv 0, rv r_parents]) A d4_23 rfl rfl ?_
  refine s_goto (pc' := 5) A d4_24 (by decide) (by decide) ?_
  refine s_aloadN (pc' := 6) A d4_5 rfl rfl rfl ?_
  refine s_iloadN (pc' := 7) A d4_6 rfl rfl ?_
  refine s_iaload (pc' := 8) (i := 0) (v := (.int (0 : Int32))) A V9 (by decide) rfl d4_7 rfl ?_
  refine s_iloadN (pc' := 9) A d4_8 rfl rfl ?_
  refine s_icmpY (pc' := 27) A d4_9 (by decide) (by decide) (by decide) ?_
  refine s_iloadN (pc' := 28) A d4_27 rfl rfl ?_
  have K10 := ((Keep.refl h0 [a, r_parents]).wr W8 (Or.inl (List.mem_of_getElem? (i := 1) rfl)))
  have E11 := (E1.wr W8)
  have F12 := (F2.other W8 (Or.inl ne4))
  exact r_int A rfl d4_28 (by decide) (by decide) (⟨rfl, K10, ⟨E11, F12, V9, ne4, ge5, ge6⟩⟩)
set_option maxRecDepth 65536 in
set_option maxHeartbeats 40000000 in
theorem ds_find35 (l : Launch) (Z : State) (a0 : Array Value) (hw : ∀ d ∈ tables_1, d.before a0 Z = true) (n0 : Nat) (h0 : Heap) (Z0 : n0 ≤ h0.size) (a r_parents : Addr)  (H : DS Z n0 h0 a r_parents [.int (0 : Int32), .int (0 : Int32), .int (2 : Int32), .int (0 : Int32)]) :
    Met l Z n0 y0_find prog_15_method_2_code 3 (Option.some Jvm.ClassFile.FieldType.int) ({ frames := 0, cells := 0, slots := 0, locals := 0 } : Room) #[(.ref a), (.int (2 : Int32))] h0 (fun v h => v = some (.int (2 : Int32)) ∧ Keep h0 h [a, r_parents] ∧ DS Z n0 h a r_parents [.int (0 : Int32), .int (0 : Int32), .int (2 : Int32), .int (0 : Int32)]) := by
  refine met_intro (own := c0_DisjointSets) (plainFor_of_name pn_com_example_kithgraph_kithgraph_cluster_DisjointSets) rfl Z0 ?_
  intro p e s m below meth c T A hnm
  refine Wp.cast (g' := mkF m 0 #[rv a, iv 2, U0] []) (by first | (simp [entryFrame, mkF, argsToLocals, Value.category, maxLocals, jv, S2, U0, iv, rv]; done) | rfl) ?_
  obtain ⟨E1, F2, V3, ne4, ge5, ge6⟩ := H
  refine s_aloadN (pc' := 1) A d4_0 rfl rfl rfl ?_
  refine s_getfield (pc' := 4) (host := "") A (Or.inl (w10 hw)) Via.refl F2 d4_1 rfl fun T A => ?_
  refine s_astoreN (pc' := 5) (Ls' := #[rv a, iv 2, rv r_parents]) A d4_4 rfl rfl rfl ?_
  refine s_aloadN (pc' := 6) A d4_5 rfl rfl rfl ?_
  refine s_iloadN (pc' := 7) A d4_6 rfl rfl ?_
  refine s_iaload (pc' := 8) (i := 2) (v := (.int (2 : Int32))) A V3 (by decide) rfl d4_7 rfl ?_
  refine s_iloadN (pc' := 9) A d4_8 rfl rfl ?_
  refine s_icmpY (pc' := 27) A d4_9 (by decide) (by decide) (by decide) ?_
  refine s_iloadN (pc' := 28) A d4_27 rfl rfl ?_
  exact r_int A rfl d4_28 (by decide) (by decide) (⟨rfl, (Keep.refl h0 [a, r_parents]), ⟨E1, F2, V3, ne4, ge5, ge6⟩⟩)
set_option maxRecDepth 65536 in
set_option maxHeartbeats 40000000 in
theorem ds_find36 (l : Launch) (Z : State) (a0 : Array Value) (hw : ∀ d ∈ tables_1, d.before a0 Z = true) (n0 : Nat) (h0 : Heap) (Z0 : n0 ≤ h0.size) (a r_parents : Addr)  (H : DS Z n0 h0 a r_parents [.int (0 : Int32), .int (0 : Int32), .int (2 : Int32), .int (0 : Int32)]) :
    Met l Z n0 y0_find prog_15_method_2_code 3 (Option.some Jvm.ClassFile.FieldType.int) ({ frames := 0, cells := 0, slots := 0, locals := 0 } : Room) #[(.ref a), (.int (3 : Int32))] h0 (fun v h => v = some (.int (0 : Int32)) ∧ Keep h0 h [a, r_parents] ∧ DS Z n0 h a r_parents [.int (0 : Int32), .int (0 : Int32), .int (2 : Int32), .int (0 : Int32)]) := by
  refine met_intro (own := c0_DisjointSets) (plainFor_of_name pn_com_example_kithgraph_kithgraph_cluster_DisjointSets) rfl Z0 ?_
  intro p e s m below meth c T A hnm
  refine Wp.cast (g' := mkF m 0 #[rv a, iv 3, U0] []) (by first | (simp [entryFrame, mkF, argsToLocals, Value.category, maxLocals, jv, S2, U0, iv, rv]; done) | rfl) ?_
  obtain ⟨E1, F2, V3, ne4, ge5, ge6⟩ := H
  refine s_aloadN (pc' := 1) A d4_0 rfl rfl rfl ?_
  refine s_getfield (pc' := 4) (host := "") A (Or.inl (w10 hw)) Via.refl F2 d4_1 rfl fun T A => ?_
  refine s_astoreN (pc' := 5) (Ls' := #[rv a, iv 3, rv r_parents]) A d4_4 rfl rfl rfl ?_
  refine s_aloadN (pc' := 6) A d4_5 rfl rfl rfl ?_
  refine s_iloadN (pc' := 7) A d4_6 rfl rfl ?_
  refine s_iaload (pc' := 8) (i := 3) (v := (.int (0 : Int32))) A V3 (by decide) rfl d4_7 rfl ?_
  refine s_iloadN (pc' := 9) A d4_8 rfl rfl ?_
  refine s_icmpN (pc' := 12) A d4_9 rfl (by decide) ?_
  refine s_aloadN (pc' := 13) A d4_12 rfl rfl rfl ?_
  refine s_iloadN (pc' := 14) A d4_13 rfl rfl ?_
  refine s_aloadN (pc' := 15) A d4_14 rfl rfl rfl ?_
  refine s_aloadN (pc' := 16) A d4_15 rfl rfl rfl ?_
  refine s_iloadN (pc' := 17) A d4_16 rfl rfl ?_
  refine s_iaload (pc' := 18) (i := 3) (v := (.int (0 : Int32))) A V3 (by decide) rfl d4_17 rfl ?_
  refine s_iaload (pc' := 19) (i := 0) (v := (.int (0 : Int32))) A V3 (by decide) rfl d4_18 rfl ?_
  refine s_iastore (pc' := 20) (i := 3) A V3 (by decide) (Nat.le_of_ble_eq_true rfl) ge6 d4_19 rfl fun T h7 A W8 V9 => ?_
  have V9 : AA Z h7 r_parents .int [.int (0 : Int32), .int (0 : Int32), .int (2 : Int32), .int (0 : Int32)] := V9
  refine s_aloadN (pc' := 21) A d4_20 rfl rfl rfl ?_
  refine s_iloadN (pc' := 22) A d4_21 rfl rfl ?_
  refine s_iaload (pc' := 23) (i := 3) (v := (.int (0 : Int32))) A V9 (by decide) rfl d4_22 rfl ?_
  refine s_istoreN (pc' := 24) (Ls' := #[rv a, iv 0, rv r_parents]) A d4_23 rfl rfl ?_
  refine s_goto (pc' := 5) A d4_24 (by decide) (by decide) ?_
  refine s_aloadN (pc' := 6) A d4_5 rfl rfl rfl ?_
  refine s_iloadN (pc' := 7) A d4_6 rfl rfl ?_
  refine s_iaload (pc' := 8) (i := 0) (v := (.int (0 : Int32))) A V9 (by decide) rfl d4_7 rfl ?_
  refine s_iloadN (pc' := 9) A d4_8 rfl rfl ?_
  refine s_icmpY (pc' := 27) A d4_9 (by decide) (by decide) (by decide) ?_
  refine s_iloadN (pc' := 28) A d4_27 rfl rfl ?_
  have K10 := ((Keep.refl h0 [a, r_parents]).wr W8 (Or.inl (List.mem_of_getElem? (i := 1) rfl)))
  have E11 := (E1.wr W8)
  have F12 := (F2.other W8 (Or.inl ne4))
  exact r_int A rfl d4_28 (by decide) (by decide) (⟨rfl, K10, ⟨E11, F12, V9, ne4, ge5, ge6⟩⟩)
set_option maxRecDepth 65536 in
set_option maxHeartbeats 40000000 in
theorem ds_find37 (l : Launch) (Z : State) (a0 : Array Value) (hw : ∀ d ∈ tables_1, d.before a0 Z = true) (n0 : Nat) (h0 : Heap) (Z0 : n0 ≤ h0.size) (a r_parents : Addr)  (H : DS Z n0 h0 a r_parents [.int (0 : Int32), .int (0 : Int32), .int (2 : Int32), .int (1 : Int32)]) :
    Met l Z n0 y0_find prog_15_method_2_code 3 (Option.some Jvm.ClassFile.FieldType.int) ({ frames := 0, cells := 0, slots := 0, locals := 0 } : Room) #[(.ref a), (.int (0 : Int32))] h0 (fun v h => v = some (.int (0 : Int32)) ∧ Keep h0 h [a, r_parents] ∧ DS Z n0 h a r_parents [.int (0 : Int32), .int (0 : Int32), .int (2 : Int32), .int (1 : Int32)]) := by
  refine met_intro (own := c0_DisjointSets) (plainFor_of_name pn_com_example_kithgraph_kithgraph_cluster_DisjointSets) rfl Z0 ?_
  intro p e s m below meth c T A hnm
  refine Wp.cast (g' := mkF m 0 #[rv a, iv 0, U0] []) (by first | (simp [entryFrame, mkF, argsToLocals, Value.category, maxLocals, jv, S2, U0, iv, rv]; done) | rfl) ?_
  obtain ⟨E1, F2, V3, ne4, ge5, ge6⟩ := H
  refine s_aloadN (pc' := 1) A d4_0 rfl rfl rfl ?_
  refine s_getfield (pc' := 4) (host := "") A (Or.inl (w10 hw)) Via.refl F2 d4_1 rfl fun T A => ?_
  refine s_astoreN (pc' := 5) (Ls' := #[rv a, iv 0, rv r_parents]) A d4_4 rfl rfl rfl ?_
  refine s_aloadN (pc' := 6) A d4_5 rfl rfl rfl ?_
  refine s_iloadN (pc' := 7) A d4_6 rfl rfl ?_
  refine s_iaload (pc' := 8) (i := 0) (v := (.int (0 : Int32))) A V3 (by decide) rfl d4_7 rfl ?_
  refine s_iloadN (pc' := 9) A d4_8 rfl rfl ?_
  refine s_icmpY (pc' := 27) A d4_9 (by decide) (by decide) (by decide) ?_
  refine s_iloadN (pc' := 28) A d4_27 rfl rfl ?_
  exact r_int A rfl d4_28 (by decide) (by decide) (⟨rfl, (Keep.refl h0 [a, r_parents]), ⟨E1, F2, V3, ne4, ge5, ge6⟩⟩)
set_option maxRecDepth 65536 in
set_option maxHeartbeats 40000000 in
theorem ds_find38 (l : Launch) (Z : State) (a0 : Array Value) (hw : ∀ d ∈ tables_1, d.before a0 Z = true) (n0 : Nat) (h0 : Heap) (Z0 : n0 ≤ h0.size) (a r_parents : Addr)  (H : DS Z n0 h0 a r_parents [.int (0 : Int32), .int (0 : Int32), .int (2 : Int32), .int (1 : Int32)]) :
    Met l Z n0 y0_find prog_15_method_2_code 3 (Option.some Jvm.ClassFile.FieldType.int) ({ frames := 0, cells := 0, slots := 0, locals := 0 } : Room) #[(.ref a), (.int (1 : Int32))] h0 (fun v h => v = some (.int (0 : Int32)) ∧ Keep h0 h [a, r_parents] ∧ DS Z n0 h a r_parents [.int (0 : Int32), .int (0 : Int32), .int (2 : Int32), .int (1 : Int32)]) := by
  refine met_intro (own := c0_DisjointSets) (plainFor_of_name pn_com_example_kithgraph_kithgraph_cluster_DisjointSets) rfl Z0 ?_
  intro p e s m below meth c T A hnm
  refine Wp.cast (g' := mkF m 0 #[rv a, iv 1, U0] []) (by first | (simp [entryFrame, mkF, argsToLocals, Value.category, maxLocals, jv, S2, U0, iv, rv]; done) | rfl) ?_
  obtain ⟨E1, F2, V3, ne4, ge5, ge6⟩ := H
  refine s_aloadN (pc' := 1) A d4_0 rfl rfl rfl ?_
  refine s_getfield (pc' := 4) (host := "") A (Or.inl (w10 hw)) Via.refl F2 d4_1 rfl fun T A => ?_
  refine s_astoreN (pc' := 5) (Ls' := #[rv a, iv 1, rv r_parents]) A d4_4 rfl rfl rfl ?_
  refine s_aloadN (pc' := 6) A d4_5 rfl rfl rfl ?_
  refine s_iloadN (pc' := 7) A d4_6 rfl rfl ?_
  refine s_iaload (pc' := 8) (i := 1) (v := (.int (0 : Int32))) A V3 (by decide) rfl d4_7 rfl ?_
  refine s_iloadN (pc' := 9) A d4_8 rfl rfl ?_
  refine s_icmpN (pc' := 12) A d4_9 rfl (by decide) ?_
  refine s_aloadN (pc' := 13) A d4_12 rfl rfl rfl ?_
  refine s_iloadN (pc' := 14) A d4_13 rfl rfl ?_
  refine s_aloadN (pc' := 15) A d4_14 rfl rfl rfl ?_
  refine s_aloadN (pc' := 16) A d4_15 rfl rfl rfl ?_
  refine s_iloadN (pc' := 17) A d4_16 rfl rfl ?_
  refine s_iaload (pc' := 18) (i := 1) (v := (.int (0 : Int32))) A V3 (by decide) rfl d4_17 rfl ?_
  refine s_iaload (pc' := 19) (i := 0) (v := (.int (0 : Int32))) A V3 (by decide) rfl d4_18 rfl ?_
  refine s_iastore (pc' := 20) (i := 1) A V3 (by decide) (Nat.le_of_ble_eq_true rfl) ge6 d4_19 rfl fun T h7 A W8 V9 => ?_
  have V9 : AA Z h7 r_parents .int [.int (0 : Int32), .int (0 : Int32), .int (2 : Int32), .int (1 : Int32)] := V9
  refine s_aloadN (pc' := 21) A d4_20 rfl rfl rfl ?_
  refine s_iloadN (pc' := 22) A d4_21 rfl rfl ?_
  refine s_iaload (pc' := 23) (i := 1) (v := (.int (0 : Int32))) A V9 (by decide) rfl d4_22 rfl ?_
  refine s_istoreN (pc' := 24) (Ls' := #[rv a, iv 0, rv r_parents]) A d4_23 rfl rfl ?_
  refine s_goto (pc' := 5) A d4_24 (by decide) (by decide) ?_
  refine s_aloadN (pc' := 6) A d4_5 rfl rfl rfl ?_
  refine s_iloadN (pc' := 7) A d4_6 rfl rfl ?_
  refine s_iaload (pc' := 8) (i := 0) (v := (.int (0 : Int32))) A V9 (by decide) rfl d4_7 rfl ?_
  refine s_iloadN (pc' := 9) A d4_8 rfl rfl ?_
  refine s_icmpY (pc' := 27) A d4_9 (by decide) (by decide) (by decide) ?_
  refine s_iloadN (pc' := 28) A d4_27 rfl rfl ?_
  have K10 := ((Keep.refl h0 [a, r_parents]).wr W8 (Or.inl (List.mem_of_getElem? (i := 1) rfl)))
  have E11 := (E1.wr W8)
  have F12 := (F2.other W8 (Or.inl ne4))
  exact r_int A rfl d4_28 (by decide) (by decide) (⟨rfl, K10, ⟨E11, F12, V9, ne4, ge5, ge6⟩⟩)
set_option maxRecDepth 65536 in
set_option maxHeartbeats 40000000 in
theorem ds_find39 (l : Launch) (Z : State) (a0 : Array Value) (hw : ∀ d ∈ tables_1, d.before a0 Z = true) (n0 : Nat) (h0 : Heap) (Z0 : n0 ≤ h0.size) (a r_parents : Addr)  (H : DS Z n0 h0 a r_parents [.int (0 : Int32), .int (0 : Int32), .int (2 : Int32), .int (1 : Int32)]) :
    Met l Z n0 y0_find prog_15_method_2_code 3 (Option.some Jvm.ClassFile.FieldType.int) ({ frames := 0, cells := 0, slots := 0, locals := 0 } : Room) #[(.ref a), (.int (2 : Int32))] h0 (fun v h => v = some (.int (2 : Int32)) ∧ Keep h0 h [a, r_parents] ∧ DS Z n0 h a r_parents [.int (0 : Int32), .int (0 : Int32), .int (2 : Int32), .int (1 : Int32)]) := by
  refine met_intro (own := c0_DisjointSets) (plainFor_of_name pn_com_example_kithgraph_kithgraph_cluster_DisjointSets) rfl Z0 ?_
  intro p e s m below meth c T A hnm
  refine Wp.cast (g' := mkF m 0 #[rv a, iv 2, U0] []) (by first | (simp [entryFrame, mkF, argsToLocals, Value.category, maxLocals, jv, S2, U0, iv, rv]; done) | rfl) ?_
  obtain ⟨E1, F2, V3, ne4, ge5, ge6⟩ := H
  refine s_aloadN (pc' := 1) A d4_0 rfl rfl rfl ?_
  refine s_getfield (pc' := 4) (host := "") A (Or.inl (w10 hw)) Via.refl F2 d4_1 rfl fun T A => ?_
  refine s_astoreN (pc' := 5) (Ls' := #[rv a, iv 2, rv r_parents]) A d4_4 rfl rfl rfl ?_
  refine s_aloadN (pc' := 6) A d4_5 rfl rfl rfl ?_
  refine s_iloadN (pc' := 7) A d4_6 rfl rfl ?_
  refine s_iaload (pc' := 8) (i := 2) (v := (.int (2 : Int32))) A V3 (by decide) rfl d4_7 rfl ?_
  refine s_iloadN (pc' := 9) A d4_8 rfl rfl ?_
  refine s_icmpY (pc' := 27) A d4_9 (by decide) (by decide) (by decide) ?_
  refine s_iloadN (pc' := 28) A d4_27 rfl rfl ?_
  exact r_int A rfl d4_28 (by decide) (by decide) (⟨rfl, (Keep.refl h0 [a, r_parents]), ⟨E1, F2, V3, ne4, ge5, ge6⟩⟩)
set_option maxRecDepth 65536 in
set_option maxHeartbeats 40000000 in
theorem ds_find40 (l : Launch) (Z : State) (a0 : Array Value) (hw : ∀ d ∈ tables_1, d.before a0 Z = true) (n0 : Nat) (h0 : Heap) (Z0 : n0 ≤ h0.size) (a r_parents : Addr)  (H : DS Z n0 h0 a r_parents [.int (0 : Int32), .int (0 : Int32), .int (2 : Int32), .int (1 : Int32)]) :
    Met l Z n0 y0_find prog_15_method_2_code 3 (Option.some Jvm.ClassFile.FieldType.int) ({ frames := 0, cells := 0, slots := 0, locals := 0 } : Room) #[(.ref a), (.int (3 : Int32))] h0 (fun v h => v = some (.int (0 : Int32)) ∧ Keep h0 h [a, r_parents] ∧ DS Z n0 h a r_parents [.int (0 : Int32), .int (0 : Int32), .int (2 : Int32), .int (0 : Int32)]) := by
  refine met_intro (own := c0_DisjointSets) (plainFor_of_name pn_com_example_kithgraph_kithgraph_cluster_DisjointSets) rfl Z0 ?_
  intro p e s m below meth c T A hnm
  refine Wp.cast (g' := mkF m 0 #[rv a, iv 3, U0] []) (by first | (simp [entryFrame, mkF, argsToLocals, Value.category, maxLocals, jv, S2, U0, iv, rv]; done) | rfl) ?_
  obtain ⟨E1, F2, V3, ne4, ge5, ge6⟩ := H
  refine s_aloadN (pc' := 1) A d4_0 rfl rfl rfl ?_
  refine s_getfield (pc' := 4) (host := "") A (Or.inl (w10 hw)) Via.refl F2 d4_1 rfl fun T A => ?_
  refine s_astoreN (pc' := 5) (Ls' := #[rv a, iv 3, rv r_parents]) A d4_4 rfl rfl rfl ?_
  refine s_aloadN (pc' := 6) A d4_5 rfl rfl rfl ?_
  refine s_iloadN (pc' := 7) A d4_6 rfl rfl ?_
  refine s_iaload (pc' := 8) (i := 3) (v := (.int (1 : Int32))) A V3 (by decide) rfl d4_7 rfl ?_
  refine s_iloadN (pc' := 9) A d4_8 rfl rfl ?_
  refine s_icmpN (pc' := 12) A d4_9 rfl (by decide) ?_
  refine s_aloadN (pc' := 13) A d4_12 rfl rfl rfl ?_
  refine s_iloadN (pc' := 14) A d4_13 rfl rfl ?_
  refine s_aloadN (pc' := 15) A d4_14 rfl rfl rfl ?_
  refine s_aloadN (pc' := 16) A d4_15 rfl rfl rfl ?_
  refine s_iloadN (pc' := 17) A d4_16 rfl rfl ?_
  refine s_iaload (pc' := 18) (i := 3) (v := (.int (1 : Int32))) A V3 (by decide) rfl d4_17 rfl ?_
  refine s_iaload (pc' := 19) (i := 1) (v := (.int (0 : Int32))) A V3 (by decide) rfl d4_18 rfl ?_
  refine s_iastore (pc' := 20) (i := 3) A V3 (by decide) (Nat.le_of_ble_eq_true rfl) ge6 d4_19 rfl fun T h7 A W8 V9 => ?_
  have V9 : AA Z h7 r_parents .int [.int (0 : Int32), .int (0 : Int32), .int (2 : Int32), .int (0 : Int32)] := V9
  refine s_aloadN (pc' := 21) A d4_20 rfl rfl rfl ?_
  refine s_iloadN (pc' := 22) A d4_21 rfl rfl ?_
  refine s_iaload (pc' := 23) (i := 3) (v := (.int (0 : Int32))) A V9 (by decide) rfl d4_22 rfl ?_
  refine s_istoreN (pc' := 24) (Ls' := #[rv a, iv 0, rv r_parents]) A d4_23 rfl rfl ?_
  refine s_goto (pc' := 5) A d4_24 (by decide) (by decide) ?_
  refine s_aloadN (pc' := 6) A d4_5 rfl rfl rfl ?_
  refine s_iloadN (pc' := 7) A d4_6 rfl rfl ?_
  refine s_iaload (pc' := 8) (i := 0) (v := (.int (0 : Int32))) A V9 (by decide) rfl d4_7 rfl ?_
  refine s_iloadN (pc' := 9) A d4_8 rfl rfl ?_
  refine s_icmpY (pc' := 27) A d4_9 (by decide) (by decide) (by decide) ?_
  refine s_iloadN (pc' := 28) A d4_27 rfl rfl ?_
  have K10 := ((Keep.refl h0 [a, r_parents]).wr W8 (Or.inl (List.mem_of_getElem? (i := 1) rfl)))
  have E11 := (E1.wr W8)
  have F12 := (F2.other W8 (Or.inl ne4))
  exact r_int A rfl d4_28 (by decide) (by decide) (⟨rfl, K10, ⟨E11, F12, V9, ne4, ge5, ge6⟩⟩)
set_option maxRecDepth 65536 in
set_option maxHeartbeats 40000000 in
theorem ds_find41 (l : Launch) (Z : State) (a0 : Array Value) (hw : ∀ d ∈ tables_1, d.before a0 Z = true) (n0 : Nat) (h0 : Heap) (Z0 : n0 ≤ h0.size) (a r_parents : Addr)  (H : DS Z n0 h0 a r_parents [.int (0 : Int32), .int (0 : Int32), .int (2 : Int32), .int (2 : Int32)]) :
    Met l Z n0 y0_find prog_15_method_2_code 3 (Option.some Jvm.ClassFile.FieldType.int) ({ frames := 0, cells := 0, slots := 0, locals := 0 } : Room) #[(.ref a), (.int (0 : Int32))] h0 (fun v h => v = some (.int (0 : Int32)) ∧ Keep h0 h [a, r_parents] ∧ DS Z n0 h a r_parents [.int (0 : Int32), .int (0 : Int32), .int (2 : Int32), .int (2 : Int32)]) := by
  refine met_intro (own := c0_DisjointSets) (plainFor_of_name pn_com_example_kithgraph_kithgraph_cluster_DisjointSets) rfl Z0 ?_
  intro p e s m below meth c T A hnm
  refine Wp.cast (g' := mkF m 0 #[rv a, iv 0, U0] []) (by first | (simp [entryFrame, mkF, argsToLocals, Value.category, maxLocals, jv, S2, U0, iv, rv]; done) | rfl) ?_
  obtain ⟨E1, F2, V3, ne4, ge5, ge6⟩ := H
  refine s_aloadN (pc' := 1) A d4_0 rfl rfl rfl ?_
  refine s_getfield (pc' := 4) (host := "") A (Or.inl (w10 hw)) Via.refl F2 d4_1 rfl fun T A => ?_
  refine s_astoreN (pc' := 5) (Ls' := #[rv a, iv 0, rv r_parents]) A d4_4 rfl rfl rfl ?_
  refine s_aloadN (pc' := 6) A d4_5 rfl rfl rfl ?_
  refine s_iloadN (pc' := 7) A d4_6 rfl rfl ?_
  refine s_iaload (pc' := 8) (i := 0) (v := (.int (0 : Int32))) A V3 (by decide) rfl d4_7 rfl ?_
  refine s_iloadN (pc' := 9) A d4_8 rfl rfl ?_
  refine s_icmpY (pc' := 27) A d4_9 (by decide) (by decide) (by decide) ?_
  refine s_iloadN (pc' := 28) A d4_27 rfl rfl ?_
  exact r_int A rfl d4_28 (by decide) (by decide) (⟨rfl, (Keep.refl h0 [a, r_parents]), ⟨E1, F2, V3, ne4, ge5, ge6⟩⟩)
set_option maxRecDepth 65536 in
set_option maxHeartbeats 40000000 in
theorem ds_find42 (l : Launch) (Z : State) (a0 : Array Value) (hw : ∀ d ∈ tables_1, d.before a0 Z = true) (n0 : Nat) (h0 : Heap) (Z0 : n0 ≤ h0.size) (a r_parents : Addr)  (H : DS Z n0 h0 a r_parents [.int (0 : Int32), .int (0 : Int32), .int (2 : Int32), .int (2 : Int32)]) :
    Met l Z n0 y0_find prog_15_method_2_code 3 (Option.some Jvm.ClassFile.FieldType.int) ({ frames := 0, cells := 0, slots := 0, locals := 0 } : Room) #[(.ref a), (.int (1 : Int32))] h0 (fun v h => v = some (.int (0 : Int32)) ∧ Keep h0 h [a, r_parents] ∧ DS Z n0 h a r_parents [.int (0 : Int32), .int (0 : Int32), .int (2 : Int32), .int (2 : Int32)]) := by
  refine met_intro (own := c0_DisjointSets) (plainFor_of_name pn_com_example_kithgraph_kithgraph_cluster_DisjointSets) rfl Z0 ?_
  intro p e s m below meth c T A hnm
  refine Wp.cast (g' := mkF m 0 #[rv a, iv 1, U0] []) (by first | (simp [entryFrame, mkF, argsToLocals, Value.category, maxLocals, jv, S2, U0, iv, rv]; done) | rfl) ?_
  obtain ⟨E1, F2, V3, ne4, ge5, ge6⟩ := H
  refine s_aloadN (pc' := 1) A d4_0 rfl rfl rfl ?_
  refine s_getfield (pc' := 4) (host := "") A (Or.inl (w10 hw)) Via.refl F2 d4_1 rfl fun T A => ?_
  refine s_astoreN (pc' := 5) (Ls' := #[rv a, iv 1, rv r_parents]) A d4_4 rfl rfl rfl ?_
  refine s_aloadN (pc' := 6) A d4_5 rfl rfl rfl ?_
  refine s_iloadN (pc' := 7) A d4_6 rfl rfl ?_
  refine s_iaload (pc' := 8) (i := 1) (v := (.int (0 : Int32))) A V3 (by decide) rfl d4_7 rfl ?_
  refine s_iloadN (pc' := 9) A d4_8 rfl rfl ?_
  refine s_icmpN (pc' := 12) A d4_9 rfl (by decide) ?_
  refine s_aloadN (pc' := 13) A d4_12 rfl rfl rfl ?_
  refine s_iloadN (pc' := 14) A d4_13 rfl rfl ?_
  refine s_aloadN (pc' := 15) A d4_14 rfl rfl rfl ?_
  refine s_aloadN (pc' := 16) A d4_15 rfl rfl rfl ?_
  refine s_iloadN (pc' := 17) A d4_16 rfl rfl ?_
  refine s_iaload (pc' := 18) (i := 1) (v := (.int (0 : Int32))) A V3 (by decide) rfl d4_17 rfl ?_
  refine s_iaload (pc' := 19) (i := 0) (v := (.int (0 : Int32))) A V3 (by decide) rfl d4_18 rfl ?_
  refine s_iastore (pc' := 20) (i := 1) A V3 (by decide) (Nat.le_of_ble_eq_true rfl) ge6 d4_19 rfl fun T h7 A W8 V9 => ?_
  have V9 : AA Z h7 r_parents .int [.int (0 : Int32), .int (0 : Int32), .int (2 : Int32), .int (2 : Int32)] := V9
  refine s_aloadN (pc' := 21) A d4_20 rfl rfl rfl ?_
  refine s_iloadN (pc' := 22) A d4_21 rfl rfl ?_
  refine s_iaload (pc' := 23) (i := 1) (v := (.int (0 : Int32))) A V9 (by decide) rfl d4_22 rfl ?_
  refine s_istoreN (pc' := 24) (Ls' := #[rv a, iv 0, rv r_parents]) A d4_23 rfl rfl ?_
  refine s_goto (pc' := 5) A d4_24 (by decide) (by decide) ?_
  refine s_aloadN (pc' := 6) A d4_5 rfl rfl rfl ?_
  refine s_iloadN (pc' := 7) A d4_6 rfl rfl ?_
  refine s_iaload (pc' := 8) (i := 0) (v := (.int (0 : Int32))) A V9 (by decide) rfl d4_7 rfl ?_
  refine s_iloadN (pc' := 9) A d4_8 rfl rfl ?_
  refine s_icmpY (pc' := 27) A d4_9 (by decide) (by decide) (by decide) ?_
  refine s_iloadN (pc' := 28) A d4_27 rfl rfl ?_
  have K10 := ((Keep.refl h0 [a, r_parents]).wr W8 (Or.inl (List.mem_of_getElem? (i := 1) rfl)))
  have E11 := (E1.wr W8)
  have F12 := (F2.other W8 (Or.inl ne4))
  exact r_int A rfl d4_28 (by decide) (by decide) (⟨rfl, K10, ⟨E11, F12, V9, ne4, ge5, ge6⟩⟩)
set_option maxRecDepth 65536 in
set_option maxHeartbeats 40000000 in
theorem ds_find43 (l : Launch) (Z : State) (a0 : Array Value) (hw : ∀ d ∈ tables_1, d.before a0 Z = true) (n0 : Nat) (h0 : Heap) (Z0 : n0 ≤ h0.size) (a r_parents : Addr)  (H : DS Z n0 h0 a r_parents [.int (0 : Int32), .int (0 : Int32), .int (2 : Int32), .int (2 : Int32)]) :
    Met l Z n0 y0_find prog_15_method_2_code 3 (Option.some Jvm.ClassFile.FieldType.int) ({ frames := 0, cells := 0, slots := 0, locals := 0 } : Room) #[(.ref a), (.int (2 : Int32))] h0 (fun v h => v = some (.int (2 : Int32)) ∧ Keep h0 h [a, r_parents] ∧ DS Z n0 h a r_parents [.int (0 : Int32), .int (0 : Int32), .int (2 : Int32), .int (2 : Int32)]) := by
  refine met_intro (own := c0_DisjointSets) (plainFor_of_name pn_com_example_kithgraph_kithgraph_cluster_DisjointSets) rfl Z0 ?_
  intro p e s m below meth c T A hnm
  refine Wp.cast (g' := mkF m 0 #[rv a, iv 2, U0] []) (by first | (simp [entryFrame, mkF, argsToLocals, Value.category, maxLocals, jv, S2, U0, iv, rv]; done) | rfl) ?_
  obtain ⟨E1, F2, V3, ne4, ge5, ge6⟩ := H
  refine s_aloadN (pc' := 1) A d4_0 rfl rfl rfl ?_
  refine s_getfield (pc' := 4) (host := "") A (Or.inl (w10 hw)) Via.refl F2 d4_1 rfl fun T A => ?_
  refine s_astoreN (pc' := 5) (Ls' := #[rv a, iv 2, rv r_parents]) A d4_4 rfl rfl rfl ?_
  refine s_aloadN (pc' := 6) A d4_5 rfl rfl rfl ?_
  refine s_iloadN (pc' := 7) A d4_6 rfl rfl ?_
  refine s_iaload (pc' := 8) (i := 2) (v := (.int (2 : Int32))) A V3 (by decide) rfl d4_7 rfl ?_
  refine s_iloadN (pc' := 9) A d4_8 rfl rfl ?_
  refine s_icmpY (pc' := 27) A d4_9 (by decide) (by decide) (by decide) ?_
  refine s_iloadN (pc' := 28) A d4_27 rfl rfl ?_
  exact r_int A rfl d4_28 (by decide) (by decide) (⟨rfl, (Keep.refl h0 [a, r_parents]), ⟨E1, F2, V3, ne4, ge5, ge6⟩⟩)
set_option maxRecDepth 65536 in
set_option maxHeartbeats 40000000 in
theorem ds_find44 (l : Launch) (Z : State) (a0 : Array Value) (hw : ∀ d ∈ tables_1, d.before a0 Z = true) (n0 : Nat) (h0 : Heap) (Z0 : n0 ≤ h0.size) (a r_parents : Addr)  (H : DS Z n0 h0 a r_parents [.int (0 : Int32), .int (0 : Int32), .int (2 : Int32), .int (2 : Int32)]) :
    Met l Z n0 y0_find prog_15_method_2_code 3 (Option.some Jvm.ClassFile.FieldType.int) ({ frames := 0, cells := 0, slots := 0, locals := 0 } : Room) #[(.ref a), (.int (3 : Int32))] h0 (fun v h => v = some (.int (2 : Int32)) ∧ Keep h0 h [a, r_parents] ∧ DS Z n0 h a r_parents [.int (0 : Int32), .int (0 : Int32), .int (2 : Int32), .int (2 : Int32)]) := by
  refine met_intro (own := c0_DisjointSets) (plainFor_of_name pn_com_example_kithgraph_kithgraph_cluster_DisjointSets) rfl Z0 ?_
  intro p e s m below meth c T A hnm
  refine Wp.cast (g' := mkF m 0 #[rv a, iv 3, U0] []) (by first | (simp [entryFrame, mkF, argsToLocals, Value.category, maxLocals, jv, S2, U0, iv, rv]; done) | rfl) ?_
  obtain ⟨E1, F2, V3, ne4, ge5, ge6⟩ := H
  refine s_aloadN (pc' := 1) A d4_0 rfl rfl rfl ?_
  refine s_getfield (pc' := 4) (host := "") A (Or.inl (w10 hw)) Via.refl F2 d4_1 rfl fun T A => ?_
  refine s_astoreN (pc' := 5) (Ls' := #[rv a, iv 3, rv r_parents]) A d4_4 rfl rfl rfl ?_
  refine s_aloadN (pc' := 6) A d4_5 rfl rfl rfl ?_
  refine s_iloadN (pc' := 7) A d4_6 rfl rfl ?_
  refine s_iaload (pc' := 8) (i := 3) (v := (.int (2 : Int32))) A V3 (by decide) rfl d4_7 rfl ?_
  refine s_iloadN (pc' := 9) A d4_8 rfl rfl ?_
  refine s_icmpN (pc' := 12) A d4_9 rfl (by decide) ?_
  refine s_aloadN (pc' := 13) A d4_12 rfl rfl rfl ?_
  refine s_iloadN (pc' := 14) A d4_13 rfl rfl ?_
  refine s_aloadN (pc' := 15) A d4_14 rfl rfl rfl ?_
  refine s_aloadN (pc' := 16) A d4_15 rfl rfl rfl ?_
  refine s_iloadN (pc' := 17) A d4_16 rfl rfl ?_
  refine s_iaload (pc' := 18) (i := 3) (v := (.int (2 : Int32))) A V3 (by decide) rfl d4_17 rfl ?_
  refine s_iaload (pc' := 19) (i := 2) (v := (.int (2 : Int32))) A V3 (by decide) rfl d4_18 rfl ?_
  refine s_iastore (pc' := 20) (i := 3) A V3 (by decide) (Nat.le_of_ble_eq_true rfl) ge6 d4_19 rfl fun T h7 A W8 V9 => ?_
  have V9 : AA Z h7 r_parents .int [.int (0 : Int32), .int (0 : Int32), .int (2 : Int32), .int (2 : Int32)] := V9
  refine s_aloadN (pc' := 21) A d4_20 rfl rfl rfl ?_
  refine s_iloadN (pc' := 22) A d4_21 rfl rfl ?_
  refine s_iaload (pc' := 23) (i := 3) (v := (.int (2 : Int32))) A V9 (by decide) rfl d4_22 rfl ?_
  refine s_istoreN (pc' := 24) (Ls' := #[rv a, iv 2, rv r_parents]) A d4_23 rfl rfl ?_
  refine s_goto (pc' := 5) A d4_24 (by decide) (by decide) ?_
  refine s_aloadN (pc' := 6) A d4_5 rfl rfl rfl ?_
  refine s_iloadN (pc' := 7) A d4_6 rfl rfl ?_
  refine s_iaload (pc' := 8) (i := 2) (v := (.int (2 : Int32))) A V9 (by decide) rfl d4_7 rfl ?_
  refine s_iloadN (pc' := 9) A d4_8 rfl rfl ?_
  refine s_icmpY (pc' := 27) A d4_9 (by decide) (by decide) (by decide) ?_
  refine s_iloadN (pc' := 28) A d4_27 rfl rfl ?_
  have K10 := ((Keep.refl h0 [a, r_parents]).wr W8 (Or.inl (List.mem_of_getElem? (i := 1) rfl)))
  have E11 := (E1.wr W8)
  have F12 := (F2.other W8 (Or.inl ne4))
  exact r_int A rfl d4_28 (by decide) (by decide) (⟨rfl, K10, ⟨E11, F12, V9, ne4, ge5, ge6⟩⟩)
set_option maxRecDepth 65536 in
set_option maxHeartbeats 40000000 in
theorem ds_find45 (l : Launch) (Z : State) (a0 : Array Value) (hw : ∀ d ∈ tables_1, d.before a0 Z = true) (n0 : Nat) (h0 : Heap) (Z0 : n0 ≤ h0.size) (a r_parents : Addr)  (H : DS Z n0 h0 a r_parents [.int (0 : Int32), .int (0 : Int32), .int (2 : Int32), .int (3 : Int32)]) :
    Met l Z n0 y0_find prog_15_method_2_code 3 (Option.some Jvm.ClassFile.FieldType.int) ({ frames := 0, cells := 0, slots := 0, locals := 0 } : Room) #[(.ref a), (.int (0 : Int32))] h0 (fun v h => v = some (.int (0 : Int32)) ∧ Keep h0 h [a, r_parents] ∧ DS Z n0 h a r_parents [.int (0 : Int32), .int (0 : Int32), .int (2 : Int32), .int (3 : Int32)]) := by
  refine met_intro (own := c0_DisjointSets) (plainFor_of_name pn_com_example_kithgraph_kithgraph_cluster_DisjointSets) rfl Z0 ?_
  intro p e s m below meth c T A hnm
  refine Wp.cast (g' := mkF m 0 #[rv a, iv 0, U0] []) (by first | (simp [entryFrame, mkF, argsToLocals, Value.category, maxLocals, jv, S2, U0, iv, rv]; done) | rfl) ?_
  obtain ⟨E1, F2, V3, ne4, ge5, ge6⟩ := H
  refine s_aloadN (pc' := 1) A d4_0 rfl rfl rfl ?_
  refine s_getfield (pc' := 4) (host := "") A (Or.inl (w10 hw)) Via.refl F2 d4_1 rfl fun T A => ?_
  refine s_astoreN (pc' := 5) (Ls' := #[rv a, iv 0, rv r_parents]) A d4_4 rfl rfl rfl ?_
  refine s_aloadN (pc' := 6) A d4_5 rfl rfl rfl ?_
  refine s_iloadN (pc' := 7) A d4_6 rfl rfl ?_
  refine s_iaload (pc' := 8) (i := 0) (v := (.int (0 : Int32))) A V3 (by decide) rfl d4_7 rfl ?_
  refine s_iloadN (pc' := 9) A d4_8 rfl rfl ?_
  refine s_icmpY (pc' := 27) A d4_9 (by decide) (by decide) (by decide) ?_
  refine s_iloadN (pc' := 28) A d4_27 rfl rfl ?_
  exact r_int A rfl d4_28 (by decide) (by decide) (⟨rfl, (Keep.refl h0 [a, r_parents]), ⟨E1, F2, V3, ne4, ge5, ge6⟩⟩)
set_option maxRecDepth 65536 in
set_option maxHeartbeats 40000000 in
theorem ds_find46 (l : Launch) (Z : State) (a0 : Array Value) (hw : ∀ d ∈ tables_1, d.before a0 Z = true) (n0 : Nat) (h0 : Heap) (Z0 : n0 ≤ h0.size) (a r_parents : Addr)  (H : DS Z n0 h0 a r_parents [.int (0 : Int32), .int (0 : Int32), .int (2 : Int32), .int (3 : Int32)]) :
    Met l Z n0 y0_find prog_15_method_2_code 3 (Option.some Jvm.ClassFile.FieldType.int) ({ frames := 0, cells := 0, slots := 0, locals := 0 } : Room) #[(.ref a), (.int (1 : Int32))] h0 (fun v h => v = some (.int (0 : Int32)) ∧ Keep h0 h [a, r_parents] ∧ DS Z n0 h a r_parents [.int (0 : Int32), .int (0 : Int32), .int (2 : Int32), .int (3 : Int32)]) := by
  refine met_intro (own := c0_DisjointSets) (plainFor_of_name pn_com_example_kithgraph_kithgraph_cluster_DisjointSets) rfl Z0 ?_
  intro p e s m below meth c T A hnm
  refine Wp.cast (g' := mkF m 0 #[rv a, iv 1, U0] []) (by first | (simp [entryFrame, mkF, argsToLocals, Value.category, maxLocals, jv, S2, U0, iv, rv]; done) | rfl) ?_
  obtain ⟨E1, F2, V3, ne4, ge5, ge6⟩ := H
  refine s_aloadN (pc' := 1) A d4_0 rfl rfl rfl ?_
  refine s_getfield (pc' := 4) (host := "") A (Or.inl (w10 hw)) Via.refl F2 d4_1 rfl fun T A => ?_
  refine s_astoreN (pc' := 5) (Ls' := #[rv a, iv 1, rv r_parents]) A d4_4 rfl rfl rfl ?_
  refine s_aloadN (pc' := 6) A d4_5 rfl rfl rfl ?_
  refine s_iloadN (pc' := 7) A d4_6 rfl rfl ?_
  refine s_iaload (pc' := 8) (i := 1) (v := (.int (0 : Int32))) A V3 (by decide) rfl d4_7 rfl ?_
  refine s_iloadN (pc' := 9) A d4_8 rfl rfl ?_
  refine s_icmpN (pc' := 12) A d4_9 rfl (by decide) ?_
  refine s_aloadN (pc' := 13) A d4_12 rfl rfl rfl ?_
  refine s_iloadN (pc' := 14) A d4_13 rfl rfl ?_
  refine s_aloadN (pc' := 15) A d4_14 rfl rfl rfl ?_
  refine s_aloadN (pc' := 16) A d4_15 rfl rfl rfl ?_
  refine s_iloadN (pc' := 17) A d4_16 rfl rfl ?_
  refine s_iaload (pc' := 18) (i := 1) (v := (.int (0 : Int32))) A V3 (by decide) rfl d4_17 rfl ?_
  refine s_iaload (pc' := 19) (i := 0) (v := (.int (0 : Int32))) A V3 (by decide) rfl d4_18 rfl ?_
  refine s_iastore (pc' := 20) (i := 1) A V3 (by decide) (Nat.le_of_ble_eq_true rfl) ge6 d4_19 rfl fun T h7 A W8 V9 => ?_
  have V9 : AA Z h7 r_parents .int [.int (0 : Int32), .int (0 : Int32), .int (2 : Int32), .int (3 : Int32)] := V9
  refine s_aloadN (pc' := 21) A d4_20 rfl rfl rfl ?_
  refine s_iloadN (pc' := 22) A d4_21 rfl rfl ?_
  refine s_iaload (pc' := 23) (i := 1) (v := (.int (0 : Int32))) A V9 (by decide) rfl d4_22 rfl ?_
  refine s_istoreN (pc' := 24) (Ls' := #[rv a, iv 0, rv r_parents]) A d4_23 rfl rfl ?_
  refine s_goto (pc' := 5) A d4_24 (by decide) (by decide) ?_
  refine s_aloadN (pc' := 6) A d4_5 rfl rfl rfl ?_
  refine s_iloadN (pc' := 7) A d4_6 rfl rfl ?_
  refine s_iaload (pc' := 8) (i := 0) (v := (.int (0 : Int32))) A V9 (by decide) rfl d4_7 rfl ?_
  refine s_iloadN (pc' := 9) A d4_8 rfl rfl ?_
  refine s_icmpY (pc' := 27) A d4_9 (by decide) (by decide) (by decide) ?_
  refine s_iloadN (pc' := 28) A d4_27 rfl rfl ?_
  have K10 := ((Keep.refl h0 [a, r_parents]).wr W8 (Or.inl (List.mem_of_getElem? (i := 1) rfl)))
  have E11 := (E1.wr W8)
  have F12 := (F2.other W8 (Or.inl ne4))
  exact r_int A rfl d4_28 (by decide) (by decide) (⟨rfl, K10, ⟨E11, F12, V9, ne4, ge5, ge6⟩⟩)
set_option maxRecDepth 65536 in
set_option maxHeartbeats 40000000 in
theorem ds_find47 (l : Launch) (Z : State) (a0 : Array Value) (hw : ∀ d ∈ tables_1, d.before a0 Z = true) (n0 : Nat) (h0 : Heap) (Z0 : n0 ≤ h0.size) (a r_parents : Addr)  (H : DS Z n0 h0 a r_parents [.int (0 : Int32), .int (0 : Int32), .int (2 : Int32), .int (3 : Int32)]) :
    Met l Z n0 y0_find prog_15_method_2_code 3 (Option.some Jvm.ClassFile.FieldType.int) ({ frames := 0, cells := 0, slots := 0, locals := 0 } : Room) #[(.ref a), (.int (2 : Int32))] h0 (fun v h => v = some (.int (2 : Int32)) ∧ Keep h0 h [a, r_parents] ∧ DS Z n0 h a r_parents [.int (0 : Int32), .int (0 : Int32), .int (2 : Int32), .int (3 : Int32)]) := by
  refine met_intro (own := c0_DisjointSets) (plainFor_of_name pn_com_example_kithgraph_kithgraph_cluster_DisjointSets) rfl Z0 ?_
  intro p e s m below meth c T A hnm
  refine Wp.cast (g' := mkF m 0 #[rv a, iv 2, U0] []) (by first | (simp [entryFrame, mkF, argsToLocals, Value.category, maxLocals, jv, S2, U0, iv, rv]; done) | rfl) ?_
  obtain ⟨E1, F2, V3, ne4, ge5, ge6⟩ := H
  refine s_aloadN (pc' := 1) A d4_0 rfl rfl rfl ?_
  refine s_getfield (pc' := 4) (host := "") A (Or.inl (w10 hw)) Via.refl F2 d4_1 rfl fun T A => ?_
  refine s_astoreN (pc' := 5) (Ls' := #[rv a, iv 2, rv r_parents]) A d4_4 rfl rfl rfl ?_
  refine s_aloadN (pc' := 6) A d4_5 rfl rfl rfl ?_
  refine s_iloadN (pc' := 7) A d4_6 rfl rfl ?_
  refine s_iaload (pc' := 8) (i := 2) (v := (.int (2 : Int32))) A V3 (by decide) rfl d4_7 rfl ?_
  refine s_iloadN (pc' := 9) A d4_8 rfl rfl ?_
  refine s_icmpY (pc' := 27) A d4_9 (by decide) (by decide) (by decide) ?_
  refine s_iloadN (pc' := 28) A d4_27 rfl rfl ?_
  exact r_int A rfl d4_28 (by decide) (by decide) (⟨rfl, (Keep.refl h0 [a, r_parents]), ⟨E1, F2, V3, ne4, ge5, ge6⟩⟩)
set_option maxRecDepth 65536 in
set_option maxHeartbeats 40000000 in
theorem ds_find48 (l : Launch) (Z : State) (a0 : Array Value) (hw : ∀ d ∈ tables_1, d.before a0 Z = true) (n0 : Nat) (h0 : Heap) (Z0 : n0 ≤ h0.size) (a r_parents : Addr)  (H : DS Z n0 h0 a r_parents [.int (0 : Int32), .int (0 : Int32), .int (2 : Int32), .int (3 : Int32)]) :
    Met l Z n0 y0_find prog_15_method_2_code 3 (Option.some Jvm.ClassFile.FieldType.int) ({ frames := 0, cells := 0, slots := 0, locals := 0 } : Room) #[(.ref a), (.int (3 : Int32))] h0 (fun v h => v = some (.int (3 : Int32)) ∧ Keep h0 h [a, r_parents] ∧ DS Z n0 h a r_parents [.int (0 : Int32), .int (0 : Int32), .int (2 : Int32), .int (3 : Int32)]) := by
  refine met_intro (own := c0_DisjointSets) (plainFor_of_name pn_com_example_kithgraph_kithgraph_cluster_DisjointSets) rfl Z0 ?_
  intro p e s m below meth c T A hnm
  refine Wp.cast (g' := mkF m 0 #[rv a, iv 3, U0] []) (by first | (simp [entryFrame, mkF, argsToLocals, Value.category, maxLocals, jv, S2, U0, iv, rv]; done) | rfl) ?_
  obtain ⟨E1, F2, V3, ne4, ge5, ge6⟩ := H
  refine s_aloadN (pc' := 1) A d4_0 rfl rfl rfl ?_
  refine s_getfield (pc' := 4) (host := "") A (Or.inl (w10 hw)) Via.refl F2 d4_1 rfl fun T A => ?_
  refine s_astoreN (pc' := 5) (Ls' := #[rv a, iv 3, rv r_parents]) A d4_4 rfl rfl rfl ?_
  refine s_aloadN (pc' := 6) A d4_5 rfl rfl rfl ?_
  refine s_iloadN (pc' := 7) A d4_6 rfl rfl ?_
  refine s_iaload (pc' := 8) (i := 3) (v := (.int (3 : Int32))) A V3 (by decide) rfl d4_7 rfl ?_
  refine s_iloadN (pc' := 9) A d4_8 rfl rfl ?_
  refine s_icmpY (pc' := 27) A d4_9 (by decide) (by decide) (by decide) ?_
  refine s_iloadN (pc' := 28) A d4_27 rfl rfl ?_
  exact r_int A rfl d4_28 (by decide) (by decide) (⟨rfl, (Keep.refl h0 [a, r_parents]), ⟨E1, F2, V3, ne4, ge5, ge6⟩⟩)
set_option maxRecDepth 65536 in
set_option maxHeartbeats 40000000 in
theorem ds_find49 (l : Launch) (Z : State) (a0 : Array Value) (hw : ∀ d ∈ tables_1, d.before a0 Z = true) (n0 : Nat) (h0 : Heap) (Z0 : n0 ≤ h0.size) (a r_parents : Addr)  (H : DS Z n0 h0 a r_parents [.int (0 : Int32), .int (1 : Int32), .int (0 : Int32), .int (0 : Int32)]) :
    Met l Z n0 y0_find prog_15_method_2_code 3 (Option.some Jvm.ClassFile.FieldType.int) ({ frames := 0, cells := 0, slots := 0, locals := 0 } : Room) #[(.ref a), (.int (0 : Int32))] h0 (fun v h => v = some (.int (0 : Int32)) ∧ Keep h0 h [a, r_parents] ∧ DS Z n0 h a r_parents [.int (0 : Int32), .int (1 : Int32), .int (0 : Int32), .int (0 : Int32)]) := by
  refine met_intro (own := c0_DisjointSets) (plainFor_of_name pn_com_example_kithgraph_kithgraph_cluster_DisjointSets) rfl Z0 ?_
  intro p e s m below meth c T A hnm
  refine Wp.cast (g' := mkF m 0 #[rv a, iv 0, U0] []) (by first | (simp [entryFrame, mkF, argsToLocals, Value.category, maxLocals, jv, S2, U0, iv, rv]; done) | rfl) ?_
  obtain ⟨E1, F2, V3, ne4, ge5, ge6⟩ := H
  refine s_aloadN (pc' := 1) A d4_0 rfl rfl rfl ?_
  refine s_getfield (pc' := 4) (host := "") A (Or.inl (w10 hw)) Via.refl F2 d4_1 rfl fun T A => ?_
  refine s_astoreN (pc' := 5) (Ls' := #[rv a, iv 0, rv r_parents]) A d4_4 rfl rfl rfl ?_
  refine s_aloadN (pc' := 6) A d4_5 rfl rfl rfl ?_
  refine s_iloadN (pc' := 7) A d4_6 rfl rfl ?_
  refine s_iaload (pc' := 8) (i := 0) (v := (.int (0 : Int32))) A V3 (by decide) rfl d4_7 rfl ?_
  refine s_iloadN (pc' := 9) A d4_8 rfl rfl ?_
  refine s_icmpY (pc' := 27) A d4_9 (by decide) (by decide) (by decide) ?_
  refine s_iloadN (pc' := 28) A d4_27 rfl rfl ?_
  exact r_int A rfl d4_28 (by decide) (by decide) (⟨rfl, (Keep.refl h0 [a, r_parents]), ⟨E1, F2, V3, ne4, ge5, ge6⟩⟩)
set_option maxRecDepth 65536 in
set_option maxHeartbeats 40000000 in
theorem ds_find50 (l : Launch) (Z : State) (a0 : Array Value) (hw : ∀ d ∈ tables_1, d.before a0 Z = true) (n0 : Nat) (h0 : Heap) (Z0 : n0 ≤ h0.size) (a r_parents : Addr)  (H : DS Z n0 h0 a r_parents [.int (0 : Int32), .int (1 : Int32), .int (0 : Int32), .int (0 : Int32)]) :
    Met l Z n0 y0_find prog_15_method_2_code 3 (Option.some Jvm.ClassFile.FieldType.int) ({ frames := 0, cells := 0, slots := 0, locals := 0 } : Room) #[(.ref a), (.int (1 : Int32))] h0 (fun v h => v = some (.int (1 : Int32)) ∧ Keep h0 h [a, r_parents] ∧ DS Z n0 h a r_parents [.int (0 : Int32), .int (1 : Int32), .int (0 : Int32), .int (0 : Int32)]) := by
  refine met_intro (own := c0_DisjointSets) (plainFor_of_name pn_com_example_kithgraph_kithgraph_cluster_DisjointSets) rfl Z0 ?_
  intro p e s m below meth c T A hnm
  refine Wp.cast (g' := mkF m 0 #[rv a, iv 1, U0] []) (by first | (simp [entryFrame, mkF, argsToLocals, Value.category, maxLocals, jv, S2, U0, iv, rv]; done) | rfl) ?_
  obtain ⟨E1, F2, V3, ne4, ge5, ge6⟩ := H
  refine s_aloadN (pc' := 1) A d4_0 rfl rfl rfl ?_
  refine s_getfield (pc' := 4) (host := "") A (Or.inl (w10 hw)) Via.refl F2 d4_1 rfl fun T A => ?_
  refine s_astoreN (pc' := 5) (Ls' := #[rv a, iv 1, rv r_parents]) A d4_4 rfl rfl rfl ?_
  refine s_aloadN (pc' := 6) A d4_5 rfl rfl rfl ?_
  refine s_iloadN (pc' := 7) A d4_6 rfl rfl ?_
  refine s_iaload (pc' := 8) (i := 1) (v := (.int (1 : Int32))) A V3 (by decide) rfl d4_7 rfl ?_
  refine s_iloadN (pc' := 9) A d4_8 rfl rfl ?_
  refine s_icmpY (pc' := 27) A d4_9 (by decide) (by decide) (by decide) ?_
  refine s_iloadN (pc' := 28) A d4_27 rfl rfl ?_
  exact r_int A rfl d4_28 (by decide) (by decide) (⟨rfl, (Keep.refl h0 [a, r_parents]), ⟨E1, F2, V3, ne4, ge5, ge6⟩⟩)
set_option maxRecDepth 65536 in
set_option maxHeartbeats 40000000 in
theorem ds_find51 (l : Launch) (Z : State) (a0 : Array Value) (hw : ∀ d ∈ tables_1, d.before a0 Z = true) (n0 : Nat) (h0 : Heap) (Z0 : n0 ≤ h0.size) (a r_parents : Addr)  (H : DS Z n0 h0 a r_parents [.int (0 : Int32), .int (1 : Int32), .int (0 : Int32), .int (0 : Int32)]) :
    Met l Z n0 y0_find prog_15_method_2_code 3 (Option.some Jvm.ClassFile.FieldType.int) ({ frames := 0, cells := 0, slots := 0, locals := 0 } : Room) #[(.ref a), (.int (2 : Int32))] h0 (fun v h => v = some (.int (0 : Int32)) ∧ Keep h0 h [a, r_parents] ∧ DS Z n0 h a r_parents [.int (0 : Int32), .int (1 : Int32), .int (0 : Int32), .int (0 : Int32)]) := by
  refine met_intro (own := c0_DisjointSets) (plainFor_of_name pn_com_example_kithgraph_kithgraph_cluster_DisjointSets) rfl Z0 ?_
  intro p e s m below meth c T A hnm
  refine Wp.cast (g' := mkF m 0 #[rv a, iv 2, U0] []) (by first | (simp [entryFrame, mkF, argsToLocals, Value.category, maxLocals, jv, S2, U0, iv, rv]; done) | rfl) ?_
  obtain ⟨E1, F2, V3, ne4, ge5, ge6⟩ := H
  refine s_aloadN (pc' := 1) A d4_0 rfl rfl rfl ?_
  refine s_getfield (pc' := 4) (host := "") A (Or.inl (w10 hw)) Via.refl F2 d4_1 rfl fun T A => ?_
  refine s_astoreN (pc' := 5) (Ls' := #[rv a, iv 2, rv r_parents]) A d4_4 rfl rfl rfl ?_
  refine s_aloadN (pc' := 6) A d4_5 rfl rfl rfl ?_
  refine s_iloadN (pc' := 7) A d4_6 rfl rfl ?_
  refine s_iaload (pc' := 8) (i := 2) (v := (.int (0 : Int32))) A V3 (by decide) rfl d4_7 rfl ?_
  refine s_iloadN (pc' := 9) A d4_8 rfl rfl ?_
  refine s_icmpN (pc' := 12) A d4_9 rfl (by decide) ?_
  refine s_aloadN (pc' := 13) A d4_12 rfl rfl rfl ?_
  refine s_iloadN (pc' := 14) A d4_13 rfl rfl ?_
  refine s_aloadN (pc' := 15) A d4_14 rfl rfl rfl ?_
  refine s_aloadN (pc' := 16) A d4_15 rfl rfl rfl ?_
  refine s_iloadN (pc' := 17) A d4_16 rfl rfl ?_
  refine s_iaload (pc' := 18) (i := 2) (v := (.int (0 : Int32))) A V3 (by decide) rfl d4_17 rfl ?_
  refine s_iaload (pc' := 19) (i := 0) (v := (.int (0 : Int32))) A V3 (by decide) rfl d4_18 rfl ?_
  refine s_iastore (pc' := 20) (i := 2) A V3 (by decide) (Nat.le_of_ble_eq_true rfl) ge6 d4_19 rfl fun T h7 A W8 V9 => ?_
  have V9 : AA Z h7 r_parents .int [.int (0 : Int32), .int (1 : Int32), .int (0 : Int32), .int (0 : Int32)] := V9
  refine s_aloadN (pc' := 21) A d4_20 rfl rfl rfl ?_
  refine s_iloadN (pc' := 22) A d4_21 rfl rfl ?_
  refine s_iaload (pc' := 23) (i := 2) (v := (.int (0 : Int32))) A V9 (by decide) rfl d4_22 rfl ?_
  refine s_istoreN (pc' := 24) (Ls' := #[rv a, iv 0, rv r_parents]) A d4_23 rfl rfl ?_
  refine s_goto (pc' := 5) A d4_24 (by decide) (by decide) ?_
  refine s_aloadN (pc' := 6) A d4_5 rfl rfl rfl ?_
  refine s_iloadN (pc' := 7) A d4_6 rfl rfl ?_
  refine s_iaload (pc' := 8) (i := 0) (v := (.int (0 : Int32))) A V9 (by decide) rfl d4_7 rfl ?_
  refine s_iloadN (pc' := 9) A d4_8 rfl rfl ?_
  refine s_icmpY (pc' := 27) A d4_9 (by decide) (by decide) (by decide) ?_
  refine s_iloadN (pc' := 28) A d4_27 rfl rfl ?_
  have K10 := ((Keep.refl h0 [a, r_parents]).wr W8 (Or.inl (List.mem_of_getElem? (i := 1) rfl)))
  have E11 := (E1.wr W8)
  have F12 := (F2.other W8 (Or.inl ne4))
  exact r_int A rfl d4_28 (by decide) (by decide) (⟨rfl, K10, ⟨E11, F12, V9, ne4, ge5, ge6⟩⟩)
set_option maxRecDepth 65536 in
set_option maxHeartbeats 40000000 in
theorem ds_find52 (l : Launch) (Z : State) (a0 : Array Value) (hw : ∀ d ∈ tables_1, d.before a0 Z = true) (n0 : Nat) (h0 : Heap) (Z0 : n0 ≤ h0.size) (a r_parents : Addr)  (H : DS Z n0 h0 a r_parents [.int (0 : Int32), .int (1 : Int32), .int (0 : Int32), .int (0 : Int32)]) :
    Met l Z n0 y0_find prog_15_method_2_code 3 (Option.some Jvm.ClassFile.FieldType.int) ({ frames := 0, cells := 0, slots := 0, locals := 0 } : Room) #[(.ref a), (.int (3 : Int32))] h0 (fun v h => v = some (.int (0 : Int32)) ∧ Keep h0 h [a, r_parents] ∧ DS Z n0 h a r_parents [.int (0 : Int32), .int (1 : Int32), .int (0 : Int32), .int (0 : Int32)]) := by
  refine met_intro (own := c0_DisjointSets) (plainFor_of_name pn_com_example_kithgraph_kithgraph_cluster_DisjointSets) rfl Z0 ?_
  intro p e s m below meth c T A hnm
  refine Wp.cast (g' := mkF m 0 #[rv a, iv 3, U0] []) (by first | (simp [entryFrame, mkF, argsToLocals, Value.category, maxLocals, jv, S2, U0, iv, rv]; done) | rfl) ?_
  obtain ⟨E1, F2, V3, ne4, ge5, ge6⟩ := H
  refine s_aloadN (pc' := 1) A d4_0 rfl rfl rfl ?_
  refine s_getfield (pc' := 4) (host := "") A (Or.inl (w10 hw)) Via.refl F2 d4_1 rfl fun T A => ?_
  refine s_astoreN (pc' := 5) (Ls' := #[rv a, iv 3, rv r_parents]) A d4_4 rfl rfl rfl ?_
  refine s_aloadN (pc' := 6) A d4_5 rfl rfl rfl ?_
  refine s_iloadN (pc' := 7) A d4_6 rfl rfl ?_
  refine s_iaload (pc' := 8) (i := 3) (v := (.int (0 : Int32))) A V3 (by decide) rfl d4_7 rfl ?_
  refine s_iloadN (pc' := 9) A d4_8 rfl rfl ?_
  refine s_icmpN (pc' := 12) A d4_9 rfl (by decide) ?_
  refine s_aloadN (pc' := 13) A d4_12 rfl rfl rfl ?_
  refine s_iloadN (pc' := 14) A d4_13 rfl rfl ?_
  refine s_aloadN (pc' := 15) A d4_14 rfl rfl rfl ?_
  refine s_aloadN (pc' := 16) A d4_15 rfl rfl rfl ?_
  refine s_iloadN (pc' := 17) A d4_16 rfl rfl ?_
  refine s_iaload (pc' := 18) (i := 3) (v := (.int (0 : Int32))) A V3 (by decide) rfl d4_17 rfl ?_
  refine s_iaload (pc' := 19) (i := 0) (v := (.int (0 : Int32))) A V3 (by decide) rfl d4_18 rfl ?_
  refine s_iastore (pc' := 20) (i := 3) A V3 (by decide) (Nat.le_of_ble_eq_true rfl) ge6 d4_19 rfl fun T h7 A W8 V9 => ?_
  have V9 : AA Z h7 r_parents .int [.int (0 : Int32), .int (1 : Int32), .int (0 : Int32), .int (0 : Int32)] := V9
  refine s_aloadN (pc' := 21) A d4_20 rfl rfl rfl ?_
  refine s_iloadN (pc' := 22) A d4_21 rfl rfl ?_
  refine s_iaload (pc' := 23) (i := 3) (v := (.int (0 : Int32))) A V9 (by decide) rfl d4_22 rfl ?_
  refine s_istoreN (pc' := 24) (Ls' := #[rv a, iv 0, rv r_parents]) A d4_23 rfl rfl ?_
  refine s_goto (pc' := 5) A d4_24 (by decide) (by decide) ?_
  refine s_aloadN (pc' := 6) A d4_5 rfl rfl rfl ?_
  refine s_iloadN (pc' := 7) A d4_6 rfl rfl ?_
  refine s_iaload (pc' := 8) (i := 0) (v := (.int (0 : Int32))) A V9 (by decide) rfl d4_7 rfl ?_
  refine s_iloadN (pc' := 9) A d4_8 rfl rfl ?_
  refine s_icmpY (pc' := 27) A d4_9 (by decide) (by decide) (by decide) ?_
  refine s_iloadN (pc' := 28) A d4_27 rfl rfl ?_
  have K10 := ((Keep.refl h0 [a, r_parents]).wr W8 (Or.inl (List.mem_of_getElem? (i := 1) rfl)))
  have E11 := (E1.wr W8)
  have F12 := (F2.other W8 (Or.inl ne4))
  exact r_int A rfl d4_28 (by decide) (by decide) (⟨rfl, K10, ⟨E11, F12, V9, ne4, ge5, ge6⟩⟩)
set_option maxRecDepth 65536 in
set_option maxHeartbeats 40000000 in
theorem ds_find53 (l : Launch) (Z : State) (a0 : Array Value) (hw : ∀ d ∈ tables_1, d.before a0 Z = true) (n0 : Nat) (h0 : Heap) (Z0 : n0 ≤ h0.size) (a r_parents : Addr)  (H : DS Z n0 h0 a r_parents [.int (0 : Int32), .int (1 : Int32), .int (0 : Int32), .int (1 : Int32)]) :
    Met l Z n0 y0_find prog_15_method_2_code 3 (Option.some Jvm.ClassFile.FieldType.int) ({ frames := 0, cells := 0, slots := 0, locals := 0 } : Room) #[(.ref a), (.int (0 : Int32))] h0 (fun v h => v = some (.int (0 : Int32)) ∧ Keep h0 h [a, r_parents] ∧ DS Z n0 h a r_parents [.int (0 : Int32), .int (1 : Int32), .int (0 : Int32), .int (1 : Int32)]) := by
  refine met_intro (own := c0_DisjointSets) (plainFor_of_name pn_com_example_kithgraph_kithgraph_cluster_DisjointSets) rfl Z0 ?_
  intro p e s m below meth c T A hnm
  refine Wp.cast (g' := mkF m 0 #[rv a, iv 0, U0] []) (by first | (simp [entryFrame, mkF, argsToLocals, Value.category, maxLocals, jv, S2, U0, iv, rv]; done) | rfl) ?_
  obtain ⟨E1, F2, V3, ne4, ge5, ge6⟩ := H
  refine s_aloadN (pc' := 1) A d4_0 rfl rfl rfl ?_
  refine s_getfield (pc' := 4) (host := "") A (Or.inl (w10 hw)) Via.refl F2 d4_1 rfl fun T A => ?_
  refine s_astoreN (pc' := 5) (Ls' := #[rv a, iv 0, rv r_parents]) A d4_4 rfl rfl rfl ?_
  refine s_aloadN (pc' := 6) A d4_5 rfl rfl rfl ?_
  refine s_iloadN (pc' := 7) A d4_6 rfl rfl ?_
  refine s_iaload (pc' := 8) (i := 0) (v := (.int (0 : Int32))) A V3 (by decide) rfl d4_7 rfl ?_
  refine s_iloadN (pc' := 9) A d4_8 rfl rfl ?_
  refine s_icmpY (pc' := 27) A d4_9 (by decide) (by decide) (by decide) ?_
  refine s_iloadN (pc' := 28) A d4_27 rfl rfl ?_
  exact r_int A rfl d4_28 (by decide) (by decide) (⟨rfl, (Keep.refl h0 [a, r_parents]), ⟨E1, F2, V3, ne4, ge5, ge6⟩⟩)
set_option maxRecDepth 65536 in
set_option maxHeartbeats 40000000 in
theorem ds_find54 (l : Launch) (Z : State) (a0 : Array Value) (hw : ∀ d ∈ tables_1, d.before a0 Z = true) (n0 : Nat) (h0 : Heap) (Z0 : n0 ≤ h0.size) (a r_parents : Addr)  (H : DS Z n0 h0 a r_parents [.int (0 : Int32), .int (1 : Int32), .int (0 : Int32), .int (1 : Int32)]) :
    Met l Z n0 y0_find prog_15_method_2_code 3 (Option.some Jvm.ClassFile.FieldType.int) ({ frames := 0, cells := 0, slots := 0, locals := 0 } : Room) #[(.ref a), (.int (1 : Int32))] h0 (fun v h => v = some (.int (1 : Int32)) ∧ Keep h0 h [a, r_parents] ∧ DS Z n0 h a r_parents [.int (0 : Int32), .int (1 : Int32), .int (0 : Int32), .int (1 : Int32)]) := by
  refine met_intro (own := c0_DisjointSets) (plainFor_of_name pn_com_example_kithgraph_kithgraph_cluster_DisjointSets) rfl Z0 ?_
  intro p e s m below meth c T A hnm
  refine Wp.cast (g' := mkF m 0 #[rv a, iv 1, U0] []) (by first | (simp [entryFrame, mkF, argsToLocals, Value.category, maxLocals, jv, S2, U0, iv, rv]; done) | rfl) ?_
  obtain ⟨E1, F2, V3, ne4, ge5, ge6⟩ := H
  refine s_aloadN (pc' := 1) A d4_0 rfl rfl rfl ?_
  refine s_getfield (pc' := 4) (host := "") A (Or.inl (w10 hw)) Via.refl F2 d4_1 rfl fun T A => ?_
  refine s_astoreN (pc' := 5) (Ls' := #[rv a, iv 1, rv r_parents]) A d4_4 rfl rfl rfl ?_
  refine s_aloadN (pc' := 6) A d4_5 rfl rfl rfl ?_
  refine s_iloadN (pc' := 7) A d4_6 rfl rfl ?_
  refine s_iaload (pc' := 8) (i := 1) (v := (.int (1 : Int32))) A V3 (by decide) rfl d4_7 rfl ?_
  refine s_iloadN (pc' := 9) A d4_8 rfl rfl ?_
  refine s_icmpY (pc' := 27) A d4_9 (by decide) (by decide) (by decide) ?_
  refine s_iloadN (pc' := 28) A d4_27 rfl rfl ?_
  exact r_int A rfl d4_28 (by decide) (by decide) (⟨rfl, (Keep.refl h0 [a, r_parents]), ⟨E1, F2, V3, ne4, ge5, ge6⟩⟩)
set_option maxRecDepth 65536 in
set_option maxHeartbeats 40000000 in
theorem ds_find55 (l : Launch) (Z : State) (a0 : Array Value) (hw : ∀ d ∈ tables_1, d.before a0 Z = true) (n0 : Nat) (h0 : Heap) (Z0 : n0 ≤ h0.size) (a r_parents : Addr)  (H : DS Z n0 h0 a r_parents [.int (0 : Int32), .int (1 : Int32), .int (0 : Int32), .int (1 : Int32)]) :
    Met l Z n0 y0_find prog_15_method_2_code 3 (Option.some Jvm.ClassFile.FieldType.int) ({ frames := 0, cells := 0, slots := 0, locals := 0 } : Room) #[(.ref a), (.int (2 : Int32))] h0 (fun v h => v = some (.int (0 : Int32)) ∧ Keep h0 h [a, r_parents] ∧ DS Z n0 h a r_parents [.int (0 : Int32), .int (1 : Int32), .int (0 : Int32), .int (1 : Int32)]) := by
  refine met_intro (own := c0_DisjointSets) (plainFor_of_name pn_com_example_kithgraph_kithgraph_cluster_DisjointSets) rfl Z0 ?_
  intro p e s m below meth c T A hnm
  refine Wp.cast (g' := mkF m 0 #[rv a, iv 2, U0] []) (by first | (simp [entryFrame, mkF, argsToLocals, Value.category, maxLocals, jv, S2, U0, iv, rv]; done) | rfl) ?_
  obtain ⟨E1, F2, V3, ne4, ge5, ge6⟩ := H
  refine s_aloadN (pc' := 1) A d4_0 rfl rfl rfl ?_
  refine s_getfield (pc' := 4) (host := "") A (Or.inl (w10 hw)) Via.refl F2 d4_1 rfl fun T A => ?_
  refine s_astoreN (pc' := 5) (Ls' := #[rv a, iv 2, rv r_parents]) A d4_4 rfl rfl rfl ?_
  refine s_aloadN (pc' := 6) A d4_5 rfl rfl rfl ?_
  refine s_iloadN (pc' := 7) A d4_6 rfl rfl ?_
  refine s_iaload (pc' := 8) (i := 2) (v := (.int (0 : Int32))) A V3 (by decide) rfl d4_7 rfl ?_
  refine s_iloadN (pc' := 9) A d4_8 rfl rfl ?_
  refine s_icmpN (pc' := 12) A d4_9 rfl (by decide) ?_
  refine s_aloadN (pc' := 13) A d4_12 rfl rfl rfl ?_
  refine s_iloadN (pc' := 14) A d4_13 rfl rfl ?_
  refine s_aloadN (pc' := 15) A d4_14 rfl rfl rfl ?_
  refine s_aloadN (pc' := 16) A d4_15 rfl rfl rfl ?_
  refine s_iloadN (pc' := 17) A d4_16 rfl rfl ?_
  refine s_iaload (pc' := 18) (i := 2) (v := (.int (0 : Int32))) A V3 (by decide) rfl d4_17 rfl ?_
  refine s_iaload (pc' := 19) (i := 0) (v := (.int (0 : Int32))) A V3 (by decide) rfl d4_18 rfl ?_
  refine s_iastore (pc' := 20) (i := 2) A V3 (by decide) (Nat.le_of_ble_eq_true rfl) ge6 d4_19 rfl fun T h7 A W8 V9 => ?_
  have V9 : AA Z h7 r_parents .int [.int (0 : Int32), .int (1 : Int32), .int (0 : Int32), .int (1 : Int32)] := V9
  refine s_aloadN (pc' := 21) A d4_20 rfl rfl rfl ?_
  refine s_iloadN (pc' := 22) A d4_21 rfl rfl ?_
  refine s_iaload (pc' := 23) (i := 2) (v := (.int (0 : Int32))) A V9 (by decide) rfl d4_22 rfl ?_
  refine s_istoreN (pc' := 24) (Ls' := #[rv a, iv 0, rv r_parents]) A d4_23 rfl rfl ?_
  refine s_goto (pc' := 5) A d4_24 (by decide) (by decide) ?_
  refine s_aloadN (pc' := 6) A d4_5 rfl rfl rfl ?_
  refine s_iloadN (pc' := 7) A d4_6 rfl rfl ?_
  refine s_iaload (pc' := 8) (i := 0) (v := (.int (0 : Int32))) A V9 (by decide) rfl d4_7 rfl ?_
  refine s_iloadN (pc' := 9) A d4_8 rfl rfl ?_
  refine s_icmpY (pc' := 27) A d4_9 (by decide) (by decide) (by decide) ?_
  refine s_iloadN (pc' := 28) A d4_27 rfl rfl ?_
  have K10 := ((Keep.refl h0 [a, r_parents]).wr W8 (Or.inl (List.mem_of_getElem? (i := 1) rfl)))
  have E11 := (E1.wr W8)
  have F12 := (F2.other W8 (Or.inl ne4))
  exact r_int A rfl d4_28 (by decide) (by decide) (⟨rfl, K10, ⟨E11, F12, V9, ne4, ge5, ge6⟩⟩)
set_option maxRecDepth 65536 in
set_option maxHeartbeats 40000000 in
theorem ds_find56 (l : Launch) (Z : State) (a0 : Array Value) (hw : ∀ d ∈ tables_1, d.before a0 Z = true) (n0 : Nat) (h0 : Heap) (Z0 : n0 ≤ h0.size) (a r_parents : Addr)  (H : DS Z n0 h0 a r_parents [.int (0 : Int32), .int (1 : Int32), .int (0 : Int32), .int (1 : Int32)]) :
    Met l Z n0 y0_find prog_15_method_2_code 3 (Option.some Jvm.ClassFile.FieldType.int) ({ frames := 0, cells := 0, slots := 0, locals := 0 } : Room) #[(.ref a), (.int (3 : Int32))] h0 (fun v h => v = some (.int (1 : Int32)) ∧ Keep h0 h [a, r_parents] ∧ DS Z n0 h a r_parents [.int (0 : Int32), .int (1 : Int32), .int (0 : Int32), .int (1 : Int32)]) := by
  refine met_intro (own := c0_DisjointSets) (plainFor_of_name pn_com_example_kithgraph_kithgraph_cluster_DisjointSets) rfl Z0 ?_
  intro p e s m below meth c T A hnm
  refine Wp.cast (g' := mkF m 0 #[rv a, iv 3, U0] []) (by first | (simp [entryFrame, mkF, argsToLocals, Value.category, maxLocals, jv, S2, U0, iv, rv]; done) | rfl) ?_
  obtain ⟨E1, F2, V3, ne4, ge5, ge6⟩ := H
  refine s_aloadN (pc' := 1) A d4_0 rfl rfl rfl ?_
  refine s_getfield (pc' := 4) (host := "") A (Or.inl (w10 hw)) Via.refl F2 d4_1 rfl fun T A => ?_
  refine s_astoreN (pc' := 5) (Ls' := #[rv a, iv 3, rv r_parents]) A d4_4 rfl rfl rfl ?_
  refine s_aloadN (pc' := 6) A d4_5 rfl rfl rfl ?_
  refine s_iloadN (pc' := 7) A d4_6 rfl rfl ?_
  refine s_iaload (pc' := 8) (i := 3) (v := (.int (1 : Int32))) A V3 (by decide) rfl d4_7 rfl ?_
  refine s_iloadN (pc' := 9) A d4_8 rfl rfl ?_
  refine s_icmpN (pc' := 12) A d4_9 rfl (by decide) ?_
  refine s_aloadN (pc' := 13) A d4_12 rfl rfl rfl ?_
  refine s_iloadN (pc' := 14) A d4_13 rfl rfl ?_
  refine s_aloadN (pc' := 15) A d4_14 rfl rfl rfl ?_
  refine s_aloadN (pc' := 16) A d4_15 rfl rfl rfl ?_
  refine s_iloadN (pc' := 17) A d4_16 rfl rfl ?_
  refine s_iaload (pc' := 18) (i := 3) (v := (.int (1 : Int32))) A V3 (by decide) rfl d4_17 rfl ?_
  refine s_iaload (pc' := 19) (i := 1) (v := (.int (1 : Int32))) A V3 (by decide) rfl d4_18 rfl ?_
  refine s_iastore (pc' := 20) (i := 3) A V3 (by decide) (Nat.le_of_ble_eq_true rfl) ge6 d4_19 rfl fun T h7 A W8 V9 => ?_
  have V9 : AA Z h7 r_parents .int [.int (0 : Int32), .int (1 : Int32), .int (0 : Int32), .int (1 : Int32)] := V9
  refine s_aloadN (pc' := 21) A d4_20 rfl rfl rfl ?_
  refine s_iloadN (pc' := 22) A d4_21 rfl rfl ?_
  refine s_iaload (pc' := 23) (i := 3) (v := (.int (1 : Int32))) A V9 (by decide) rfl d4_22 rfl ?_
  refine s_istoreN (pc' := 24) (Ls' := #[rv a, iv 1, rv r_parents]) A d4_23 rfl rfl ?_
  refine s_goto (pc' := 5) A d4_24 (by decide) (by decide) ?_
  refine s_aloadN (pc' := 6) A d4_5 rfl rfl rfl ?_
  refine s_iloadN (pc' := 7) A d4_6 rfl rfl ?_
  refine s_iaload (pc' := 8) (i := 1) (v := (.int (1 : Int32))) A V9 (by decide) rfl d4_7 rfl ?_
  refine s_iloadN (pc' := 9) A d4_8 rfl rfl ?_
  refine s_icmpY (pc' := 27) A d4_9 (by decide) (by decide) (by decide) ?_
  refine s_iloadN (pc' := 28) A d4_27 rfl rfl ?_
  have K10 := ((Keep.refl h0 [a, r_parents]).wr W8 (Or.inl (List.mem_of_getElem? (i := 1) rfl)))
  have E11 := (E1.wr W8)
  have F12 := (F2.other W8 (Or.inl ne4))
  exact r_int A rfl d4_28 (by decide) (by decide) (⟨rfl, K10, ⟨E11, F12, V9, ne4, ge5, ge6⟩⟩)
set_option maxRecDepth 65536 in
set_option maxHeartbeats 40000000 in
theorem ds_find57 (l : Launch) (Z : State) (a0 : Array Value) (hw : ∀ d ∈ tables_1, d.before a0 Z = true) (n0 : Nat) (h0 : Heap) (Z0 : n0 ≤ h0.size) (a r_parents : Addr)  (H : DS Z n0 h0 a r_parents [.int (0 : Int32), .int (1 : Int32), .int (0 : Int32), .int (2 : Int32)]) :
    Met l Z n0 y0_find prog_15_method_2_code 3 (Option.some Jvm.ClassFile.FieldType.int) ({ frames := 0, cells := 0, slots := 0, locals := 0 } : Room) #[(.ref a), (.int (0 : Int32))] h0 (fun v h => v = some (.int (0 : Int32)) ∧ Keep h0 h [a, r_parents] ∧ DS Z n0 h a r_parents [.int (0 : Int32), .int (1 : Int32), .int (0 : Int32), .int (2 : Int32)]) := by
  refine met_intro (own := c0_DisjointSets) (plainFor_of_name pn_com_example_kithgraph_kithgraph_cluster_DisjointSets) rfl Z0 ?_
  intro p e s m below meth c T A hnm
  refine Wp.cast (g' := mkF m 0 #[rv a, iv 0, U0] []) (by first | (simp [entryFrame, mkF, argsToLocals, Value.category, maxLocals, jv, S2, U0, iv, rv]; done) | rfl) ?_
  obtain ⟨E1, F2, V3, ne4, ge5, ge6⟩ := H
  refine s_aloadN (pc' := 1) A d4_0 rfl rfl rfl ?_
  refine s_getfield (pc' := 4) (host := "") A (Or.inl (w10 hw)) Via.refl F2 d4_1 rfl fun T A => ?_
  refine s_astoreN (pc' := 5) (Ls' := #[rv a, iv 0, rv r_parents]) A d4_4 rfl rfl rfl ?_
  refine s_aloadN (pc' := 6) A d4_5 rfl rfl rfl ?_
  refine s_iloadN (pc' := 7) A d4_6 rfl rfl ?_
  refine s_iaload (pc' := 8) (i := 0) (v := (.int (0 : Int32))) A V3 (by decide) rfl d4_7 rfl ?_
  refine s_iloadN (pc' := 9) A d4_8 rfl rfl ?_
  refine s_icmpY (pc' := 27) A d4_9 (by decide) (by decide) (by decide) ?_
  refine s_iloadN (pc' := 28) A d4_27 rfl rfl ?_
  exact r_int A rfl d4_28 (by decide) (by decide) (⟨rfl, (Keep.refl h0 [a, r_parents]), ⟨E1, F2, V3, ne4, ge5, ge6⟩⟩)
set_option maxRecDepth 65536 in
set_option maxHeartbeats 40000000 in
theorem ds_find58 (l : Launch) (Z : State) (a0 : Array Value) (hw : ∀ d ∈ tables_1, d.before a0 Z = true) (n0 : Nat) (h0 : Heap) (Z0 : n0 ≤ h0.size) (a r_parents : Addr)  (H : DS Z n0 h0 a r_parents [.int (0 : Int32), .int (1 : Int32), .int (0 : Int32), .int (2 : Int32)]) :
    Met l Z n0 y0_find prog_15_method_2_code 3 (Option.some Jvm.ClassFile.FieldType.int) ({ frames := 0, cells := 0, slots := 0, locals := 0 } : Room) #[(.ref a), (.int (1 : Int32))] h0 (fun v h => v = some (.int (1 : Int32)) ∧ Keep h0 h [a, r_parents] ∧ DS Z n0 h a r_parents [.int (0 : Int32), .int (1 : Int32), .int (0 : Int32), .int (2 : Int32)]) := by
  refine met_intro (own := c0_DisjointSets) (plainFor_of_name pn_com_example_kithgraph_kithgraph_cluster_DisjointSets) rfl Z0 ?_
  intro p e s m below meth c T A hnm
  refine Wp.cast (g' := mkF m 0 #[rv a, iv 1, U0] []) (by first | (simp [entryFrame, mkF, argsToLocals, Value.category, maxLocals, jv, S2, U0, iv, rv]; done) | rfl) ?_
  obtain ⟨E1, F2, V3, ne4, ge5, ge6⟩ := H
  refine s_aloadN (pc' := 1) A d4_0 rfl rfl rfl ?_
  refine s_getfield (pc' := 4) (host := "") A (Or.inl (w10 hw)) Via.refl F2 d4_1 rfl fun T A => ?_
  refine s_astoreN (pc' := 5) (Ls' := #[rv a, iv 1, rv r_parents]) A d4_4 rfl rfl rfl ?_
  refine s_aloadN (pc' := 6) A d4_5 rfl rfl rfl ?_
  refine s_iloadN (pc' := 7) A d4_6 rfl rfl ?_
  refine s_iaload (pc' := 8) (i := 1) (v := (.int (1 : Int32))) A V3 (by decide) rfl d4_7 rfl ?_
  refine s_iloadN (pc' := 9) A d4_8 rfl rfl ?_
  refine s_icmpY (pc' := 27) A d4_9 (by decide) (by decide) (by decide) ?_
  refine s_iloadN (pc' := 28) A d4_27 rfl rfl ?_
  exact r_int A rfl d4_28 (by decide) (by decide) (⟨rfl, (Keep.refl h0 [a, r_parents]), ⟨E1, F2, V3, ne4, ge5, ge6⟩⟩)
set_option maxRecDepth 65536 in
set_option maxHeartbeats 40000000 in
theorem ds_find59 (l : Launch) (Z : State) (a0 : Array Value) (hw : ∀ d ∈ tables_1, d.before a0 Z = true) (n0 : Nat) (h0 : Heap) (Z0 : n0 ≤ h0.size) (a r_parents : Addr)  (H : DS Z n0 h0 a r_parents [.int (0 : Int32), .int (1 : Int32), .int (0 : Int32), .int (2 : Int32)]) :
    Met l Z n0 y0_find prog_15_method_2_code 3 (Option.some Jvm.ClassFile.FieldType.int) ({ frames := 0, cells := 0, slots := 0, locals := 0 } : Room) #[(.ref a), (.int (2 : Int32))] h0 (fun v h => v = some (.int (0 : Int32)) ∧ Keep h0 h [a, r_parents] ∧ DS Z n0 h a r_parents [.int (0 : Int32), .int (1 : Int32), .int (0 : Int32), .int (2 : Int32)]) := by
  refine met_intro (own := c0_DisjointSets) (plainFor_of_name pn_com_example_kithgraph_kithgraph_cluster_DisjointSets) rfl Z0 ?_
  intro p e s m below meth c T A hnm
  refine Wp.cast (g' := mkF m 0 #[rv a, iv 2, U0] []) (by first | (simp [entryFrame, mkF, argsToLocals, Value.category, maxLocals, jv, S2, U0, iv, rv]; done) | rfl) ?_
  obtain ⟨E1, F2, V3, ne4, ge5, ge6⟩ := H
  refine s_aloadN (pc' := 1) A d4_0 rfl rfl rfl ?_
  refine s_getfield (pc' := 4) (host := "") A (Or.inl (w10 hw)) Via.refl F2 d4_1 rfl fun T A => ?_
  refine s_astoreN (pc' := 5) (Ls' := #[rv a, iv 2, rv r_parents]) A d4_4 rfl rfl rfl ?_
  refine s_aloadN (pc' := 6) A d4_5 rfl rfl rfl ?_
  refine s_iloadN (pc' := 7) A d4_6 rfl rfl ?_
  refine s_iaload (pc' := 8) (i := 2) (v := (.int (0 : Int32))) A V3 (by decide) rfl d4_7 rfl ?_
  refine s_iloadN (pc' := 9) A d4_8 rfl rfl ?_
  refine s_icmpN (pc' := 12) A d4_9 rfl (by decide) ?_
  refine s_aloadN (pc' := 13) A d4_12 rfl rfl rfl ?_
  refine s_iloadN (pc' := 14) A d4_13 rfl rfl ?_
  refine s_aloadN (pc' := 15) A d4_14 rfl rfl rfl ?_
  refine s_aloadN (pc' := 16) A d4_15 rfl rfl rfl ?_
  refine s_iloadN (pc' := 17) A d4_16 rfl rfl ?_
  refine s_iaload (pc' := 18) (i := 2) (v := (.int (0 : Int32))) A V3 (by decide) rfl d4_17 rfl ?_
  refine s_iaload (pc' := 19) (i := 0) (v := (.int (0 : Int32))) A V3 (by decide) rfl d4_18 rfl ?_
  refine s_iastore (pc' := 20) (i := 2) A V3 (by decide) (Nat.le_of_ble_eq_true rfl) ge6 d4_19 rfl fun T h7 A W8 V9 => ?_
  have V9 : AA Z h7 r_parents .int [.int (0 : Int32), .int (1 : Int32), .int (0 : Int32), .int (2 : Int32)] := V9
  refine s_aloadN (pc' := 21) A d4_20 rfl rfl rfl ?_
  refine s_iloadN (pc' := 22) A d4_21 rfl rfl ?_
  refine s_iaload (pc' := 23) (i := 2) (v := (.int (0 : Int32))) A V9 (by decide) rfl d4_22 rfl ?_
  refine s_istoreN (pc' := 24) (Ls' := #[rv a, iv 0, rv r_parents]) A d4_23 rfl rfl ?_
  refine s_goto (pc' := 5) A d4_24 (by decide) (by decide) ?_
  refine s_aloadN (pc' := 6) A d4_5 rfl rfl rfl ?_
  refine s_iloadN (pc' := 7) A d4_6 rfl rfl ?_
  refine s_iaload (pc' := 8) (i := 0) (v := (.int (0 : Int32))) A V9 (by decide) rfl d4_7 rfl ?_
  refine s_iloadN (pc' := 9) A d4_8 rfl rfl ?_
  refine s_icmpY (pc' := 27) A d4_9 (by decide) (by decide) (by decide) ?_
  refine s_iloadN (pc' := 28) A d4_27 rfl rfl ?_
  have K10 := ((Keep.refl h0 [a, r_parents]).wr W8 (Or.inl (List.mem_of_getElem? (i := 1) rfl)))
  have E11 := (E1.wr W8)
  have F12 := (F2.other W8 (Or.inl ne4))
  exact r_int A rfl d4_28 (by decide) (by decide) (⟨rfl, K10, ⟨E11, F12, V9, ne4, ge5, ge6⟩⟩)
set_option maxRecDepth 65536 in
set_option maxHeartbeats 40000000 in
theorem ds_find60 (l : Launch) (Z : State) (a0 : Array Value) (hw : ∀ d ∈ tables_1, d.before a0 Z = true) (n0 : Nat) (h0 : Heap) (Z0 : n0 ≤ h0.size) (a r_parents : Addr)  (H : DS Z n0 h0 a r_parents [.int (0 : Int32), .int (1 : Int32), .int (0 : Int32), .int (2 : Int32)]) :
    Met l Z n0 y0_find prog_15_method_2_code 3 (Option.some Jvm.ClassFile.FieldType.int) ({ frames := 0, cells := 0, slots := 0, locals := 0 } : Room) #[(.ref a), (.int (3 : Int32))] h0 (fun v h => v = some (.int (0 : Int32)) ∧ Keep h0 h [a, r_parents] ∧ DS Z n0 h a r_parents [.int (0 : Int32), .int (1 : Int32), .int (0 : Int32), .int (0 : Int32)]) := by
  refine met_intro (own := c0_DisjointSets) (plainFor_of_name pn_com_example_kithgraph_kithgraph_cluster_DisjointSets) rfl Z0 ?_
  intro p e s m below meth c T A hnm
  refine Wp.cast (g' := mkF m 0 #[rv a, iv 3, U0] []) (by first | (simp [entryFrame, mkF, argsToLocals, Value.category, maxLocals, jv, S2, U0, iv, rv]; done) | rfl) ?_
  obtain ⟨E1, F2, V3, ne4, ge5, ge6⟩ := H
  refine s_aloadN (pc' := 1) A d4_0 rfl rfl rfl ?_
  refine s_getfield (pc' := 4) (host := "") A (Or.inl (w10 hw)) Via.refl F2 d4_1 rfl fun T A => ?_
  refine s_astoreN (pc' := 5) (Ls' := #[rv a, iv 3, rv r_parents]) A d4_4 rfl rfl rfl ?_
  refine s_aloadN (pc' := 6) A d4_5 rfl rfl rfl ?_
  refine s_iloadN (pc' := 7) A d4_6 rfl rfl ?_
  refine s_iaload (pc' := 8) (i := 3) (v := (.int (2 : Int32))) A V3 (by decide) rfl d4_7 rfl ?_
  refine s_iloadN (pc' := 9) A d4_8 rfl rfl ?_
  refine s_icmpN (pc' := 12) A d4_9 rfl (by decide) ?_
  refine s_aloadN (pc' := 13) A d4_12 rfl rfl rfl ?_
  refine s_iloadN (pc' := 14) A d4_13 rfl rfl ?_
  refine s_aloadN (pc' := 15) A d4_14 rfl rfl rfl ?_
  refine s_aloadN (pc' := 16) A d4_15 rfl rfl rfl ?_
  refine s_iloadN (pc' := 17) A d4_16 rfl rfl ?_
  refine s_iaload (pc' := 18) (i := 3) (v := (.int (2 : Int32))) A V3 (by decide) rfl d4_17 rfl ?_
  refine s_iaload (pc' := 19) (i := 2) (v := (.int (0 : Int32))) A V3 (by decide) rfl d4_18 rfl ?_
  refine s_iastore (pc' := 20) (i := 3) A V3 (by decide) (Nat.le_of_ble_eq_true rfl) ge6 d4_19 rfl fun T h7 A W8 V9 => ?_
  have V9 : AA Z h7 r_parents .int [.int (0 : Int32), .int (1 : Int32), .int (0 : Int32), .int (0 : Int32)] := V9
  refine s_aloadN (pc' := 21) A d4_20 rfl rfl rfl ?_
  refine s_iloadN (pc' := 22) A d4_21 rfl rfl ?_
  refine s_iaload (pc' := 23) (i := 3) (v := (.int (0 : Int32))) A V9 (by decide) rfl d4_22 rfl ?_
  refine s_istoreN (pc' := 24) (Ls' := #[rv a, iv 0, rv r_parents]) A d4_23 rfl rfl ?_
  refine s_goto (pc' := 5) A d4_24 (by decide) (by decide) ?_
  refine s_aloadN (pc' := 6) A d4_5 rfl rfl rfl ?_
  refine s_iloadN (pc' := 7) A d4_6 rfl rfl ?_
  refine s_iaload (pc' := 8) (i := 0) (v := (.int (0 : Int32))) A V9 (by decide) rfl d4_7 rfl ?_
  refine s_iloadN (pc' := 9) A d4_8 rfl rfl ?_
  refine s_icmpY (pc' := 27) A d4_9 (by decide) (by decide) (by decide) ?_
  refine s_iloadN (pc' := 28) A d4_27 rfl rfl ?_
  have K10 := ((Keep.refl h0 [a, r_parents]).wr W8 (Or.inl (List.mem_of_getElem? (i := 1) rfl)))
  have E11 := (E1.wr W8)
  have F12 := (F2.other W8 (Or.inl ne4))
  exact r_int A rfl d4_28 (by decide) (by decide) (⟨rfl, K10, ⟨E11, F12, V9, ne4, ge5, ge6⟩⟩)
set_option maxRecDepth 65536 in
set_option maxHeartbeats 40000000 in
theorem ds_find61 (l : Launch) (Z : State) (a0 : Array Value) (hw : ∀ d ∈ tables_1, d.before a0 Z = true) (n0 : Nat) (h0 : Heap) (Z0 : n0 ≤ h0.size) (a r_parents : Addr)  (H : DS Z n0 h0 a r_parents [.int (0 : Int32), .int (1 : Int32), .int (0 : Int32), .int (3 : Int32)]) :
    Met l Z n0 y0_find prog_15_method_2_code 3 (Option.some Jvm.ClassFile.FieldType.int) ({ frames := 0, cells := 0, slots := 0, locals := 0 } : Room) #[(.ref a), (.int (0 : Int32))] h0 (fun v h => v = some (.int (0 : Int32)) ∧ Keep h0 h [a, r_parents] ∧ DS Z n0 h a r_parents [.int (0 : Int32), .int (1 : Int32), .int (0 : Int32), .int (3 : Int32)]) := by
  refine met_intro (own := c0_DisjointSets) (plainFor_of_name pn_com_example_kithgraph_kithgraph_cluster_DisjointSets) rfl Z0 ?_
  intro p e s m below meth c T A hnm
  refine Wp.cast (g' := mkF m 0 #[rv a, iv 0, U0] []) (by first | (simp [entryFrame, mkF, argsToLocals, Value.category, maxLocals, jv, S2, U0, iv, rv]; done) | rfl) ?_
  obtain ⟨E1, F2, V3, ne4, ge5, ge6⟩ := H
  refine s_aloadN (pc' := 1) A d4_0 rfl rfl rfl ?_
  refine s_getfield (pc' := 4) (host := "") A (Or.inl (w10 hw)) Via.refl F2 d4_1 rfl fun T A => ?_
  refine s_astoreN (pc' := 5) (Ls' := #[rv a, iv 0, rv r_parents]) A d4_4 rfl rfl rfl ?_
  refine s_aloadN (pc' := 6) A d4_5 rfl rfl rfl ?_
  refine s_iloadN (pc' := 7) A d4_6 rfl rfl ?_
  refine s_iaload (pc' := 8) (i := 0) (v := (.int (0 : Int32))) A V3 (by decide) rfl d4_7 rfl ?_
  refine s_iloadN (pc' := 9) A d4_8 rfl rfl ?_
  refine s_icmpY (pc' := 27) A d4_9 (by decide) (by decide) (by decide) ?_
  refine s_iloadN (pc' := 28) A d4_27 rfl rfl ?_
  exact r_int A rfl d4_28 (by decide) (by decide) (⟨rfl, (Keep.refl h0 [a, r_parents]), ⟨E1, F2, V3, ne4, ge5, ge6⟩⟩)
set_option maxRecDepth 65536 in
set_option maxHeartbeats 40000000 in
theorem ds_find62 (l : Launch) (Z : State) (a0 : Array Value) (hw : ∀ d ∈ tables_1, d.before a0 Z = true) (n0 : Nat) (h0 : Heap) (Z0 : n0 ≤ h0.size) (a r_parents : Addr)  (H : DS Z n0 h0 a r_parents [.int (0 : Int32), .int (1 : Int32), .int (0 : Int32), .int (3 : Int32)]) :
    Met l Z n0 y0_find prog_15_method_2_code 3 (Option.some Jvm.ClassFile.FieldType.int) ({ frames := 0, cells := 0, slots := 0, locals := 0 } : Room) #[(.ref a), (.int (1 : Int32))] h0 (fun v h => v = some (.int (1 : Int32)) ∧ Keep h0 h [a, r_parents] ∧ DS Z n0 h a r_parents [.int (0 : Int32), .int (1 : Int32), .int (0 : Int32), .int (3 : Int32)]) := by
  refine met_intro (own := c0_DisjointSets) (plainFor_of_name pn_com_example_kithgraph_kithgraph_cluster_DisjointSets) rfl Z0 ?_
  intro p e s m below meth c T A hnm
  refine Wp.cast (g' := mkF m 0 #[rv a, iv 1, U0] []) (by first | (simp [entryFrame, mkF, argsToLocals, Value.category, maxLocals, jv, S2, U0, iv, rv]; done) | rfl) ?_
  obtain ⟨E1, F2, V3, ne4, ge5, ge6⟩ := H
  refine s_aloadN (pc' := 1) A d4_0 rfl rfl rfl ?_
  refine s_getfield (pc' := 4) (host := "") A (Or.inl (w10 hw)) Via.refl F2 d4_1 rfl fun T A => ?_
  refine s_astoreN (pc' := 5) (Ls' := #[rv a, iv 1, rv r_parents]) A d4_4 rfl rfl rfl ?_
  refine s_aloadN (pc' := 6) A d4_5 rfl rfl rfl ?_
  refine s_iloadN (pc' := 7) A d4_6 rfl rfl ?_
  refine s_iaload (pc' := 8) (i := 1) (v := (.int (1 : Int32))) A V3 (by decide) rfl d4_7 rfl ?_
  refine s_iloadN (pc' := 9) A d4_8 rfl rfl ?_
  refine s_icmpY (pc' := 27) A d4_9 (by decide) (by decide) (by decide) ?_
  refine s_iloadN (pc' := 28) A d4_27 rfl rfl ?_
  exact r_int A rfl d4_28 (by decide) (by decide) (⟨rfl, (Keep.refl h0 [a, r_parents]), ⟨E1, F2, V3, ne4, ge5, ge6⟩⟩)
set_option maxRecDepth 65536 in
set_option maxHeartbeats 40000000 in
theorem ds_find63 (l : Launch) (Z : State) (a0 : Array Value) (hw : ∀ d ∈ tables_1, d.before a0 Z = true) (n0 : Nat) (h0 : Heap) (Z0 : n0 ≤ h0.size) (a r_parents : Addr)  (H : DS Z n0 h0 a r_parents [.int (0 : Int32), .int (1 : Int32), .int (0 : Int32), .int (3 : Int32)]) :
    Met l Z n0 y0_find prog_15_method_2_code 3 (Option.some Jvm.ClassFile.FieldType.int) ({ frames := 0, cells := 0, slots := 0, locals := 0 } : Room) #[(.ref a), (.int (2 : Int32))] h0 (fun v h => v = some (.int (0 : Int32)) ∧ Keep h0 h [a, r_parents] ∧ DS Z n0 h a r_parents [.int (0 : Int32), .int (1 : Int32), .int (0 : Int32), .int (3 : Int32)]) := by
  refine met_intro (own := c0_DisjointSets) (plainFor_of_name pn_com_example_kithgraph_kithgraph_cluster_DisjointSets) rfl Z0 ?_
  intro p e s m below meth c T A hnm
  refine Wp.cast (g' := mkF m 0 #[rv a, iv 2, U0] []) (by first | (simp [entryFrame, mkF, argsToLocals, Value.category, maxLocals, jv, S2, U0, iv, rv]; done) | rfl) ?_
  obtain ⟨E1, F2, V3, ne4, ge5, ge6⟩ := H
  refine s_aloadN (pc' := 1) A d4_0 rfl rfl rfl ?_
  refine s_getfield (pc' := 4) (host := "") A (Or.inl (w10 hw)) Via.refl F2 d4_1 rfl fun T A => ?_
  refine s_astoreN (pc' := 5) (Ls' := #[rv a, iv 2, rv r_parents]) A d4_4 rfl rfl rfl ?_
  refine s_aloadN (pc' := 6) A d4_5 rfl rfl rfl ?_
  refine s_iloadN (pc' := 7) A d4_6 rfl rfl ?_
  refine s_iaload (pc' := 8) (i := 2) (v := (.int (0 : Int32))) A V3 (by decide) rfl d4_7 rfl ?_
  refine s_iloadN (pc' := 9) A d4_8 rfl rfl ?_
  refine s_icmpN (pc' := 12) A d4_9 rfl (by decide) ?_
  refine s_aloadN (pc' := 13) A d4_12 rfl rfl rfl ?_
  refine s_iloadN (pc' := 14) A d4_13 rfl rfl ?_
  refine s_aloadN (pc' := 15) A d4_14 rfl rfl rfl ?_
  refine s_aloadN (pc' := 16) A d4_15 rfl rfl rfl ?_
  refine s_iloadN (pc' := 17) A d4_16 rfl rfl ?_
  refine s_iaload (pc' := 18) (i := 2) (v := (.int (0 : Int32))) A V3 (by decide) rfl d4_17 rfl ?_
  refine s_iaload (pc' := 19) (i := 0) (v := (.int (0 : Int32))) A V3 (by decide) rfl d4_18 rfl ?_
  refine s_iastore (pc' := 20) (i := 2) A V3 (by decide) (Nat.le_of_ble_eq_true rfl) ge6 d4_19 rfl fun T h7 A W8 V9 => ?_
  have V9 : AA Z h7 r_parents .int [.int (0 : Int32), .int (1 : Int32), .int (0 : Int32), .int (3 : Int32)] := V9
  refine s_aloadN (pc' := 21) A d4_20 rfl rfl rfl ?_
  refine s_iloadN (pc' := 22) A d4_21 rfl rfl ?_
  refine s_iaload (pc' := 23) (i := 2) (v := (.int (0 : Int32))) A V9 (by decide) rfl d4_22 rfl ?_
  refine s_istoreN (pc' := 24) (Ls' := #[rv a, iv 0, rv r_parents]) A d4_23 rfl rfl ?_
  refine s_goto (pc' := 5) A d4_24 (by decide) (by decide) ?_
  refine s_aloadN (pc' := 6) A d4_5 rfl rfl rfl ?_
  refine s_iloadN (pc' := 7) A d4_6 rfl rfl ?_
  refine s_iaload (pc' := 8) (i := 0) (v := (.int (0 : Int32))) A V9 (by decide) rfl d4_7 rfl ?_
  refine s_iloadN (pc' := 9) A d4_8 rfl rfl ?_
  refine s_icmpY (pc' := 27) A d4_9 (by decide) (by decide) (by decide) ?_
  refine s_iloadN (pc' := 28) A d4_27 rfl rfl ?_
  have K10 := ((Keep.refl h0 [a, r_parents]).wr W8 (Or.inl (List.mem_of_getElem? (i := 1) rfl)))
  have E11 := (E1.wr W8)
  have F12 := (F2.other W8 (Or.inl ne4))
  exact r_int A rfl d4_28 (by decide) (by decide) (⟨rfl, K10, ⟨E11, F12, V9, ne4, ge5, ge6⟩⟩)
set_option maxRecDepth 65536 in
set_option maxHeartbeats 40000000 in
theorem ds_find64 (l : Launch) (Z : State) (a0 : Array Value) (hw : ∀ d ∈ tables_1, d.before a0 Z = true) (n0 : Nat) (h0 : Heap) (Z0 : n0 ≤ h0.size) (a r_parents : Addr)  (H : DS Z n0 h0 a r_parents [.int (0 : Int32), .int (1 : Int32), .int (0 : Int32), .int (3 : Int32)]) :
    Met l Z n0 y0_find prog_15_method_2_code 3 (Option.some Jvm.ClassFile.FieldType.int) ({ frames := 0, cells := 0, slots := 0, locals := 0 } : Room) #[(.ref a), (.int (3 : Int32))] h0 (fun v h => v = some (.int (3 : Int32)) ∧ Keep h0 h [a, r_parents] ∧ DS Z n0 h a r_parents [.int (0 : Int32), .int (1 : Int32), .int (0 : Int32), .int (3 : Int32)]) := by
  refine met_intro (own := c0_DisjointSets) (plainFor_of_name pn_com_example_kithgraph_kithgraph_cluster_DisjointSets) rfl Z0 ?_
  intro p e s m below meth c T A hnm
  refine Wp.cast (g' := mkF m 0 #[rv a, iv 3, U0] []) (by first | (simp [entryFrame, mkF, argsToLocals, Value.category, maxLocals, jv, S2, U0, iv, rv]; done) | rfl) ?_
  obtain ⟨E1, F2, V3, ne4, ge5, ge6⟩ := H
  refine s_aloadN (pc' := 1) A d4_0 rfl rfl rfl ?_
  refine s_getfield (pc' := 4) (host := "") A (Or.inl (w10 hw)) Via.refl F2 d4_1 rfl fun T A => ?_
  refine s_astoreN (pc' := 5) (Ls' := #[rv a, iv 3, rv r_parents]) A d4_4 rfl rfl rfl ?_
  refine s_aloadN (pc' := 6) A d4_5 rfl rfl rfl ?_
  refine s_iloadN (pc' := 7) A d4_6 rfl rfl ?_
  refine s_iaload (pc' := 8) (i := 3) (v := (.int (3 : Int32))) A V3 (by decide) rfl d4_7 rfl ?_
  refine s_iloadN (pc' := 9) A d4_8 rfl rfl ?_
  refine s_icmpY (pc' := 27) A d4_9 (by decide) (by decide) (by decide) ?_
  refine s_iloadN (pc' := 28) A d4_27 rfl rfl ?_
  exact r_int A rfl d4_28 (by decide) (by decide) (⟨rfl, (Keep.refl h0 [a, r_parents]), ⟨E1, F2, V3, ne4, ge5, ge6⟩⟩)
set_option maxRecDepth 65536 in
set_option maxHeartbeats 40000000 in
theorem ds_find65 (l : Launch) (Z : State) (a0 : Array Value) (hw : ∀ d ∈ tables_1, d.before a0 Z = true) (n0 : Nat) (h0 : Heap) (Z0 : n0 ≤ h0.size) (a r_parents : Addr)  (H : DS Z n0 h0 a r_parents [.int (0 : Int32), .int (1 : Int32), .int (1 : Int32), .int (0 : Int32)]) :
    Met l Z n0 y0_find prog_15_method_2_code 3 (Option.some Jvm.ClassFile.FieldType.int) ({ frames := 0, cells := 0, slots := 0, locals := 0 } : Room) #[(.ref a), (.int (0 : Int32))] h0 (fun v h => v = some (.int (0 : Int32)) ∧ Keep h0 h [a, r_parents] ∧ DS Z n0 h a r_parents [.int (0 : Int32), .int (1 : Int32), .int (1 : Int32), .int (0 : Int32)]) := by
  refine met_intro (own := c0_DisjointSets) (plainFor_of_name pn_com_example_kithgraph_kithgraph_cluster_DisjointSets) rfl Z0 ?_
  intro p e s m below meth c T A hnm
  refine Wp.cast (g' := mkF m 0 #[rv a, iv 0, U0] []) (by first | (simp [entryFrame, mkF, argsToLocals, Value.category, maxLocals, jv, S2, U0, iv, rv]; done) | rfl) ?_
  obtain ⟨E1, F2, V3, ne4, ge5, ge6⟩ := H
  refine s_aloadN (pc' := 1) A d4_0 rfl rfl rfl ?_
  refine s_getfield (pc' := 4) (host := "") A (Or.inl (w10 hw)) Via.refl F2 d4_1 rfl fun T A => ?_
  refine s_astoreN (pc' := 5) (Ls' := #[rv a, iv 0, rv r_parents]) A d4_4 rfl rfl rfl ?_
  refine s_aloadN (pc' := 6) A d4_5 rfl rfl rfl ?_
  refine s_iloadN (pc' := 7) A d4_6 rfl rfl ?_
  refine s_iaload (pc' := 8) (i := 0) (v := (.int (0 : Int32))) A V3 (by decide) rfl d4_7 rfl ?_
  refine s_iloadN (pc' := 9) A d4_8 rfl rfl ?_
  refine s_icmpY (pc' := 27) A d4_9 (by decide) (by decide) (by decide) ?_
  refine s_iloadN (pc' := 28) A d4_27 rfl rfl ?_
  exact r_int A rfl d4_28 (by decide) (by decide) (⟨rfl, (Keep.refl h0 [a, r_parents]), ⟨E1, F2, V3, ne4, ge5, ge6⟩⟩)
set_option maxRecDepth 65536 in
set_option maxHeartbeats 40000000 in
theorem ds_find66 (l : Launch) (Z : State) (a0 : Array Value) (hw : ∀ d ∈ tables_1, d.before a0 Z = true) (n0 : Nat) (h0 : Heap) (Z0 : n0 ≤ h0.size) (a r_parents : Addr)  (H : DS Z n0 h0 a r_parents [.int (0 : Int32), .int (1 : Int32), .int (1 : Int32), .int (0 : Int32)]) :
    Met l Z n0 y0_find prog_15_method_2_code 3 (Option.some Jvm.ClassFile.FieldType.int) ({ frames := 0, cells := 0, slots := 0, locals := 0 } : Room) #[(.ref a), (.int (1 : Int32))] h0 (fun v h => v = some (.int (1 : Int32)) ∧ Keep h0 h [a, r_parents] ∧ DS Z n0 h a r_parents [.int (0 : Int32), .int (1 : Int32), .int (1 : Int32), .int (0 : Int32)]) := by
  refine met_intro (own := c0_DisjointSets) (plainFor_of_name pn_com_example_kithgraph_kithgraph_cluster_DisjointSets) rfl Z0 ?_
  intro p e s m below meth c T A hnm
  refine Wp.cast (g' := mkF m 0 #[rv a, iv 1, U0] []) (by first | (simp [entryFrame, mkF, argsToLocals, Value.category, maxLocals, jv, S2, U0, iv, rv]; done) | rfl) ?_
  obtain ⟨E1, F2, V3, ne4, ge5, ge6⟩ := H
  refine s_aloadN (pc' := 1) A d4_0 rfl rfl rfl ?_
  refine s_getfield (pc' := 4) (host := "") A (Or.inl (w10 hw)) Via.refl F2 d4_1 rfl fun T A => ?_
  refine s_astoreN (pc' := 5) (Ls' := #[rv a, iv 1, rv r_parents]) A d4_4 rfl rfl rfl ?_
  refine s_aloadN (pc' := 6) A d4_5 rfl rfl rfl ?_
  refine s_iloadN (pc' := 7) A d4_6 rfl rfl ?_
  refine s_iaload (pc' := 8) (i := 1) (v := (.int (1 : Int32))) A V3 (by decide) rfl d4_7 rfl ?_
  refine s_iloadN (pc' := 9) A d4_8 rfl rfl ?_
  refine s_icmpY (pc' := 27) A d4_9 (by decide) (by decide) (by decide) ?_
  refine s_iloadN (pc' := 28) A d4_27 rfl rfl ?_
  exact r_int A rfl d4_28 (by decide) (by decide) (⟨rfl, (Keep.refl h0 [a, r_parents]), ⟨E1, F2, V3, ne4, ge5, ge6⟩⟩)
set_option maxRecDepth 65536 in
set_option maxHeartbeats 40000000 in
theorem ds_find67 (l : Launch) (Z : State) (a0 : Array Value) (hw : ∀ d ∈ tables_1, d.before a0 Z = true) (n0 : Nat) (h0 : Heap) (Z0 : n0 ≤ h0.size) (a r_parents : Addr)  (H : DS Z n0 h0 a r_parents [.int (0 : Int32), .int (1 : Int32), .int (1 : Int32), .int (0 : Int32)]) :
    Met l Z n0 y0_find prog_15_method_2_code 3 (Option.some Jvm.ClassFile.FieldType.int) ({ frames := 0, cells := 0, slots := 0, locals := 0 } : Room) #[(.ref a), (.int (2 : Int32))] h0 (fun v h => v = some (.int (1 : Int32)) ∧ Keep h0 h [a, r_parents] ∧ DS Z n0 h a r_parents [.int (0 : Int32), .int (1 : Int32), .int (1 : Int32), .int (0 : Int32)]) := by
  refine met_intro (own := c0_DisjointSets) (plainFor_of_name pn_com_example_kithgraph_kithgraph_cluster_DisjointSets) rfl Z0 ?_
  intro p e s m below meth c T A hnm
  refine Wp.cast (g' := mkF m 0 #[rv a, iv 2, U0] []) (by first | (simp [entryFrame, mkF, argsToLocals, Value.category, maxLocals, jv, S2, U0, iv, rv]; done) | rfl) ?_
  obtain ⟨E1, F2, V3, ne4, ge5, ge6⟩ := H
  refine s_aloadN (pc' := 1) A d4_0 rfl rfl rfl ?_
  refine s_getfield (pc' := 4) (host := "") A (Or.inl (w10 hw)) Via.refl F2 d4_1 rfl fun T A => ?_
  refine s_astoreN (pc' := 5) (Ls' := #[rv a, iv 2, rv r_parents]) A d4_4 rfl rfl rfl ?_
  refine s_aloadN (pc' := 6) A d4_5 rfl rfl rfl ?_
  refine s_iloadN (pc' := 7) A d4_6 rfl rfl ?_
  refine s_iaload (pc' := 8) (i := 2) (v := (.int (1 : Int32))) A V3 (by decide) rfl d4_7 rfl ?_
  refine s_iloadN (pc' := 9) A d4_8 rfl rfl ?_
  refine s_icmpN (pc' := 12) A d4_9 rfl (by decide) ?_
  refine s_aloadN (pc' := 13) A d4_12 rfl rfl rfl ?_
  refine s_iloadN (pc' := 14) A d4_13 rfl rfl ?_
  refine s_aloadN (pc' := 15) A d4_14 rfl rfl rfl ?_
  refine s_aloadN (pc' := 16) A d4_15 rfl rfl rfl ?_
  refine s_iloadN (pc' := 17) A d4_16 rfl rfl ?_
  refine s_iaload (pc' := 18) (i := 2) (v := (.int (1 : Int32))) A V3 (by decide) rfl d4_17 rfl ?_
  refine s_iaload (pc' := 19) (i := 1) (v := (.int (1 : Int32))) A V3 (by decide) rfl d4_18 rfl ?_
  refine s_iastore (pc' := 20) (i := 2) A V3 (by decide) (Nat.le_of_ble_eq_true rfl) ge6 d4_19 rfl fun T h7 A W8 V9 => ?_
  have V9 : AA Z h7 r_parents .int [.int (0 : Int32), .int (1 : Int32), .int (1 : Int32), .int (0 : Int32)] := V9
  refine s_aloadN (pc' := 21) A d4_20 rfl rfl rfl ?_
  refine s_iloadN (pc' := 22) A d4_21 rfl rfl ?_
  refine s_iaload (pc' := 23) (i := 2) (v := (.int (1 : Int32))) A V9 (by decide) rfl d4_22 rfl ?_
  refine s_istoreN (pc' := 24) (Ls' := #[rv a, iv 1, rv r_parents]) A d4_23 rfl rfl ?_
  refine s_goto (pc' := 5) A d4_24 (by decide) (by decide) ?_
  refine s_aloadN (pc' := 6) A d4_5 rfl rfl rfl ?_
  refine s_iloadN (pc' := 7) A d4_6 rfl rfl ?_
  refine s_iaload (pc' := 8) (i := 1) (v := (.int (1 : Int32))) A V9 (by decide) rfl d4_7 rfl ?_
  refine s_iloadN (pc' := 9) A d4_8 rfl rfl ?_
  refine s_icmpY (pc' := 27) A d4_9 (by decide) (by decide) (by decide) ?_
  refine s_iloadN (pc' := 28) A d4_27 rfl rfl ?_
  have K10 := ((Keep.refl h0 [a, r_parents]).wr W8 (Or.inl (List.mem_of_getElem? (i := 1) rfl)))
  have E11 := (E1.wr W8)
  have F12 := (F2.other W8 (Or.inl ne4))
  exact r_int A rfl d4_28 (by decide) (by decide) (⟨rfl, K10, ⟨E11, F12, V9, ne4, ge5, ge6⟩⟩)
set_option maxRecDepth 65536 in
set_option maxHeartbeats 40000000 in
theorem ds_find68 (l : Launch) (Z : State) (a0 : Array Value) (hw : ∀ d ∈ tables_1, d.before a0 Z = true) (n0 : Nat) (h0 : Heap) (Z0 : n0 ≤ h0.size) (a r_parents : Addr)  (H : DS Z n0 h0 a r_parents [.int (0 : Int32), .int (1 : Int32), .int (1 : Int32), .int (0 : Int32)]) :
    Met l Z n0 y0_find prog_15_method_2_code 3 (Option.some Jvm.ClassFile.FieldType.int) ({ frames := 0, cells := 0, slots := 0, locals := 0 } : Room) #[(.ref a), (.int (3 : Int32))] h0 (fun v h => v = some (.int (0 : Int32)) ∧ Keep h0 h [a, r_parents] ∧ DS Z n0 h a r_parents [.int (0 : Int32), .int (1 : Int32), .int (1 : Int32), .int (0 : Int32)]) := by
  refine met_intro (own := c0_DisjointSets) (plainFor_of_name pn_com_example_kithgraph_kithgraph_cluster_DisjointSets) rfl Z0 ?_
  intro p e s m below meth c T A hnm
  refine Wp.cast (g' := mkF m 0 #[rv a, iv 3, U0] []) (by first | (simp [entryFrame, mkF, argsToLocals, Value.category, maxLocals, jv, S2, U0, iv, rv]; done) | rfl) ?_
  obtain ⟨E1, F2, V3, ne4, ge5, ge6⟩ := H
  refine s_aloadN (pc' := 1) A d4_0 rfl rfl rfl ?_
  refine s_getfield (pc' := 4) (host := "") A (Or.inl (w10 hw)) Via.refl F2 d4_1 rfl fun T A => ?_
  refine s_astoreN (pc' := 5) (Ls' := #[rv a, iv 3, rv r_parents]) A d4_4 rfl rfl rfl ?_
  refine s_aloadN (pc' := 6) A d4_5 rfl rfl rfl ?_
  refine s_iloadN (pc' := 7) A d4_6 rfl rfl ?_
  refine s_iaload (pc' := 8) (i := 3) (v := (.int (0 : Int32))) A V3 (by decide) rfl d4_7 rfl ?_
  refine s_iloadN (pc' := 9) A d4_8 rfl rfl ?_
  refine s_icmpN (pc' := 12) A d4_9 rfl (by decide) ?_
  refine s_aloadN (pc' := 13) A d4_12 rfl rfl rfl ?_
  refine s_iloadN (pc' := 14) A d4_13 rfl rfl ?_
  refine s_aloadN (pc' := 15) A d4_14 rfl rfl rfl ?_
  refine s_aloadN (pc' := 16) A d4_15 rfl rfl rfl ?_
  refine s_iloadN (pc' := 17) A d4_16 rfl rfl ?_
  refine s_iaload (pc' := 18) (i := 3) (v := (.int (0 : Int32))) A V3 (by decide) rfl d4_17 rfl ?_
  refine s_iaload (pc' := 19) (i := 0) (v := (.int (0 : Int32))) A V3 (by decide) rfl d4_18 rfl ?_
  refine s_iastore (pc' := 20) (i := 3) A V3 (by decide) (Nat.le_of_ble_eq_true rfl) ge6 d4_19 rfl fun T h7 A W8 V9 => ?_
  have V9 : AA Z h7 r_parents .int [.int (0 : Int32), .int (1 : Int32), .int (1 : Int32), .int (0 : Int32)] := V9
  refine s_aloadN (pc' := 21) A d4_20 rfl rfl rfl ?_
  refine s_iloadN (pc' := 22) A d4_21 rfl rfl ?_
  refine s_iaload (pc' := 23) (i := 3) (v := (.int (0 : Int32))) A V9 (by decide) rfl d4_22 rfl ?_
  refine s_istoreN (pc' := 24) (Ls' := #[rv a, iv 0, rv r_parents]) A d4_23 rfl rfl ?_
  refine s_goto (pc' := 5) A d4_24 (by decide) (by decide) ?_
  refine s_aloadN (pc' := 6) A d4_5 rfl rfl rfl ?_
  refine s_iloadN (pc' := 7) A d4_6 rfl rfl ?_
  refine s_iaload (pc' := 8) (i := 0) (v := (.int (0 : Int32))) A V9 (by decide) rfl d4_7 rfl ?_
  refine s_iloadN (pc' := 9) A d4_8 rfl rfl ?_
  refine s_icmpY (pc' := 27) A d4_9 (by decide) (by decide) (by decide) ?_
  refine s_iloadN (pc' := 28) A d4_27 rfl rfl ?_
  have K10 := ((Keep.refl h0 [a, r_parents]).wr W8 (Or.inl (List.mem_of_getElem? (i := 1) rfl)))
  have E11 := (E1.wr W8)
  have F12 := (F2.other W8 (Or.inl ne4))
  exact r_int A rfl d4_28 (by decide) (by decide) (⟨rfl, K10, ⟨E11, F12, V9, ne4, ge5, ge6⟩⟩)
set_option maxRecDepth 65536 in
set_option maxHeartbeats 40000000 in
theorem ds_find69 (l : Launch) (Z : State) (a0 : Array Value) (hw : ∀ d ∈ tables_1, d.before a0 Z = true) (n0 : Nat) (h0 : Heap) (Z0 : n0 ≤ h0.size) (a r_parents : Addr)  (H : DS Z n0 h0 a r_parents [.int (0 : Int32), .int (1 : Int32), .int (1 : Int32), .int (1 : Int32)]) :
    Met l Z n0 y0_find prog_15_method_2_code 3 (Option.some Jvm.ClassFile.FieldType.int) ({ frames := 0, cells := 0, slots := 0, locals := 0 } : Room) #[(.ref a), (.int (0 : Int32))] h0 (fun v h => v = some (.int (0 : Int32)) ∧ Keep h0 h [a, r_parents] ∧ DS Z n0 h a r_parents [.int (0 : Int32), .int (1 : Int32), .int (1 : Int32), .int (1 : Int32)]) := by
  refine met_intro (own := c0_DisjointSets) (plainFor_of_name pn_com_example_kithgraph_kithgraph_cluster_DisjointSets) rfl Z0 ?_
  intro p e s m below meth c T A hnm
  refine Wp.cast (g' := mkF m 0 #[rv a, iv 0, U0] []) (by first | (simp [entryFrame, mkF, argsToLocals, Value.category, maxLocals, jv, S2, U0, iv, rv]; done) | rfl) ?_
  obtain ⟨E1, F2, V3, ne4, ge5, ge6⟩ := H
  refine s_aloadN (pc' := 1) A d4_0 rfl rfl rfl ?_
  refine s_getfield (pc' := 4) (host := "") A (Or.inl (w10 hw)) Via.refl F2 d4_1 rfl fun T A => ?_
  refine s_astoreN (pc' := 5) (Ls' := #[rv a, iv 0, rv r_parents]) A d4_4 rfl rfl rfl ?_
  refine s_aloadN (pc' := 6) A d4_5 rfl rfl rfl ?_
  refine s_iloadN (pc' := 7) A d4_6 rfl rfl ?_
  refine s_iaload (pc' := 8) (i := 0) (v := (.int (0 : Int32))) A V3 (by decide) rfl d4_7 rfl ?_
  refine s_iloadN (pc' := 9) A d4_8 rfl rfl ?_
  refine s_icmpY (pc' := 27) A d4_9 (by decide) (by decide) (by decide) ?_
  refine s_iloadN (pc' := 28) A d4_27 rfl rfl ?_
  exact r_int A rfl d4_28 (by decide) (by decide) (⟨rfl, (Keep.refl h0 [a, r_parents]), ⟨E1, F2, V3, ne4, ge5, ge6⟩⟩)
set_option maxRecDepth 65536 in
set_option maxHeartbeats 40000000 in
theorem ds_find70 (l : Launch) (Z : State) (a0 : Array Value) (hw : ∀ d ∈ tables_1, d.before a0 Z = true) (n0 : Nat) (h0 : Heap) (Z0 : n0 ≤ h0.size) (a r_parents : Addr)  (H : DS Z n0 h0 a r_parents [.int (0 : Int32), .int (1 : Int32), .int (1 : Int32), .int (1 : Int32)]) :
    Met l Z n0 y0_find prog_15_method_2_code 3 (Option.some Jvm.ClassFile.FieldType.int) ({ frames := 0, cells := 0, slots := 0, locals := 0 } : Room) #[(.ref a), (.int (1 : Int32))] h0 (fun v h => v = some (.int (1 : Int32)) ∧ Keep h0 h [a, r_parents] ∧ DS Z n0 h a r_parents [.int (0 : Int32), .int (1 : Int32), .int (1 : Int32), .int (1 : Int32)]) := by
  refine met_intro (own := c0_DisjointSets) (plainFor_of_name pn_com_example_kithgraph_kithgraph_cluster_DisjointSets) rfl Z0 ?_
  intro p e s m below meth c T A hnm
  refine Wp.cast (g' := mkF m 0 #[rv a, iv 1, U0] []) (by first | (simp [entryFrame, mkF, argsToLocals, Value.category, maxLocals, jv, S2, U0, iv, rv]; done) | rfl) ?_
  obtain ⟨E1, F2, V3, ne4, ge5, ge6⟩ := H
  refine s_aloadN (pc' := 1) A d4_0 rfl rfl rfl ?_
  refine s_getfield (pc' := 4) (host := "") A (Or.inl (w10 hw)) Via.refl F2 d4_1 rfl fun T A => ?_
  refine s_astoreN (pc' := 5) (Ls' := #[rv a, iv 1, rv r_parents]) A d4_4 rfl rfl rfl ?_
  refine s_aloadN (pc' := 6) A d4_5 rfl rfl rfl ?_
  refine s_iloadN (pc' := 7) A d4_6 rfl rfl ?_
  refine s_iaload (pc' := 8) (i := 1) (v := (.int (1 : Int32))) A V3 (by decide) rfl d4_7 rfl ?_
  refine s_iloadN (pc' := 9) A d4_8 rfl rfl ?_
  refine s_icmpY (pc' := 27) A d4_9 (by decide) (by decide) (by decide) ?_
  refine s_iloadN (pc' := 28) A d4_27 rfl rfl ?_
  exact r_int A rfl d4_28 (by decide) (by decide) (⟨rfl, (Keep.refl h0 [a, r_parents]), ⟨E1, F2, V3, ne4, ge5, ge6⟩⟩)
set_option maxRecDepth 65536 in
set_option maxHeartbeats 40000000 in
theorem ds_find71 (l : Launch) (Z : State) (a0 : Array Value) (hw : ∀ d ∈ tables_1, d.before a0 Z = true) (n0 : Nat) (h0 : Heap) (Z0 : n0 ≤ h0.size) (a r_parents : Addr)  (H : DS Z n0 h0 a r_parents [.int (0 : Int32), .int (1 : Int32), .int (1 : Int32), .int (1 : Int32)]) :
    Met l Z n0 y0_find prog_15_method_2_code 3 (Option.some Jvm.ClassFile.FieldType.int) ({ frames := 0, cells := 0, slots := 0, locals := 0 } : Room) #[(.ref a), (.int (2 : Int32))] h0 (fun v h => v = some (.int (1 : Int32)) ∧ Keep h0 h [a, r_parents] ∧ DS Z n0 h a r_parents [.int (0 : Int32), .int (1 : Int32), .int (1 : Int32), .int (1 : Int32)]) := by
  refine met_intro (own := c0_DisjointSets) (plainFor_of_name pn_com_example_kithgraph_kithgraph_cluster_DisjointSets) rfl Z0 ?_
  intro p e s m below meth c T A hnm
  refine Wp.cast (g' := mkF m 0 #[rv a, iv 2, U0] []) (by first | (simp [entryFrame, mkF, argsToLocals, Value.category, maxLocals, jv, S2, U0, iv, rv]; done) | rfl) ?_
  obtain ⟨E1, F2, V3, ne4, ge5, ge6⟩ := H
  refine s_aloadN (pc' := 1) A d4_0 rfl rfl rfl ?_
  refine s_getfield (pc' := 4) (host := "") A (Or.inl (w10 hw)) Via.refl F2 d4_1 rfl fun T A => ?_
  refine s_astoreN (pc' := 5) (Ls' := #[rv a, iv 2, rv r_parents]) A d4_4 rfl rfl rfl ?_
  refine s_aloadN (pc' := 6) A d4_5 rfl rfl rfl ?_
  refine s_iloadN (pc' := 7) A d4_6 rfl rfl ?_
  refine s_iaload (pc' := 8) (i := 2) (v := (.int (1 : Int32))) A V3 (by decide) rfl d4_7 rfl ?_
  refine s_iloadN (pc' := 9) A d4_8 rfl rfl ?_
  refine s_icmpN (pc' := 12) A d4_9 rfl (by decide) ?_
  refine s_aloadN (pc' := 13) A d4_12 rfl rfl rfl ?_
  refine s_iloadN (pc' := 14) A d4_13 rfl rfl ?_
  refine s_aloadN (pc' := 15) A d4_14 rfl rfl rfl ?_
  refine s_aloadN (pc' := 16) A d4_15 rfl rfl rfl ?_
  refine s_iloadN (pc' := 17) A d4_16 rfl rfl ?_
  refine s_iaload (pc' := 18) (i := 2) (v := (.int (1 : Int32))) A V3 (by decide) rfl d4_17 rfl ?_
  refine s_iaload (pc' := 19) (i := 1) (v := (.int (1 : Int32))) A V3 (by decide) rfl d4_18 rfl ?_
  refine s_iastore (pc' := 20) (i := 2) A V3 (by decide) (Nat.le_of_ble_eq_true rfl) ge6 d4_19 rfl fun T h7 A W8 V9 => ?_
  have V9 : AA Z h7 r_parents .int [.int (0 : Int32), .int (1 : Int32), .int (1 : Int32), .int (1 : Int32)] := V9
  refine s_aloadN (pc' := 21) A d4_20 rfl rfl rfl ?_
  refine s_iloadN (pc' := 22) A d4_21 rfl rfl ?_
  refine s_iaload (pc' := 23) (i := 2) (v := (.int (1 : Int32))) A V9 (by decide) rfl d4_22 rfl ?_
  refine s_istoreN (pc' := 24) (Ls' := #[rv a, iv 1, rv r_parents]) A d4_23 rfl rfl ?_
  refine s_goto (pc' := 5) A d4_24 (by decide) (by decide) ?_
  refine s_aloadN (pc' := 6) A d4_5 rfl rfl rfl ?_
  refine s_iloadN (pc' := 7) A d4_6 rfl rfl ?_
  refine s_iaload (pc' := 8) (i := 1) (v := (.int (1 : Int32))) A V9 (by decide) rfl d4_7 rfl ?_
  refine s_iloadN (pc' := 9) A d4_8 rfl rfl ?_
  refine s_icmpY (pc' := 27) A d4_9 (by decide) (by decide) (by decide) ?_
  refine s_iloadN (pc' := 28) A d4_27 rfl rfl ?_
  have K10 := ((Keep.refl h0 [a, r_parents]).wr W8 (Or.inl (List.mem_of_getElem? (i := 1) rfl)))
  have E11 := (E1.wr W8)
  have F12 := (F2.other W8 (Or.inl ne4))
  exact r_int A rfl d4_28 (by decide) (by decide) (⟨rfl, K10, ⟨E11, F12, V9, ne4, ge5, ge6⟩⟩)
set_option maxRecDepth 65536 in
set_option maxHeartbeats 40000000 in
theorem ds_find72 (l : Launch) (Z : State) (a0 : Array Value) (hw : ∀ d ∈ tables_1, d.before a0 Z = true) (n0 : Nat) (h0 : Heap) (Z0 : n0 ≤ h0.size) (a r_parents : Addr)  (H : DS Z n0 h0 a r_parents [.int (0 : Int32), .int (1 : Int32), .int (1 : Int32), .int (1 : Int32)]) :
    Met l Z n0 y0_find prog_15_method_2_code 3 (Option.some Jvm.ClassFile.FieldType.int) ({ frames := 0, cells := 0, slots := 0, locals := 0 } : Room) #[(.ref a), (.int (3 : Int32))] h0 (fun v h => v = some (.int (1 : Int32)) ∧ Keep h0 h [a, r_parents] ∧ DS Z n0 h a r_parents [.int (0 : Int32), .int (1 : Int32), .int (1 : Int32), .int (1 : Int32)]) := by
  refine met_intro (own := c0_DisjointSets) (plainFor_of_name pn_com_example_kithgraph_kithgraph_cluster_DisjointSets) rfl Z0 ?_
  intro p e s m below meth c T A hnm
  refine Wp.cast (g' := mkF m 0 #[rv a, iv 3, U0] []) (by first | (simp [entryFrame, mkF, argsToLocals, Value.category, maxLocals, jv, S2, U0, iv, rv]; done) | rfl) ?_
  obtain ⟨E1, F2, V3, ne4, ge5, ge6⟩ := H
  refine s_aloadN (pc' := 1) A d4_0 rfl rfl rfl ?_
  refine s_getfield (pc' := 4) (host := "") A (Or.inl (w10 hw)) Via.refl F2 d4_1 rfl fun T A => ?_
  refine s_astoreN (pc' := 5) (Ls' := #[rv a, iv 3, rv r_parents]) A d4_4 rfl rfl rfl ?_
  refine s_aloadN (pc' := 6) A d4_5 rfl rfl rfl ?_
  refine s_iloadN (pc' := 7) A d4_6 rfl rfl ?_
  refine s_iaload (pc' := 8) (i := 3) (v := (.int (1 : Int32))) A V3 (by decide) rfl d4_7 rfl ?_
  refine s_iloadN (pc' := 9) A d4_8 rfl rfl ?_
  refine s_icmpN (pc' := 12) A d4_9 rfl (by decide) ?_
  refine s_aloadN (pc' := 13) A d4_12 rfl rfl rfl ?_
  refine s_iloadN (pc' := 14) A d4_13 rfl rfl ?_
  refine s_aloadN (pc' := 15) A d4_14 rfl rfl rfl ?_
  refine s_aloadN (pc' := 16) A d4_15 rfl rfl rfl ?_
  refine s_iloadN (pc' := 17) A d4_16 rfl rfl ?_
  refine s_iaload (pc' := 18) (i := 3) (v := (.int (1 : Int32))) A V3 (by decide) rfl d4_17 rfl ?_
  refine s_iaload (pc' := 19) (i := 1) (v := (.int (1 : Int32))) A V3 (by decide) rfl d4_18 rfl ?_
  refine s_iastore (pc' := 20) (i := 3) A V3 (by decide) (Nat.le_of_ble_eq_true rfl) ge6 d4_19 rfl fun T h7 A W8 V9 => ?_
  have V9 : AA Z h7 r_parents .int [.int (0 : Int32), .int (1 : Int32), .int (1 : Int32), .int (1 : Int32)] := V9
  refine s_aloadN (pc' := 21) A d4_20 rfl rfl rfl ?_
  refine s_iloadN (pc' := 22) A d4_21 rfl rfl ?_
  refine s_iaload (pc' := 23) (i := 3) (v := (.int (1 : Int32))) A V9 (by decide) rfl d4_22 rfl ?_
  refine s_istoreN (pc' := 24) (Ls' := #[rv a, iv 1, rv r_parents]) A d4_23 rfl rfl ?_
  refine s_goto (pc' := 5) A d4_24 (by decide) (by decide) ?_
  refine s_aloadN (pc' := 6) A d4_5 rfl rfl rfl ?_
  refine s_iloadN (pc' := 7) A d4_6 rfl rfl ?_
  refine s_iaload (pc' := 8) (i := 1) (v := (.int (1 : Int32))) A V9 (by decide) rfl d4_7 rfl ?_
  refine s_iloadN (pc' := 9) A d4_8 rfl rfl ?_
  refine s_icmpY (pc' := 27) A d4_9 (by decide) (by decide) (by decide) ?_
  refine s_iloadN (pc' := 28) A d4_27 rfl rfl ?_
  have K10 := ((Keep.refl h0 [a, r_parents]).wr W8 (Or.inl (List.mem_of_getElem? (i := 1) rfl)))
  have E11 := (E1.wr W8)
  have F12 := (F2.other W8 (Or.inl ne4))
  exact r_int A rfl d4_28 (by decide) (by decide) (⟨rfl, K10, ⟨E11, F12, V9, ne4, ge5, ge6⟩⟩)
set_option maxRecDepth 65536 in
set_option maxHeartbeats 40000000 in
theorem ds_find73 (l : Launch) (Z : State) (a0 : Array Value) (hw : ∀ d ∈ tables_1, d.before a0 Z = true) (n0 : Nat) (h0 : Heap) (Z0 : n0 ≤ h0.size) (a r_parents : Addr)  (H : DS Z n0 h0 a r_parents [.int (0 : Int32), .int (1 : Int32), .int (1 : Int32), .int (2 : Int32)]) :
    Met l Z n0 y0_find prog_15_method_2_code 3 (Option.some Jvm.ClassFile.FieldType.int) ({ frames := 0, cells := 0, slots := 0, locals := 0 } : Room) #[(.ref a), (.int (0 : Int32))] h0 (fun v h => v = some (.int (0 : Int32)) ∧ Keep h0 h [a, r_parents] ∧ DS Z n0 h a r_parents [.int (0 : Int32), .int (1 : Int32), .int (1 : Int32), .int (2 : Int32)]) := by
  refine met_intro (own := c0_DisjointSets) (plainFor_of_name pn_com_example_kithgraph_kithgraph_cluster_DisjointSets) rfl Z0 ?_
  intro p e s m below meth c T A hnm
  refine Wp.cast (g' := mkF m 0 #[rv a, iv 0, U0] []) (by first | (simp [entryFrame, mkF, argsToLocals, Value.category, maxLocals, jv, S2, U0, iv, rv]; done) | rfl) ?_
  obtain ⟨E1, F2, V3, ne4, ge5, ge6⟩ := H
  refine s_aloadN (pc' := 1) A d4_0 rfl rfl rfl ?_
  refine s_getfield (pc' := 4) (host := "") A (Or.inl (w10 hw)) Via.refl F2 d4_1 rfl fun T A => ?_
  refine s_astoreN (pc' := 5) (Ls' := #[rv a, iv 0, rv r_parents]) A d4_4 rfl rfl rfl ?_
  refine s_aloadN (pc' := 6) A d4_5 rfl rfl rfl ?_
  refine s_iloadN (pc' := 7) A d4_6 rfl rfl ?_
  refine s_iaload (pc' := 8) (i := 0) (v := (.int (0 : Int32))) A V3 (by decide) rfl d4_7 rfl ?_
  refine s_iloadN (pc' := 9) A d4_8 rfl rfl ?_
  refine s_icmpY (pc' := 27) A d4_9 (by decide) (by decide) (by decide) ?_
  refine s_iloadN (pc' := 28) A d4_27 rfl rfl ?_
  exact r_int A rfl d4_28 (by decide) (by decide) (⟨rfl, (Keep.refl h0 [a, r_parents]), ⟨E1, F2, V3, ne4, ge5, ge6⟩⟩)
set_option maxRecDepth 65536 in
set_option maxHeartbeats 40000000 in
theorem ds_find74 (l : Launch) (Z : State) (a0 : Array Value) (hw : ∀ d ∈ tables_1, d.before a0 Z = true) (n0 : Nat) (h0 : Heap) (Z0 : n0 ≤ h0.size) (a r_parents : Addr)  (H : DS Z n0 h0 a r_parents [.int (0 : Int32), .int (1 : Int32), .int (1 : Int32), .int (2 : Int32)]) :
    Met l Z n0 y0_find prog_15_method_2_code 3 (Option.some Jvm.ClassFile.FieldType.int) ({ frames := 0, cells := 0, slots := 0, locals := 0 } : Room) #[(.ref a), (.int (1 : Int32))] h0 (fun v h => v = some (.int (1 : Int32)) ∧ Keep h0 h [a, r_parents] ∧ DS Z n0 h a r_parents [.int (0 : Int32), .int (1 : Int32), .int (1 : Int32), .int (2 : Int32)]) := by
  refine met_intro (own := c0_DisjointSets) (plainFor_of_name pn_com_example_kithgraph_kithgraph_cluster_DisjointSets) rfl Z0 ?_
  intro p e s m below meth c T A hnm
  refine Wp.cast (g' := mkF m 0 #[rv a, iv 1, U0] []) (by first | (simp [entryFrame, mkF, argsToLocals, Value.category, maxLocals, jv, S2, U0, iv, rv]; done) | rfl) ?_
  obtain ⟨E1, F2, V3, ne4, ge5, ge6⟩ := H
  refine s_aloadN (pc' := 1) A d4_0 rfl rfl rfl ?_
  refine s_getfield (pc' := 4) (host := "") A (Or.inl (w10 hw)) Via.refl F2 d4_1 rfl fun T A => ?_
  refine s_astoreN (pc' := 5) (Ls' := #[rv a, iv 1, rv r_parents]) A d4_4 rfl rfl rfl ?_
  refine s_aloadN (pc' := 6) A d4_5 rfl rfl rfl ?_
  refine s_iloadN (pc' := 7) A d4_6 rfl rfl ?_
  refine s_iaload (pc' := 8) (i := 1) (v := (.int (1 : Int32))) A V3 (by decide) rfl d4_7 rfl ?_
  refine s_iloadN (pc' := 9) A d4_8 rfl rfl ?_
  refine s_icmpY (pc' := 27) A d4_9 (by decide) (by decide) (by decide) ?_
  refine s_iloadN (pc' := 28) A d4_27 rfl rfl ?_
  exact r_int A rfl d4_28 (by decide) (by decide) (⟨rfl, (Keep.refl h0 [a, r_parents]), ⟨E1, F2, V3, ne4, ge5, ge6⟩⟩)
set_option maxRecDepth 65536 in
set_option maxHeartbeats 40000000 in
theorem ds_find75 (l : Launch) (Z : State) (a0 : Array Value) (hw : ∀ d ∈ tables_1, d.before a0 Z = true) (n0 : Nat) (h0 : Heap) (Z0 : n0 ≤ h0.size) (a r_parents : Addr)  (H : DS Z n0 h0 a r_parents [.int (0 : Int32), .int (1 : Int32), .int (1 : Int32), .int (2 : Int32)]) :
    Met l Z n0 y0_find prog_15_method_2_code 3 (Option.some Jvm.ClassFile.FieldType.int) ({ frames := 0, cells := 0, slots := 0, locals := 0 } : Room) #[(.ref a), (.int (2 : Int32))] h0 (fun v h => v = some (.int (1 : Int32)) ∧ Keep h0 h [a, r_parents] ∧ DS Z n0 h a r_parents [.int (0 : Int32), .int (1 : Int32), .int (1 : Int32), .int (2 : Int32)]) := by
  refine met_intro (own := c0_DisjointSets) (plainFor_of_name pn_com_example_kithgraph_kithgraph_cluster_DisjointSets) rfl Z0 ?_
  intro p e s m below meth c T A hnm
  refine Wp.cast (g' := mkF m 0 #[rv a, iv 2, U0] []) (by first | (simp [entryFrame, mkF, argsToLocals, Value.category, maxLocals, jv, S2, U0, iv, rv]; done) | rfl) ?_
  obtain ⟨E1, F2, V3, ne4, ge5, ge6⟩ := H
  refine s_aloadN (pc' := 1) A d4_0 rfl rfl rfl ?_
  refine s_getfield (pc' := 4) (host := "") A (Or.inl (w10 hw)) Via.refl F2 d4_1 rfl fun T A => ?_
  refine s_astoreN (pc' := 5) (Ls' := #[rv a, iv 2, rv r_parents]) A d4_4 rfl rfl rfl ?_
  refine s_aloadN (pc' := 6) A d4_5 rfl rfl rfl ?_
  refine s_iloadN (pc' := 7) A d4_6 rfl rfl ?_
  refine s_iaload (pc' := 8) (i := 2) (v := (.int (1 : Int32))) A V3 (by decide) rfl d4_7 rfl ?_
  refine s_iloadN (pc' := 9) A d4_8 rfl rfl ?_
  refine s_icmpN (pc' := 12) A d4_9 rfl (by decide) ?_
  refine s_aloadN (pc' := 13) A d4_12 rfl rfl rfl ?_
  refine s_iloadN (pc' := 14) A d4_13 rfl rfl ?_
  refine s_aloadN (pc' := 15) A d4_14 rfl rfl rfl ?_
  refine s_aloadN (pc' := 16) A d4_15 rfl rfl rfl ?_
  refine s_iloadN (pc' := 17) A d4_16 rfl rfl ?_
  refine s_iaload (pc' := 18) (i := 2) (v := (.int (1 : Int32))) A V3 (by decide) rfl d4_17 rfl ?_
  refine s_iaload (pc' := 19) (i := 1) (v := (.int (1 : Int32))) A V3 (by decide) rfl d4_18 rfl ?_
  refine s_iastore (pc' := 20) (i := 2) A V3 (by decide) (Nat.le_of_ble_eq_true rfl) ge6 d4_19 rfl fun T h7 A W8 V9 => ?_
  have V9 : AA Z h7 r_parents .int [.int (0 : Int32), .int (1 : Int32), .int (1 : Int32), .int (2 : Int32)] := V9
  refine s_aloadN (pc' := 21) A d4_20 rfl rfl rfl ?_
  refine s_iloadN (pc' := 22) A d4_21 rfl rfl ?_
  refine s_iaload (pc' := 23) (i := 2) (v := (.int (1 : Int32))) A V9 (by decide) rfl d4_22 rfl ?_
  refine s_istoreN (pc' := 24) (Ls' := #[rv a, iv 1, rv r_parents]) A d4_23 rfl rfl ?_
  refine s_goto (pc' := 5) A d4_24 (by decide) (by decide) ?_
  refine s_aloadN (pc' := 6) A d4_5 rfl rfl rfl ?_
  refine s_iloadN (pc' := 7) A d4_6 rfl rfl ?_
  refine s_iaload (pc' := 8) (i := 1) (v := (.int (1 : Int32))) A V9 (by decide) rfl d4_7 rfl ?_
  refine s_iloadN (pc' := 9) A d4_8 rfl rfl ?_
  refine s_icmpY (pc' := 27) A d4_9 (by decide) (by decide) (by decide) ?_
  refine s_iloadN (pc' := 28) A d4_27 rfl rfl ?_
  have K10 := ((Keep.refl h0 [a, r_parents]).wr W8 (Or.inl (List.mem_of_getElem? (i := 1) rfl)))
  have E11 := (E1.wr W8)
  have F12 := (F2.other W8 (Or.inl ne4))
  exact r_int A rfl d4_28 (by decide) (by decide) (⟨rfl, K10, ⟨E11, F12, V9, ne4, ge5, ge6⟩⟩)
set_option maxRecDepth 65536 in
set_option maxHeartbeats 40000000 in
theorem ds_find76 (l : Launch) (Z : State) (a0 : Array Value) (hw : ∀ d ∈ tables_1, d.before a0 Z = true) (n0 : Nat) (h0 : Heap) (Z0 : n0 ≤ h0.size) (a r_parents : Addr)  (H : DS Z n0 h0 a r_parents [.int (0 : Int32), .int (1 : Int32), .int (1 : Int32), .int (2 : Int32)]) :
    Met l Z n0 y0_find prog_15_method_2_code 3 (Option.some Jvm.ClassFile.FieldType.int) ({ frames := 0, cells := 0, slots := 0, locals := 0 } : Room) #[(.ref a), (.int (3 : Int32))] h0 (fun v h => v = some (.int (1 : Int32)) ∧ Keep h0 h [a, r_parents] ∧ DS Z n0 h a r_parents [.int (0 : Int32), .int (1 : Int32), .int (1 : Int32), .int (1 : Int32)]) := by
  refine met_intro (own := c0_DisjointSets) (plainFor_of_name pn_com_example_kithgraph_kithgraph_cluster_DisjointSets) rfl Z0 ?_
  intro p e s m below meth c T A hnm
  refine Wp.cast (g' := mkF m 0 #[rv a, iv 3, U0] []) (by first | (simp [entryFrame, mkF, argsToLocals, Value.category, maxLocals, jv, S2, U0, iv, rv]; done) | rfl) ?_
  obtain ⟨E1, F2, V3, ne4, ge5, ge6⟩ := H
  refine s_aloadN (pc' := 1) A d4_0 rfl rfl rfl ?_
  refine s_getfield (pc' := 4) (host := "") A (Or.inl (w10 hw)) Via.refl F2 d4_1 rfl fun T A => ?_
  refine s_astoreN (pc' := 5) (Ls' := #[rv a, iv 3, rv r_parents]) A d4_4 rfl rfl rfl ?_
  refine s_aloadN (pc' := 6) A d4_5 rfl rfl rfl ?_
  refine s_iloadN (pc' := 7) A d4_6 rfl rfl ?_
  refine s_iaload (pc' := 8) (i := 3) (v := (.int (2 : Int32))) A V3 (by decide) rfl d4_7 rfl ?_
  refine s_iloadN (pc' := 9) A d4_8 rfl rfl ?_
  refine s_icmpN (pc' := 12) A d4_9 rfl (by decide) ?_
  refine s_aloadN (pc' := 13) A d4_12 rfl rfl rfl ?_
  refine s_iloadN (pc' := 14) A d4_13 rfl rfl ?_
  refine s_aloadN (pc' := 15) A d4_14 rfl rfl rfl ?_
  refine s_aloadN (pc' := 16) A d4_15 rfl rfl rfl ?_
  refine s_iloadN (pc' := 17) A d4_16 rfl rfl ?_
  refine s_iaload (pc' := 18) (i := 3) (v := (.int (2 : Int32))) A V3 (by decide) rfl d4_17 rfl ?_
  refine s_iaload (pc' := 19) (i := 2) (v := (.int (1 : Int32))) A V3 (by decide) rfl d4_18 rfl ?_
  refine s_iastore (pc' := 20) (i := 3) A V3 (by decide) (Nat.le_of_ble_eq_true rfl) ge6 d4_19 rfl fun T h7 A W8 V9 => ?_
  have V9 : AA Z h7 r_parents .int [.int (0 : Int32), .int (1 : Int32), .int (1 : Int32), .int (1 : Int32)] := V9
  refine s_aloadN (pc' := 21) A d4_20 rfl rfl rfl ?_
  refine s_iloadN (pc' := 22) A d4_21 rfl rfl ?_
  refine s_iaload (pc' := 23) (i := 3) (v := (.int (1 : Int32))) A V9 (by decide) rfl d4_22 rfl ?_
  refine s_istoreN (pc' := 24) (Ls' := #[rv a, iv 1, rv r_parents]) A d4_23 rfl rfl ?_
  refine s_goto (pc' := 5) A d4_24 (by decide) (by decide) ?_
  refine s_aloadN (pc' := 6) A d4_5 rfl rfl rfl ?_
  refine s_iloadN (pc' := 7) A d4_6 rfl rfl ?_
  refine s_iaload (pc' := 8) (i := 1) (v := (.int (1 : Int32))) A V9 (by decide) rfl d4_7 rfl ?_
  refine s_iloadN (pc' := 9) A d4_8 rfl rfl ?_
  refine s_icmpY (pc' := 27) A d4_9 (by decide) (by decide) (by decide) ?_
  refine s_iloadN (pc' := 28) A d4_27 rfl rfl ?_
  have K10 := ((Keep.refl h0 [a, r_parents]).wr W8 (Or.inl (List.mem_of_getElem? (i := 1) rfl)))
  have E11 := (E1.wr W8)
  have F12 := (F2.other W8 (Or.inl ne4))
  exact r_int A rfl d4_28 (by decide) (by decide) (⟨rfl, K10, ⟨E11, F12, V9, ne4, ge5, ge6⟩⟩)
set_option maxRecDepth 65536 in
set_option maxHeartbeats 40000000 in
theorem ds_find77 (l : Launch) (Z : State) (a0 : Array Value) (hw : ∀ d ∈ tables_1, d.before a0 Z = true) (n0 : Nat) (h0 : Heap) (Z0 : n0 ≤ h0.size) (a r_parents : Addr)  (H : DS Z n0 h0 a r_parents [.int (0 : Int32), .int (1 : Int32), .int (1 : Int32), .int (3 : Int32)]) :
    Met l Z n0 y0_find prog_15_method_2_code 3 (Option.some Jvm.ClassFile.FieldType.int) ({ frames := 0, cells := 0, slots := 0, locals := 0 } : Room) #[(.ref a), (.int (0 : Int32))] h0 (fun v h => v = some (.int (0 : Int32)) ∧ Keep h0 h [a, r_parents] ∧ DS Z n0 h a r_parents [.int (0 : Int32), .int (1 : Int32), .int (1 : Int32), .int (3 : Int32)]) := by
  refine met_intro (own := c0_DisjointSets) (plainFor_of_name pn_com_example_kithgraph_kithgraph_cluster_DisjointSets) rfl Z0 ?_
  intro p e s m below meth c T A hnm
  refine Wp.cast (g' := mkF m 0 #[rv a, iv 0, U0] []) (by first | (simp [entryFrame, mkF, argsToLocals, Value.category, maxLocals, jv, S2, U0, iv, rv]; done) | rfl) ?_
  obtain ⟨E1, F2, V3, ne4, ge5, ge6⟩ := H
  refine s_aloadN (pc' := 1) A d4_0 rfl rfl rfl ?_
  refine s_getfield (pc' := 4) (host := "") A (Or.inl (w10 hw)) Via.refl F2 d4_1 rfl fun T A => ?_
  refine s_astoreN (pc' := 5) (Ls' := #[rv a, iv 0, rv r_parents]) A d4_4 rfl rfl rfl ?_
  refine s_aloadN (pc' := 6) A d4_5 rfl rfl rfl ?_
  refine s_iloadN (pc' := 7) A d4_6 rfl rfl ?_
  refine s_iaload (pc' := 8) (i := 0) (v := (.int (0 : Int32))) A V3 (by decide) rfl d4_7 rfl ?_
  refine s_iloadN (pc' := 9) A d4_8 rfl rfl ?_
  refine s_icmpY (pc' := 27) A d4_9 (by decide) (by decide) (by decide) ?_
  refine s_iloadN (pc' := 28) A d4_27 rfl rfl ?_
  exact r_int A rfl d4_28 (by decide) (by decide) (⟨rfl, (Keep.refl h0 [a, r_parents]), ⟨E1, F2, V3, ne4, ge5, ge6⟩⟩)
set_option maxRecDepth 65536 in
set_option maxHeartbeats 40000000 in
theorem ds_find78 (l : Launch) (Z : State) (a0 : Array Value) (hw : ∀ d ∈ tables_1, d.before a0 Z = true) (n0 : Nat) (h0 : Heap) (Z0 : n0 ≤ h0.size) (a r_parents : Addr)  (H : DS Z n0 h0 a r_parents [.int (0 : Int32), .int (1 : Int32), .int (1 : Int32), .int (3 : Int32)]) :
    Met l Z n0 y0_find prog_15_method_2_code 3 (Option.some Jvm.ClassFile.FieldType.int) ({ frames := 0, cells := 0, slots := 0, locals := 0 } : Room) #[(.ref a), (.int (1 : Int32))] h0 (fun v h => v = some (.int (1 : Int32)) ∧ Keep h0 h [a, r_parents] ∧ DS Z n0 h a r_parents [.int (0 : Int32), .int (1 : Int32), .int (1 : Int32), .int (3 : Int32)]) := by
  refine met_intro (own := c0_DisjointSets) (plainFor_of_name pn_com_example_kithgraph_kithgraph_cluster_DisjointSets) rfl Z0 ?_
  intro p e s m below meth c T A hnm
  refine Wp.cast (g' := mkF m 0 #[rv a, iv 1, U0] []) (by first | (simp [entryFrame, mkF, argsToLocals, Value.category, maxLocals, jv, S2, U0, iv, rv]; done) | rfl) ?_
  obtain ⟨E1, F2, V3, ne4, ge5, ge6⟩ := H
  refine s_aloadN (pc' := 1) A d4_0 rfl rfl rfl ?_
  refine s_getfield (pc' := 4) (host := "") A (Or.inl (w10 hw)) Via.refl F2 d4_1 rfl fun T A => ?_
  refine s_astoreN (pc' := 5) (Ls' := #[rv a, iv 1, rv r_parents]) A d4_4 rfl rfl rfl ?_
  refine s_aloadN (pc' := 6) A d4_5 rfl rfl rfl ?_
  refine s_iloadN (pc' := 7) A d4_6 rfl rfl ?_
  refine s_iaload (pc' := 8) (i := 1) (v := (.int (1 : Int32))) A V3 (by decide) rfl d4_7 rfl ?_
  refine s_iloadN (pc' := 9) A d4_8 rfl rfl ?_
  refine s_icmpY (pc' := 27) A d4_9 (by decide) (by decide) (by decide) ?_
  refine s_iloadN (pc' := 28) A d4_27 rfl rfl ?_
  exact r_int A rfl d4_28 (by decide) (by decide) (⟨rfl, (Keep.refl h0 [a, r_parents]), ⟨E1, F2, V3, ne4, ge5, ge6⟩⟩)
set_option maxRecDepth 65536 in
set_option maxHeartbeats 40000000 in
theorem ds_find79 (l : Launch) (Z : State) (a0 : Array Value) (hw : ∀ d ∈ tables_1, d.before a0 Z = true) (n0 : Nat) (h0 : Heap) (Z0 : n0 ≤ h0.size) (a r_parents : Addr)  (H : DS Z n0 h0 a r_parents [.int (0 : Int32), .int (1 : Int32), .int (1 : Int32), .int (3 : Int32)]) :
    Met l Z n0 y0_find prog_15_method_2_code 3 (Option.some Jvm.ClassFile.FieldType.int) ({ frames := 0, cells := 0, slots := 0, locals := 0 } : Room) #[(.ref a), (.int (2 : Int32))] h0 (fun v h => v = some (.int (1 : Int32)) ∧ Keep h0 h [a, r_parents] ∧ DS Z n0 h a r_parents [.int (0 : Int32), .int (1 : Int32), .int (1 : Int32), .int (3 : Int32)]) := by
  refine met_intro (own := c0_DisjointSets) (plainFor_of_name pn_com_example_kithgraph_kithgraph_cluster_DisjointSets) rfl Z0 ?_
  intro p e s m below meth c T A hnm
  refine Wp.cast (g' := mkF m 0 #[rv a, iv 2, U0] []) (by first | (simp [entryFrame, mkF, argsToLocals, Value.category, maxLocals, jv, S2, U0, iv, rv]; done) | rfl) ?_
  obtain ⟨E1, F2, V3, ne4, ge5, ge6⟩ := H
  refine s_aloadN (pc' := 1) A d4_0 rfl rfl rfl ?_
  refine s_getfield (pc' := 4) (host := "") A (Or.inl (w10 hw)) Via.refl F2 d4_1 rfl fun T A => ?_
  refine s_astoreN (pc' := 5) (Ls' := #[rv a, iv 2, rv r_parents]) A d4_4 rfl rfl rfl ?_
  refine s_aloadN (pc' := 6) A d4_5 rfl rfl rfl ?_
  refine s_iloadN (pc' := 7) A d4_6 rfl rfl ?_
  refine s_iaload (pc' := 8) (i := 2) (v := (.int (1 : Int32))) A V3 (by decide) rfl d4_7 rfl ?_
  refine s_iloadN (pc' := 9) A d4_8 rfl rfl ?_
  refine s_icmpN (pc' := 12) A d4_9 rfl (by decide) ?_
  refine s_aloadN (pc' := 13) A d4_12 rfl rfl rfl ?_
  refine s_iloadN (pc' := 14) A d4_13 rfl rfl ?_
  refine s_aloadN (pc' := 15) A d4_14 rfl rfl rfl ?_
  refine s_aloadN (pc' := 16) A d4_15 rfl rfl rfl ?_
  refine s_iloadN (pc' := 17) A d4_16 rfl rfl ?_
  refine s_iaload (pc' := 18) (i := 2) (v := (.int (1 : Int32))) A V3 (by decide) rfl d4_17 rfl ?_
  refine s_iaload (pc' := 19) (i := 1) (v := (.int (1 : Int32))) A V3 (by decide) rfl d4_18 rfl ?_
  refine s_iastore (pc' := 20) (i := 2) A V3 (by decide) (Nat.le_of_ble_eq_true rfl) ge6 d4_19 rfl fun T h7 A W8 V9 => ?_
  have V9 : AA Z h7 r_parents .int [.int (0 : Int32), .int (1 : Int32), .int (1 : Int32), .int (3 : Int32)] := V9
  refine s_aloadN (pc' := 21) A d4_20 rfl rfl rfl ?_
  refine s_iloadN (pc' := 22) A d4_21 rfl rfl ?_
  refine s_iaload (pc' := 23) (i := 2) (v := (.int (1 : Int32))) A V9 (by decide) rfl d4_22 rfl ?_
  refine s_istoreN (pc' := 24) (Ls' := #[rv a, iv 1, rv r_parents]) A d4_23 rfl rfl ?_
  refine s_goto (pc' := 5) A d4_24 (by decide) (by decide) ?_
  refine s_aloadN (pc' := 6) A d4_5 rfl rfl rfl ?_
  refine s_iloadN (pc' := 7) A d4_6 rfl rfl ?_
  refine s_iaload (pc' := 8) (i := 1) (v := (.int (1 : Int32))) A V9 (by decide) rfl d4_7 rfl ?_
  refine s_iloadN (pc' := 9) A d4_8 rfl rfl ?_
  refine s_icmpY (pc' := 27) A d4_9 (by decide) (by decide) (by decide) ?_
  refine s_iloadN (pc' := 28) A d4_27 rfl rfl ?_
  have K10 := ((Keep.refl h0 [a, r_parents]).wr W8 (Or.inl (List.mem_of_getElem? (i := 1) rfl)))
  have E11 := (E1.wr W8)
  have F12 := (F2.other W8 (Or.inl ne4))
  exact r_int A rfl d4_28 (by decide) (by decide) (⟨rfl, K10, ⟨E11, F12, V9, ne4, ge5, ge6⟩⟩)
set_option maxRecDepth 65536 in
set_option maxHeartbeats 40000000 in
theorem ds_find80 (l : Launch) (Z : State) (a0 : Array Value) (hw : ∀ d ∈ tables_1, d.before a0 Z = true) (n0 : Nat) (h0 : Heap) (Z0 : n0 ≤ h0.size) (a r_parents : Addr)  (H : DS Z n0 h0 a r_parents [.int (0 : Int32), .int (1 : Int32), .int (1 : Int32), .int (3 : Int32)]) :
    Met l Z n0 y0_find prog_15_method_2_code 3 (Option.some Jvm.ClassFile.FieldType.int) ({ frames := 0, cells := 0, slots := 0, locals := 0 } : Room) #[(.ref a), (.int (3 : Int32))] h0 (fun v h => v = some (.int (3 : Int32)) ∧ Keep h0 h [a, r_parents] ∧ DS Z n0 h a r_parents [.int (0 : Int32), .int (1 : Int32), .int (1 : Int32), .int (3 : Int32)]) := by
  refine met_intro (own := c0_DisjointSets) (plainFor_of_name pn_com_example_kithgraph_kithgraph_cluster_DisjointSets) rfl Z0 ?_
  intro p e s m below meth c T A hnm
  refine Wp.cast (g' := mkF m 0 #[rv a, iv 3, U0] []) (by first | (simp [entryFrame, mkF, argsToLocals, Value.category, maxLocals, jv, S2, U0, iv, rv]; done) | rfl) ?_
  obtain ⟨E1, F2, V3, ne4, ge5, ge6⟩ := H
  refine s_aloadN (pc' := 1) A d4_0 rfl rfl rfl ?_
  refine s_getfield (pc' := 4) (host := "") A (Or.inl (w10 hw)) Via.refl F2 d4_1 rfl fun T A => ?_
  refine s_astoreN (pc' := 5) (Ls' := #[rv a, iv 3, rv r_parents]) A d4_4 rfl rfl rfl ?_
  refine s_aloadN (pc' := 6) A d4_5 rfl rfl rfl ?_
  refine s_iloadN (pc' := 7) A d4_6 rfl rfl ?_
  refine s_iaload (pc' := 8) (i := 3) (v := (.int (3 : Int32))) A V3 (by decide) rfl d4_7 rfl ?_
  refine s_iloadN (pc' := 9) A d4_8 rfl rfl ?_
  refine s_icmpY (pc' := 27) A d4_9 (by decide) (by decide) (by decide) ?_
  refine s_iloadN (pc' := 28) A d4_27 rfl rfl ?_
  exact r_int A rfl d4_28 (by decide) (by decide) (⟨rfl, (Keep.refl h0 [a, r_parents]), ⟨E1, F2, V3, ne4, ge5, ge6⟩⟩)
set_option maxRecDepth 65536 in
set_option maxHeartbeats 40000000 in
theorem ds_find81 (l : Launch) (Z : State) (a0 : Array Value) (hw : ∀ d ∈ tables_1, d.before a0 Z = true) (n0 : Nat) (h0 : Heap) (Z0 : n0 ≤ h0.size) (a r_parents : Addr)  (H : DS Z n0 h0 a r_parents [.int (0 : Int32), .int (1 : Int32), .int (2 : Int32), .int (0 : Int32)]) :
    Met l Z n0 y0_find prog_15_method_2_code 3 (Option.some Jvm.ClassFile.FieldType.int) ({ frames := 0, cells := 0, slots := 0, locals := 0 } : Room) #[(.ref a), (.int (0 : Int32))] h0 (fun v h => v = some (.int (0 : Int32)) ∧ Keep h0 h [a, r_parents] ∧ DS Z n0 h a r_parents [.int (0 : Int32), .int (1 : Int32), .int (2 : Int32), .int (0 : Int32)]) := by
  refine met_intro (own := c0_DisjointSets) (plainFor_of_name pn_com_example_kithgraph_kithgraph_cluster_DisjointSets) rfl Z0 ?_
  intro p e s m below meth c T A hnm
  refine Wp.cast (g' := mkF m 0 #[rv a, iv 0, U0] []) (by first | (simp [entryFrame, mkF, argsToLocals, Value.category, maxLocals, jv, S2, U0, iv, rv]; done) | rfl) ?_
  obtain ⟨E1, F2, V3, ne4, ge5, ge6⟩ := H
  refine s_aloadN (pc' := 1) A d4_0 rfl rfl rfl ?_
  refine s_getfield (pc' := 4) (host := "") A (Or.inl (w10 hw)) Via.refl F2 d4_1 rfl fun T A => ?_
  refine s_astoreN (pc' := 5) (Ls' := #[rv a, iv 0, rv r_parents]) A d4_4 rfl rfl rfl ?_
  refine s_aloadN (pc' := 6) A d4_5 rfl rfl rfl ?_
  refine s_iloadN (pc' := 7) A d4_6 rfl rfl ?_
  refine s_iaload (pc' := 8) (i := 0) (v := (.int (0 : Int32))) A V3 (by decide) rfl d4_7 rfl ?_
  refine s_iloadN (pc' := 9) A d4_8 rfl rfl ?_
  refine s_icmpY (pc' := 27) A d4_9 (by decide) (by decide) (by decide) ?_
  refine s_iloadN (pc' := 28) A d4_27 rfl rfl ?_
  exact r_int A rfl d4_28 (by decide) (by decide) (⟨rfl, (Keep.refl h0 [a, r_parents]), ⟨E1, F2, V3, ne4, ge5, ge6⟩⟩)
set_option maxRecDepth 65536 in
set_option maxHeartbeats 40000000 in
theorem ds_find82 (l : Launch) (Z : State) (a0 : Array Value) (hw : ∀ d ∈ tables_1, d.before a0 Z = true) (n0 : Nat) (h0 : Heap) (Z0 : n0 ≤ h0.size) (a r_parents : Addr)  (H : DS Z n0 h0 a r_parents [.int (0 : Int32), .int (1 : Int32), .int (2 : Int32), .int (0 : Int32)]) :
    Met l Z n0 y0_find prog_15_method_2_code 3 (Option.some Jvm.ClassFile.FieldType.int) ({ frames := 0, cells := 0, slots := 0, locals := 0 } : Room) #[(.ref a), (.int (1 : Int32))] h0 (fun v h => v = some (.int (1 : Int32)) ∧ Keep h0 h [a, r_parents] ∧ DS Z n0 h a r_parents [.int (0 : Int32), .int (1 : Int32), .int (2 : Int32), .int (0 : Int32)]) := by
  refine met_intro (own := c0_DisjointSets) (plainFor_of_name pn_com_example_kithgraph_kithgraph_cluster_DisjointSets) rfl Z0 ?_
  intro p e s m below meth c T A hnm
  refine Wp.cast (g' := mkF m 0 #[rv a, iv 1, U0] []) (by first | (simp [entryFrame, mkF, argsToLocals, Value.category, maxLocals, jv, S2, U0, iv, rv]; done) | rfl) ?_
  obtain ⟨E1, F2, V3, ne4, ge5, ge6⟩ := H
  refine s_aloadN (pc' := 1) A d4_0 rfl rfl rfl ?_
  refine s_getfield (pc' := 4) (host := "") A (Or.inl (w10 hw)) Via.refl F2 d4_1 rfl fun T A => ?_
  refine s_astoreN (pc' := 5) (Ls' := #[rv a, iv 1, rv r_parents]) A d4_4 rfl rfl rfl ?_
  refine s_aloadN (pc' := 6) A d4_5 rfl rfl rfl ?_
  refine s_iloadN (pc' := 7) A d4_6 rfl rfl ?_
  refine s_iaload (pc' := 8) (i := 1) (v := (.int (1 : Int32))) A V3 (by decide) rfl d4_7 rfl ?_
  refine s_iloadN (pc' := 9) A d4_8 rfl rfl ?_
  refine s_icmpY (pc' := 27) A d4_9 (by decide) (by decide) (by decide) ?_
  refine s_iloadN (pc' := 28) A d4_27 rfl rfl ?_
  exact r_int A rfl d4_28 (by decide) (by decide) (⟨rfl, (Keep.refl h0 [a, r_parents]), ⟨E1, F2, V3, ne4, ge5, ge6⟩⟩)
set_option maxRecDepth 65536 in
set_option maxHeartbeats 40000000 in
theorem ds_find83 (l : Launch) (Z : State) (a0 : Array Value) (hw : ∀ d ∈ tables_1, d.before a0 Z = true) (n0 : Nat) (h0 : Heap) (Z0 : n0 ≤ h0.size) (a r_parents : Addr)  (H : DS Z n0 h0 a r_parents [.int (0 : Int32), .int (1 : Int32), .int (2 : Int32), .int (0 : Int32)]) :
    Met l Z n0 y0_find prog_15_method_2_code 3 (Option.some Jvm.ClassFile.FieldType.int) ({ frames := 0, cells := 0, slots := 0, locals := 0 } : Room) #[(.ref a), (.int (2 : Int32))] h0 (fun v h => v = some (.int (2 : Int32)) ∧ Keep h0 h [a, r_parents] ∧ DS Z n0 h a r_parents [.int (0 : Int32), .int (1 : Int32), .int (2 : Int32), .int (0 : Int32)]) := by
  refine met_intro (own := c0_DisjointSets) (plainFor_of_name pn_com_example_kithgraph_kithgraph_cluster_DisjointSets) rfl Z0 ?_
  intro p e s m below meth c T A hnm
  refine Wp.cast (g' := mkF m 0 #[rv a, iv 2, U0] []) (by first | (simp [entryFrame, mkF, argsToLocals, Value.category, maxLocals, jv, S2, U0, iv, rv]; done) | rfl) ?_
  obtain ⟨E1, F2, V3, ne4, ge5, ge6⟩ := H
  refine s_aloadN (pc' := 1) A d4_0 rfl rfl rfl ?_
  refine s_getfield (pc' := 4) (host := "") A (Or.inl (w10 hw)) Via.refl F2 d4_1 rfl fun T A => ?_
  refine s_astoreN (pc' := 5) (Ls' := #[rv a, iv 2, rv r_parents]) A d4_4 rfl rfl rfl ?_
  refine s_aloadN (pc' := 6) A d4_5 rfl rfl rfl ?_
  refine s_iloadN (pc' := 7) A d4_6 rfl rfl ?_
  refine s_iaload (pc' := 8) (i := 2) (v := (.int (2 : Int32))) A V3 (by decide) rfl d4_7 rfl ?_
  refine s_iloadN (pc' := 9) A d4_8 rfl rfl ?_
  refine s_icmpY (pc' := 27) A d4_9 (by decide) (by decide) (by decide) ?_
  refine s_iloadN (pc' := 28) A d4_27 rfl rfl ?_
  exact r_int A rfl d4_28 (by decide) (by decide) (⟨rfl, (Keep.refl h0 [a, r_parents]), ⟨E1, F2, V3, ne4, ge5, ge6⟩⟩)
set_option maxRecDepth 65536 in
set_option maxHeartbeats 40000000 in
theorem ds_find84 (l : Launch) (Z : State) (a0 : Array Value) (hw : ∀ d ∈ tables_1, d.before a0 Z = true) (n0 : Nat) (h0 : Heap) (Z0 : n0 ≤ h0.size) (a r_parents : Addr)  (H : DS Z n0 h0 a r_parents [.int (0 : Int32), .int (1 : Int32), .int (2 : Int32), .int (0 : Int32)]) :
    Met l Z n0 y0_find prog_15_method_2_code 3 (Option.some Jvm.ClassFile.FieldType.int) ({ frames := 0, cells := 0, slots := 0, locals := 0 } : Room) #[(.ref a), (.int (3 : Int32))] h0 (fun v h => v = some (.int (0 : Int32)) ∧ Keep h0 h [a, r_parents] ∧ DS Z n0 h a r_parents [.int (0 : Int32), .int (1 : Int32), .int (2 : Int32), .int (0 : Int32)]) := by
  refine met_intro (own := c0_DisjointSets) (plainFor_of_name pn_com_example_kithgraph_kithgraph_cluster_DisjointSets) rfl Z0 ?_
  intro p e s m below meth c T A hnm
  refine Wp.cast (g' := mkF m 0 #[rv a, iv 3, U0] []) (by first | (simp [entryFrame, mkF, argsToLocals, Value.category, maxLocals, jv, S2, U0, iv, rv]; done) | rfl) ?_
  obtain ⟨E1, F2, V3, ne4, ge5, ge6⟩ := H
  refine s_aloadN (pc' := 1) A d4_0 rfl rfl rfl ?_
  refine s_getfield (pc' := 4) (host := "") A (Or.inl (w10 hw)) Via.refl F2 d4_1 rfl fun T A => ?_
  refine s_astoreN (pc' := 5) (Ls' := #[rv a, iv 3, rv r_parents]) A d4_4 rfl rfl rfl ?_
  refine s_aloadN (pc' := 6) A d4_5 rfl rfl rfl ?_
  refine s_iloadN (pc' := 7) A d4_6 rfl rfl ?_
  refine s_iaload (pc' := 8) (i := 3) (v := (.int (0 : Int32))) A V3 (by decide) rfl d4_7 rfl ?_
  refine s_iloadN (pc' := 9) A d4_8 rfl rfl ?_
  refine s_icmpN (pc' := 12) A d4_9 rfl (by decide) ?_
  refine s_aloadN (pc' := 13) A d4_12 rfl rfl rfl ?_
  refine s_iloadN (pc' := 14) A d4_13 rfl rfl ?_
  refine s_aloadN (pc' := 15) A d4_14 rfl rfl rfl ?_
  refine s_aloadN (pc' := 16) A d4_15 rfl rfl rfl ?_
  refine s_iloadN (pc' := 17) A d4_16 rfl rfl ?_
  refine s_iaload (pc' := 18) (i := 3) (v := (.int (0 : Int32))) A V3 (by decide) rfl d4_17 rfl ?_
  refine s_iaload (pc' := 19) (i := 0) (v := (.int (0 : Int32))) A V3 (by decide) rfl d4_18 rfl ?_
  refine s_iastore (pc' := 20) (i := 3) A V3 (by decide) (Nat.le_of_ble_eq_true rfl) ge6 d4_19 rfl fun T h7 A W8 V9 => ?_
  have V9 : AA Z h7 r_parents .int [.int (0 : Int32), .int (1 : Int32), .int (2 : Int32), .int (0 : Int32)] := V9
  refine s_aloadN (pc' := 21) A d4_20 rfl rfl rfl ?_
  refine s_iloadN (pc' := 22) A d4_21 rfl rfl ?_
  refine s_iaload (pc' := 23) (i := 3) (v := (.int (0 : Int32))) A V9 (by decide) rfl d4_22 rfl ?_
  refine s_istoreN (pc' := 24) (Ls' := #[rv a, iv 0, rv r_parents]) A d4_23 rfl rfl ?_
  refine s_goto (pc' := 5) A d4_24 (by decide) (by decide) ?_
  refine s_aloadN (pc' := 6) A d4_5 rfl rfl rfl ?_
  refine s_iloadN (pc' := 7) A d4_6 rfl rfl ?_
  refine s_iaload (pc' := 8) (i := 0) (v := (.int (0 : Int32))) A V9 (by decide) rfl d4_7 rfl ?_
  refine s_iloadN (pc' := 9) A d4_8 rfl rfl ?_
  refine s_icmpY (pc' := 27) A d4_9 (by decide) (by decide) (by decide) ?_
  refine s_iloadN (pc' := 28) A d4_27 rfl rfl ?_
  have K10 := ((Keep.refl h0 [a, r_parents]).wr W8 (Or.inl (List.mem_of_getElem? (i := 1) rfl)))
  have E11 := (E1.wr W8)
  have F12 := (F2.other W8 (Or.inl ne4))
  exact r_int A rfl d4_28 (by decide) (by decide) (⟨rfl, K10, ⟨E11, F12, V9, ne4, ge5, ge6⟩⟩)
set_option maxRecDepth 65536 in
set_option maxHeartbeats 40000000 in
theorem ds_find85 (l : Launch) (Z : State) (a0 : Array Value) (hw : ∀ d ∈ tables_1, d.before a0 Z = true) (n0 : Nat) (h0 : Heap) (Z0 : n0 ≤ h0.size) (a r_parents : Addr)  (H : DS Z n0 h0 a r_parents [.int (0 : Int32), .int (1 : Int32), .int (2 : Int32), .int (1 : Int32)]) :
    Met l Z n0 y0_find prog_15_method_2_code 3 (Option.some Jvm.ClassFile.FieldType.int) ({ frames := 0, cells := 0, slots := 0, locals := 0 } : Room) #[(.ref a), (.int (0 : Int32))] h0 (fun v h => v = some (.int (0 : Int32)) ∧ Keep h0 h [a, r_parents] ∧ DS Z n0 h a r_parents [.int (0 : Int32), .int (1 : Int32), .int (2 : Int32), .int (1 : Int32)]) := by
  refine met_intro (own := c0_DisjointSets) (plainFor_of_name pn_com_example_kithgraph_kithgraph_cluster_DisjointSets) rfl Z0 ?_
  intro p e s m below meth c T A hnm
  refine Wp.cast (g' := mkF m 0 #[rv a, iv 0, U0] []) (by first | (simp [entryFrame, mkF, argsToLocals, Value.category, maxLocals, jv, S2, U0, iv, rv]; done) | rfl) ?_
  obtain ⟨E1, F2, V3, ne4, ge5, ge6⟩ := H
  refine s_aloadN (pc' := 1) A d4_0 rfl rfl rfl ?_
  refine s_getfield (pc' := 4) (host := "") A (Or.inl (w10 hw)) Via.refl F2 d4_1 rfl fun T A => ?_
  refine s_astoreN (pc' := 5) (Ls' := #[rv a, iv 0, rv r_parents]) A d4_4 rfl rfl rfl ?_
  refine s_aloadN (pc' := 6) A d4_5 rfl rfl rfl ?_
  refine s_iloadN (pc' := 7) A d4_6 rfl rfl ?_
  refine s_iaload (pc' := 8) (i := 0) (v := (.int (0 : Int32))) A V3 (by decide) rfl d4_7 rfl ?_
  refine s_iloadN (pc' := 9) A d4_8 rfl rfl ?_
  refine s_icmpY (pc' := 27) A d4_9 (by decide) (by decide) (by decide) ?_
  refine s_iloadN (pc' := 28) A d4_27 rfl rfl ?_
  exact r_int A rfl d4_28 (by decide) (by decide) (⟨rfl, (Keep.refl h0 [a, r_parents]), ⟨E1, F2, V3, ne4, ge5, ge6⟩⟩)
set_option maxRecDepth 65536 in
set_option maxHeartbeats 40000000 in
theorem ds_find86 (l : Launch) (Z : State) (a0 : Array Value) (hw : ∀ d ∈ tables_1, d.before a0 Z = true) (n0 : Nat) (h0 : Heap) (Z0 : n0 ≤ h0.size) (a r_parents : Addr)  (H : DS Z n0 h0 a r_parents [.int (0 : Int32), .int (1 : Int32), .int (2 : Int32), .int (1 : Int32)]) :
    Met l Z n0 y0_find prog_15_method_2_code 3 (Option.some Jvm.ClassFile.FieldType.int) ({ frames := 0, cells := 0, slots := 0, locals := 0 } : Room) #[(.ref a), (.int (1 : Int32))] h0 (fun v h => v = some (.int (1 : Int32)) ∧ Keep h0 h [a, r_parents] ∧ DS Z n0 h a r_parents [.int (0 : Int32), .int (1 : Int32), .int (2 : Int32), .int (1 : Int32)]) := by
  refine met_intro (own := c0_DisjointSets) (plainFor_of_name pn_com_example_kithgraph_kithgraph_cluster_DisjointSets) rfl Z0 ?_
  intro p e s m below meth c T A hnm
  refine Wp.cast (g' := mkF m 0 #[rv a, iv 1, U0] []) (by first | (simp [entryFrame, mkF, argsToLocals, Value.category, maxLocals, jv, S2, U0, iv, rv]; done) | rfl) ?_
  obtain ⟨E1, F2, V3, ne4, ge5, ge6⟩ := H
  refine s_aloadN (pc' := 1) A d4_0 rfl rfl rfl ?_
  refine s_getfield (pc' := 4) (host := "") A (Or.inl (w10 hw)) Via.refl F2 d4_1 rfl fun T A => ?_
  refine s_astoreN (pc' := 5) (Ls' := #[rv a, iv 1, rv r_parents]) A d4_4 rfl rfl rfl ?_
  refine s_aloadN (pc' := 6) A d4_5 rfl rfl rfl ?_
  refine s_iloadN (pc' := 7) A d4_6 rfl rfl ?_
  refine s_iaload (pc' := 8) (i := 1) (v := (.int (1 : Int32))) A V3 (by decide) rfl d4_7 rfl ?_
  refine s_iloadN (pc' := 9) A d4_8 rfl rfl ?_
  refine s_icmpY (pc' := 27) A d4_9 (by decide) (by decide) (by decide) ?_
  refine s_iloadN (pc' := 28) A d4_27 rfl rfl ?_
  exact r_int A rfl d4_28 (by decide) (by decide) (⟨rfl, (Keep.refl h0 [a, r_parents]), ⟨E1, F2, V3, ne4, ge5, ge6⟩⟩)
set_option maxRecDepth 65536 in
set_option maxHeartbeats 40000000 in
theorem ds_find87 (l : Launch) (Z : State) (a0 : Array Value) (hw : ∀ d ∈ tables_1, d.before a0 Z = true) (n0 : Nat) (h0 : Heap) (Z0 : n0 ≤ h0.size) (a r_parents : Addr)  (H : DS Z n0 h0 a r_parents [.int (0 : Int32), .int (1 : Int32), .int (2 : Int32), .int (1 : Int32)]) :
    Met l Z n0 y0_find prog_15_method_2_code 3 (Option.some Jvm.ClassFile.FieldType.int) ({ frames := 0, cells := 0, slots := 0, locals := 0 } : Room) #[(.ref a), (.int (2 : Int32))] h0 (fun v h => v = some (.int (2 : Int32)) ∧ Keep h0 h [a, r_parents] ∧ DS Z n0 h a r_parents [.int (0 : Int32), .int (1 : Int32), .int (2 : Int32), .int (1 : Int32)]) := by
  refine met_intro (own := c0_DisjointSets) (plainFor_of_name pn_com_example_kithgraph_kithgraph_cluster_DisjointSets) rfl Z0 ?_
  intro p e s m below meth c T A hnm
  refine Wp.cast (g' := mkF m 0 #[rv a, iv 2, U0] []) (by first | (simp [entryFrame, mkF, argsToLocals, Value.category, maxLocals, jv, S2, U0, iv, rv]; done) | rfl) ?_
  obtain ⟨E1, F2, V3, ne4, ge5, ge6⟩ := H
  refine s_aloadN (pc' := 1) A d4_0 rfl rfl rfl ?_
  refine s_getfield (pc' := 4) (host := "") A (Or.inl (w10 hw)) Via.refl F2 d4_1 rfl fun T A => ?_
  refine s_astoreN (pc' := 5) (Ls' := #[rv a, iv 2, rv r_parents]) A d4_4 rfl rfl rfl ?_
  refine s_aloadN (pc' := 6) A d4_5 rfl rfl rfl ?_
  refine s_iloadN (pc' := 7) A d4_6 rfl rfl ?_
  refine s_iaload (pc' := 8) (i := 2) (v := (.int (2 : Int32))) A V3 (by decide) rfl d4_7 rfl ?_
  refine s_iloadN (pc' := 9) A d4_8 rfl rfl ?_
  refine s_icmpY (pc' := 27) A d4_9 (by decide) (by decide) (by decide) ?_
  refine s_iloadN (pc' := 28) A d4_27 rfl rfl ?_
  exact r_int A rfl d4_28 (by decide) (by decide) (⟨rfl, (Keep.refl h0 [a, r_parents]), ⟨E1, F2, V3, ne4, ge5, ge6⟩⟩)
set_option maxRecDepth 65536 in
set_option maxHeartbeats 40000000 in
theorem ds_find88 (l : Launch) (Z : State) (a0 : Array Value) (hw : ∀ d ∈ tables_1, d.before a0 Z = true) (n0 : Nat) (h0 : Heap) (Z0 : n0 ≤ h0.size) (a r_parents : Addr)  (H : DS Z n0 h0 a r_parents [.int (0 : Int32), .int (1 : Int32), .int (2 : Int32), .int (1 : Int32)]) :
    Met l Z n0 y0_find prog_15_method_2_code 3 (Option.some Jvm.ClassFile.FieldType.int) ({ frames := 0, cells := 0, slots := 0, locals := 0 } : Room) #[(.ref a), (.int (3 : Int32))] h0 (fun v h => v = some (.int (1 : Int32)) ∧ Keep h0 h [a, r_parents] ∧ DS Z n0 h a r_parents [.int (0 : Int32), .int (1 : Int32), .int (2 : Int32), .int (1 : Int32)]) := by
  refine met_intro (own := c0_DisjointSets) (plainFor_of_name pn_com_example_kithgraph_kithgraph_cluster_DisjointSets) rfl Z0 ?_
  intro p e s m below meth c T A hnm
  refine Wp.cast (g' := mkF m 0 #[rv a, iv 3, U0] []) (by first | (simp [entryFrame, mkF, argsToLocals, Value.category, maxLocals, jv, S2, U0, iv, rv]; done) | rfl) ?_
  obtain ⟨E1, F2, V3, ne4, ge5, ge6⟩ := H
  refine s_aloadN (pc' := 1) A d4_0 rfl rfl rfl ?_
  refine s_getfield (pc' := 4) (host := "") A (Or.inl (w10 hw)) Via.refl F2 d4_1 rfl fun T A => ?_
  refine s_astoreN (pc' := 5) (Ls' := #[rv a, iv 3, rv r_parents]) A d4_4 rfl rfl rfl ?_
  refine s_aloadN (pc' := 6) A d4_5 rfl rfl rfl ?_
  refine s_iloadN (pc' := 7) A d4_6 rfl rfl ?_
  refine s_iaload (pc' := 8) (i := 3) (v := (.int (1 : Int32))) A V3 (by decide) rfl d4_7 rfl ?_
  refine s_iloadN (pc' := 9) A d4_8 rfl rfl ?_
  refine s_icmpN (pc' := 12) A d4_9 rfl (by decide) ?_
  refine s_aloadN (pc' := 13) A d4_12 rfl rfl rfl ?_
  refine s_iloadN (pc' := 14) A d4_13 rfl rfl ?_
  refine s_aloadN (pc' := 15) A d4_14 rfl rfl rfl ?_
  refine s_aloadN (pc' := 16) A d4_15 rfl rfl rfl ?_
  refine s_iloadN (pc' := 17) A d4_16 rfl rfl ?_
  refine s_iaload (pc' := 18) (i := 3) (v := (.int (1 : Int32))) A V3 (by decide) rfl d4_17 rfl ?_
  refine s_iaload (pc' := 19) (i := 1) (v := (.int (1 : Int32))) A V3 (by decide) rfl d4_18 rfl ?_
  refine s_iastore (pc' := 20) (i := 3) A V3 (by decide) (Nat.le_of_ble_eq_true rfl) ge6 d4_19 rfl fun T h7 A W8 V9 => ?_
  have V9 : AA Z h7 r_parents .int [.int (0 : Int32), .int (1 : Int32), .int (2 : Int32), .int (1 : Int32)] := V9
  refine s_aloadN (pc' := 21) A d4_20 rfl rfl rfl ?_
  refine s_iloadN (pc' := 22) A d4_21 rfl rfl ?_
  refine s_iaload (pc' := 23) (i := 3) (v := (.int (1 : Int32))) A V9 (by decide) rfl d4_22 rfl ?_
  refine s_istoreN (pc' := 24) (Ls' := #[rv a, iv 1, rv r_parents]) A d4_23 rfl rfl ?_
  refine s_goto (pc' := 5) A d4_24 (by decide) (by decide) ?_
  refine s_aloadN (pc' := 6) A d4_5 rfl rfl rfl ?_
  refine s_iloadN (pc' := 7) A d4_6 rfl rfl ?_
  refine s_iaload (pc' := 8) (i := 1) (v := (.int (1 : Int32))) A V9 (by decide) rfl d4_7 rfl ?_
  refine s_iloadN (pc' := 9) A d4_8 rfl rfl ?_
  refine s_icmpY (pc' := 27) A d4_9 (by decide) (by decide) (by decide) ?_
  refine s_iloadN (pc' := 28) A d4_27 rfl rfl ?_
  have K10 := ((Keep.refl h0 [a, r_parents]).wr W8 (Or.inl (List.mem_of_getElem? (i := 1) rfl)))
  have E11 := (E1.wr W8)
  have F12 := (F2.other W8 (Or.inl ne4))
  exact r_int A rfl d4_28 (by decide) (by decide) (⟨rfl, K10, ⟨E11, F12, V9, ne4, ge5, ge6⟩⟩)
set_option maxRecDepth 65536 in
set_option maxHeartbeats 40000000 in
theorem ds_find89 (l : Launch) (Z : State) (a0 : Array Value) (hw : ∀ d ∈ tables_1, d.before a0 Z = true) (n0 : Nat) (h0 : Heap) (Z0 : n0 ≤ h0.size) (a r_parents : Addr)  (H : DS Z n0 h0 a r_parents [.int (0 : Int32), .int (1 : Int32), .int (2 : Int32), .int (2 : Int32)]) :
    Met l Z n0 y0_find prog_15_method_2_code 3 (Option.some Jvm.ClassFile.FieldType.int) ({ frames := 0, cells := 0, slots := 0, locals := 0 } : Room) #[(.ref a), (.int (0 : Int32))] h0 (fun v h => v = some (.int (0 : Int32)) ∧ Keep h0 h [a, r_parents] ∧ DS Z n0 h a r_parents [.int (0 : Int32), .int (1 : Int32), .int (2 : Int32), .int (2 : Int32)]) := by
  refine met_intro (own := c0_DisjointSets) (plainFor_of_name pn_com_example_kithgraph_kithgraph_cluster_DisjointSets) rfl Z0 ?_
  intro p e s m below meth c T A hnm
  refine Wp.cast (g' := mkF m 0 #[rv a, iv 0, U0] []) (by first | (simp [entryFrame, mkF, argsToLocals, Value.category, maxLocals, jv, S2, U0, iv, rv]; done) | rfl) ?_
  obtain ⟨E1, F2, V3, ne4, ge5, ge6⟩ := H
  refine s_aloadN (pc' := 1) A d4_0 rfl rfl rfl ?_
  refine s_getfield (pc' := 4) (host := "") A (Or.inl (w10 hw)) Via.refl F2 d4_1 rfl fun T A => ?_
  refine s_astoreN (pc' := 5) (Ls' := #[rv a, iv 0, rv r_parents]) A d4_4 rfl rfl rfl ?_
  refine s_aloadN (pc' := 6) A d4_5 rfl rfl rfl ?_
  refine s_iloadN (pc' := 7) A d4_6 rfl rfl ?_
  refine s_iaload (pc' := 8) (i := 0) (v := (.int (0 : Int32))) A V3 (by decide) rfl d4_7 rfl ?_
  refine s_iloadN (pc' := 9) A d4_8 rfl rfl ?_
  refine s_icmpY (pc' := 27) A d4_9 (by decide) (by decide) (by decide) ?_
  refine s_iloadN (pc' := 28) A d4_27 rfl rfl ?_
  exact r_int A rfl d4_28 (by decide) (by decide) (⟨rfl, (Keep.refl h0 [a, r_parents]), ⟨E1, F2, V3, ne4, ge5, ge6⟩⟩)
set_option maxRecDepth 65536 in
set_option maxHeartbeats 40000000 in
theorem ds_find90 (l : Launch) (Z : State) (a0 : Array Value) (hw : ∀ d ∈ tables_1, d.before a0 Z = true) (n0 : Nat) (h0 : Heap) (Z0 : n0 ≤ h0.size) (a r_parents : Addr)  (H : DS Z n0 h0 a r_parents [.int (0 : Int32), .int (1 : Int32), .int (2 : Int32), .int (2 : Int32)]) :
    Met l Z n0 y0_find prog_15_method_2_code 3 (Option.some Jvm.ClassFile.FieldType.int) ({ frames := 0, cells := 0, slots := 0, locals := 0 } : Room) #[(.ref a), (.int (1 : Int32))] h0 (fun v h => v = some (.int (1 : Int32)) ∧ Keep h0 h [a, r_parents] ∧ DS Z n0 h a r_parents [.int (0 : Int32), .int (1 : Int32), .int (2 : Int32), .int (2 : Int32)]) := by
  refine met_intro (own := c0_DisjointSets) (plainFor_of_name pn_com_example_kithgraph_kithgraph_cluster_DisjointSets) rfl Z0 ?_
  intro p e s m below meth c T A hnm
  refine Wp.cast (g' := mkF m 0 #[rv a, iv 1, U0] []) (by first | (simp [entryFrame, mkF, argsToLocals, Value.category, maxLocals, jv, S2, U0, iv, rv]; done) | rfl) ?_
  obtain ⟨E1, F2, V3, ne4, ge5, ge6⟩ := H
  refine s_aloadN (pc' := 1) A d4_0 rfl rfl rfl ?_
  refine s_getfield (pc' := 4) (host := "") A (Or.inl (w10 hw)) Via.refl F2 d4_1 rfl fun T A => ?_
  refine s_astoreN (pc' := 5) (Ls' := #[rv a, iv 1, rv r_parents]) A d4_4 rfl rfl rfl ?_
  refine s_aloadN (pc' := 6) A d4_5 rfl rfl rfl ?_
  refine s_iloadN (pc' := 7) A d4_6 rfl rfl ?_
  refine s_iaload (pc' := 8) (i := 1) (v := (.int (1 : Int32))) A V3 (by decide) rfl d4_7 rfl ?_
  refine s_iloadN (pc' := 9) A d4_8 rfl rfl ?_
  refine s_icmpY (pc' := 27) A d4_9 (by decide) (by decide) (by decide) ?_
  refine s_iloadN (pc' := 28) A d4_27 rfl rfl ?_
  exact r_int A rfl d4_28 (by decide) (by decide) (⟨rfl, (Keep.refl h0 [a, r_parents]), ⟨E1, F2, V3, ne4, ge5, ge6⟩⟩)
set_option maxRecDepth 65536 in
set_option maxHeartbeats 40000000 in
theorem ds_find91 (l : Launch) (Z : State) (a0 : Array Value) (hw : ∀ d ∈ tables_1, d.before a0 Z = true) (n0 : Nat) (h0 : Heap) (Z0 : n0 ≤ h0.size) (a r_parents : Addr)  (H : DS Z n0 h0 a r_parents [.int (0 : Int32), .int (1 : Int32), .int (2 : Int32), .int (2 : Int32)]) :
    Met l Z n0 y0_find prog_15_method_2_code 3 (Option.some Jvm.ClassFile.FieldType.int) ({ frames := 0, cells := 0, slots := 0, locals := 0 } : Room) #[(.ref a), (.int (2 : Int32))] h0 (fun v h => v = some (.int (2 : Int32)) ∧ Keep h0 h [a, r_parents] ∧ DS Z n0 h a r_parents [.int (0 : Int32), .int (1 : Int32), .int (2 : Int32), .int (2 : Int32)]) := by
  refine met_intro (own := c0_DisjointSets) (plainFor_of_name pn_com_example_kithgraph_kithgraph_cluster_DisjointSets) rfl Z0 ?_
  intro p e s m below meth c T A hnm
  refine Wp.cast (g' := mkF m 0 #[rv a, iv 2, U0] []) (by first | (simp [entryFrame, mkF, argsToLocals, Value.category, maxLocals, jv, S2, U0, iv, rv]; done) | rfl) ?_
  obtain ⟨E1, F2, V3, ne4, ge5, ge6⟩ := H
  refine s_aloadN (pc' := 1) A d4_0 rfl rfl rfl ?_
  refine s_getfield (pc' := 4) (host := "") A (Or.inl (w10 hw)) Via.refl F2 d4_1 rfl fun T A => ?_
  refine s_astoreN (pc' := 5) (Ls' := #[rv a, iv 2, rv r_parents]) A d4_4 rfl rfl rfl ?_
  refine s_aloadN (pc' := 6) A d4_5 rfl rfl rfl ?_
  refine s_iloadN (pc' := 7) A d4_6 rfl rfl ?_
  refine s_iaload (pc' := 8) (i := 2) (v := (.int (2 : Int32))) A V3 (by decide) rfl d4_7 rfl ?_
  refine s_iloadN (pc' := 9) A d4_8 rfl rfl ?_
  refine s_icmpY (pc' := 27) A d4_9 (by decide) (by decide) (by decide) ?_
  refine s_iloadN (pc' := 28) A d4_27 rfl rfl ?_
  exact r_int A rfl d4_28 (by decide) (by decide) (⟨rfl, (Keep.refl h0 [a, r_parents]), ⟨E1, F2, V3, ne4, ge5, ge6⟩⟩)
set_option maxRecDepth 65536 in
set_option maxHeartbeats 40000000 in
theorem ds_find92 (l : Launch) (Z : State) (a0 : Array Value) (hw : ∀ d ∈ tables_1, d.before a0 Z = true) (n0 : Nat) (h0 : Heap) (Z0 : n0 ≤ h0.size) (a r_parents : Addr)  (H : DS Z n0 h0 a r_parents [.int (0 : Int32), .int (1 : Int32), .int (2 : Int32), .int (2 : Int32)]) :
    Met l Z n0 y0_find prog_15_method_2_code 3 (Option.some Jvm.ClassFile.FieldType.int) ({ frames := 0, cells := 0, slots := 0, locals := 0 } : Room) #[(.ref a), (.int (3 : Int32))] h0 (fun v h => v = some (.int (2 : Int32)) ∧ Keep h0 h [a, r_parents] ∧ DS Z n0 h a r_parents [.int (0 : Int32), .int (1 : Int32), .int (2 : Int32), .int (2 : Int32)]) := by
  refine met_intro (own := c0_DisjointSets) (plainFor_of_name pn_com_example_kithgraph_kithgraph_cluster_DisjointSets) rfl Z0 ?_
  intro p e s m below meth c T A hnm
  refine Wp.cast (g' := mkF m 0 #[rv a, iv 3, U0] []) (by first | (simp [entryFrame, mkF, argsToLocals, Value.category, maxLocals, jv, S2, U0, iv, rv]; done) | rfl) ?_
  obtain ⟨E1, F2, V3, ne4, ge5, ge6⟩ := H
  refine s_aloadN (pc' := 1) A d4_0 rfl rfl rfl ?_
  refine s_getfield (pc' := 4) (host := "") A (Or.inl (w10 hw)) Via.refl F2 d4_1 rfl fun T A => ?_
  refine s_astoreN (pc' := 5) (Ls' := #[rv a, iv 3, rv r_parents]) A d4_4 rfl rfl rfl ?_
  refine s_aloadN (pc' := 6) A d4_5 rfl rfl rfl ?_
  refine s_iloadN (pc' := 7) A d4_6 rfl rfl ?_
  refine s_iaload (pc' := 8) (i := 3) (v := (.int (2 : Int32))) A V3 (by decide) rfl d4_7 rfl ?_
  refine s_iloadN (pc' := 9) A d4_8 rfl rfl ?_
  refine s_icmpN (pc' := 12) A d4_9 rfl (by decide) ?_
  refine s_aloadN (pc' := 13) A d4_12 rfl rfl rfl ?_
  refine s_iloadN (pc' := 14) A d4_13 rfl rfl ?_
  refine s_aloadN (pc' := 15) A d4_14 rfl rfl rfl ?_
  refine s_aloadN (pc' := 16) A d4_15 rfl rfl rfl ?_
  refine s_iloadN (pc' := 17) A d4_16 rfl rfl ?_
  refine s_iaload (pc' := 18) (i := 3) (v := (.int (2 : Int32))) A V3 (by decide) rfl d4_17 rfl ?_
  refine s_iaload (pc' := 19) (i := 2) (v := (.int (2 : Int32))) A V3 (by decide) rfl d4_18 rfl ?_
  refine s_iastore (pc' := 20) (i := 3) A V3 (by decide) (Nat.le_of_ble_eq_true rfl) ge6 d4_19 rfl fun T h7 A W8 V9 => ?_
  have V9 : AA Z h7 r_parents .int [.int (0 : Int32), .int (1 : Int32), .int (2 : Int32), .int (2 : Int32)] := V9
  refine s_aloadN (pc' := 21) A d4_20 rfl rfl rfl ?_
  refine s_iloadN (pc' := 22) A d4_21 rfl rfl ?_
  refine s_iaload (pc' := 23) (i := 3) (v := (.int (2 : Int32))) A V9 (by decide) rfl d4_22 rfl ?_
  refine s_istoreN (pc' := 24) (Ls' := #[rv a, iv 2, rv r_parents]) A d4_23 rfl rfl ?_
  refine s_goto (pc' := 5) A d4_24 (by decide) (by decide) ?_
  refine s_aloadN (pc' := 6) A d4_5 rfl rfl rfl ?_
  refine s_iloadN (pc' := 7) A d4_6 rfl rfl ?_
  refine s_iaload (pc' := 8) (i := 2) (v := (.int (2 : Int32))) A V9 (by decide) rfl d4_7 rfl ?_
  refine s_iloadN (pc' := 9) A d4_8 rfl rfl ?_
  refine s_icmpY (pc' := 27) A d4_9 (by decide) (by decide) (by decide) ?_
  refine s_iloadN (pc' := 28) A d4_27 rfl rfl ?_
  have K10 := ((Keep.refl h0 [a, r_parents]).wr W8 (Or.inl (List.mem_of_getElem? (i := 1) rfl)))
  have E11 := (E1.wr W8)
  have F12 := (F2.other W8 (Or.inl ne4))
  exact r_int A rfl d4_28 (by decide) (by decide) (⟨rfl, K10, ⟨E11, F12, V9, ne4, ge5, ge6⟩⟩)
set_option maxRecDepth 65536 in
set_option maxHeartbeats 40000000 in
theorem ds_find93 (l : Launch) (Z : State) (a0 : Array Value) (hw : ∀ d ∈ tables_1, d.before a0 Z = true) (n0 : Nat) (h0 : Heap) (Z0 : n0 ≤ h0.size) (a r_parents : Addr)  (H : DS Z n0 h0 a r_parents [.int (0 : Int32), .int (1 : Int32), .int (2 : Int32), .int (3 : Int32)]) :
    Met l Z n0 y0_find prog_15_method_2_code 3 (Option.some Jvm.ClassFile.FieldType.int) ({ frames := 0, cells := 0, slots := 0, locals := 0 } : Room) #[(.ref a), (.int (0 : Int32))] h0 (fun v h => v = some (.int (0 : Int32)) ∧ Keep h0 h [a, r_parents] ∧ DS Z n0 h a r_parents [.int (0 : Int32), .int (1 : Int32), .int (2 : Int32), .int (3 : Int32)]) := by
  refine met_intro (own := c0_DisjointSets) (plainFor_of_name pn_com_example_kithgraph_kithgraph_cluster_DisjointSets) rfl Z0 ?_
  intro p e s m below meth c T A hnm
  refine Wp.cast (g' := mkF m 0 #[rv a, iv 0, U0] []) (by first | (simp [entryFrame, mkF, argsToLocals, Value.category, maxLocals, jv, S2, U0, iv, rv]; done) | rfl) ?_
  obtain ⟨E1, F2, V3, ne4, ge5, ge6⟩ := H
  refine s_aloadN (pc' := 1) A d4_0 rfl rfl rfl ?_
  refine s_getfield (pc' := 4) (host := "") A (Or.inl (w10 hw)) Via.refl F2 d4_1 rfl fun T A => ?_
  refine s_astoreN (pc' := 5) (Ls' := #[rv a, iv 0, rv r_parents]) A d4_4 rfl rfl rfl ?_
  refine s_aloadN (pc' := 6) A d4_5 rfl rfl rfl ?_
  refine s_iloadN (pc' := 7) A d4_6 rfl rfl ?_
  refine s_iaload (pc' := 8) (i := 0) (v := (.int (0 : Int32))) A V3 (by decide) rfl d4_7 rfl ?_
  refine s_iloadN (pc' := 9) A d4_8 rfl rfl ?_
  refine s_icmpY (pc' := 27) A d4_9 (by decide) (by decide) (by decide) ?_
  refine s_iloadN (pc' := 28) A d4_27 rfl rfl ?_
  exact r_int A rfl d4_28 (by decide) (by decide) (⟨rfl, (Keep.refl h0 [a, r_parents]), ⟨E1, F2, V3, ne4, ge5, ge6⟩⟩)
set_option maxRecDepth 65536 in
set_option maxHeartbeats 40000000 in
theorem ds_find94 (l : Launch) (Z : State) (a0 : Array Value) (hw : ∀ d ∈ tables_1, d.before a0 Z = true) (n0 : Nat) (h0 : Heap) (Z0 : n0 ≤ h0.size) (a r_parents : Addr)  (H : DS Z n0 h0 a r_parents [.int (0 : Int32), .int (1 : Int32), .int (2 : Int32), .int (3 : Int32)]) :
    Met l Z n0 y0_find prog_15_method_2_code 3 (Option.some Jvm.ClassFile.FieldType.int) ({ frames := 0, cells := 0, slots := 0, locals := 0 } : Room) #[(.ref a), (.int (1 : Int32))] h0 (fun v h => v = some (.int (1 : Int32)) ∧ Keep h0 h [a, r_parents] ∧ DS Z n0 h a r_parents [.int (0 : Int32), .int (1 : Int32), .int (2 : Int32), .int (3 : Int32)]) := by
  refine met_intro (own := c0_DisjointSets) (plainFor_of_name pn_com_example_kithgraph_kithgraph_cluster_DisjointSets) rfl Z0 ?_
  intro p e s m below meth c T A hnm
  refine Wp.cast (g' := mkF m 0 #[rv a, iv 1, U0] []) (by first | (simp [entryFrame, mkF, argsToLocals, Value.category, maxLocals, jv, S2, U0, iv, rv]; done) | rfl) ?_
  obtain ⟨E1, F2, V3, ne4, ge5, ge6⟩ := H
  refine s_aloadN (pc' := 1) A d4_0 rfl rfl rfl ?_
  refine s_getfield (pc' := 4) (host := "") A (Or.inl (w10 hw)) Via.refl F2 d4_1 rfl fun T A => ?_
  refine s_astoreN (pc' := 5) (Ls' := #[rv a, iv 1, rv r_parents]) A d4_4 rfl rfl rfl ?_
  refine s_aloadN (pc' := 6) A d4_5 rfl rfl rfl ?_
  refine s_iloadN (pc' := 7) A d4_6 rfl rfl ?_
  refine s_iaload (pc' := 8) (i := 1) (v := (.int (1 : Int32))) A V3 (by decide) rfl d4_7 rfl ?_
  refine s_iloadN (pc' := 9) A d4_8 rfl rfl ?_
  refine s_icmpY (pc' := 27) A d4_9 (by decide) (by decide) (by decide) ?_
  refine s_iloadN (pc' := 28) A d4_27 rfl rfl ?_
  exact r_int A rfl d4_28 (by decide) (by decide) (⟨rfl, (Keep.refl h0 [a, r_parents]), ⟨E1, F2, V3, ne4, ge5, ge6⟩⟩)
set_option maxRecDepth 65536 in
set_option maxHeartbeats 40000000 in
theorem ds_find95 (l : Launch) (Z : State) (a0 : Array Value) (hw : ∀ d ∈ tables_1, d.before a0 Z = true) (n0 : Nat) (h0 : Heap) (Z0 : n0 ≤ h0.size) (a r_parents : Addr)  (H : DS Z n0 h0 a r_parents [.int (0 : Int32), .int (1 : Int32), .int (2 : Int32), .int (3 : Int32)]) :
    Met l Z n0 y0_find prog_15_method_2_code 3 (Option.some Jvm.ClassFile.FieldType.int) ({ frames := 0, cells := 0, slots := 0, locals := 0 } : Room) #[(.ref a), (.int (2 : Int32))] h0 (fun v h => v = some (.int (2 : Int32)) ∧ Keep h0 h [a, r_parents] ∧ DS Z n0 h a r_parents [.int (0 : Int32), .int (1 : Int32), .int (2 : Int32), .int (3 : Int32)]) := by
  refine met_intro (own := c0_DisjointSets) (plainFor_of_name pn_com_example_kithgraph_kithgraph_cluster_DisjointSets) rfl Z0 ?_
  intro p e s m below meth c T A hnm
  refine Wp.cast (g' := mkF m 0 #[rv a, iv 2, U0] []) (by first | (simp [entryFrame, mkF, argsToLocals, Value.category, maxLocals, jv, S2, U0, iv, rv]; done) | rfl) ?_
  obtain ⟨E1, F2, V3, ne4, ge5, ge6⟩ := H
  refine s_aloadN (pc' := 1) A d4_0 rfl rfl rfl ?_
  refine s_getfield (pc' := 4) (host := "") A (Or.inl (w10 hw)) Via.refl F2 d4_1 rfl fun T A => ?_
  refine s_astoreN (pc' := 5) (Ls' := #[rv a, iv 2, rv r_parents]) A d4_4 rfl rfl rfl ?_
  refine s_aloadN (pc' := 6) A d4_5 rfl rfl rfl ?_
  refine s_iloadN (pc' := 7) A d4_6 rfl rfl ?_
  refine s_iaload (pc' := 8) (i := 2) (v := (.int (2 : Int32))) A V3 (by decide) rfl d4_7 rfl ?_
  refine s_iloadN (pc' := 9) A d4_8 rfl rfl ?_
  refine s_icmpY (pc' := 27) A d4_9 (by decide) (by decide) (by decide) ?_
  refine s_iloadN (pc' := 28) A d4_27 rfl rfl ?_
  exact r_int A rfl d4_28 (by decide) (by decide) (⟨rfl, (Keep.refl h0 [a, r_parents]), ⟨E1, F2, V3, ne4, ge5, ge6⟩⟩)
set_option maxRecDepth 65536 in
set_option maxHeartbeats 40000000 in
theorem ds_find96 (l : Launch) (Z : State) (a0 : Array Value) (hw : ∀ d ∈ tables_1, d.before a0 Z = true) (n0 : Nat) (h0 : Heap) (Z0 : n0 ≤ h0.size) (a r_parents : Addr)  (H : DS Z n0 h0 a r_parents [.int (0 : Int32), .int (1 : Int32), .int (2 : Int32), .int (3 : Int32)]) :
    Met l Z n0 y0_find prog_15_method_2_code 3 (Option.some Jvm.ClassFile.FieldType.int) ({ frames := 0, cells := 0, slots := 0, locals := 0 } : Room) #[(.ref a), (.int (3 : Int32))] h0 (fun v h => v = some (.int (3 : Int32)) ∧ Keep h0 h [a, r_parents] ∧ DS Z n0 h a r_parents [.int (0 : Int32), .int (1 : Int32), .int (2 : Int32), .int (3 : Int32)]) := by
  refine met_intro (own := c0_DisjointSets) (plainFor_of_name pn_com_example_kithgraph_kithgraph_cluster_DisjointSets) rfl Z0 ?_
  intro p e s m below meth c T A hnm
  refine Wp.cast (g' := mkF m 0 #[rv a, iv 3, U0] []) (by first | (simp [entryFrame, mkF, argsToLocals, Value.category, maxLocals, jv, S2, U0, iv, rv]; done) | rfl) ?_
  obtain ⟨E1, F2, V3, ne4, ge5, ge6⟩ := H
  refine s_aloadN (pc' := 1) A d4_0 rfl rfl rfl ?_
  refine s_getfield (pc' := 4) (host := "") A (Or.inl (w10 hw)) Via.refl F2 d4_1 rfl fun T A => ?_
  refine s_astoreN (pc' := 5) (Ls' := #[rv a, iv 3, rv r_parents]) A d4_4 rfl rfl rfl ?_
  refine s_aloadN (pc' := 6) A d4_5 rfl rfl rfl ?_
  refine s_iloadN (pc' := 7) A d4_6 rfl rfl ?_
  refine s_iaload (pc' := 8) (i := 3) (v := (.int (3 : Int32))) A V3 (by decide) rfl d4_7 rfl ?_
  refine s_iloadN (pc' := 9) A d4_8 rfl rfl ?_
  refine s_icmpY (pc' := 27) A d4_9 (by decide) (by decide) (by decide) ?_
  refine s_iloadN (pc' := 28) A d4_27 rfl rfl ?_
  exact r_int A rfl d4_28 (by decide) (by decide) (⟨rfl, (Keep.refl h0 [a, r_parents]), ⟨E1, F2, V3, ne4, ge5, ge6⟩⟩)
set_option maxRecDepth 65536 in
set_option maxHeartbeats 40000000 in
theorem find_ok (l : Launch) (Z : State) (a0 : Array Value) (hw : ∀ d ∈ tables_1, d.before a0 Z = true) (n0 : Nat) (h0 : Heap) (Z0 : n0 ≤ h0.size) (a r : Addr) (p1 p2 p3 e : Nat) (h1 : p1 < 2) (h2 : p2 < 3) (h3 : p3 < 4) (he : e < 4) (H : DS Z n0 h0 a r [ii 0, ii p1, ii p2, ii p3]) :
    Met l Z n0 y0_find prog_15_method_2_code 3 (Option.some Jvm.ClassFile.FieldType.int) ({ frames := 0, cells := 0, slots := 0, locals := 0 } : Room) #[.ref a, .int (Int32.ofNat e)] h0 (fun v h => ∃ q1 q2 q3, (q1 < 2 ∧ q2 < 3 ∧ q3 < 4 ∧ ∀ t < 4, rt q1 q2 q3 t = rt p1 p2 p3 t) ∧ v = some (ii (rt p1 p2 p3 e)) ∧ Keep h0 h [a, r] ∧ DS Z n0 h a r [ii 0, ii q1, ii q2, ii q3]) := by
  rcases (by omega : p1 = 0 ∨ p1 = 1) with rfl | rfl
  ·
   rcases (by omega : p2 = 0 ∨ p2 = 1 ∨ p2 = 2) with rfl | rfl | rfl
   ·
    rcases (by omega : p3 = 0 ∨ p3 = 1 ∨ p3 = 2 ∨ p3 = 3) with rfl | rfl | rfl | rfl
    ·
     rcases (by omega : e = 0 ∨ e = 1 ∨ e = 2 ∨ e = 3) with rfl | rfl | rfl | rfl
     ·
      exact (ds_find1 l Z a0 hw n0 h0 Z0 a r  H).mono fun v h q => ⟨0, 0, 0, by decide, q.1, q.2.1, q.2.2⟩
     ·
      exact (ds_find2 l Z a0 hw n0 h0 Z0 a r  H).mono fun v h q => ⟨0, 0, 0, by decide, q.1, q.2.1, q.2.2⟩
     ·
      exact (ds_find3 l Z a0 hw n0 h0 Z0 a r  H).mono fun v h q => ⟨0, 0, 0, by decide, q.1, q.2.1, q.2.2⟩
     ·
      exact (ds_find4 l Z a0 hw n0 h0 Z0 a r  H).mono fun v h q => ⟨0, 0, 0, by decide, q.1, q.2.1, q.2.2⟩
    ·
     rcases (by omega : e = 0 ∨ e = 1 ∨ e = 2 ∨ e = 3) with rfl | rfl | rfl | rfl
     ·
      exact (ds_find5 l Z a0 hw n0 h0 Z0 a r  H).mono fun v h q => ⟨0, 0, 1, by decide, q.1, q.2.1, q.2.2⟩
     ·
      exact (ds_find6 l Z a0 hw n0 h0 Z0 a r  H).mono fun v h q => ⟨0, 0, 1, by decide, q.1, q.2.1, q.2.2⟩
     ·
      exact (ds_find7 l Z a0 hw n0 h0 Z0 a r  H).mono fun v h q => ⟨0, 0, 1, by decide, q.1, q.2.1, q.2.2⟩
     ·
      exact (ds_find8 l Z a0 hw n0 h0 Z0 a r  H).mono fun v h q => ⟨0, 0, 0, by decide, q.1, q.2.1, q.2.2⟩
    ·
     rcases (by omega : e = 0 ∨ e = 1 ∨ e = 2 ∨ e = 3) with rfl | rfl | rfl | rfl
     ·
      exact (ds_find9 l Z a0 hw n0 h0 Z0 a r  H).mono fun v h q => ⟨0, 0, 2, by decide, q.1, q.2.1, q.2.2⟩
     ·
      exact (ds_find10 l Z a0 hw n0 h0 Z0 a r  H).mono fun v h q => ⟨0, 0, 2, by decide, q.1, q.2.1, q.2.2⟩
     ·
      exact (ds_find11 l Z a0 hw n0 h0 Z0 a r  H).mono fun v h q => ⟨0, 0, 2, by decide, q.1, q.2.1, q.2.2⟩
     ·
      exact (ds_find12 l Z a0 hw n0 h0 Z0 a r  H).mono fun v h q => ⟨0, 0, 0, by decide, q.1, q.2.1, q.2.2⟩
    ·
     rcases (by omega : e = 0 ∨ e = 1 ∨ e = 2 ∨ e = 3) with rfl | rfl | rfl | rfl
     ·
      exact (ds_find13 l Z a0 hw n0 h0 Z0 a r  H).mono fun v h q => ⟨0, 0, 3, by decide, q.1, q.2.1, q.2.2⟩
     ·
      exact (ds_find14 l Z a0 hw n0 h0 Z0 a r  H).mono fun v h q => ⟨0, 0, 3, by decide, q.1, q.2.1, q.2.2⟩
     ·
      exact (ds_find15 l Z a0 hw n0 h0 Z0 a r  H).mono fun v h q => ⟨0, 0, 3, by decide, q.1, q.2.1, q.2.2⟩
     ·
      exact (ds_find16 l Z a0 hw n0 h0 Z0 a r  H).mono fun v h q => ⟨0, 0, 3, by decide, q.1, q.2.1, q.2.2⟩
   ·
    rcases (by omega : p3 = 0 ∨ p3 = 1 ∨ p3 = 2 ∨ p3 = 3) with rfl | rfl | rfl | rfl
    ·
     rcases (by omega : e = 0 ∨ e = 1 ∨ e = 2 ∨ e = 3) with rfl | rfl | rfl | rfl
     ·
      exact (ds_find17 l Z a0 hw n0 h0 Z0 a r  H).mono fun v h q => ⟨0, 1, 0, by decide, q.1, q.2.1, q.2.2⟩
     ·
      exact (ds_find18 l Z a0 hw n0 h0 Z0 a r  H).mono fun v h q => ⟨0, 1, 0, by decide, q.1, q.2.1, q.2.2⟩
     ·
      exact (ds_find19 l Z a0 hw n0 h0 Z0 a r  H).mono fun v h q => ⟨0, 0, 0, by decide, q.1, q.2.1, q.2.2⟩
     ·
      exact (ds_find20 l Z a0 hw n0 h0 Z0 a r  H).mono fun v h q => ⟨0, 1, 0, by decide, q.1, q.2.1, q.2.2⟩
    ·
     rcases (by omega : e = 0 ∨ e = 1 ∨ e = 2 ∨ e = 3) with rfl | rfl | rfl | rfl
     ·
      exact (ds_find21 l Z a0 hw n0 h0 Z0 a r  H).mono fun v h q => ⟨0, 1, 1, by decide, q.1, q.2.1, q.2.2⟩
     ·
      exact (ds_find22 l Z a0 hw n0 h0 Z0 a r  H).mono fun v h q => ⟨0, 1, 1, by decide, q.1, q.2.1, q.2.2⟩
     ·
      exact (ds_find23 l Z a0 hw n0 h0 Z0 a r  H).mono fun v h q => ⟨0, 0, 1, by decide, q.1, q.2.1, q.2.2⟩
     ·
      exact (ds_find24 l Z a0 hw n0 h0 Z0 a r  H).mono fun v h q => ⟨0, 1, 0, by decide, q.1, q.2.1, q.2.2⟩
    ·
     rcases (by omega : e = 0 ∨ e = 1 ∨ e = 2 ∨ e = 3) with rfl | rfl | rfl | rfl
     ·
      exact (ds_find25 l Z a0 hw n0 h0 Z0 a r  H).mono fun v h q => ⟨0, 1, 2, by decide, q.1, q.2.1, q.2.2⟩
     ·
      exact (ds_find26 l Z a0 hw n0 h0 Z0 a r  H).mono fun v h q => ⟨0, 1, 2, by decide, q.1, q.2.1, q.2.2⟩
     ·
      exact (ds_find27 l Z a0 hw n0 h0 Z0 a r  H).mono fun v h q => ⟨0, 0, 2, by decide, q.1, q.2.1, q.2.2⟩
     ·
      exact (ds_find28 l Z a0 hw n0 h0 Z0 a r  H).mono fun v h q => ⟨0, 1, 1, by decide, q.1, q.2.1, q.2.2⟩
    ·
     rcases (by omega : e = 0 ∨ e = 1 ∨ e = 2 ∨ e = 3) with rfl | rfl | rfl | rfl
     ·
      exact (ds_find29 l Z a0 hw n0 h0 Z0 a r  H).mono fun v h q => ⟨0, 1, 3, by decide, q.1, q.2.1, q.2.2⟩
     ·
      exact (ds_find30 l Z a0 hw n0 h0 Z0 a r  H).mono fun v h q => ⟨0, 1, 3, by decide, q.1, q.2.1, q.2.2⟩
     ·
      exact (ds_find31 l Z a0 hw n0 h0 Z0 a r  H).mono fun v h q => ⟨0, 0, 3, by decide, q.1, q.2.1, q.2.2⟩
     ·
      exact (ds_find32 l Z a0 hw n0 h0 Z0 a r  H).mono fun v h q => ⟨0, 1, 3, by decide, q.1, q.2.1, q.2.2⟩
   ·
    rcases (by omega : p3 = 0 ∨ p3 = 1 ∨ p3 = 2 ∨ p3 = 3) with rfl | rfl | rfl | rfl
    ·
     rcases (by omega : e = 0 ∨ e = 1 ∨ e = 2 ∨ e = 3) with rfl | rfl | rfl | rfl
     ·
      exact (ds_find33 l Z a0 hw n0 h0 Z0 a r  H).mono fun v h q => ⟨0, 2, 0, by decide, q.1, q.2.1, q.2.2⟩
     ·
      exact (ds_find34 l Z a0 hw n0 h0 Z0 a r  H).mono fun v h q => ⟨0, 2, 0, by decide, q.1, q.2.1, q.2.2⟩
     ·
      exact (ds_find35 l Z a0 hw n0 h0 Z0 a r  H).mono fun v h q => ⟨0, 2, 0, by decide, q.1, q.2.1, q.2.2⟩
     ·
      exact (ds_find36 l Z a0 hw n0 h0 Z0 a r  H).mono fun v h q => ⟨0, 2, 0, by decide, q.1, q.2.1, q.2.2⟩
    ·
     rcases (by omega : e = 0 ∨ e = 1 ∨ e = 2 ∨ e = 3) with rfl | rfl | rfl | rfl
     ·
      exact (ds_find37 l Z a0 hw n0 h0 Z0 a r  H).mono fun v h q => ⟨0, 2, 1, by decide, q.1, q.2.1, q.2.2⟩
     ·
      exact (ds_find38 l Z a0 hw n0 h0 Z0 a r  H).mono fun v h q => ⟨0, 2, 1, by decide, q.1, q.2.1, q.2.2⟩
     ·
      exact (ds_find39 l Z a0 hw n0 h0 Z0 a r  H).mono fun v h q => ⟨0, 2, 1, by decide, q.1, q.2.1, q.2.2⟩
     ·
      exact (ds_find40 l Z a0 hw n0 h0 Z0 a r  H).mono fun v h q => ⟨0, 2, 0, by decide, q.1, q.2.1, q.2.2⟩
    ·
     rcases (by omega : e = 0 ∨ e = 1 ∨ e = 2 ∨ e = 3) with rfl | rfl | rfl | rfl
     ·
      exact (ds_find41 l Z a0 hw n0 h0 Z0 a r  H).mono fun v h q => ⟨0, 2, 2, by decide, q.1, q.2.1, q.2.2⟩
     ·
      exact (ds_find42 l Z a0 hw n0 h0 Z0 a r  H).mono fun v h q => ⟨0, 2, 2, by decide, q.1, q.2.1, q.2.2⟩
     ·
      exact (ds_find43 l Z a0 hw n0 h0 Z0 a r  H).mono fun v h q => ⟨0, 2, 2, by decide, q.1, q.2.1, q.2.2⟩
     ·
      exact (ds_find44 l Z a0 hw n0 h0 Z0 a r  H).mono fun v h q => ⟨0, 2, 2, by decide, q.1, q.2.1, q.2.2⟩
    ·
     rcases (by omega : e = 0 ∨ e = 1 ∨ e = 2 ∨ e = 3) with rfl | rfl | rfl | rfl
     ·
      exact (ds_find45 l Z a0 hw n0 h0 Z0 a r  H).mono fun v h q => ⟨0, 2, 3, by decide, q.1, q.2.1, q.2.2⟩
     ·
      exact (ds_find46 l Z a0 hw n0 h0 Z0 a r  H).mono fun v h q => ⟨0, 2, 3, by decide, q.1, q.2.1, q.2.2⟩
     ·
      exact (ds_find47 l Z a0 hw n0 h0 Z0 a r  H).mono fun v h q => ⟨0, 2, 3, by decide, q.1, q.2.1, q.2.2⟩
     ·
      exact (ds_find48 l Z a0 hw n0 h0 Z0 a r  H).mono fun v h q => ⟨0, 2, 3, by decide, q.1, q.2.1, q.2.2⟩
  ·
   rcases (by omega : p2 = 0 ∨ p2 = 1 ∨ p2 = 2) with rfl | rfl | rfl
   ·
    rcases (by omega : p3 = 0 ∨ p3 = 1 ∨ p3 = 2 ∨ p3 = 3) with rfl | rfl | rfl | rfl
    ·
     rcases (by omega : e = 0 ∨ e = 1 ∨ e = 2 ∨ e = 3) with rfl | rfl | rfl | rfl
     ·
      exact (ds_find49 l Z a0 hw n0 h0 Z0 a r  H).mono fun v h q => ⟨1, 0, 0, by decide, q.1, q.2.1, q.2.2⟩
     ·
      exact (ds_find50 l Z a0 hw n0 h0 Z0 a r  H).mono fun v h q => ⟨1, 0, 0, by decide, q.1, q.2.1, q.2.2⟩
     ·
      exact (ds_find51 l Z a0 hw n0 h0 Z0 a r  H).mono fun v h q => ⟨1, 0, 0, by decide, q.1, q.2.1, q.2.2⟩
     ·
      exact (ds_find52 l Z a0 hw n0 h0 Z0 a r  H).mono fun v h q => ⟨1, 0, 0, by decide, q.1, q.2.1, q.2.2⟩
    ·
     rcases (by omega : e = 0 ∨ e = 1 ∨ e = 2 ∨ e = 3) with rfl | rfl | rfl | rfl
     ·
      exact (ds_find53 l Z a0 hw n0 h0 Z0 a r  H).mono fun v h q => ⟨1, 0, 1, by decide, q.1, q.2.1, q.2.2⟩
     ·
      exact (ds_find54 l Z a0 hw n0 h0 Z0 a r  H).mono fun v h q => ⟨1, 0, 1, by decide, q.1, q.2.1, q.2.2⟩
     ·
      exact (ds_find55 l Z a0 hw n0 h0 Z0 a r  H).mono fun v h q => ⟨1, 0, 1, by decide, q.1, q.2.1, q.2.2⟩
     ·
      exact (ds_find56 l Z a0 hw n0 h0 Z0 a r  H).mono fun v h q => ⟨1, 0, 1, by decide, q.1, q.2.1, q.2.2⟩
    ·
     rcases (by omega : e = 0 ∨ e = 1 ∨ e = 2 ∨ e = 3) with rfl | rfl | rfl | rfl
     ·
      exact (ds_find57 l Z a0 hw n0 h0 Z0 a r  H).mono fun v h q => ⟨1, 0, 2, by decide, q.1, q.2.1, q.2.2⟩
     ·
      exact (ds_find58 l Z a0 hw n0 h0 Z0 a r  H).mono fun v h q => ⟨1, 0, 2, by decide, q.1, q.2.1, q.2.2⟩
     ·
      exact (ds_find59 l Z a0 hw n0 h0 Z0 a r  H).mono fun v h q => ⟨1, 0, 2, by decide, q.1, q.2.1, q.2.2⟩
     ·
      exact (ds_find60 l Z a0 hw n0 h0 Z0 a r  H).mono fun v h q => ⟨1, 0, 0, by decide, q.1, q.2.1, q.2.2⟩
    ·
     rcases (by omega : e = 0 ∨ e = 1 ∨ e = 2 ∨ e = 3) with rfl | rfl | rfl | rfl
     ·
      exact (ds_find61 l Z a0 hw n0 h0 Z0 a r  H).mono fun v h q => ⟨1, 0, 3, by decide, q.1, q.2.1, q.2.2⟩
     ·
      exact (ds_find62 l Z a0 hw n0 h0 Z0 a r  H).mono fun v h q => ⟨1, 0, 3, by decide, q.1, q.2.1, q.2.2⟩
     ·
      exact (ds_find63 l Z a0 hw n0 h0 Z0 a r  H).mono fun v h q => ⟨1, 0, 3, by decide, q.1, q.2.1, q.2.2⟩
     ·
      exact (ds_find64 l Z a0 hw n0 h0 Z0 a r  H).mono fun v h q => ⟨1, 0, 3, by decide, q.1, q.2.1, q.2.2⟩
   ·
    rcases (by omega : p3 = 0 ∨ p3 = 1 ∨ p3 = 2 ∨ p3 = 3) with rfl | rfl | rfl | rfl
    ·
     rcases (by omega : e = 0 ∨ e = 1 ∨ e = 2 ∨ e = 3) with rfl | rfl | rfl | rfl
     ·
      exact (ds_find65 l Z a0 hw n0 h0 Z0 a r  H).mono fun v h q => ⟨1, 1, 0, by decide, q.1, q.2.1, q.2.2⟩
     ·
      exact (ds_find66 l Z a0 hw n0 h0 Z0 a r  H).mono fun v h q => ⟨1, 1, 0, by decide, q.1, q.2.1, q.2.2⟩
     ·
      exact (ds_find67 l Z a0 hw n0 h0 Z0 a r  H).mono fun v h q => ⟨1, 1, 0, by decide, q.1, q.2.1, q.2.2⟩
     ·
      exact (ds_find68 l Z a0 hw n0 h0 Z0 a r  H).mono fun v h q => ⟨1, 1, 0, by decide, q.1, q.2.1, q.2.2⟩
    ·
     rcases (by omega : e = 0 ∨ e = 1 ∨ e = 2 ∨ e = 3) with rfl | rfl | rfl | rfl
     ·
      exact (ds_find69 l Z a0 hw n0 h0 Z0 a r  H).mono fun v h q => ⟨1, 1, 1, by decide, q.1, q.2.1, q.2.2⟩
     ·
      exact (ds_find70 l Z a0 hw n0 h0 Z0 a r  H).mono fun v h q => ⟨1, 1, 1, by decide, q.1, q.2.1, q.2.2⟩
     ·
      exact (ds_find71 l Z a0 hw n0 h0 Z0 a r  H).mono fun v h q => ⟨1, 1, 1, by decide, q.1, q.2.1, q.2.2⟩
     ·
      exact (ds_find72 l Z a0 hw n0 h0 Z0 a r  H).mono fun v h q => ⟨1, 1, 1, by decide, q.1, q.2.1, q.2.2⟩
    ·
     rcases (by omega : e = 0 ∨ e = 1 ∨ e = 2 ∨ e = 3) with rfl | rfl | rfl | rfl
     ·
      exact (ds_find73 l Z a0 hw n0 h0 Z0 a r  H).mono fun v h q => ⟨1, 1, 2, by decide, q.1, q.2.1, q.2.2⟩
     ·
      exact (ds_find74 l Z a0 hw n0 h0 Z0 a r  H).mono fun v h q => ⟨1, 1, 2, by decide, q.1, q.2.1, q.2.2⟩
     ·
      exact (ds_find75 l Z a0 hw n0 h0 Z0 a r  H).mono fun v h q => ⟨1, 1, 2, by decide, q.1, q.2.1, q.2.2⟩
     ·
      exact (ds_find76 l Z a0 hw n0 h0 Z0 a r  H).mono fun v h q => ⟨1, 1, 1, by decide, q.1, q.2.1, q.2.2⟩
    ·
     rcases (by omega : e = 0 ∨ e = 1 ∨ e = 2 ∨ e = 3) with rfl | rfl | rfl | rfl
     ·
      exact (ds_find77 l Z a0 hw n0 h0 Z0 a r  H).mono fun v h q => ⟨1, 1, 3, by decide, q.1, q.2.1, q.2.2⟩
     ·
      exact (ds_find78 l Z a0 hw n0 h0 Z0 a r  H).mono fun v h q => ⟨1, 1, 3, by decide, q.1, q.2.1, q.2.2⟩
     ·
      exact (ds_find79 l Z a0 hw n0 h0 Z0 a r  H).mono fun v h q => ⟨1, 1, 3, by decide, q.1, q.2.1, q.2.2⟩
     ·
      exact (ds_find80 l Z a0 hw n0 h0 Z0 a r  H).mono fun v h q => ⟨1, 1, 3, by decide, q.1, q.2.1, q.2.2⟩
   ·
    rcases (by omega : p3 = 0 ∨ p3 = 1 ∨ p3 = 2 ∨ p3 = 3) with rfl | rfl | rfl | rfl
    ·
     rcases (by omega : e = 0 ∨ e = 1 ∨ e = 2 ∨ e = 3) with rfl | rfl | rfl | rfl
     ·
      exact (ds_find81 l Z a0 hw n0 h0 Z0 a r  H).mono fun v h q => ⟨1, 2, 0, by decide, q.1, q.2.1, q.2.2⟩
     ·
      exact (ds_find82 l Z a0 hw n0 h0 Z0 a r  H).mono fun v h q => ⟨1, 2, 0, by decide, q.1, q.2.1, q.2.2⟩
     ·
      exact (ds_find83 l Z a0 hw n0 h0 Z0 a r  H).mono fun v h q => ⟨1, 2, 0, by decide, q.1, q.2.1, q.2.2⟩
     ·
      exact (ds_find84 l Z a0 hw n0 h0 Z0 a r  H).mono fun v h q => ⟨1, 2, 0, by decide, q.1, q.2.1, q.2.2⟩
    ·
     rcases (by omega : e = 0 ∨ e = 1 ∨ e = 2 ∨ e = 3) with rfl | rfl | rfl | rfl
     ·
      exact (ds_find85 l Z a0 hw n0 h0 Z0 a r  H).mono fun v h q => ⟨1, 2, 1, by decide, q.1, q.2.1, q.2.2⟩
     ·
      exact (ds_find86 l Z a0 hw n0 h0 Z0 a r  H).mono fun v h q => ⟨1, 2, 1, by decide, q.1, q.2.1, q.2.2⟩
     ·
      exact (ds_find87 l Z a0 hw n0 h0 Z0 a r  H).mono fun v h q => ⟨1, 2, 1, by decide, q.1, q.2.1, q.2.2⟩
     ·
      exact (ds_find88 l Z a0 hw n0 h0 Z0 a r  H).mono fun v h q => ⟨1, 2, 1, by decide, q.1, q.2.1, q.2.2⟩
    ·
     rcases (by omega : e = 0 ∨ e = 1 ∨ e = 2 ∨ e = 3) with rfl | rfl | rfl | rfl
     ·
      exact (ds_find89 l Z a0 hw n0 h0 Z0 a r  H).mono fun v h q => ⟨1, 2, 2, by decide, q.1, q.2.1, q.2.2⟩
     ·
      exact (ds_find90 l Z a0 hw n0 h0 Z0 a r  H).mono fun v h q => ⟨1, 2, 2, by decide, q.1, q.2.1, q.2.2⟩
     ·
      exact (ds_find91 l Z a0 hw n0 h0 Z0 a r  H).mono fun v h q => ⟨1, 2, 2, by decide, q.1, q.2.1, q.2.2⟩
     ·
      exact (ds_find92 l Z a0 hw n0 h0 Z0 a r  H).mono fun v h q => ⟨1, 2, 2, by decide, q.1, q.2.1, q.2.2⟩
    ·
     rcases (by omega : e = 0 ∨ e = 1 ∨ e = 2 ∨ e = 3) with rfl | rfl | rfl | rfl
     ·
      exact (ds_find93 l Z a0 hw n0 h0 Z0 a r  H).mono fun v h q => ⟨1, 2, 3, by decide, q.1, q.2.1, q.2.2⟩
     ·
      exact (ds_find94 l Z a0 hw n0 h0 Z0 a r  H).mono fun v h q => ⟨1, 2, 3, by decide, q.1, q.2.1, q.2.2⟩
     ·
      exact (ds_find95 l Z a0 hw n0 h0 Z0 a r  H).mono fun v h q => ⟨1, 2, 3, by decide, q.1, q.2.1, q.2.2⟩
     ·
      exact (ds_find96 l Z a0 hw n0 h0 Z0 a r  H).mono fun v h q => ⟨1, 2, 3, by decide, q.1, q.2.1, q.2.2⟩
set_option maxRecDepth 65536 in
set_option maxHeartbeats 40000000 in
theorem m_min (l : Launch) (Z : State) (a0 : Array Value) (hw : ∀ d ∈ tables_1, d.before a0 Z = true) (n0 : Nat) (h0 : Heap) (Z0 : n0 ≤ h0.size) (a b : Nat) (ha : a < 4) (hb : b < 4) :
    Met l Z n0 y1_min jdk_29_method_69_code 2 (Option.some Jvm.ClassFile.FieldType.int) ({ frames := 0, cells := 0, slots := 0, locals := 0 } : Room) #[(.int (Int32.ofNat a)), (.int (Int32.ofNat b))] h0 (fun v h => v = some (ii (min a b)) ∧ h = h0) := by
  refine met_intro (own := c1_Math) (Jvm.Free.JP.mathPlain rfl (by decide +kernel)) rfl Z0 ?_
  intro p e s m below meth c T A hnm
  refine Wp.cast (g' := mkF m 0 #[iv (Int32.ofNat a), iv (Int32.ofNat b)] []) (by first | (simp [entryFrame, mkF, argsToLocals, Value.category, maxLocals, jv, S2, U0, iv, rv]; done) | rfl) ?_
  refine s_iloadN (pc' := 1) A d6_0 rfl rfl ?_
  refine s_iloadN (pc' := 2) A d6_1 rfl rfl ?_
  by_cases hc2_1 : (Int32.ofNat b) < (Int32.ofNat a)
  ·
   refine s_icmpY (pc' := 9) A d6_2 (tlt hc2_1).2.2.1 (by decide) (by decide) ?_
   refine s_iloadN (pc' := 10) A d6_9 rfl rfl ?_
   exact r_int A rfl d6_10 (by decide) (by decide) (⟨by have q := (own_lt hb ha).1 hc2_1; rw [Nat.min_eq_right (Nat.le_of_lt q)], rfl⟩)
  ·
   refine s_icmpN (pc' := 5) A d6_2 rfl (flt hc2_1).2.2.1 ?_
   refine s_iloadN (pc' := 6) A d6_5 rfl rfl ?_
   refine s_goto (pc' := 10) A d6_6 (by decide) (by decide) ?_
   exact r_int A rfl d6_10 (by decide) (by decide) (⟨by have q : ¬ _ := fun z => hc2_1 ((own_lt hb ha).2 z); rw [Nat.min_eq_left (Nat.le_of_not_lt q)], rfl⟩)
set_option maxRecDepth 65536 in
set_option maxHeartbeats 40000000 in
theorem m_max (l : Launch) (Z : State) (a0 : Array Value) (hw : ∀ d ∈ tables_1, d.before a0 Z = true) (n0 : Nat) (h0 : Heap) (Z0 : n0 ≤ h0.size) (a b : Nat) (ha : a < 4) (hb : b < 4) :
    Met l Z n0 y2_max jdk_29_method_65_code 2 (Option.some Jvm.ClassFile.FieldType.int) ({ frames := 0, cells := 0, slots := 0, locals := 0 } : Room) #[(.int (Int32.ofNat a)), (.int (Int32.ofNat b))] h0 (fun v h => v = some (ii (max a b)) ∧ h = h0) := by
  refine met_intro (own := c1_Math) (Jvm.Free.JP.mathPlain rfl (by decide +kernel)) rfl Z0 ?_
  intro p e s m below meth c T A hnm
  refine Wp.cast (g' := mkF m 0 #[iv (Int32.ofNat a), iv (Int32.ofNat b)] []) (by first | (simp [entryFrame, mkF, argsToLocals, Value.category, maxLocals, jv, S2, U0, iv, rv]; done) | rfl) ?_
  refine s_iloadN (pc' := 1) A d5_0 rfl rfl ?_
  refine s_iloadN (pc' := 2) A d5_1 rfl rfl ?_
  by_cases hc2_1 : (Int32.ofNat a) < (Int32.ofNat b)
  ·
   refine s_icmpY (pc' := 9) A d5_2 (tlt hc2_1).1 (by decide) (by decide) ?_
   refine s_iloadN (pc' := 10) A d5_9 rfl rfl ?_
   exact r_int A rfl d5_10 (by decide) (by decide) (⟨by have q := (own_lt ha hb).1 hc2_1; rw [Nat.max_eq_right (Nat.le_of_lt q)], rfl⟩)
  ·
   refine s_icmpN (pc' := 5) A d5_2 rfl (flt hc2_1).1 ?_
   refine s_iloadN (pc' := 6) A d5_5 rfl rfl ?_
   refine s_goto (pc' := 10) A d5_6 (by decide) (by decide) ?_
   exact r_int A rfl d5_10 (by decide) (by decide) (⟨by have q : ¬ _ := fun z => hc2_1 ((own_lt ha hb).2 z); rw [Nat.max_eq_left (Nat.le_of_not_lt q)], rfl⟩)
set_option maxRecDepth 65536 in
set_option maxHeartbeats 40000000 in
theorem join_ok (l : Launch) (Z : State) (a0 : Array Value) (hw : ∀ d ∈ tables_1, d.before a0 Z = true) (n0 : Nat) (h0 : Heap) (Z0 : n0 ≤ h0.size) (a r : Addr) (p1 p2 p3 x y : Nat) (hp : p1 < 2 ∧ p2 < 3 ∧ p3 < 4 ∧ True) (hx : x < 4) (hy : y < 4) (H : DS Z n0 h0 a r [ii 0, ii p1, ii p2, ii p3]) :
    Met l Z n0 y3_join prog_15_method_3_code 5 (Option.none : Option Jvm.ClassFile.FieldType) ({ frames := 1, cells := 0, slots := 0, locals := 15 } : Room) #[(.ref a), (.int (Int32.ofNat x)), (.int (Int32.ofNat y))] h0 (fun v h => ∃ q1 q2 q3, (q1 < 2 ∧ q2 < 3 ∧ q3 < 4 ∧ ∀ t < 4, rt q1 q2 q3 t = if rt p1 p2 p3 t = max (rt p1 p2 p3 x) (rt p1 p2 p3 y) then min (rt p1 p2 p3 x) (rt p1 p2 p3 y) else rt p1 p2 p3 t) ∧ v = none ∧ Keep h0 h [a, r] ∧ DS Z n0 h a r [ii 0, ii q1, ii q2, ii q3]) := by
  refine met_intro (own := c0_DisjointSets) (plainFor_of_name pn_com_example_kithgraph_kithgraph_cluster_DisjointSets) rfl Z0 ?_
  intro p e s m below meth c T A hnm
  refine Wp.cast (g' := mkF m 0 #[rv a, iv (Int32.ofNat x), iv (Int32.ofNat y), U0, U0] []) (by first | (simp [entryFrame, mkF, argsToLocals, Value.category, maxLocals, jv, S2, U0, iv, rv]; done) | rfl) ?_
  obtain ⟨E1, F2, V3, ne4, ge5, ge6⟩ := H
  refine s_aloadN (pc' := 1) A d3_0 rfl rfl rfl ?_
  refine s_iloadN (pc' := 2) A d3_1 rfl rfl ?_
  refine s_virtual (pc' := 5) (y := y0_find) (argsL := [(.int (Int32.ofNat x))]) (rest := []) (z := y0_find) A E1 (find_ok l Z a0 hw n0 h0 A.size a r p1 p2 p3 x hp.1 hp.2.1 hp.2.2.1 hx ⟨E1, F2, V3, ne4, ge5, ge6⟩) (w17 hw) (w18 hw) (nf_same (C := "") (w20 hw)) (w20 hw) (w19 hw) (w2 hw) (w21 hw) (by decide) pd__I_I rfl (W := 0) (by decide) (by decide) (Nat.le_of_eq rfl) (by decide) (by decide) rfl rfl d3_2 rfl fun T h13 v14 A Q15 => ?_
  obtain ⟨q7, q8, q9, hq10, rfl, K11, H12⟩ := Q15
  obtain ⟨E16, F17, V18, ne19, ge20, ge21⟩ := H12
  refine Wp.stk (st' := [(.int (Int32.ofNat (rt p1 p2 p3 x)))]) rfl ?_
  refine s_istoreN (pc' := 6) (Ls' := #[rv a, iv (Int32.ofNat x), iv (Int32.ofNat y), iv (Int32.ofNat (rt p1 p2 p3 x)), U0]) A d3_5 rfl rfl ?_
  refine s_aloadN (pc' := 7) A d3_6 rfl rfl rfl ?_
  refine s_iloadN (pc' := 8) A d3_7 rfl rfl ?_
  refine s_virtual (pc' := 11) (y := y0_find) (argsL := [(.int (Int32.ofNat y))]) (rest := []) (z := y0_find) A E16 (find_ok l Z a0 hw n0 h13 A.size a r q7 q8 q9 y hq10.1 hq10.2.1 hq10.2.2.1 hy ⟨E16, F17, V18, ne19, ge20, ge21⟩) (w17 hw) (w18 hw) (nf_same (C := "") (w20 hw)) (w20 hw) (w19 hw) (w2 hw) (w21 hw) (by decide) pd__I_I rfl (W := 0) (by decide) (by decide) (Nat.le_of_eq rfl) (by decide) (by decide) rfl rfl d3_8 rfl fun T h28 v29 A Q30 => ?_
  obtain ⟨q22, q23, q24, hq25, rfl, K26, H27⟩ := Q30
  obtain ⟨E31, F32, V33, ne34, ge35, ge36⟩ := H27
  refine Wp.stk (st' := [(.int (Int32.ofNat (rt q7 q8 q9 y)))]) rfl ?_
  refine s_istore (pc' := 13) (Ls' := #[rv a, iv (Int32.ofNat x), iv (Int32.ofNat y), iv (Int32.ofNat (rt p1 p2 p3 x)), iv (Int32.ofNat (rt q7 q8 q9 y))]) A d3_11 rfl rfl ?_
  refine s_aloadN (pc' := 14) A d3_13 rfl rfl rfl ?_
  refine s_getfield (pc' := 17) (host := "") A (Or.inl (w10 hw)) Via.refl F32 d3_14 rfl fun T A => ?_
  refine s_iloadN (pc' := 18) A d3_17 rfl rfl ?_
  refine s_iload (pc' := 20) A d3_18 rfl rfl ?_
  have hr1 : rt p1 p2 p3 x < 4 := own_rt4 _ hp.1 _ hp.2.1 _ hp.2.2.1 _ hx
  have hr2 : (rt q7 q8 q9 y) < 4 := own_rt4 _ hq10.1 _ hq10.2.1 _ hq10.2.2.1 _ hy
  refine s_static (pc' := 23) (y := y2_max) (argsL := [(.int (Int32.ofNat (rt p1 p2 p3 x))), (.int (Int32.ofNat (rt q7 q8 q9 y)))]) (rest := [(.ref r)]) A (m_max l Z a0 hw n0 h28 A.size (rt p1 p2 p3 x) (rt q7 q8 q9 y) hr1 hr2) (w22 hw) (w23 hw) (w24 hw) (w25 hw) (by decide) pd__II_I rfl (W := 1) (by decide) (by decide) (Nat.le_of_eq rfl) (by decide) (by decide) rfl rfl d3_20 rfl fun T h37 v38 A Q39 => ?_
  obtain ⟨rfl, eh⟩ := Q39
  rw [eh] at A
  refine Wp.stk (st' := [(.int (Int32.ofNat (max (rt p1 p2 p3 x) (rt q7 q8 q9 y)))), (.ref r)]) rfl ?_
  refine s_iloadN (pc' := 24) A d3_23 rfl rfl ?_
  refine s_iload (pc' := 26) A d3_24 rfl rfl ?_
  refine s_static (pc' := 29) (y := y1_min) (argsL := [(.int (Int32.ofNat (rt p1 p2 p3 x))), (.int (Int32.ofNat (rt q7 q8 q9 y)))]) (rest := [(.int (Int32.ofNat (max (rt p1 p2 p3 x) (rt q7 q8 q9 y)))), (.ref r)]) A (m_min l Z a0 hw n0 h28 A.size (rt p1 p2 p3 x) (rt q7 q8 q9 y) hr1 hr2) (w26 hw) (w27 hw) (w24 hw) (w28 hw) (by decide) pd__II_I rfl (W := 2) (by decide) (by decide) (Nat.le_of_eq rfl) (by decide) (by decide) rfl rfl d3_26 rfl fun T h40 v41 A Q42 => ?_
  obtain ⟨rfl, eh⟩ := Q42
  rw [eh] at A
  refine Wp.stk (st' := [(.int (Int32.ofNat (min (rt p1 p2 p3 x) (rt q7 q8 q9 y)))), (.int (Int32.ofNat (max (rt p1 p2 p3 x) (rt q7 q8 q9 y)))), (.ref r)]) rfl ?_
  have hM : (max (rt p1 p2 p3 x) (rt q7 q8 q9 y)) < 4 := Nat.max_lt.mpr ⟨hr1, hr2⟩
  have hm : (min (rt p1 p2 p3 x) (rt q7 q8 q9 y)) ≤ (max (rt p1 p2 p3 x) (rt q7 q8 q9 y)) := Nat.le_trans (Nat.min_le_left _ _) (Nat.le_max_left _ _)
  refine s_iastore (pc' := 30) (i := (max (rt p1 p2 p3 x) (rt q7 q8 q9 y))) A V33 (own_small hM) hM ge36 d3_29 rfl fun T h43 A W44 V45 => ?_
  have V45 : AA Z h43 r .int [ii 0, ii (uu1 q22 (max (rt p1 p2 p3 x) (rt q7 q8 q9 y)) (min (rt p1 p2 p3 x) (rt q7 q8 q9 y))), ii (uu2 q23 (max (rt p1 p2 p3 x) (rt q7 q8 q9 y)) (min (rt p1 p2 p3 x) (rt q7 q8 q9 y))), ii (uu3 q24 (max (rt p1 p2 p3 x) (rt q7 q8 q9 y)) (min (rt p1 p2 p3 x) (rt q7 q8 q9 y)))] := (AA.cast V45 (own_set q22 q23 q24 _ _ hM hm))
  have K46 := ((((Keep.refl h0 [a, r]).trans K11 (allS (Or.inl (List.mem_of_getElem? (i := 0) rfl)) (allS (Or.inl (List.mem_of_getElem? (i := 1) rfl)) all0))).trans K26 (allS (Or.inl (List.mem_of_getElem? (i := 0) rfl)) (allS (Or.inl (List.mem_of_getElem? (i := 1) rfl)) all0))).wr W44 (Or.inl (List.mem_of_getElem? (i := 1) rfl)))
  have E47 := (E31.wr W44)
  have F48 := (F32.other W44 (Or.inl ne34))
  have e2 : ∀ t, t < 4 → rt q22 q23 q24 t = rt p1 p2 p3 t := fun t ht => (hq25.2.2.2 t ht).trans (hq10.2.2.2 t ht)
  have e3 : (rt q7 q8 q9 y) = rt p1 p2 p3 y := hq10.2.2.2 y hy
  have hj := own_join _ hq25.1 _ hq25.2.1 _ hq25.2.2.1 (rt p1 p2 p3 x) hr1 (rt q7 q8 q9 y) hr2 ((e2 _ hr1).trans (own_rtrt _ hp.1 _ hp.2.1 _ hp.2.2.1 _ hx)) ((e2 _ hr2).trans (by rw [e3]; exact own_rtrt _ hp.1 _ hp.2.1 _ hp.2.2.1 _ hy))
  exact r_void A rfl d3_30 (by decide) (by decide) (⟨_, _, _, ⟨hj.1, hj.2.1, hj.2.2.1, fun t ht => by rw [hj.2.2.2 t ht, e2 t ht, e3]⟩, rfl, K46, ⟨E47, F48, V45, ne34, ge35, ge36⟩⟩)
set_option maxRecDepth 65536 in
set_option maxHeartbeats 40000000 in
theorem merge_ok (l : Launch) (Z : State) (a0 : Array Value) (hw : ∀ d ∈ tables_1, d.before a0 Z = true) (n0 : Nat) (h0 : Heap) (Z0 : n0 ≤ h0.size) (b : Addr) (l0 l1 l2 l3 x y : Nat) (g0 : l0 < 4) (g1 : l1 < 4) (g2 : l2 < 4) (g3 : l3 < 4) (hx : x < 4) (hy : y < 4) (V : AA Z h0 b .int [ii l0, ii l1, ii l2, ii l3]) (gb : n0 ≤ b) :
    Met l Z n0 y4_merge method_2_code 7 (Option.none : Option Jvm.ClassFile.FieldType) ({ frames := 1, cells := 0, slots := 0, locals := 13 } : Room) #[(.ref b), (.int (Int32.ofNat x)), (.int (Int32.ofNat y))] h0 (fun v h => v = none ∧ Keep h0 h [b] ∧ AA Z h b .int [ii (if l0 = (max (Lf l0 l1 l2 l3 x) (Lf l0 l1 l2 l3 y)) then (min (Lf l0 l1 l2 l3 x) (Lf l0 l1 l2 l3 y)) else l0), ii (if l1 = (max (Lf l0 l1 l2 l3 x) (Lf l0 l1 l2 l3 y)) then (min (Lf l0 l1 l2 l3 x) (Lf l0 l1 l2 l3 y)) else l1), ii (if l2 = (max (Lf l0 l1 l2 l3 x) (Lf l0 l1 l2 l3 y)) then (min (Lf l0 l1 l2 l3 x) (Lf l0 l1 l2 l3 y)) else l2), ii (if l3 = (max (Lf l0 l1 l2 l3 x) (Lf l0 l1 l2 l3 y)) then (min (Lf l0 l1 l2 l3 x) (Lf l0 l1 l2 l3 y)) else l3)]) := by
  refine met_intro (own := c2_DisjointSetsFindPinLaw) (plainFor_of_name pn_com_example_kithgraph_kithgraph_cluster_DisjointSetsFindPinLaw) rfl Z0 ?_
  intro p e s m below meth c T A hnm
  refine Wp.cast (g' := mkF m 0 #[rv b, iv (Int32.ofNat x), iv (Int32.ofNat y), U0, U0, U0, U0] []) (by first | (simp [entryFrame, mkF, argsToLocals, Value.category, maxLocals, jv, S2, U0, iv, rv]; done) | rfl) ?_
  refine s_aloadN (pc' := 1) A d7_0 rfl rfl rfl ?_
  refine s_iloadN (pc' := 2) A d7_1 rfl rfl ?_
  refine s_iaload (pc' := 3) (i := x) (v := (.int (Int32.ofNat (Lf l0 l1 l2 l3 x)))) A V (own_small hx) (own_at l0 l1 l2 l3 _ hx) d7_2 rfl ?_
  refine s_istoreN (pc' := 4) (Ls' := #[rv b, iv (Int32.ofNat x), iv (Int32.ofNat y), iv (Int32.ofNat (Lf l0 l1 l2 l3 x)), U0, U0, U0]) A d7_3 rfl rfl ?_
  refine s_aloadN (pc' := 5) A d7_4 rfl rfl rfl ?_
  refine s_iloadN (pc' := 6) A d7_5 rfl rfl ?_
  refine s_iaload (pc' := 7) (i := y) (v := (.int (Int32.ofNat (Lf l0 l1 l2 l3 y)))) A V (own_small hy) (own_at l0 l1 l2 l3 _ hy) d7_6 rfl ?_
  refine s_istore (pc' := 9) (Ls' := #[rv b, iv (Int32.ofNat x), iv (Int32.ofNat y), iv (Int32.ofNat (Lf l0 l1 l2 l3 x)), iv (Int32.ofNat (Lf l0 l1 l2 l3 y)), U0, U0]) A d7_7 rfl rfl ?_
  refine s_iloadN (pc' := 10) A d7_9 rfl rfl ?_
  refine s_iload (pc' := 12) A d7_10 rfl rfl ?_
  refine s_static (pc' := 15) (y := y1_min) (argsL := [(.int (Int32.ofNat (Lf l0 l1 l2 l3 x))), (.int (Int32.ofNat (Lf l0 l1 l2 l3 y)))]) (rest := []) A (m_min l Z a0 hw n0 h0 A.size (Lf l0 l1 l2 l3 x) (Lf l0 l1 l2 l3 y) (own_Lf4 g0 g1 g2 g3) (own_Lf4 g0 g1 g2 g3)) (w33 hw) (w27 hw) (w24 hw) (w28 hw) (by decide) pd__II_I rfl (W := 0) (by decide) (by decide) (Nat.le_of_eq rfl) (by decide) (by decide) rfl rfl d7_12 rfl fun T h1 v2 A Q3 => ?_
  obtain ⟨rfl, eh⟩ := Q3
  rw [eh] at A
  refine Wp.stk (st' := [(.int (Int32.ofNat (min (Lf l0 l1 l2 l3 x) (Lf l0 l1 l2 l3 y))))]) rfl ?_
  refine s_istore (pc' := 17) (Ls' := #[rv b, iv (Int32.ofNat x), iv (Int32.ofNat y), iv (Int32.ofNat (Lf l0 l1 l2 l3 x)), iv (Int32.ofNat (Lf l0 l1 l2 l3 y)), iv (Int32.ofNat (min (Lf l0 l1 l2 l3 x) (Lf l0 l1 l2 l3 y))), U0]) A d7_15 rfl rfl ?_
  refine s_iloadN (pc' := 18) A d7_17 rfl rfl ?_
  refine s_iload (pc' := 20) A d7_18 rfl rfl ?_
  refine s_static (pc' := 23) (y := y2_max) (argsL := [(.int (Int32.ofNat (Lf l0 l1 l2 l3 x))), (.int (Int32.ofNat (Lf l0 l1 l2 l3 y)))]) (rest := []) A (m_max l Z a0 hw n0 h0 A.size (Lf l0 l1 l2 l3 x) (Lf l0 l1 l2 l3 y) (own_Lf4 g0 g1 g2 g3) (own_Lf4 g0 g1 g2 g3)) (w34 hw) (w23 hw) (w24 hw) (w25 hw) (by decide) pd__II_I rfl (W := 0) (by decide) (by decide) (Nat.le_of_eq rfl) (by decide) (by decide) rfl rfl d7_20 rfl fun T h4 v5 A Q6 => ?_
  obtain ⟨rfl, eh⟩ := Q6
  rw [eh] at A
  refine Wp.stk (st' := [(.int (Int32.ofNat (max (Lf l0 l1 l2 l3 x) (Lf l0 l1 l2 l3 y))))]) rfl ?_
  refine s_istore (pc' := 25) (Ls' := #[rv b, iv (Int32.ofNat x), iv (Int32.ofNat y), iv (Int32.ofNat (Lf l0 l1 l2 l3 x)), iv (Int32.ofNat (Lf l0 l1 l2 l3 y)), iv (Int32.ofNat (min (Lf l0 l1 l2 l3 x) (Lf l0 l1 l2 l3 y))), iv (Int32.ofNat (max (Lf l0 l1 l2 l3 x) (Lf l0 l1 l2 l3 y)))]) A d7_23 rfl rfl ?_
  refine s_aloadN (pc' := 26) A d7_25 rfl rfl rfl ?_
  refine s_iconst (pc' := 27) (z := (0 : Int32)) A d7_26 rfl (by decide) ?_
  refine s_iaload (pc' := 28) (i := 0) (v := (.int (Int32.ofNat l0))) A V (by decide) rfl d7_27 rfl ?_
  refine s_iload (pc' := 30) A d7_28 rfl rfl ?_
  by_cases hc30_1 : (Int32.ofNat l0) = (Int32.ofNat (max (Lf l0 l1 l2 l3 x) (Lf l0 l1 l2 l3 y)))
  ·
   refine s_icmpN (pc' := 33) A d7_30 rfl (teq hc30_1).2 ?_
   refine s_aloadN (pc' := 34) A d7_33 rfl rfl rfl ?_
   refine s_iconst (pc' := 35) (z := (0 : Int32)) A d7_34 rfl (by decide) ?_
   refine s_iload (pc' := 37) A d7_35 rfl rfl ?_
   refine s_iastore (pc' := 38) (i := 0) A V (by decide) (Nat.le_of_ble_eq_true rfl) gb d7_37 rfl fun T h7 A W8 V9 => ?_
   have V9 : AA Z h7 b .int [.int (Int32.ofNat (min (Lf l0 l1 l2 l3 x) (Lf l0 l1 l2 l3 y))), .int (Int32.ofNat l1), .int (Int32.ofNat l2), .int (Int32.ofNat l3)] := V9
   refine s_aloadN (pc' := 39) A d7_38 rfl rfl rfl ?_
   refine s_iconst (pc' := 40) (z := (1 : Int32)) A d7_39 rfl (by decide) ?_
   refine s_iaload (pc' := 41) (i := 1) (v := (.int (Int32.ofNat l1))) A V9 (by decide) rfl d7_40 rfl ?_
   refine s_iload (pc' := 43) A d7_41 rfl rfl ?_
   by_cases hc43_1 : (Int32.ofNat l1) = (Int32.ofNat (max (Lf l0 l1 l2 l3 x) (Lf l0 l1 l2 l3 y)))
   ·
    refine s_icmpN (pc' := 46) A d7_43 rfl (teq hc43_1).2 ?_
    refine s_aloadN (pc' := 47) A d7_46 rfl rfl rfl ?_
    refine s_iconst (pc' := 48) (z := (1 : Int32)) A d7_47 rfl (by decide) ?_
    refine s_iload (pc' := 50) A d7_48 rfl rfl ?_
    refine s_iastore (pc' := 51) (i := 1) A V9 (by decide) (Nat.le_of_ble_eq_true rfl) gb d7_50 rfl fun T h10 A W11 V12 => ?_
    have V12 : AA Z h10 b .int [.int (Int32.ofNat (min (Lf l0 l1 l2 l3 x) (Lf l0 l1 l2 l3 y))), .int (Int32.ofNat (min (Lf l0 l1 l2 l3 x) (Lf l0 l1 l2 l3 y))), .int (Int32.ofNat l2), .int (Int32.ofNat l3)] := V12
    refine s_aloadN (pc' := 52) A d7_51 rfl rfl rfl ?_
    refine s_iconst (pc' := 53) (z := (2 : Int32)) A d7_52 rfl (by decide) ?_
    refine s_iaload (pc' := 54) (i := 2) (v := (.int (Int32.ofNat l2))) A V12 (by decide) rfl d7_53 rfl ?_
    refine s_iload (pc' := 56) A d7_54 rfl rfl ?_
    by_cases hc56_1 : (Int32.ofNat l2) = (Int32.ofNat (max (Lf l0 l1 l2 l3 x) (Lf l0 l1 l2 l3 y)))
    ·
     refine s_icmpN (pc' := 59) A d7_56 rfl (teq hc56_1).2 ?_
     refine s_aloadN (pc' := 60) A d7_59 rfl rfl rfl ?_
     refine s_iconst (pc' := 61) (z := (2 : Int32)) A d7_60 rfl (by decide) ?_
     refine s_iload (pc' := 63) A d7_61 rfl rfl ?_
     refine s_iastore (pc' := 64) (i := 2) A V12 (by decide) (Nat.le_of_ble_eq_true rfl) gb d7_63 rfl fun T h13 A W14 V15 => ?_
     have V15 : AA Z h13 b .int [.int (Int32.ofNat (min (Lf l0 l1 l2 l3 x) (Lf l0 l1 l2 l3 y))), .int (Int32.ofNat (min (Lf l0 l1 l2 l3 x) (Lf l0 l1 l2 l3 y))), .int (Int32.ofNat (min (Lf l0 l1 l2 l3 x) (Lf l0 l1 l2 l3 y))), .int (Int32.ofNat l3)] := V15
     refine s_aloadN (pc' := 65) A d7_64 rfl rfl rfl ?_
     refine s_iconst (pc' := 66) (z := (3 : Int32)) A d7_65 rfl (by decide) ?_
     refine s_iaload (pc' := 67) (i := 3) (v := (.int (Int32.ofNat l3))) A V15 (by decide) rfl d7_66 rfl ?_
     refine s_iload (pc' := 69) A d7_67 rfl rfl ?_
     by_cases hc69_1 : (Int32.ofNat l3) = (Int32.ofNat (max (Lf l0 l1 l2 l3 x) (Lf l0 l1 l2 l3 y)))
     ·
      refine s_icmpN (pc' := 72) A d7_69 rfl (teq hc69_1).2 ?_
      refine s_aloadN (pc' := 73) A d7_72 rfl rfl rfl ?_
      refine s_iconst (pc' := 74) (z := (3 : Int32)) A d7_73 rfl (by decide) ?_
      refine s_iload (pc' := 76) A d7_74 rfl rfl ?_
      refine s_iastore (pc' := 77) (i := 3) A V15 (by decide) (Nat.le_of_ble_eq_true rfl) gb d7_76 rfl fun T h16 A W17 V18 => ?_
      have V18 : AA Z h16 b .int [.int (Int32.ofNat (min (Lf l0 l1 l2 l3 x) (Lf l0 l1 l2 l3 y))), .int (Int32.ofNat (min (Lf l0 l1 l2 l3 x) (Lf l0 l1 l2 l3 y))), .int (Int32.ofNat (min (Lf l0 l1 l2 l3 x) (Lf l0 l1 l2 l3 y))), .int (Int32.ofNat (min (Lf l0 l1 l2 l3 x) (Lf l0 l1 l2 l3 y)))] := V18
      have hM : (max (Lf l0 l1 l2 l3 x) (Lf l0 l1 l2 l3 y)) < 4 := Nat.max_lt.mpr ⟨own_Lf4 g0 g1 g2 g3, own_Lf4 g0 g1 g2 g3⟩
      have t0 : l0 = (max (Lf l0 l1 l2 l3 x) (Lf l0 l1 l2 l3 y)) := own_inj g0 hM hc30_1
      have t1 : l1 = (max (Lf l0 l1 l2 l3 x) (Lf l0 l1 l2 l3 y)) := own_inj g1 hM hc43_1
      have t2 : l2 = (max (Lf l0 l1 l2 l3 x) (Lf l0 l1 l2 l3 y)) := own_inj g2 hM hc56_1
      have t3 : l3 = (max (Lf l0 l1 l2 l3 x) (Lf l0 l1 l2 l3 y)) := own_inj g3 hM hc69_1
      have K19 := (((((Keep.refl h0 [b]).wr W8 (Or.inl (List.mem_of_getElem? (i := 0) rfl))).wr W11 (Or.inl (List.mem_of_getElem? (i := 0) rfl))).wr W14 (Or.inl (List.mem_of_getElem? (i := 0) rfl))).wr W17 (Or.inl (List.mem_of_getElem? (i := 0) rfl)))
      exact r_void A rfl d7_77 (by decide) (by decide) (⟨rfl, K19, AA.cast V18 (by rw [if_pos t0, if_pos t1, if_pos t2, if_pos t3])⟩)
     ·
      refine s_icmpY (pc' := 77) A d7_69 (feq hc69_1).2 (by decide) (by decide) ?_
      have hM : (max (Lf l0 l1 l2 l3 x) (Lf l0 l1 l2 l3 y)) < 4 := Nat.max_lt.mpr ⟨own_Lf4 g0 g1 g2 g3, own_Lf4 g0 g1 g2 g3⟩
      have t0 : l0 = (max (Lf l0 l1 l2 l3 x) (Lf l0 l1 l2 l3 y)) := own_inj g0 hM hc30_1
      have t1 : l1 = (max (Lf l0 l1 l2 l3 x) (Lf l0 l1 l2 l3 y)) := own_inj g1 hM hc43_1
      have t2 : l2 = (max (Lf l0 l1 l2 l3 x) (Lf l0 l1 l2 l3 y)) := own_inj g2 hM hc56_1
      have t3 : ¬ l3 = (max (Lf l0 l1 l2 l3 x) (Lf l0 l1 l2 l3 y)) := fun q => hc69_1 (congrArg Int32.ofNat q)
      have K20 := ((((Keep.refl h0 [b]).wr W8 (Or.inl (List.mem_of_getElem? (i := 0) rfl))).wr W11 (Or.inl (List.mem_of_getElem? (i := 0) rfl))).wr W14 (Or.inl (List.mem_of_getElem? (i := 0) rfl)))
      exact r_void A rfl d7_77 (by decide) (by decide) (⟨rfl, K20, AA.cast V15 (by rw [if_pos t0, if_pos t1, if_pos t2, if_neg t3])⟩)
    ·
     refine s_icmpY (pc' := 64) A d7_56 (feq hc56_1).2 (by decide) (by decide) ?_
     refine s_aloadN (pc' := 65) A d7_64 rfl rfl rfl ?_
     refine s_iconst (pc' := 66) (z := (3 : Int32)) A d7_65 rfl (by decide) ?_
     refine s_iaload (pc' := 67) (i := 3) (v := (.int (Int32.ofNat l3))) A V12 (by decide) rfl d7_66 rfl ?_
     refine s_iload (pc' := 69) A d7_67 rfl rfl ?_
     by_cases hc69_1 : (Int32.ofNat l3) = (Int32.ofNat (max (Lf l0 l1 l2 l3 x) (Lf l0 l1 l2 l3 y)))
     ·
      refine s_icmpN (pc' := 72) A d7_69 rfl (teq hc69_1).2 ?_
      refine s_aloadN (pc' := 73) A d7_72 rfl rfl rfl ?_
      refine s_iconst (pc' := 74) (z := (3 : Int32)) A d7_73 rfl (by decide) ?_
      refine s_iload (pc' := 76) A d7_74 rfl rfl ?_
      refine s_iastore (pc' := 77) (i := 3) A V12 (by decide) (Nat.le_of_ble_eq_true rfl) gb d7_76 rfl fun T h21 A W22 V23 => ?_
      have V23 : AA Z h21 b .int [.int (Int32.ofNat (min (Lf l0 l1 l2 l3 x) (Lf l0 l1 l2 l3 y))), .int (Int32.ofNat (min (Lf l0 l1 l2 l3 x) (Lf l0 l1 l2 l3 y))), .int (Int32.ofNat l2), .int (Int32.ofNat (min (Lf l0 l1 l2 l3 x) (Lf l0 l1 l2 l3 y)))] := V23
      have hM : (max (Lf l0 l1 l2 l3 x) (Lf l0 l1 l2 l3 y)) < 4 := Nat.max_lt.mpr ⟨own_Lf4 g0 g1 g2 g3, own_Lf4 g0 g1 g2 g3⟩
      have t0 : l0 = (max (Lf l0 l1 l2 l3 x) (Lf l0 l1 l2 l3 y)) := own_inj g0 hM hc30_1
      have t1 : l1 = (max (Lf l0 l1 l2 l3 x) (Lf l0 l1 l2 l3 y)) := own_inj g1 hM hc43_1
      have t2 : ¬ l2 = (max (Lf l0 l1 l2 l3 x) (Lf l0 l1 l2 l3 y)) := fun q => hc56_1 (congrArg Int32.ofNat q)
      have t3 : l3 = (max (Lf l0 l1 l2 l3 x) (Lf l0 l1 l2 l3 y)) := own_inj g3 hM hc69_1
      have K24 := ((((Keep.refl h0 [b]).wr W8 (Or.inl (List.mem_of_getElem? (i := 0) rfl))).wr W11 (Or.inl (List.mem_of_getElem? (i := 0) rfl))).wr W22 (Or.inl (List.mem_of_getElem? (i := 0) rfl)))
      exact r_void A rfl d7_77 (by decide) (by decide) (⟨rfl, K24, AA.cast V23 (by rw [if_pos t0, if_pos t1, if_neg t2, if_pos t3])⟩)
     ·
      refine s_icmpY (pc' := 77) A d7_69 (feq hc69_1).2 (by decide) (by decide) ?_
      have hM : (max (Lf l0 l1 l2 l3 x) (Lf l0 l1 l2 l3 y)) < 4 := Nat.max_lt.mpr ⟨own_Lf4 g0 g1 g2 g3, own_Lf4 g0 g1 g2 g3⟩
      have t0 : l0 = (max (Lf l0 l1 l2 l3 x) (Lf l0 l1 l2 l3 y)) := own_inj g0 hM hc30_1
      have t1 : l1 = (max (Lf l0 l1 l2 l3 x) (Lf l0 l1 l2 l3 y)) := own_inj g1 hM hc43_1
      have t2 : ¬ l2 = (max (Lf l0 l1 l2 l3 x) (Lf l0 l1 l2 l3 y)) := fun q => hc56_1 (congrArg Int32.ofNat q)
      have t3 : ¬ l3 = (max (Lf l0 l1 l2 l3 x) (Lf l0 l1 l2 l3 y)) := fun q => hc69_1 (congrArg Int32.ofNat q)
      have K25 := (((Keep.refl h0 [b]).wr W8 (Or.inl (List.mem_of_getElem? (i := 0) rfl))).wr W11 (Or.inl (List.mem_of_getElem? (i := 0) rfl)))
      exact r_void A rfl d7_77 (by decide) (by decide) (⟨rfl, K25, AA.cast V12 (by rw [if_pos t0, if_pos t1, if_neg t2, if_neg t3])⟩)
   ·
    refine s_icmpY (pc' := 51) A d7_43 (feq hc43_1).2 (by decide) (by decide) ?_
    refine s_aloadN (pc' := 52) A d7_51 rfl rfl rfl ?_
    refine s_iconst (pc' := 53) (z := (2 : Int32)) A d7_52 rfl (by decide) ?_
    refine s_iaload (pc' := 54) (i := 2) (v := (.int (Int32.ofNat l2))) A V9 (by decide) rfl d7_53 rfl ?_
    refine s_iload (pc' := 56) A d7_54 rfl rfl ?_
    by_cases hc56_1 : (Int32.ofNat l2) = (Int32.ofNat (max (Lf l0 l1 l2 l3 x) (Lf l0 l1 l2 l3 y)))
    ·
     refine s_icmpN (pc' := 59) A d7_56 rfl (teq hc56_1).2 ?_
     refine s_aloadN (pc' := 60) A d7_59 rfl rfl rfl ?_
     refine s_iconst (pc' := 61) (z := (2 : Int32)) A d7_60 rfl (by decide) ?_
     refine s_iload (pc' := 63) A d7_61 rfl rfl ?_
     refine s_iastore (pc' := 64) (i := 2) A V9 (by decide) (Nat.le_of_ble_eq_true rfl) gb d7_63 rfl fun T h26 A W27 V28 => ?_
     have V28 : AA Z h26 b .int [.int (Int32.ofNat (min (Lf l0 l1 l2 l3 x) (Lf l0 l1 l2 l3 y))), .int (Int32.ofNat l1), .int (Int32.ofNat (min (Lf l0 l1 l2 l3 x) (Lf l0 l1 l2 l3 y))), .int (Int32.ofNat l3)] := V28
     refine s_aloadN (pc' := 65) A d7_64 rfl rfl rfl ?_
     refine s_iconst (pc' := 66) (z := (3 : Int32)) A d7_65 rfl (by decide) ?_
     refine s_iaload (pc' := 67) (i := 3) (v := (.int (Int32.ofNat l3))) A V28 (by decide) rfl d7_66 rfl ?_
     refine s_iload (pc' := 69) A d7_67 rfl rfl ?_
     by_cases hc69_1 : (Int32.ofNat l3) = (Int32.ofNat (max (Lf l0 l1 l2 l3 x) (Lf l0 l1 l2 l3 y)))
     ·
      refine s_icmpN (pc' := 72) A d7_69 rfl (teq hc69_1).2 ?_
      refine s_aloadN (pc' := 73) A d7_72 rfl rfl rfl ?_
      refine s_iconst (pc' := 74) (z := (3 : Int32)) A d7_73 rfl (by decide) ?_
      refine s_iload (pc' := 76) A d7_74 rfl rfl ?_
      refine s_iastore (pc' := 77) (i := 3) A V28 (by decide) (Nat.le_of_ble_eq_true rfl) gb d7_76 rfl fun T h29 A W30 V31 => ?_
      have V31 : AA Z h29 b .int [.int (Int32.ofNat (min (Lf l0 l1 l2 l3 x) (Lf l0 l1 l2 l3 y))), .int (Int32.ofNat l1), .int (Int32.ofNat (min (Lf l0 l1 l2 l3 x) (Lf l0 l1 l2 l3 y))), .int (Int32.ofNat (min (Lf l0 l1 l2 l3 x) (Lf l0 l1 l2 l3 y)))] := V31
      have hM : (max (Lf l0 l1 l2 l3 x) (Lf l0 l1 l2 l3 y)) < 4 := Nat.max_lt.mpr ⟨own_Lf4 g0 g1 g2 g3, own_Lf4 g0 g1 g2 g3⟩
      have t0 : l0 = (max (Lf l0 l1 l2 l3 x) (Lf l0 l1 l2 l3 y)) := own_inj g0 hM hc30_1
      have t1 : ¬ l1 = (max (Lf l0 l1 l2 l3 x) (Lf l0 l1 l2 l3 y)) := fun q => hc43_1 (congrArg Int32.ofNat q)
      have t2 : l2 = (max (Lf l0 l1 l2 l3 x) (Lf l0 l1 l2 l3 y)) := own_inj g2 hM hc56_1
      have t3 : l3 = (max (Lf l0 l1 l2 l3 x) (Lf l0 l1 l2 l3 y)) := own_inj g3 hM hc69_1
      have K32 := ((((Keep.refl h0 [b]).wr W8 (Or.inl (List.mem_of_getElem? (i := 0) rfl))).wr W27 (Or.inl (List.mem_of_getElem? (i := 0) rfl))).wr W30 (Or.inl (List.mem_of_getElem? (i := 0) rfl)))
      exact r_void A rfl d7_77 (by decide) (by decide) (⟨rfl, K32, AA.cast V31 (by rw [if_pos t0, if_neg t1, if_pos t2, if_pos t3])⟩)
     ·
      refine s_icmpY (pc' := 77) A d7_69 (feq hc69_1).2 (by decide) (by decide) ?_
      have hM : (max (Lf l0 l1 l2 l3 x) (Lf l0 l1 l2 l3 y)) < 4 := Nat.max_lt.mpr ⟨own_Lf4 g0 g1 g2 g3, own_Lf4 g0 g1 g2 g3⟩
      have t0 : l0 = (max (Lf l0 l1 l2 l3 x) (Lf l0 l1 l2 l3 y)) := own_inj g0 hM hc30_1
      have t1 : ¬ l1 = (max (Lf l0 l1 l2 l3 x) (Lf l0 l1 l2 l3 y)) := fun q => hc43_1 (congrArg Int32.ofNat q)
      have t2 : l2 = (max (Lf l0 l1 l2 l3 x) (Lf l0 l1 l2 l3 y)) := own_inj g2 hM hc56_1
      have t3 : ¬ l3 = (max (Lf l0 l1 l2 l3 x) (Lf l0 l1 l2 l3 y)) := fun q => hc69_1 (congrArg Int32.ofNat q)
      have K33 := (((Keep.refl h0 [b]).wr W8 (Or.inl (List.mem_of_getElem? (i := 0) rfl))).wr W27 (Or.inl (List.mem_of_getElem? (i := 0) rfl)))
      exact r_void A rfl d7_77 (by decide) (by decide) (⟨rfl, K33, AA.cast V28 (by rw [if_pos t0, if_neg t1, if_pos t2, if_neg t3])⟩)
    ·
     refine s_icmpY (pc' := 64) A d7_56 (feq hc56_1).2 (by decide) (by decide) ?_
     refine s_aloadN (pc' := 65) A d7_64 rfl rfl rfl ?_
     refine s_iconst (pc' := 66) (z := (3 : Int32)) A d7_65 rfl (by decide) ?_
     refine s_iaload (pc' := 67) (i := 3) (v := (.int (Int32.ofNat l3))) A V9 (by decide) rfl d7_66 rfl ?_
     refine s_iload (pc' := 69) A d7_67 rfl rfl ?_
     by_cases hc69_1 : (Int32.ofNat l3) = (Int32.ofNat (max (Lf l0 l1 l2 l3 x) (Lf l0 l1 l2 l3 y)))
     ·
      refine s_icmpN (pc' := 72) A d7_69 rfl (teq hc69_1).2 ?_
      refine s_aloadN (pc' := 73) A d7_72 rfl rfl rfl ?_
      refine s_iconst (pc' := 74) (z := (3 : Int32)) A d7_73 rfl (by decide) ?_
      refine s_iload (pc' := 76) A d7_74 rfl rfl ?_
      refine s_iastore (pc' := 77) (i := 3) A V9 (by decide) (Nat.le_of_ble_eq_true rfl) gb d7_76 rfl fun T h34 A W35 V36 => ?_
      have V36 : AA Z h34 b .int [.int (Int32.ofNat (min (Lf l0 l1 l2 l3 x) (Lf l0 l1 l2 l3 y))), .int (Int32.ofNat l1), .int (Int32.ofNat l2), .int (Int32.ofNat (min (Lf l0 l1 l2 l3 x) (Lf l0 l1 l2 l3 y)))] := V36
      have hM : (max (Lf l0 l1 l2 l3 x) (Lf l0 l1 l2 l3 y)) < 4 := Nat.max_lt.mpr ⟨own_Lf4 g0 g1 g2 g3, own_Lf4 g0 g1 g2 g3⟩
      have t0 : l0 = (max (Lf l0 l1 l2 l3 x) (Lf l0 l1 l2 l3 y)) := own_inj g0 hM hc30_1
      have t1 : ¬ l1 = (max (Lf l0 l1 l2 l3 x) (Lf l0 l1 l2 l3 y)) := fun q => hc43_1 (congrArg Int32.ofNat q)
      have t2 : ¬ l2 = (max (Lf l0 l1 l2 l3 x) (Lf l0 l1 l2 l3 y)) := fun q => hc56_1 (congrArg Int32.ofNat q)
      have t3 : l3 = (max (Lf l0 l1 l2 l3 x) (Lf l0 l1 l2 l3 y)) := own_inj g3 hM hc69_1
      have K37 := (((Keep.refl h0 [b]).wr W8 (Or.inl (List.mem_of_getElem? (i := 0) rfl))).wr W35 (Or.inl (List.mem_of_getElem? (i := 0) rfl)))
      exact r_void A rfl d7_77 (by decide) (by decide) (⟨rfl, K37, AA.cast V36 (by rw [if_pos t0, if_neg t1, if_neg t2, if_pos t3])⟩)
     ·
      refine s_icmpY (pc' := 77) A d7_69 (feq hc69_1).2 (by decide) (by decide) ?_
      have hM : (max (Lf l0 l1 l2 l3 x) (Lf l0 l1 l2 l3 y)) < 4 := Nat.max_lt.mpr ⟨own_Lf4 g0 g1 g2 g3, own_Lf4 g0 g1 g2 g3⟩
      have t0 : l0 = (max (Lf l0 l1 l2 l3 x) (Lf l0 l1 l2 l3 y)) := own_inj g0 hM hc30_1
      have t1 : ¬ l1 = (max (Lf l0 l1 l2 l3 x) (Lf l0 l1 l2 l3 y)) := fun q => hc43_1 (congrArg Int32.ofNat q)
      have t2 : ¬ l2 = (max (Lf l0 l1 l2 l3 x) (Lf l0 l1 l2 l3 y)) := fun q => hc56_1 (congrArg Int32.ofNat q)
      have t3 : ¬ l3 = (max (Lf l0 l1 l2 l3 x) (Lf l0 l1 l2 l3 y)) := fun q => hc69_1 (congrArg Int32.ofNat q)
      have K38 := ((Keep.refl h0 [b]).wr W8 (Or.inl (List.mem_of_getElem? (i := 0) rfl)))
      exact r_void A rfl d7_77 (by decide) (by decide) (⟨rfl, K38, AA.cast V9 (by rw [if_pos t0, if_neg t1, if_neg t2, if_neg t3])⟩)
  ·
   refine s_icmpY (pc' := 38) A d7_30 (feq hc30_1).2 (by decide) (by decide) ?_
   refine s_aloadN (pc' := 39) A d7_38 rfl rfl rfl ?_
   refine s_iconst (pc' := 40) (z := (1 : Int32)) A d7_39 rfl (by decide) ?_
   refine s_iaload (pc' := 41) (i := 1) (v := (.int (Int32.ofNat l1))) A V (by decide) rfl d7_40 rfl ?_
   refine s_iload (pc' := 43) A d7_41 rfl rfl ?_
   by_cases hc43_1 : (Int32.ofNat l1) = (Int32.ofNat (max (Lf l0 l1 l2 l3 x) (Lf l0 l1 l2 l3 y)))
   ·
    refine s_icmpN (pc' := 46) A d7_43 rfl (teq hc43_1).2 ?_
    refine s_aloadN (pc' := 47) A d7_46 rfl rfl rfl ?_
    refine s_iconst (pc' := 48) (z := (1 : Int32)) A d7_47 rfl (by decide) ?_
    refine s_iload (pc' := 50) A d7_48 rfl rfl ?_
    refine s_iastore (pc' := 51) (i := 1) A V (by decide) (Nat.le_of_ble_eq_true rfl) gb d7_50 rfl fun T h39 A W40 V41 => ?_
    have V41 : AA Z h39 b .int [.int (Int32.ofNat l0), .int (Int32.ofNat (min (Lf l0 l1 l2 l3 x) (Lf l0 l1 l2 l3 y))), .int (Int32.ofNat l2), .int (Int32.ofNat l3)] := V41
    refine s_aloadN (pc' := 52) A d7_51 rfl rfl rfl ?_
    refine s_iconst (pc' := 53) (z := (2 : Int32)) A d7_52 rfl (by decide) ?_
    refine s_iaload (pc' := 54) (i := 2) (v := (.int (Int32.ofNat l2))) A V41 (by decide) rfl d7_53 rfl ?_
    refine s_iload (pc' := 56) A d7_54 rfl rfl ?_
    by_cases hc56_1 : (Int32.ofNat l2) = (Int32.ofNat (max (Lf l0 l1 l2 l3 x) (Lf l0 l1 l2 l3 y)))
    ·
     refine s_icmpN (pc' := 59) A d7_56 rfl (teq hc56_1).2 ?_
     refine s_aloadN (pc' := 60) A d7_59 rfl rfl rfl ?_
     refine s_iconst (pc' := 61) (z := (2 : Int32)) A d7_60 rfl (by decide) ?_
     refine s_iload (pc' := 63) A d7_61 rfl rfl ?_
     refine s_iastore (pc' := 64) (i := 2) A V41 (by decide) (Nat.le_of_ble_eq_true rfl) gb d7_63 rfl fun T h42 A W43 V44 => ?_
     have V44 : AA Z h42 b .int [.int (Int32.ofNat l0), .int (Int32.ofNat (min (Lf l0 l1 l2 l3 x) (Lf l0 l1 l2 l3 y))), .int (Int32.ofNat (min (Lf l0 l1 l2 l3 x) (Lf l0 l1 l2 l3 y))), .int (Int32.ofNat l3)] := V44
     refine s_aloadN (pc' := 65) A d7_64 rfl rfl rfl ?_
     refine s_iconst (pc' := 66) (z := (3 : Int32)) A d7_65 rfl (by decide) ?_
     refine s_iaload (pc' := 67) (i := 3) (v := (.int (Int32.ofNat l3))) A V44 (by decide) rfl d7_66 rfl ?_
     refine s_iload (pc' := 69) A d7_67 rfl rfl ?_
     by_cases hc69_1 : (Int32.ofNat l3) = (Int32.ofNat (max (Lf l0 l1 l2 l3 x) (Lf l0 l1 l2 l3 y)))
     ·
      refine s_icmpN (pc' := 72) A d7_69 rfl (teq hc69_1).2 ?_
      refine s_aloadN (pc' := 73) A d7_72 rfl rfl rfl ?_
      refine s_iconst (pc' := 74) (z := (3 : Int32)) A d7_73 rfl (by decide) ?_
      refine s_iload (pc' := 76) A d7_74 rfl rfl ?_
      refine s_iastore (pc' := 77) (i := 3) A V44 (by decide) (Nat.le_of_ble_eq_true rfl) gb d7_76 rfl fun T h45 A W46 V47 => ?_
      have V47 : AA Z h45 b .int [.int (Int32.ofNat l0), .int (Int32.ofNat (min (Lf l0 l1 l2 l3 x) (Lf l0 l1 l2 l3 y))), .int (Int32.ofNat (min (Lf l0 l1 l2 l3 x) (Lf l0 l1 l2 l3 y))), .int (Int32.ofNat (min (Lf l0 l1 l2 l3 x) (Lf l0 l1 l2 l3 y)))] := V47
      have hM : (max (Lf l0 l1 l2 l3 x) (Lf l0 l1 l2 l3 y)) < 4 := Nat.max_lt.mpr ⟨own_Lf4 g0 g1 g2 g3, own_Lf4 g0 g1 g2 g3⟩
      have t0 : ¬ l0 = (max (Lf l0 l1 l2 l3 x) (Lf l0 l1 l2 l3 y)) := fun q => hc30_1 (congrArg Int32.ofNat q)
      have t1 : l1 = (max (Lf l0 l1 l2 l3 x) (Lf l0 l1 l2 l3 y)) := own_inj g1 hM hc43_1
      have t2 : l2 = (max (Lf l0 l1 l2 l3 x) (Lf l0 l1 l2 l3 y)) := own_inj g2 hM hc56_1
      have t3 : l3 = (max (Lf l0 l1 l2 l3 x) (Lf l0 l1 l2 l3 y)) := own_inj g3 hM hc69_1
      have K48 := ((((Keep.refl h0 [b]).wr W40 (Or.inl (List.mem_of_getElem? (i := 0) rfl))).wr W43 (Or.inl (List.mem_of_getElem? (i := 0) rfl))).wr W46 (Or.inl (List.mem_of_getElem? (i := 0) rfl)))
      exact r_void A rfl d7_77 (by decide) (by decide) (⟨rfl, K48, AA.cast V47 (by rw [if_neg t0, if_pos t1, if_pos t2, if_pos t3])⟩)
     ·
      refine s_icmpY (pc' := 77) A d7_69 (feq hc69_1).2 (by decide) (by decide) ?_
      have hM : (max (Lf l0 l1 l2 l3 x) (Lf l0 l1 l2 l3 y)) < 4 := Nat.max_lt.mpr ⟨own_Lf4 g0 g1 g2 g3, own_Lf4 g0 g1 g2 g3⟩
      have t0 : ¬ l0 = (max (Lf l0 l1 l2 l3 x) (Lf l0 l1 l2 l3 y)) := fun q => hc30_1 (congrArg Int32.ofNat q)
      have t1 : l1 = (max (Lf l0 l1 l2 l3 x) (Lf l0 l1 l2 l3 y)) := own_inj g1 hM hc43_1
      have t2 : l2 = (max (Lf l0 l1 l2 l3 x) (Lf l0 l1 l2 l3 y)) := own_inj g2 hM hc56_1
      have t3 : ¬ l3 = (max (Lf l0 l1 l2 l3 x) (Lf l0 l1 l2 l3 y)) := fun q => hc69_1 (congrArg Int32.ofNat q)
      have K49 := (((Keep.refl h0 [b]).wr W40 (Or.inl (List.mem_of_getElem? (i := 0) rfl))).wr W43 (Or.inl (List.mem_of_getElem? (i := 0) rfl)))
      exact r_void A rfl d7_77 (by decide) (by decide) (⟨rfl, K49, AA.cast V44 (by rw [if_neg t0, if_pos t1, if_pos t2, if_neg t3])⟩)
    ·
     refine s_icmpY (pc' := 64) A d7_56 (feq hc56_1).2 (by decide) (by decide) ?_
     refine s_aloadN (pc' := 65) A d7_64 rfl rfl rfl ?_
     refine s_iconst (pc' := 66) (z := (3 : Int32)) A d7_65 rfl (by decide) ?_
     refine s_iaload (pc' := 67) (i := 3) (v := (.int (Int32.ofNat l3))) A V41 (by decide) rfl d7_66 rfl ?_
     refine s_iload (pc' := 69) A d7_67 rfl rfl ?_
     by_cases hc69_1 : (Int32.ofNat l3) = (Int32.ofNat (max (Lf l0 l1 l2 l3 x) (Lf l0 l1 l2 l3 y)))
     ·
      refine s_icmpN (pc' := 72) A d7_69 rfl (teq hc69_1).2 ?_
      refine s_aloadN (pc' := 73) A d7_72 rfl rfl rfl ?_
      refine s_iconst (pc' := 74) (z := (3 : Int32)) A d7_73 rfl (by decide) ?_
      refine s_iload (pc' := 76) A d7_74 rfl rfl ?_
      refine s_iastore (pc' := 77) (i := 3) A V41 (by decide) (Nat.le_of_ble_eq_true rfl) gb d7_76 rfl fun T h50 A W51 V52 => ?_
      have V52 : AA Z h50 b .int [.int (Int32.ofNat l0), .int (Int32.ofNat (min (Lf l0 l1 l2 l3 x) (Lf l0 l1 l2 l3 y))), .int (Int32.ofNat l2), .int (Int32.ofNat (min (Lf l0 l1 l2 l3 x) (Lf l0 l1 l2 l3 y)))] := V52
      have hM : (max (Lf l0 l1 l2 l3 x) (Lf l0 l1 l2 l3 y)) < 4 := Nat.max_lt.mpr ⟨own_Lf4 g0 g1 g2 g3, own_Lf4 g0 g1 g2 g3⟩
      have t0 : ¬ l0 = (max (Lf l0 l1 l2 l3 x) (Lf l0 l1 l2 l3 y)) := fun q => hc30_1 (congrArg Int32.ofNat q)
      have t1 : l1 = (max (Lf l0 l1 l2 l3 x) (Lf l0 l1 l2 l3 y)) := own_inj g1 hM hc43_1
      have t2 : ¬ l2 = (max (Lf l0 l1 l2 l3 x) (Lf l0 l1 l2 l3 y)) := fun q => hc56_1 (congrArg Int32.ofNat q)
      have t3 : l3 = (max (Lf l0 l1 l2 l3 x) (Lf l0 l1 l2 l3 y)) := own_inj g3 hM hc69_1
      have K53 := (((Keep.refl h0 [b]).wr W40 (Or.inl (List.mem_of_getElem? (i := 0) rfl))).wr W51 (Or.inl (List.mem_of_getElem? (i := 0) rfl)))
      exact r_void A rfl d7_77 (by decide) (by decide) (⟨rfl, K53, AA.cast V52 (by rw [if_neg t0, if_pos t1, if_neg t2, if_pos t3])⟩)
     ·
      refine s_icmpY (pc' := 77) A d7_69 (feq hc69_1).2 (by decide) (by decide) ?_
      have hM : (max (Lf l0 l1 l2 l3 x) (Lf l0 l1 l2 l3 y)) < 4 := Nat.max_lt.mpr ⟨own_Lf4 g0 g1 g2 g3, own_Lf4 g0 g1 g2 g3⟩
      have t0 : ¬ l0 = (max (Lf l0 l1 l2 l3 x) (Lf l0 l1 l2 l3 y)) := fun q => hc30_1 (congrArg Int32.ofNat q)
      have t1 : l1 = (max (Lf l0 l1 l2 l3 x) (Lf l0 l1 l2 l3 y)) := own_inj g1 hM hc43_1
      have t2 : ¬ l2 = (max (Lf l0 l1 l2 l3 x) (Lf l0 l1 l2 l3 y)) := fun q => hc56_1 (congrArg Int32.ofNat q)
      have t3 : ¬ l3 = (max (Lf l0 l1 l2 l3 x) (Lf l0 l1 l2 l3 y)) := fun q => hc69_1 (congrArg Int32.ofNat q)
      have K54 := ((Keep.refl h0 [b]).wr W40 (Or.inl (List.mem_of_getElem? (i := 0) rfl)))
      exact r_void A rfl d7_77 (by decide) (by decide) (⟨rfl, K54, AA.cast V41 (by rw [if_neg t0, if_pos t1, if_neg t2, if_neg t3])⟩)
   ·
    refine s_icmpY (pc' := 51) A d7_43 (feq hc43_1).2 (by decide) (by decide) ?_
    refine s_aloadN (pc' := 52) A d7_51 rfl rfl rfl ?_
    refine s_iconst (pc' := 53) (z := (2 : Int32)) A d7_52 rfl (by decide) ?_
    refine s_iaload (pc' := 54) (i := 2) (v := (.int (Int32.ofNat l2))) A V (by decide) rfl d7_53 rfl ?_
    refine s_iload (pc' := 56) A d7_54 rfl rfl ?_
    by_cases hc56_1 : (Int32.ofNat l2) = (Int32.ofNat (max (Lf l0 l1 l2 l3 x) (Lf l0 l1 l2 l3 y)))
    ·
     refine s_icmpN (pc' := 59) A d7_56 rfl (teq hc56_1).2 ?_
     refine s_aloadN (pc' := 60) A d7_59 rfl rfl rfl ?_
     refine s_iconst (pc' := 61) (z := (2 : Int32)) A d7_60 rfl (by decide) ?_
     refine s_iload (pc' := 63) A d7_61 rfl rfl ?_
     refine s_iastore (pc' := 64) (i := 2) A V (by decide) (Nat.le_of_ble_eq_true rfl) gb d7_63 rfl fun T h55 A W56 V57 => ?_
     have V57 : AA Z h55 b .int [.int (Int32.ofNat l0), .int (Int32.ofNat l1), .int (Int32.ofNat (min (Lf l0 l1 l2 l3 x) (Lf l0 l1 l2 l3 y))), .int (Int32.ofNat l3)] := V57
     refine s_aloadN (pc' := 65) A d7_64 rfl rfl rfl ?_
     refine s_iconst (pc' := 66) (z := (3 : Int32)) A d7_65 rfl (by decide) ?_
     refine s_iaload (pc' := 67) (i := 3) (v := (.int (Int32.ofNat l3))) A V57 (by decide) rfl d7_66 rfl ?_
     refine s_iload (pc' := 69) A d7_67 rfl rfl ?_
     by_cases hc69_1 : (Int32.ofNat l3) = (Int32.ofNat (max (Lf l0 l1 l2 l3 x) (Lf l0 l1 l2 l3 y)))
     ·
      refine s_icmpN (pc' := 72) A d7_69 rfl (teq hc69_1).2 ?_
      refine s_aloadN (pc' := 73) A d7_72 rfl rfl rfl ?_
      refine s_iconst (pc' := 74) (z := (3 : Int32)) A d7_73 rfl (by decide) ?_
      refine s_iload (pc' := 76) A d7_74 rfl rfl ?_
      refine s_iastore (pc' := 77) (i := 3) A V57 (by decide) (Nat.le_of_ble_eq_true rfl) gb d7_76 rfl fun T h58 A W59 V60 => ?_
      have V60 : AA Z h58 b .int [.int (Int32.ofNat l0), .int (Int32.ofNat l1), .int (Int32.ofNat (min (Lf l0 l1 l2 l3 x) (Lf l0 l1 l2 l3 y))), .int (Int32.ofNat (min (Lf l0 l1 l2 l3 x) (Lf l0 l1 l2 l3 y)))] := V60
      have hM : (max (Lf l0 l1 l2 l3 x) (Lf l0 l1 l2 l3 y)) < 4 := Nat.max_lt.mpr ⟨own_Lf4 g0 g1 g2 g3, own_Lf4 g0 g1 g2 g3⟩
      have t0 : ¬ l0 = (max (Lf l0 l1 l2 l3 x) (Lf l0 l1 l2 l3 y)) := fun q => hc30_1 (congrArg Int32.ofNat q)
      have t1 : ¬ l1 = (max (Lf l0 l1 l2 l3 x) (Lf l0 l1 l2 l3 y)) := fun q => hc43_1 (congrArg Int32.ofNat q)
      have t2 : l2 = (max (Lf l0 l1 l2 l3 x) (Lf l0 l1 l2 l3 y)) := own_inj g2 hM hc56_1
      have t3 : l3 = (max (Lf l0 l1 l2 l3 x) (Lf l0 l1 l2 l3 y)) := own_inj g3 hM hc69_1
      have K61 := (((Keep.refl h0 [b]).wr W56 (Or.inl (List.mem_of_getElem? (i := 0) rfl))).wr W59 (Or.inl (List.mem_of_getElem? (i := 0) rfl)))
      exact r_void A rfl d7_77 (by decide) (by decide) (⟨rfl, K61, AA.cast V60 (by rw [if_neg t0, if_neg t1, if_pos t2, if_pos t3])⟩)
     ·
      refine s_icmpY (pc' := 77) A d7_69 (feq hc69_1).2 (by decide) (by decide) ?_
      have hM : (max (Lf l0 l1 l2 l3 x) (Lf l0 l1 l2 l3 y)) < 4 := Nat.max_lt.mpr ⟨own_Lf4 g0 g1 g2 g3, own_Lf4 g0 g1 g2 g3⟩
      have t0 : ¬ l0 = (max (Lf l0 l1 l2 l3 x) (Lf l0 l1 l2 l3 y)) := fun q => hc30_1 (congrArg Int32.ofNat q)
      have t1 : ¬ l1 = (max (Lf l0 l1 l2 l3 x) (Lf l0 l1 l2 l3 y)) := fun q => hc43_1 (congrArg Int32.ofNat q)
      have t2 : l2 = (max (Lf l0 l1 l2 l3 x) (Lf l0 l1 l2 l3 y)) := own_inj g2 hM hc56_1
      have t3 : ¬ l3 = (max (Lf l0 l1 l2 l3 x) (Lf l0 l1 l2 l3 y)) := fun q => hc69_1 (congrArg Int32.ofNat q)
      have K62 := ((Keep.refl h0 [b]).wr W56 (Or.inl (List.mem_of_getElem? (i := 0) rfl)))
      exact r_void A rfl d7_77 (by decide) (by decide) (⟨rfl, K62, AA.cast V57 (by rw [if_neg t0, if_neg t1, if_pos t2, if_neg t3])⟩)
    ·
     refine s_icmpY (pc' := 64) A d7_56 (feq hc56_1).2 (by decide) (by decide) ?_
     refine s_aloadN (pc' := 65) A d7_64 rfl rfl rfl ?_
     refine s_iconst (pc' := 66) (z := (3 : Int32)) A d7_65 rfl (by decide) ?_
     refine s_iaload (pc' := 67) (i := 3) (v := (.int (Int32.ofNat l3))) A V (by decide) rfl d7_66 rfl ?_
     refine s_iload (pc' := 69) A d7_67 rfl rfl ?_
     by_cases hc69_1 : (Int32.ofNat l3) = (Int32.ofNat (max (Lf l0 l1 l2 l3 x) (Lf l0 l1 l2 l3 y)))
     ·
      refine s_icmpN (pc' := 72) A d7_69 rfl (teq hc69_1).2 ?_
      refine s_aloadN (pc' := 73) A d7_72 rfl rfl rfl ?_
      refine s_iconst (pc' := 74) (z := (3 : Int32)) A d7_73 rfl (by decide) ?_
      refine s_iload (pc' := 76) A d7_74 rfl rfl ?_
      refine s_iastore (pc' := 77) (i := 3) A V (by decide) (Nat.le_of_ble_eq_true rfl) gb d7_76 rfl fun T h63 A W64 V65 => ?_
      have V65 : AA Z h63 b .int [.int (Int32.ofNat l0), .int (Int32.ofNat l1), .int (Int32.ofNat l2), .int (Int32.ofNat (min (Lf l0 l1 l2 l3 x) (Lf l0 l1 l2 l3 y)))] := V65
      have hM : (max (Lf l0 l1 l2 l3 x) (Lf l0 l1 l2 l3 y)) < 4 := Nat.max_lt.mpr ⟨own_Lf4 g0 g1 g2 g3, own_Lf4 g0 g1 g2 g3⟩
      have t0 : ¬ l0 = (max (Lf l0 l1 l2 l3 x) (Lf l0 l1 l2 l3 y)) := fun q => hc30_1 (congrArg Int32.ofNat q)
      have t1 : ¬ l1 = (max (Lf l0 l1 l2 l3 x) (Lf l0 l1 l2 l3 y)) := fun q => hc43_1 (congrArg Int32.ofNat q)
      have t2 : ¬ l2 = (max (Lf l0 l1 l2 l3 x) (Lf l0 l1 l2 l3 y)) := fun q => hc56_1 (congrArg Int32.ofNat q)
      have t3 : l3 = (max (Lf l0 l1 l2 l3 x) (Lf l0 l1 l2 l3 y)) := own_inj g3 hM hc69_1
      have K66 := ((Keep.refl h0 [b]).wr W64 (Or.inl (List.mem_of_getElem? (i := 0) rfl)))
      exact r_void A rfl d7_77 (by decide) (by decide) (⟨rfl, K66, AA.cast V65 (by rw [if_neg t0, if_neg t1, if_neg t2, if_pos t3])⟩)
     ·
      refine s_icmpY (pc' := 77) A d7_69 (feq hc69_1).2 (by decide) (by decide) ?_
      have hM : (max (Lf l0 l1 l2 l3 x) (Lf l0 l1 l2 l3 y)) < 4 := Nat.max_lt.mpr ⟨own_Lf4 g0 g1 g2 g3, own_Lf4 g0 g1 g2 g3⟩
      have t0 : ¬ l0 = (max (Lf l0 l1 l2 l3 x) (Lf l0 l1 l2 l3 y)) := fun q => hc30_1 (congrArg Int32.ofNat q)
      have t1 : ¬ l1 = (max (Lf l0 l1 l2 l3 x) (Lf l0 l1 l2 l3 y)) := fun q => hc43_1 (congrArg Int32.ofNat q)
      have t2 : ¬ l2 = (max (Lf l0 l1 l2 l3 x) (Lf l0 l1 l2 l3 y)) := fun q => hc56_1 (congrArg Int32.ofNat q)
      have t3 : ¬ l3 = (max (Lf l0 l1 l2 l3 x) (Lf l0 l1 l2 l3 y)) := fun q => hc69_1 (congrArg Int32.ofNat q)
      exact r_void A rfl d7_77 (by decide) (by decide) (⟨rfl, (Keep.refl h0 [b]), AA.cast V (by rw [if_neg t0, if_neg t1, if_neg t2, if_neg t3])⟩)
theorem own_m4 (x : Int32) : (x &&& (3 : Int32)) = 0 ∨ (x &&& (3 : Int32)) = 1 ∨ (x &&& (3 : Int32)) = 2 ∨ (x &&& (3 : Int32)) = 3 := by
  have e := c_mask x (3 : Int32) 2 (by decide) (by decide)
  have q : (x &&& (3 : Int32)).toInt = 0 ∨ (x &&& (3 : Int32)).toInt = 1 ∨ (x &&& (3 : Int32)).toInt = 2 ∨ (x &&& (3 : Int32)).toInt = 3 := by omega
  rcases q with q | q | q | q
  · exact Or.inl (Int32.toInt_inj.mp (q.trans (by decide)))
  · exact Or.inr (Or.inl (Int32.toInt_inj.mp (q.trans (by decide))))
  · exact Or.inr (Or.inr (Or.inl (Int32.toInt_inj.mp (q.trans (by decide)))))
  · exact Or.inr (Or.inr (Or.inr (Int32.toInt_inj.mp (q.trans (by decide)))))
theorem own_nat4 (z : Int32) : ∃ n : Nat, z &&& (3 : Int32) = Int32.ofNat n ∧ n < 4 := by
  rcases own_m4 z with q | q | q | q
  · exact ⟨0, q, by decide⟩
  · exact ⟨1, q, by decide⟩
  · exact ⟨2, q, by decide⟩
  · exact ⟨3, q, by decide⟩
set_option maxRecDepth 65536 in
set_option maxHeartbeats 40000000 in
theorem ds_new97 (l : Launch) (Z : State) (a0 : Array Value) (hw : ∀ d ∈ tables_1, d.before a0 Z = true) (n0 : Nat) (h0 : Heap) (Z0 : n0 ≤ h0.size) (a : Addr) (E : Exa Z h0 a "com/example/kithgraph/kithgraph/cluster/DisjointSets") (F_parents : Fld Z h0 a "com/example/kithgraph/kithgraph/cluster/DisjointSets" "parents" "[I" .null) (ga : n0 ≤ a) :
    Met l Z n0 y5_init prog_15_method_1_code 3 (Option.none : Option Jvm.ClassFile.FieldType) ({ frames := 1, cells := 1, slots := 4, locals := 12 } : Room) #[(.ref a), (.int (4 : Int32))] h0 (fun v h => v = none ∧ Keep h0 h [a] ∧ ∃ r_parents, DS Z n0 h a r_parents [.int (0 : Int32), .int (1 : Int32), .int (2 : Int32), .int (3 : Int32)] ∧ h0.size ≤ r_parents) := by
  refine met_intro (own := c0_DisjointSets) (plainFor_of_name pn_com_example_kithgraph_kithgraph_cluster_DisjointSets) rfl Z0 ?_
  intro p e s m below meth c T A hnm
  refine Wp.cast (g' := mkF m 0 #[rv a, iv 4, U0] []) (by first | (simp [entryFrame, mkF, argsToLocals, Value.category, maxLocals, jv, S2, U0, iv, rv]; done) | rfl) ?_
  refine s_aloadN (pc' := 1) A d1_0 rfl rfl rfl ?_
  refine s_initO (pc' := 4) (W := 0) A (w6 hw) (w7 hw) (w8 hw) (by decide) (Nat.le_of_eq rfl) (by decide) rfl d1_1 rfl fun T A => ?_
  refine s_aloadN (pc' := 5) A d1_4 rfl rfl rfl ?_
  refine s_iloadN (pc' := 6) A d1_5 rfl rfl ?_
  refine s_newarray (pc' := 8) (aty := .int) (ty := .int) (dv := (.int (0 : Int32))) (i := 4) (cap := 4) A rfl rfl (w9 hw) (by decide) (by decide) (by decide) (by decide) (by decide) d1_6 rfl fun T h1 b2 A g3 ge4 X5 V6 => ?_
  have ne7 : a ≠ b2 := lt_ne E.lt g3
  have bo8 : h0.size ≤ b2 := le_eq (Keep.refl h0 [a]).1 g3
  have V6 : AA Z h1 b2 .int [.int (0 : Int32), .int (0 : Int32), .int (0 : Int32), .int (0 : Int32)] := V6
  have F9 := (F_parents.ext X5)
  have E10 := (E.ext X5)
  refine s_putfield (pc' := 11) (host := "") A (Or.inl (w10 hw)) Via.refl F9 E10 (Or.inr ⟨(w11 hw), rfl, hnm⟩) (w1 hw) (ty := (.array .int)) (by decide) rfl rfl ga d1_8 rfl fun T h11 A W12 => ?_
  have F13 := F9.same W12
  refine s_iconst (pc' := 12) (z := (0 : Int32)) A d1_11 rfl (by decide) ?_
  refine s_istoreN (pc' := 13) (Ls' := #[rv a, iv 4, iv 0]) A d1_12 rfl rfl ?_
  refine s_iloadN (pc' := 14) A d1_13 rfl rfl ?_
  refine s_iloadN (pc' := 15) A d1_14 rfl rfl ?_
  refine s_icmpN (pc' := 18) A d1_15 rfl (by decide) ?_
  refine s_aloadN (pc' := 19) A d1_18 rfl rfl rfl ?_
  refine s_getfield (pc' := 22) (host := "") A (Or.inl (w10 hw)) Via.refl F13 d1_19 rfl fun T A => ?_
  refine s_iloadN (pc' := 23) A d1_22 rfl rfl ?_
  refine s_iloadN (pc' := 24) A d1_23 rfl rfl ?_
  have V14 := (V6.other W12 (Ne.symm ne7))
  refine s_iastore (pc' := 25) (i := 0) A V14 (by decide) (Nat.le_of_ble_eq_true rfl) ge4 d1_24 rfl fun T h15 A W16 V17 => ?_
  have V17 : AA Z h15 b2 .int [.int (0 : Int32), .int (0 : Int32), .int (0 : Int32), .int (0 : Int32)] := V17
  refine s_iinc (pc' := 28) (z := (1 : Int32)) (Ls' := #[rv a, iv 4, iv 1]) A d1_25 rfl rfl (by decide) rfl ?_
  refine s_goto (pc' := 13) A d1_28 (by decide) (by decide) ?_
  refine s_iloadN (pc' := 14) A d1_13 rfl rfl ?_
  refine s_iloadN (pc' := 15) A d1_14 rfl rfl ?_
  refine s_icmpN (pc' := 18) A d1_15 rfl (by decide) ?_
  refine s_aloadN (pc' := 19) A d1_18 rfl rfl rfl ?_
  have F18 := (F13.other W16 (Or.inl ne7))
  refine s_getfield (pc' := 22) (host := "") A (Or.inl (w10 hw)) Via.refl F18 d1_19 rfl fun T A => ?_
  refine s_iloadN (pc' := 23) A d1_22 rfl rfl ?_
  refine s_iloadN (pc' := 24) A d1_23 rfl rfl ?_
  refine s_iastore (pc' := 25) (i := 1) A V17 (by decide) (Nat.le_of_ble_eq_true rfl) ge4 d1_24 rfl fun T h19 A W20 V21 => ?_
  have V21 : AA Z h19 b2 .int [.int (0 : Int32), .int (1 : Int32), .int (0 : Int32), .int (0 : Int32)] := V21
  refine s_iinc (pc' := 28) (z := (2 : Int32)) (Ls' := #[rv a, iv 4, iv 2]) A d1_25 rfl rfl (by decide) rfl ?_
  refine s_goto (pc' := 13) A d1_28 (by decide) (by decide) ?_
  refine s_iloadN (pc' := 14) A d1_13 rfl rfl ?_
  refine s_iloadN (pc' := 15) A d1_14 rfl rfl ?_
  refine s_icmpN (pc' := 18) A d1_15 rfl (by decide) ?_
  refine s_aloadN (pc' := 19) A d1_18 rfl rfl rfl ?_
  have F22 := (F18.other W20 (Or.inl ne7))
  refine s_getfield (pc' := 22) (host := "") A (Or.inl (w10 hw)) Via.refl F22 d1_19 rfl fun T A => ?_
  refine s_iloadN (pc' := 23) A d1_22 rfl rfl ?_
  refine s_iloadN (pc' := 24) A d1_23 rfl rfl ?_
  refine s_iastore (pc' := 25) (i := 2) A V21 (by decide) (Nat.le_of_ble_eq_true rfl) ge4 d1_24 rfl fun T h23 A W24 V25 => ?_
  have V25 : AA Z h23 b2 .int [.int (0 : Int32), .int (1 : Int32), .int (2 : Int32), .int (0 : Int32)] := V25
  refine s_iinc (pc' := 28) (z := (3 : Int32)) (Ls' := #[rv a, iv 4, iv 3]) A d1_25 rfl rfl (by decide) rfl ?_
  refine s_goto (pc' := 13) A d1_28 (by decide) (by decide) ?_
  refine s_iloadN (pc' := 14) A d1_13 rfl rfl ?_
  refine s_iloadN (pc' := 15) A d1_14 rfl rfl ?_
  refine s_icmpN (pc' := 18) A d1_15 rfl (by decide) ?_
  refine s_aloadN (pc' := 19) A d1_18 rfl rfl rfl ?_
  have F26 := (F22.other W24 (Or.inl ne7))
  refine s_getfield (pc' := 22) (host := "") A (Or.inl (w10 hw)) Via.refl F26 d1_19 rfl fun T A => ?_
  refine s_iloadN (pc' := 23) A d1_22 rfl rfl ?_
  refine s_iloadN (pc' := 24) A d1_23 rfl rfl ?_
  refine s_iastore (pc' := 25) (i := 3) A V25 (by decide) (Nat.le_of_ble_eq_true rfl) ge4 d1_24 rfl fun T h27 A W28 V29 => ?_
  have V29 : AA Z h27 b2 .int [.int (0 : Int32), .int (1 : Int32), .int (2 : Int32), .int (3 : Int32)] := V29
  refine s_iinc (pc' := 28) (z := (4 : Int32)) (Ls' := #[rv a, iv 4, iv 4]) A d1_25 rfl rfl (by decide) rfl ?_
  refine s_goto (pc' := 13) A d1_28 (by decide) (by decide) ?_
  refine s_iloadN (pc' := 14) A d1_13 rfl rfl ?_
  refine s_iloadN (pc' := 15) A d1_14 rfl rfl ?_
  refine s_icmpY (pc' := 31) A d1_15 (by decide) (by decide) (by decide) ?_
  have K30 := (((((((Keep.refl h0 [a]).ext X5).wr W12 (Or.inl (List.mem_of_getElem? (i := 0) rfl))).wr W16 (Or.inr bo8)).wr W20 (Or.inr bo8)).wr W24 (Or.inr bo8)).wr W28 (Or.inr bo8))
  have E31 := (((((E10.wr W12).wr W16).wr W20).wr W24).wr W28)
  have F32 := (F26.other W28 (Or.inl ne7))
  exact r_void A rfl d1_31 (by decide) (by decide) (⟨rfl, K30, b2, ⟨E31, F32, V29, ne7, ga, ge4⟩, bo8⟩)
set_option maxRecDepth 65536 in
set_option maxHeartbeats 40000000 in
theorem rm0 (l : Launch) (Z : State) (a0 : Array Value) (hw : ∀ d ∈ tables_1, d.before a0 Z = true) (n0 : Nat) (h0 : Heap) (Z0 : n0 ≤ h0.size) (q0 q1 q2 : Int32)  :
    Met l Z n0 x code maxLocals ret room_1 #[(.int q0), (.int q1), (.int q2)] h0 (fun v h => v = some (.int 1)) := by
  refine met_intro (own := c2_DisjointSetsFindPinLaw) (plainFor_of_name pn_com_example_kithgraph_kithgraph_cluster_DisjointSetsFindPinLaw) rfl Z0 ?_
  intro p e s m below meth c T A hnm
  refine Wp.cast (g' := mkF m 0 #[iv q0, iv q1, iv q2, U0, U0, U0, U0, U0, U0, U0, U0, U0, U0, U0, U0, U0, U0] []) (by first | (simp [entryFrame, mkF, argsToLocals, Value.category, maxLocals, jv, S2, U0, iv, rv]; done) | rfl) ?_
  refine s_iloadN (pc' := 1) A at_0 rfl rfl ?_
  refine s_iconst (pc' := 2) (z := (3 : Int32)) A at_1 rfl (by decide) ?_
  obtain ⟨x0, ex0, hx0⟩ := own_nat4 q0
  refine s_iand (pc' := 3) (z := (Int32.ofNat x0)) A at_2 rfl ex0 ?_
  refine s_istoreN (pc' := 4) (Ls' := #[iv q0, iv q1, iv q2, iv (Int32.ofNat x0), U0, U0, U0, U0, U0, U0, U0, U0, U0, U0, U0, U0, U0]) A at_3 rfl rfl ?_
  refine s_iloadN (pc' := 5) A at_4 rfl rfl ?_
  refine s_iconst (pc' := 6) (z := (2 : Int32)) A at_5 rfl (by decide) ?_
  refine s_iushr (pc' := 7) (z := (ush q0 (2 : Int32))) A at_6 rfl rfl ?_
  refine s_iconst (pc' := 8) (z := (3 : Int32)) A at_7 rfl (by decide) ?_
  obtain ⟨y0, ey0, hy0⟩ := own_nat4 (ush q0 (2 : Int32))
  refine s_iand (pc' := 9) (z := (Int32.ofNat y0)) A at_8 rfl ey0 ?_
  refine s_istore (pc' := 11) (Ls' := #[iv q0, iv q1, iv q2, iv (Int32.ofNat x0), iv (Int32.ofNat y0), U0, U0, U0, U0, U0, U0, U0, U0, U0, U0, U0, U0]) A at_9 rfl rfl ?_
  refine s_iloadN (pc' := 12) A at_11 rfl rfl ?_
  refine s_iconst (pc' := 13) (z := (4 : Int32)) A at_12 rfl (by decide) ?_
  refine s_iushr (pc' := 14) (z := (ush q0 (4 : Int32))) A at_13 rfl rfl ?_
  refine s_iconst (pc' := 15) (z := (3 : Int32)) A at_14 rfl (by decide) ?_
  obtain ⟨x1, ex1, hx1⟩ := own_nat4 (ush q0 (4 : Int32))
  refine s_iand (pc' := 16) (z := (Int32.ofNat x1)) A at_15 rfl ex1 ?_
  refine s_istore (pc' := 18) (Ls' := #[iv q0, iv q1, iv q2, iv (Int32.ofNat x0), iv (Int32.ofNat y0), iv (Int32.ofNat x1), U0, U0, U0, U0, U0, U0, U0, U0, U0, U0, U0]) A at_16 rfl rfl ?_
  refine s_iloadN (pc' := 19) A at_18 rfl rfl ?_
  refine s_bipush (pc' := 21) (z := (6 : Int32)) A at_19 rfl (by decide) ?_
  refine s_iushr (pc' := 22) (z := (ush q0 (6 : Int32))) A at_21 rfl rfl ?_
  refine s_iconst (pc' := 23) (z := (3 : Int32)) A at_22 rfl (by decide) ?_
  obtain ⟨y1, ey1, hy1⟩ := own_nat4 (ush q0 (6 : Int32))
  refine s_iand (pc' := 24) (z := (Int32.ofNat y1)) A at_23 rfl ey1 ?_
  refine s_istore (pc' := 26) (Ls' := #[iv q0, iv q1, iv q2, iv (Int32.ofNat x0), iv (Int32.ofNat y0), iv (Int32.ofNat x1), iv (Int32.ofNat y1), U0, U0, U0, U0, U0, U0, U0, U0, U0, U0]) A at_24 rfl rfl ?_
  refine s_iloadN (pc' := 27) A at_26 rfl rfl ?_
  refine s_bipush (pc' := 29) (z := (8 : Int32)) A at_27 rfl (by decide) ?_
  refine s_iushr (pc' := 30) (z := (ush q0 (8 : Int32))) A at_29 rfl rfl ?_
  refine s_iconst (pc' := 31) (z := (3 : Int32)) A at_30 rfl (by decide) ?_
  obtain ⟨x2, ex2, hx2⟩ := own_nat4 (ush q0 (8 : Int32))
  refine s_iand (pc' := 32) (z := (Int32.ofNat x2)) A at_31 rfl ex2 ?_
  refine s_istore (pc' := 34) (Ls' := #[iv q0, iv q1, iv q2, iv (Int32.ofNat x0), iv (Int32.ofNat y0), iv (Int32.ofNat x1), iv (Int32.ofNat y1), iv (Int32.ofNat x2), U0, U0, U0, U0, U0, U0, U0, U0, U0]) A at_32 rfl rfl ?_
  refine s_iloadN (pc' := 35) A at_34 rfl rfl ?_
  refine s_bipush (pc' := 37) (z := (10 : Int32)) A at_35 rfl (by decide) ?_
  refine s_iushr (pc' := 38) (z := (ush q0 (10 : Int32))) A at_37 rfl rfl ?_
  refine s_iconst (pc' := 39) (z := (3 : Int32)) A at_38 rfl (by decide) ?_
  obtain ⟨y2, ey2, hy2⟩ := own_nat4 (ush q0 (10 : Int32))
  refine s_iand (pc' := 40) (z := (Int32.ofNat y2)) A at_39 rfl ey2 ?_
  refine s_istore (pc' := 42) (Ls' := #[iv q0, iv q1, iv q2, iv (Int32.ofNat x0), iv (Int32.ofNat y0), iv (Int32.ofNat x1), iv (Int32.ofNat y1), iv (Int32.ofNat x2), iv (Int32.ofNat y2), U0, U0, U0, U0, U0, U0, U0, U0]) A at_40 rfl rfl ?_
  refine s_iloadN (pc' := 43) A at_42 rfl rfl ?_
  refine s_iconst (pc' := 44) (z := (3 : Int32)) A at_43 rfl (by decide) ?_
  obtain ⟨ee, eee, hee⟩ := own_nat4 q2
  refine s_iand (pc' := 45) (z := (Int32.ofNat ee)) A at_44 rfl eee ?_
  refine s_istore (pc' := 47) (Ls' := #[iv q0, iv q1, iv q2, iv (Int32.ofNat x0), iv (Int32.ofNat y0), iv (Int32.ofNat x1), iv (Int32.ofNat y1), iv (Int32.ofNat x2), iv (Int32.ofNat y2), iv (Int32.ofNat ee), U0, U0, U0, U0, U0, U0, U0]) A at_45 rfl rfl ?_
  refine s_new (pc' := 50) A (w0 hw) (w1 hw) (w2 hw) (by decide) (by decide) at_47 rfl fun T h1 b2 A g3 ge4 X5 E6 D7 => ?_
  have F8 : Fld Z h1 b2 "com/example/kithgraph/kithgraph/cluster/DisjointSets" "parents" "[I" .null := D7 (Or.inr (w11 hw)) (ty := (.array .int)) (by decide)
  refine s_dup (pc' := 51) A at_50 rfl rfl ?_
  refine s_iconst (pc' := 52) (z := (4 : Int32)) A at_51 rfl (by decide) ?_
  refine s_special (pc' := 55) (y := y5_init) (argsL := [(.int (4 : Int32))]) (rest := [(.ref b2)]) A (ds_new97 l Z a0 hw n0 h1 A.size b2 E6 F8 ge4) rfl (w3 hw) (w4 hw) (w2 hw) (w5 hw) (by decide) pd__I_V rfl (W := 1) (by decide) (by decide) (Nat.le_of_eq rfl) (by decide) (by decide) rfl rfl at_52 rfl fun T h13 v14 A Q15 => ?_
  obtain ⟨rfl, K10, r9, H11, bo12⟩ := Q15
  have ne16 : b2 ≠ r9 := Nat.ne_of_lt (Nat.lt_of_lt_of_le E6.lt bo12)
  obtain ⟨E17, F18, V19, ne20, ge21, ge22⟩ := H11
  refine Wp.stk (st' := [(.ref b2)]) rfl ?_
  refine s_astore (pc' := 57) (Ls' := #[iv q0, iv q1, iv q2, iv (Int32.ofNat x0), iv (Int32.ofNat y0), iv (Int32.ofNat x1), iv (Int32.ofNat y1), iv (Int32.ofNat x2), iv (Int32.ofNat y2), iv (Int32.ofNat ee), rv b2, U0, U0, U0, U0, U0, U0]) A at_55 rfl rfl rfl ?_
  refine s_iconst (pc' := 58) (z := (4 : Int32)) A at_57 rfl (by decide) ?_
  refine s_newarray (pc' := 60) (aty := .int) (ty := .int) (dv := (.int (0 : Int32))) (i := 4) (cap := 4) A rfl rfl (w9 hw) (by decide) (by decide) (by decide) (by decide) (by decide) at_58 rfl fun T h23 b24 A g25 ge26 X27 V28 => ?_
  have ne29 : b2 ≠ b24 := lt_ne E17.lt g25
  have ne30 : r9 ≠ b24 := lt_ne V19.lt g25
  have V28 : AA Z h23 b24 .int [.int (0 : Int32), .int (0 : Int32), .int (0 : Int32), .int (0 : Int32)] := V28
  refine s_dup (pc' := 61) A at_60 rfl rfl ?_
  refine s_iconst (pc' := 62) (z := (0 : Int32)) A at_61 rfl (by decide) ?_
  refine s_iconst (pc' := 63) (z := (0 : Int32)) A at_62 rfl (by decide) ?_
  refine s_iastore (pc' := 64) (i := 0) A V28 (by decide) (Nat.le_of_ble_eq_true rfl) ge26 at_63 rfl fun T h31 A W32 V33 => ?_
  have V33 : AA Z h31 b24 .int [.int (0 : Int32), .int (0 : Int32), .int (0 : Int32), .int (0 : Int32)] := V33
  refine s_dup (pc' := 65) A at_64 rfl rfl ?_
  refine s_iconst (pc' := 66) (z := (1 : Int32)) A at_65 rfl (by decide) ?_
  refine s_iconst (pc' := 67) (z := (1 : Int32)) A at_66 rfl (by decide) ?_
  refine s_iastore (pc' := 68) (i := 1) A V33 (by decide) (Nat.le_of_ble_eq_true rfl) ge26 at_67 rfl fun T h34 A W35 V36 => ?_
  have V36 : AA Z h34 b24 .int [.int (0 : Int32), .int (1 : Int32), .int (0 : Int32), .int (0 : Int32)] := V36
  refine s_dup (pc' := 69) A at_68 rfl rfl ?_
  refine s_iconst (pc' := 70) (z := (2 : Int32)) A at_69 rfl (by decide) ?_
  refine s_iconst (pc' := 71) (z := (2 : Int32)) A at_70 rfl (by decide) ?_
  refine s_iastore (pc' := 72) (i := 2) A V36 (by decide) (Nat.le_of_ble_eq_true rfl) ge26 at_71 rfl fun T h37 A W38 V39 => ?_
  have V39 : AA Z h37 b24 .int [.int (0 : Int32), .int (1 : Int32), .int (2 : Int32), .int (0 : Int32)] := V39
  refine s_dup (pc' := 73) A at_72 rfl rfl ?_
  refine s_iconst (pc' := 74) (z := (3 : Int32)) A at_73 rfl (by decide) ?_
  refine s_iconst (pc' := 75) (z := (3 : Int32)) A at_74 rfl (by decide) ?_
  refine s_iastore (pc' := 76) (i := 3) A V39 (by decide) (Nat.le_of_ble_eq_true rfl) ge26 at_75 rfl fun T h40 A W41 V42 => ?_
  have V42 : AA Z h40 b24 .int [.int (0 : Int32), .int (1 : Int32), .int (2 : Int32), .int (3 : Int32)] := V42
  refine s_astore (pc' := 78) (Ls' := #[iv q0, iv q1, iv q2, iv (Int32.ofNat x0), iv (Int32.ofNat y0), iv (Int32.ofNat x1), iv (Int32.ofNat y1), iv (Int32.ofNat x2), iv (Int32.ofNat y2), iv (Int32.ofNat ee), rv b2, rv b24, U0, U0, U0, U0, U0]) A at_76 rfl rfl rfl ?_
  have hid : 1 < 2 ∧ 2 < 3 ∧ 3 < 4 ∧ True := by decide
  have V43 := (((((V19.ext X27).other W32 ne30).other W35 ne30).other W38 ne30).other W41 ne30)
  have V44 : AA Z h40 r9 .int [ii 0, ii 1, ii 2, ii 3] := V43
  have V45 : AA Z h40 b24 .int [ii (rt 1 2 3 0), ii (rt 1 2 3 1), ii (rt 1 2 3 2), ii (rt 1 2 3 3)] := V42
  refine s_iloadN (pc' := 79) A at_78 rfl rfl ?_
  refine s_iconst (pc' := 80) (z := (1 : Int32)) A at_79 rfl (by decide) ?_
  refine s_iand (pc' := 81) (z := (q1 &&& (1 : Int32))) A at_80 rfl rfl ?_
  by_cases hc81_1 : (q1 &&& (1 : Int32)) = (0 : Int32)
  ·
   refine s_ifN (pc' := 84) A at_81 rfl ((if0 _ _).trans (teq hc81_1).2) ?_
   refine s_aload (pc' := 86) A at_84 rfl rfl rfl ?_
   refine s_iloadN (pc' := 87) A at_86 rfl rfl ?_
   refine s_iload (pc' := 89) A at_87 rfl rfl ?_
   have E52 := (((((E17.ext X27).wr W32).wr W35).wr W38).wr W41)
   have F53 := (((((F18.ext X27).other W32 (Or.inl ne29)).other W35 (Or.inl ne29)).other W38 (Or.inl ne29)).other W41 (Or.inl ne29))
   refine s_virtual (pc' := 92) (y := y3_join) (argsL := [(.int (Int32.ofNat x0)), (.int (Int32.ofNat y0))]) (rest := []) (z := y3_join) A E52 (join_ok l Z a0 hw n0 h40 A.size b2 r9 1 2 3 x0 y0 ⟨hid.1, hid.2.1, hid.2.2.1, trivial⟩ hx0 hy0 ⟨E52, F53, V44, ne20, ge21, ge22⟩) (w12 hw) (w13 hw) (nf_same (C := "") (w15 hw)) (w15 hw) (w14 hw) (w2 hw) (w16 hw) (by decide) pd__II_V rfl (W := 0) (by decide) (by decide) (Nat.le_of_eq rfl) (by decide) (by decide) rfl rfl at_89 rfl fun T h54 v55 A Q56 => ?_
   obtain ⟨q46, q47, q48, hq49, rfl, K50, H51⟩ := Q56
   obtain ⟨E57, F58, V59, ne60, ge61, ge62⟩ := H51
   refine Wp.stk (st' := []) rfl ?_
   refine s_aload (pc' := 94) A at_92 rfl rfl rfl ?_
   refine s_iloadN (pc' := 95) A at_94 rfl rfl ?_
   refine s_iload (pc' := 97) A at_95 rfl rfl ?_
   have V63 := (V45.keep K50 (ninS (Ne.symm ne29) (ninS (Ne.symm ne30) nin0)))
   refine s_static (pc' := 100) (y := y4_merge) (argsL := [(.ref b24), (.int (Int32.ofNat x0)), (.int (Int32.ofNat y0))]) (rest := []) A (merge_ok l Z a0 hw n0 h54 A.size b24 (rt 1 2 3 0) (rt 1 2 3 1) (rt 1 2 3 2) (rt 1 2 3 3) x0 y0 (own_rt4 _ hid.1 _ hid.2.1 _ hid.2.2.1 _ (by decide)) (own_rt4 _ hid.1 _ hid.2.1 _ hid.2.2.1 _ (by decide)) (own_rt4 _ hid.1 _ hid.2.1 _ hid.2.2.1 _ (by decide)) (own_rt4 _ hid.1 _ hid.2.1 _ hid.2.2.1 _ (by decide)) hx0 hy0 V63 ge26) (w29 hw) (w30 hw) (w31 hw) (w32 hw) (by decide) pd___III_V rfl (W := 0) (by decide) (by decide) (Nat.le_of_eq rfl) (by decide) (by decide) rfl rfl at_97 rfl fun T h66 v67 A Q68 => ?_
   obtain ⟨rfl, K64, V65⟩ := Q68
   rw [own_Lrt 1 2 3 x0 hx0, own_Lrt 1 2 3 y0 hy0, ← hq49.2.2.2 0 (by decide), ← hq49.2.2.2 1 (by decide), ← hq49.2.2.2 2 (by decide), ← hq49.2.2.2 3 (by decide)] at V65
   refine Wp.stk (st' := []) rfl ?_
   refine s_iloadN (pc' := 101) A at_100 rfl rfl ?_
   refine s_iconst (pc' := 102) (z := (2 : Int32)) A at_101 rfl (by decide) ?_
   refine s_iand (pc' := 103) (z := (q1 &&& (2 : Int32))) A at_102 rfl rfl ?_
   by_cases hc103_1 : (q1 &&& (2 : Int32)) = (0 : Int32)
   ·
    refine s_ifN (pc' := 106) A at_103 rfl ((if0 _ _).trans (teq hc103_1).2) ?_
    refine s_aload (pc' := 108) A at_106 rfl rfl rfl ?_
    refine s_iload (pc' := 110) A at_108 rfl rfl ?_
    refine s_iload (pc' := 112) A at_110 rfl rfl ?_
    have E75 := (E57.keep K64)
    have F76 := (F58.keep K64 (ninS ne29 nin0))
    have V77 := (V59.keep K64 (ninS ne30 nin0))
    refine s_virtual (pc' := 115) (y := y3_join) (argsL := [(.int (Int32.ofNat x1)), (.int (Int32.ofNat y1))]) (rest := []) (z := y3_join) A E75 (join_ok l Z a0 hw n0 h66 A.size b2 r9 q46 q47 q48 x1 y1 ⟨hq49.1, hq49.2.1, hq49.2.2.1, trivial⟩ hx1 hy1 ⟨E75, F76, V77, ne60, ge61, ge62⟩) (w12 hw) (w13 hw) (nf_same (C := "") (w15 hw)) (w15 hw) (w14 hw) (w2 hw) (w16 hw) (by decide) pd__II_V rfl (W := 0) (by decide) (by decide) (Nat.le_of_eq rfl) (by decide) (by decide) rfl rfl at_112 rfl fun T h78 v79 A Q80 => ?_
    obtain ⟨q69, q70, q71, hq72, rfl, K73, H74⟩ := Q80
    obtain ⟨E81, F82, V83, ne84, ge85, ge86⟩ := H74
    refine Wp.stk (st' := []) rfl ?_
    refine s_aload (pc' := 117) A at_115 rfl rfl rfl ?_
    refine s_iload (pc' := 119) A at_117 rfl rfl ?_
    refine s_iload (pc' := 121) A at_119 rfl rfl ?_
    have V87 := (V65.keep K73 (ninS (Ne.symm ne29) (ninS (Ne.symm ne30) nin0)))
    refine s_static (pc' := 124) (y := y4_merge) (argsL := [(.ref b24), (.int (Int32.ofNat x1)), (.int (Int32.ofNat y1))]) (rest := []) A (merge_ok l Z a0 hw n0 h78 A.size b24 (rt q46 q47 q48 0) (rt q46 q47 q48 1) (rt q46 q47 q48 2) (rt q46 q47 q48 3) x1 y1 (own_rt4 _ hq49.1 _ hq49.2.1 _ hq49.2.2.1 _ (by decide)) (own_rt4 _ hq49.1 _ hq49.2.1 _ hq49.2.2.1 _ (by decide)) (own_rt4 _ hq49.1 _ hq49.2.1 _ hq49.2.2.1 _ (by decide)) (own_rt4 _ hq49.1 _ hq49.2.1 _ hq49.2.2.1 _ (by decide)) hx1 hy1 V87 ge26) (w29 hw) (w30 hw) (w31 hw) (w32 hw) (by decide) pd___III_V rfl (W := 0) (by decide) (by decide) (Nat.le_of_eq rfl) (by decide) (by decide) rfl rfl at_121 rfl fun T h90 v91 A Q92 => ?_
    obtain ⟨rfl, K88, V89⟩ := Q92
    rw [own_Lrt q46 q47 q48 x1 hx1, own_Lrt q46 q47 q48 y1 hy1, ← hq72.2.2.2 0 (by decide), ← hq72.2.2.2 1 (by decide), ← hq72.2.2.2 2 (by decide), ← hq72.2.2.2 3 (by decide)] at V89
    refine Wp.stk (st' := []) rfl ?_
    refine s_iloadN (pc' := 125) A at_124 rfl rfl ?_
    refine s_iconst (pc' := 126) (z := (4 : Int32)) A at_125 rfl (by decide) ?_
    refine s_iand (pc' := 127) (z := (q1 &&& (4 : Int32))) A at_126 rfl rfl ?_
    by_cases hc127_1 : (q1 &&& (4 : Int32)) = (0 : Int32)
    ·
     refine s_ifN (pc' := 130) A at_127 rfl ((if0 _ _).trans (teq hc127_1).2) ?_
     refine s_aload (pc' := 132) A at_130 rfl rfl rfl ?_
     refine s_iload (pc' := 134) A at_132 rfl rfl ?_
     refine s_iload (pc' := 136) A at_134 rfl rfl ?_
     have E99 := (E81.keep K88)
     have F100 := (F82.keep K88 (ninS ne29 nin0))
     have V101 := (V83.keep K88 (ninS ne30 nin0))
     refine s_virtual (pc' := 139) (y := y3_join) (argsL := [(.int (Int32.ofNat x2)), (.int (Int32.ofNat y2))]) (rest := []) (z := y3_join) A E99 (join_ok l Z a0 hw n0 h90 A.size b2 r9 q69 q70 q71 x2 y2 ⟨hq72.1, hq72.2.1, hq72.2.2.1, trivial⟩ hx2 hy2 ⟨E99, F100, V101, ne84, ge85, ge86⟩) (w12 hw) (w13 hw) (nf_same (C := "") (w15 hw)) (w15 hw) (w14 hw) (w2 hw) (w16 hw) (by decide) pd__II_V rfl (W := 0) (by decide) (by decide) (Nat.le_of_eq rfl) (by decide) (by decide) rfl rfl at_136 rfl fun T h102 v103 A Q104 => ?_
     obtain ⟨q93, q94, q95, hq96, rfl, K97, H98⟩ := Q104
     obtain ⟨E105, F106, V107, ne108, ge109, ge110⟩ := H98
     refine Wp.stk (st' := []) rfl ?_
     refine s_aload (pc' := 141) A at_139 rfl rfl rfl ?_
     refine s_iload (pc' := 143) A at_141 rfl rfl ?_
     refine s_iload (pc' := 145) A at_143 rfl rfl ?_
     have V111 := (V89.keep K97 (ninS (Ne.symm ne29) (ninS (Ne.symm ne30) nin0)))
     refine s_static (pc' := 148) (y := y4_merge) (argsL := [(.ref b24), (.int (Int32.ofNat x2)), (.int (Int32.ofNat y2))]) (rest := []) A (merge_ok l Z a0 hw n0 h102 A.size b24 (rt q69 q70 q71 0) (rt q69 q70 q71 1) (rt q69 q70 q71 2) (rt q69 q70 q71 3) x2 y2 (own_rt4 _ hq72.1 _ hq72.2.1 _ hq72.2.2.1 _ (by decide)) (own_rt4 _ hq72.1 _ hq72.2.1 _ hq72.2.2.1 _ (by decide)) (own_rt4 _ hq72.1 _ hq72.2.1 _ hq72.2.2.1 _ (by decide)) (own_rt4 _ hq72.1 _ hq72.2.1 _ hq72.2.2.1 _ (by decide)) hx2 hy2 V111 ge26) (w29 hw) (w30 hw) (w31 hw) (w32 hw) (by decide) pd___III_V rfl (W := 0) (by decide) (by decide) (Nat.le_of_eq rfl) (by decide) (by decide) rfl rfl at_145 rfl fun T h114 v115 A Q116 => ?_
     obtain ⟨rfl, K112, V113⟩ := Q116
     rw [own_Lrt q69 q70 q71 x2 hx2, own_Lrt q69 q70 q71 y2 hy2, ← hq96.2.2.2 0 (by decide), ← hq96.2.2.2 1 (by decide), ← hq96.2.2.2 2 (by decide), ← hq96.2.2.2 3 (by decide)] at V113
     refine Wp.stk (st' := []) rfl ?_
     refine s_aload (pc' := 150) A at_148 rfl rfl rfl ?_
     refine s_iload (pc' := 152) A at_150 rfl rfl ?_
     have E123 := (E105.keep K112)
     have F124 := (F106.keep K112 (ninS ne29 nin0))
     have V125 := (V107.keep K112 (ninS ne30 nin0))
     refine s_virtual (pc' := 155) (y := y0_find) (argsL := [(.int (Int32.ofNat ee))]) (rest := []) (z := y0_find) A E123 (find_ok l Z a0 hw n0 h114 A.size b2 r9 q93 q94 q95 ee hq96.1 hq96.2.1 hq96.2.2.1 hee ⟨E123, F124, V125, ne108, ge109, ge110⟩) (w35 hw) (w18 hw) (nf_same (C := "") (w20 hw)) (w20 hw) (w19 hw) (w2 hw) (w21 hw) (by decide) pd__I_I rfl (W := 0) (by decide) (by decide) (Nat.le_of_eq rfl) (by decide) (by decide) rfl rfl at_152 rfl fun T h126 v127 A Q128 => ?_
     obtain ⟨q117, q118, q119, hq120, rfl, K121, H122⟩ := Q128
     obtain ⟨E129, F130, V131, ne132, ge133, ge134⟩ := H122
     refine Wp.stk (st' := [(.int (Int32.ofNat (rt q93 q94 q95 ee)))]) rfl ?_
     refine s_aload (pc' := 157) A at_155 rfl rfl rfl ?_
     refine s_iload (pc' := 159) A at_157 rfl rfl ?_
     have V135 := (V113.keep K121 (ninS (Ne.symm ne29) (ninS (Ne.symm ne30) nin0)))
     refine s_iaload (pc' := 160) (i := ee) (v := (.int (Int32.ofNat (Lf (rt q93 q94 q95 0) (rt q93 q94 q95 1) (rt q93 q94 q95 2) (rt q93 q94 q95 3) ee)))) A V135 (own_small hee) (own_at _ _ _ _ _ hee) at_159 rfl ?_
     refine s_icmpN (pc' := 163) A at_160 rfl (teq (congrArg Int32.ofNat (((own_Lrt q93 q94 q95 ee hee).symm)))).2 ?_
     refine s_iconst (pc' := 164) (z := (1 : Int32)) A at_163 rfl (by decide) ?_
     refine s_goto (pc' := 168) A at_164 (by decide) (by decide) ?_
     refine s_istore (pc' := 170) (Ls' := #[iv q0, iv q1, iv q2, iv (Int32.ofNat x0), iv (Int32.ofNat y0), iv (Int32.ofNat x1), iv (Int32.ofNat y1), iv (Int32.ofNat x2), iv (Int32.ofNat y2), iv (Int32.ofNat ee), rv b2, rv b24, iv 1, U0, U0, U0, U0]) A at_168 rfl rfl ?_
     refine s_aload (pc' := 172) A at_170 rfl rfl rfl ?_
     refine s_iconst (pc' := 173) (z := (0 : Int32)) A at_172 rfl (by decide) ?_
     refine s_virtual (pc' := 176) (y := y0_find) (argsL := [(.int (0 : Int32))]) (rest := []) (z := y0_find) A E129 (find_ok l Z a0 hw n0 h126 A.size b2 r9 q117 q118 q119 0 hq120.1 hq120.2.1 hq120.2.2.1 (by decide) ⟨E129, F130, V131, ne132, ge133, ge134⟩) (w35 hw) (w18 hw) (nf_same (C := "") (w20 hw)) (w20 hw) (w19 hw) (w2 hw) (w21 hw) (by decide) pd__I_I rfl (W := 0) (by decide) (by decide) (Nat.le_of_eq rfl) (by decide) (by decide) rfl rfl at_173 rfl fun T h142 v143 A Q144 => ?_
     obtain ⟨q136, q137, q138, hq139, rfl, K140, H141⟩ := Q144
     obtain ⟨E145, F146, V147, ne148, ge149, ge150⟩ := H141
     refine Wp.stk (st' := [(.int (Int32.ofNat (rt q117 q118 q119 0)))]) rfl ?_
     refine s_aload (pc' := 178) A at_176 rfl rfl rfl ?_
     refine s_iconst (pc' := 179) (z := (0 : Int32)) A at_178 rfl (by decide) ?_
     have V151 := (V135.keep K140 (ninS (Ne.symm ne29) (ninS (Ne.symm ne30) nin0)))
     refine s_iaload (pc' := 180) (i := 0) (v := (.int (Int32.ofNat (rt q93 q94 q95 0)))) A V151 (by decide) rfl at_179 rfl ?_
     refine s_icmpN (pc' := 183) A at_180 rfl (teq (congrArg Int32.ofNat ((hq120.2.2.2 0 (by decide))))).2 ?_
     refine s_iconst (pc' := 184) (z := (1 : Int32)) A at_183 rfl (by decide) ?_
     refine s_goto (pc' := 188) A at_184 (by decide) (by decide) ?_
     refine s_istore (pc' := 190) (Ls' := #[iv q0, iv q1, iv q2, iv (Int32.ofNat x0), iv (Int32.ofNat y0), iv (Int32.ofNat x1), iv (Int32.ofNat y1), iv (Int32.ofNat x2), iv (Int32.ofNat y2), iv (Int32.ofNat ee), rv b2, rv b24, iv 1, iv 1, U0, U0, U0]) A at_188 rfl rfl ?_
     refine s_aload (pc' := 192) A at_190 rfl rfl rfl ?_
     refine s_iconst (pc' := 193) (z := (1 : Int32)) A at_192 rfl (by decide) ?_
     refine s_virtual (pc' := 196) (y := y0_find) (argsL := [(.int (1 : Int32))]) (rest := []) (z := y0_find) A E145 (find_ok l Z a0 hw n0 h142 A.size b2 r9 q136 q137 q138 1 hq139.1 hq139.2.1 hq139.2.2.1 (by decide) ⟨E145, F146, V147, ne148, ge149, ge150⟩) (w35 hw) (w18 hw) (nf_same (C := "") (w20 hw)) (w20 hw) (w19 hw) (w2 hw) (w21 hw) (by decide) pd__I_I rfl (W := 0) (by decide) (by decide) (Nat.le_of_eq rfl) (by decide) (by decide) rfl rfl at_193 rfl fun T h158 v159 A Q160 => ?_
     obtain ⟨q152, q153, q154, hq155, rfl, K156, H157⟩ := Q160
     obtain ⟨E161, F162, V163, ne164, ge165, ge166⟩ := H157
     refine Wp.stk (st' := [(.int (Int32.ofNat (rt q136 q137 q138 1)))]) rfl ?_
     refine s_aload (pc' := 198) A at_196 rfl rfl rfl ?_
     refine s_iconst (pc' := 199) (z := (1 : Int32)) A at_198 rfl (by decide) ?_
     have V167 := (V151.keep K156 (ninS (Ne.symm ne29) (ninS (Ne.symm ne30) nin0)))
     refine s_iaload (pc' := 200) (i := 1) (v := (.int (Int32.ofNat (rt q93 q94 q95 1)))) A V167 (by decide) rfl at_199 rfl ?_
     refine s_icmpN (pc' := 203) A at_200 rfl (teq (congrArg Int32.ofNat (((hq139.2.2.2 1 (by decide)).trans (hq120.2.2.2 1 (by decide)))))).2 ?_
     refine s_iconst (pc' := 204) (z := (1 : Int32)) A at_203 rfl (by decide) ?_
     refine s_goto (pc' := 208) A at_204 (by decide) (by decide) ?_
     refine s_istore (pc' := 210) (Ls' := #[iv q0, iv q1, iv q2, iv (Int32.ofNat x0), iv (Int32.ofNat y0), iv (Int32.ofNat x1), iv (Int32.ofNat y1), iv (Int32.ofNat x2), iv (Int32.ofNat y2), iv (Int32.ofNat ee), rv b2, rv b24, iv 1, iv 1, iv 1, U0, U0]) A at_208 rfl rfl ?_
     refine s_aload (pc' := 212) A at_210 rfl rfl rfl ?_
     refine s_iconst (pc' := 213) (z := (2 : Int32)) A at_212 rfl (by decide) ?_
     refine s_virtual (pc' := 216) (y := y0_find) (argsL := [(.int (2 : Int32))]) (rest := []) (z := y0_find) A E161 (find_ok l Z a0 hw n0 h158 A.size b2 r9 q152 q153 q154 2 hq155.1 hq155.2.1 hq155.2.2.1 (by decide) ⟨E161, F162, V163, ne164, ge165, ge166⟩) (w35 hw) (w18 hw) (nf_same (C := "") (w20 hw)) (w20 hw) (w19 hw) (w2 hw) (w21 hw) (by decide) pd__I_I rfl (W := 0) (by decide) (by decide) (Nat.le_of_eq rfl) (by decide) (by decide) rfl rfl at_213 rfl fun T h174 v175 A Q176 => ?_
     obtain ⟨q168, q169, q170, hq171, rfl, K172, H173⟩ := Q176
     obtain ⟨E177, F178, V179, ne180, ge181, ge182⟩ := H173
     refine Wp.stk (st' := [(.int (Int32.ofNat (rt q152 q153 q154 2)))]) rfl ?_
     refine s_aload (pc' := 218) A at_216 rfl rfl rfl ?_
     refine s_iconst (pc' := 219) (z := (2 : Int32)) A at_218 rfl (by decide) ?_
     have V183 := (V167.keep K172 (ninS (Ne.symm ne29) (ninS (Ne.symm ne30) nin0)))
     refine s_iaload (pc' := 220) (i := 2) (v := (.int (Int32.ofNat (rt q93 q94 q95 2)))) A V183 (by decide) rfl at_219 rfl ?_
     refine s_icmpN (pc' := 223) A at_220 rfl (teq (congrArg Int32.ofNat (((hq155.2.2.2 2 (by decide)).trans ((hq139.2.2.2 2 (by decide)).trans (hq120.2.2.2 2 (by decide))))))).2 ?_
     refine s_iconst (pc' := 224) (z := (1 : Int32)) A at_223 rfl (by decide) ?_
     refine s_goto (pc' := 228) A at_224 (by decide) (by decide) ?_
     refine s_istore (pc' := 230) (Ls' := #[iv q0, iv q1, iv q2, iv (Int32.ofNat x0), iv (Int32.ofNat y0), iv (Int32.ofNat x1), iv (Int32.ofNat y1), iv (Int32.ofNat x2), iv (Int32.ofNat y2), iv (Int32.ofNat ee), rv b2, rv b24, iv 1, iv 1, iv 1, iv 1, U0]) A at_228 rfl rfl ?_
     refine s_aload (pc' := 232) A at_230 rfl rfl rfl ?_
     refine s_iconst (pc' := 233) (z := (3 : Int32)) A at_232 rfl (by decide) ?_
     refine s_virtual (pc' := 236) (y := y0_find) (argsL := [(.int (3 : Int32))]) (rest := []) (z := y0_find) A E177 (find_ok l Z a0 hw n0 h174 A.size b2 r9 q168 q169 q170 3 hq171.1 hq171.2.1 hq171.2.2.1 (by decide) ⟨E177, F178, V179, ne180, ge181, ge182⟩) (w35 hw) (w18 hw) (nf_same (C := "") (w20 hw)) (w20 hw) (w19 hw) (w2 hw) (w21 hw) (by decide) pd__I_I rfl (W := 0) (by decide) (by decide) (Nat.le_of_eq rfl) (by decide) (by decide) rfl rfl at_233 rfl fun T h190 v191 A Q192 => ?_
     obtain ⟨q184, q185, q186, hq187, rfl, K188, H189⟩ := Q192
     obtain ⟨E193, F194, V195, ne196, ge197, ge198⟩ := H189
     refine Wp.stk (st' := [(.int (Int32.ofNat (rt q168 q169 q170 3)))]) rfl ?_
     refine s_aload (pc' := 238) A at_236 rfl rfl rfl ?_
     refine s_iconst (pc' := 239) (z := (3 : Int32)) A at_238 rfl (by decide) ?_
     have V199 := (V183.keep K188 (ninS (Ne.symm ne29) (ninS (Ne.symm ne30) nin0)))
     refine s_iaload (pc' := 240) (i := 3) (v := (.int (Int32.ofNat (rt q93 q94 q95 3)))) A V199 (by decide) rfl at_239 rfl ?_
     refine s_icmpN (pc' := 243) A at_240 rfl (teq (congrArg Int32.ofNat (((hq171.2.2.2 3 (by decide)).trans ((hq155.2.2.2 3 (by decide)).trans ((hq139.2.2.2 3 (by decide)).trans (hq120.2.2.2 3 (by decide)))))))).2 ?_
     refine s_iconst (pc' := 244) (z := (1 : Int32)) A at_243 rfl (by decide) ?_
     refine s_goto (pc' := 248) A at_244 (by decide) (by decide) ?_
     refine s_istore (pc' := 250) (Ls' := #[iv q0, iv q1, iv q2, iv (Int32.ofNat x0), iv (Int32.ofNat y0), iv (Int32.ofNat x1), iv (Int32.ofNat y1), iv (Int32.ofNat x2), iv (Int32.ofNat y2), iv (Int32.ofNat ee), rv b2, rv b24, iv 1, iv 1, iv 1, iv 1, iv 1]) A at_248 rfl rfl ?_
     refine s_iload (pc' := 252) A at_250 rfl rfl ?_
     refine s_ifN (pc' := 255) A at_252 rfl (by decide) ?_
     refine s_iload (pc' := 257) A at_255 rfl rfl ?_
     refine s_ifN (pc' := 260) A at_257 rfl (by decide) ?_
     refine s_iload (pc' := 262) A at_260 rfl rfl ?_
     refine s_ifN (pc' := 265) A at_262 rfl (by decide) ?_
     refine s_iload (pc' := 267) A at_265 rfl rfl ?_
     refine s_ifN (pc' := 270) A at_267 rfl (by decide) ?_
     refine s_iload (pc' := 272) A at_270 rfl rfl ?_
     refine s_ifN (pc' := 275) A at_272 rfl (by decide) ?_
     refine s_iconst (pc' := 276) (z := (1 : Int32)) A at_275 rfl (by decide) ?_
     refine s_goto (pc' := 280) A at_276 (by decide) (by decide) ?_
     exact r_bool A rfl (by decide) at_280 (by decide) (by decide) (rfl)
    ·
     refine s_ifY (pc' := 148) A at_127 ((if0 _ _).trans (feq hc127_1).2) (by decide) (by decide) ?_
     refine s_aload (pc' := 150) A at_148 rfl rfl rfl ?_
     refine s_iload (pc' := 152) A at_150 rfl rfl ?_
     have E206 := (E81.keep K88)
     have F207 := (F82.keep K88 (ninS ne29 nin0))
     have V208 := (V83.keep K88 (ninS ne30 nin0))
     refine s_virtual (pc' := 155) (y := y0_find) (argsL := [(.int (Int32.ofNat ee))]) (rest := []) (z := y0_find) A E206 (find_ok l Z a0 hw n0 h90 A.size b2 r9 q69 q70 q71 ee hq72.1 hq72.2.1 hq72.2.2.1 hee ⟨E206, F207, V208, ne84, ge85, ge86⟩) (w35 hw) (w18 hw) (nf_same (C := "") (w20 hw)) (w20 hw) (w19 hw) (w2 hw) (w21 hw) (by decide) pd__I_I rfl (W := 0) (by decide) (by decide) (Nat.le_of_eq rfl) (by decide) (by decide) rfl rfl at_152 rfl fun T h209 v210 A Q211 => ?_
     obtain ⟨q200, q201, q202, hq203, rfl, K204, H205⟩ := Q211
     obtain ⟨E212, F213, V214, ne215, ge216, ge217⟩ := H205
     refine Wp.stk (st' := [(.int (Int32.ofNat (rt q69 q70 q71 ee)))]) rfl ?_
     refine s_aload (pc' := 157) A at_155 rfl rfl rfl ?_
     refine s_iload (pc' := 159) A at_157 rfl rfl ?_
     have V218 := (V89.keep K204 (ninS (Ne.symm ne29) (ninS (Ne.symm ne30) nin0)))
     refine s_iaload (pc' := 160) (i := ee) (v := (.int (Int32.ofNat (Lf (rt q69 q70 q71 0) (rt q69 q70 q71 1) (rt q69 q70 q71 2) (rt q69 q70 q71 3) ee)))) A V218 (own_small hee) (own_at _ _ _ _ _ hee) at_159 rfl ?_
     refine s_icmpN (pc' := 163) A at_160 rfl (teq (congrArg Int32.ofNat (((own_Lrt q69 q70 q71 ee hee).symm)))).2 ?_
     refine s_iconst (pc' := 164) (z := (1 : Int32)) A at_163 rfl (by decide) ?_
     refine s_goto (pc' := 168) A at_164 (by decide) (by decide) ?_
     refine s_istore (pc' := 170) (Ls' := #[iv q0, iv q1, iv q2, iv (Int32.ofNat x0), iv (Int32.ofNat y0), iv (Int32.ofNat x1), iv (Int32.ofNat y1), iv (Int32.ofNat x2), iv (Int32.ofNat y2), iv (Int32.ofNat ee), rv b2, rv b24, iv 1, U0, U0, U0, U0]) A at_168 rfl rfl ?_
     refine s_aload (pc' := 172) A at_170 rfl rfl rfl ?_
     refine s_iconst (pc' := 173) (z := (0 : Int32)) A at_172 rfl (by decide) ?_
     refine s_virtual (pc' := 176) (y := y0_find) (argsL := [(.int (0 : Int32))]) (rest := []) (z := y0_find) A E212 (find_ok l Z a0 hw n0 h209 A.size b2 r9 q200 q201 q202 0 hq203.1 hq203.2.1 hq203.2.2.1 (by decide) ⟨E212, F213, V214, ne215, ge216, ge217⟩) (w35 hw) (w18 hw) (nf_same (C := "") (w20 hw)) (w20 hw) (w19 hw) (w2 hw) (w21 hw) (by decide) pd__I_I rfl (W := 0) (by decide) (by decide) (Nat.le_of_eq rfl) (by decide) (by decide) rfl rfl at_173 rfl fun T h225 v226 A Q227 => ?_
     obtain ⟨q219, q220, q221, hq222, rfl, K223, H224⟩ := Q227
     obtain ⟨E228, F229, V230, ne231, ge232, ge233⟩ := H224
     refine Wp.stk (st' := [(.int (Int32.ofNat (rt q200 q201 q202 0)))]) rfl ?_
     refine s_aload (pc' := 178) A at_176 rfl rfl rfl ?_
     refine s_iconst (pc' := 179) (z := (0 : Int32)) A at_178 rfl (by decide) ?_
     have V234 := (V218.keep K223 (ninS (Ne.symm ne29) (ninS (Ne.symm ne30) nin0)))
     refine s_iaload (pc' := 180) (i := 0) (v := (.int (Int32.ofNat (rt q69 q70 q71 0)))) A V234 (by decide) rfl at_179 rfl ?_
     refine s_icmpN (pc' := 183) A at_180 rfl (teq (congrArg Int32.ofNat ((hq203.2.2.2 0 (by decide))))).2 ?_
     refine s_iconst (pc' := 184) (z := (1 : Int32)) A at_183 rfl (by decide) ?_
     refine s_goto (pc' := 188) A at_184 (by decide) (by decide) ?_
     refine s_istore (pc' := 190) (Ls' := #[iv q0, iv q1, iv q2, iv (Int32.ofNat x0), iv (Int32.ofNat y0), iv (Int32.ofNat x1), iv (Int32.ofNat y1), iv (Int32.ofNat x2), iv (Int32.ofNat y2), iv (Int32.ofNat ee), rv b2, rv b24, iv 1, iv 1, U0, U0, U0]) A at_188 rfl rfl ?_
     refine s_aload (pc' := 192) A at_190 rfl rfl rfl ?_
     refine s_iconst (pc' := 193) (z := (1 : Int32)) A at_192 rfl (by decide) ?_
     refine s_virtual (pc' := 196) (y := y0_find) (argsL := [(.int (1 : Int32))]) (rest := []) (z := y0_find) A E228 (find_ok l Z a0 hw n0 h225 A.size b2 r9 q219 q220 q221 1 hq222.1 hq222.2.1 hq222.2.2.1 (by decide) ⟨E228, F229, V230, ne231, ge232, ge233⟩) (w35 hw) (w18 hw) (nf_same (C := "") (w20 hw)) (w20 hw) (w19 hw) (w2 hw) (w21 hw) (by decide) pd__I_I rfl (W := 0) (by decide) (by decide) (Nat.le_of_eq rfl) (by decide) (by decide) rfl rfl at_193 rfl fun T h241 v242 A Q243 => ?_
     obtain ⟨q235, q236, q237, hq238, rfl, K239, H240⟩ := Q243
     obtain ⟨E244, F245, V246, ne247, ge248, ge249⟩ := H240
     refine Wp.stk (st' := [(.int (Int32.ofNat (rt q219 q220 q221 1)))]) rfl ?_
     refine s_aload (pc' := 198) A at_196 rfl rfl rfl ?_
     refine s_iconst (pc' := 199) (z := (1 : Int32)) A at_198 rfl (by decide) ?_
     have V250 := (V234.keep K239 (ninS (Ne.symm ne29) (ninS (Ne.symm ne30) nin0)))
     refine s_iaload (pc' := 200) (i := 1) (v := (.int (Int32.ofNat (rt q69 q70 q71 1)))) A V250 (by decide) rfl at_199 rfl ?_
     refine s_icmpN (pc' := 203) A at_200 rfl (teq (congrArg Int32.ofNat (((hq222.2.2.2 1 (by decide)).trans (hq203.2.2.2 1 (by decide)))))).2 ?_
     refine s_iconst (pc' := 204) (z := (1 : Int32)) A at_203 rfl (by decide) ?_
     refine s_goto (pc' := 208) A at_204 (by decide) (by decide) ?_
     refine s_istore (pc' := 210) (Ls' := #[iv q0, iv q1, iv q2, iv (Int32.ofNat x0), iv (Int32.ofNat y0), iv (Int32.ofNat x1), iv (Int32.ofNat y1), iv (Int32.ofNat x2), iv (Int32.ofNat y2), iv (Int32.ofNat ee), rv b2, rv b24, iv 1, iv 1, iv 1, U0, U0]) A at_208 rfl rfl ?_
     refine s_aload (pc' := 212) A at_210 rfl rfl rfl ?_
     refine s_iconst (pc' := 213) (z := (2 : Int32)) A at_212 rfl (by decide) ?_
     refine s_virtual (pc' := 216) (y := y0_find) (argsL := [(.int (2 : Int32))]) (rest := []) (z := y0_find) A E244 (find_ok l Z a0 hw n0 h241 A.size b2 r9 q235 q236 q237 2 hq238.1 hq238.2.1 hq238.2.2.1 (by decide) ⟨E244, F245, V246, ne247, ge248, ge249⟩) (w35 hw) (w18 hw) (nf_same (C := "") (w20 hw)) (w20 hw) (w19 hw) (w2 hw) (w21 hw) (by decide) pd__I_I rfl (W := 0) (by decide) (by decide) (Nat.le_of_eq rfl) (by decide) (by decide) rfl rfl at_213 rfl fun T h257 v258 A Q259 => ?_
     obtain ⟨q251, q252, q253, hq254, rfl, K255, H256⟩ := Q259
     obtain ⟨E260, F261, V262, ne263, ge264, ge265⟩ := H256
     refine Wp.stk (st' := [(.int (Int32.ofNat (rt q235 q236 q237 2)))]) rfl ?_
     refine s_aload (pc' := 218) A at_216 rfl rfl rfl ?_
     refine s_iconst (pc' := 219) (z := (2 : Int32)) A at_218 rfl (by decide) ?_
     have V266 := (V250.keep K255 (ninS (Ne.symm ne29) (ninS (Ne.symm ne30) nin0)))
     refine s_iaload (pc' := 220) (i := 2) (v := (.int (Int32.ofNat (rt q69 q70 q71 2)))) A V266 (by decide) rfl at_219 rfl ?_
     refine s_icmpN (pc' := 223) A at_220 rfl (teq (congrArg Int32.ofNat (((hq238.2.2.2 2 (by decide)).trans ((hq222.2.2.2 2 (by decide)).trans (hq203.2.2.2 2 (by decide))))))).2 ?_
     refine s_iconst (pc' := 224) (z := (1 : Int32)) A at_223 rfl (by decide) ?_
     refine s_goto (pc' := 228) A at_224 (by decide) (by decide) ?_
     refine s_istore (pc' := 230) (Ls' := #[iv q0, iv q1, iv q2, iv (Int32.ofNat x0), iv (Int32.ofNat y0), iv (Int32.ofNat x1), iv (Int32.ofNat y1), iv (Int32.ofNat x2), iv (Int32.ofNat y2), iv (Int32.ofNat ee), rv b2, rv b24, iv 1, iv 1, iv 1, iv 1, U0]) A at_228 rfl rfl ?_
     refine s_aload (pc' := 232) A at_230 rfl rfl rfl ?_
     refine s_iconst (pc' := 233) (z := (3 : Int32)) A at_232 rfl (by decide) ?_
     refine s_virtual (pc' := 236) (y := y0_find) (argsL := [(.int (3 : Int32))]) (rest := []) (z := y0_find) A E260 (find_ok l Z a0 hw n0 h257 A.size b2 r9 q251 q252 q253 3 hq254.1 hq254.2.1 hq254.2.2.1 (by decide) ⟨E260, F261, V262, ne263, ge264, ge265⟩) (w35 hw) (w18 hw) (nf_same (C := "") (w20 hw)) (w20 hw) (w19 hw) (w2 hw) (w21 hw) (by decide) pd__I_I rfl (W := 0) (by decide) (by decide) (Nat.le_of_eq rfl) (by decide) (by decide) rfl rfl at_233 rfl fun T h273 v274 A Q275 => ?_
     obtain ⟨q267, q268, q269, hq270, rfl, K271, H272⟩ := Q275
     obtain ⟨E276, F277, V278, ne279, ge280, ge281⟩ := H272
     refine Wp.stk (st' := [(.int (Int32.ofNat (rt q251 q252 q253 3)))]) rfl ?_
     refine s_aload (pc' := 238) A at_236 rfl rfl rfl ?_
     refine s_iconst (pc' := 239) (z := (3 : Int32)) A at_238 rfl (by decide) ?_
     have V282 := (V266.keep K271 (ninS (Ne.symm ne29) (ninS (Ne.symm ne30) nin0)))
     refine s_iaload (pc' := 240) (i := 3) (v := (.int (Int32.ofNat (rt q69 q70 q71 3)))) A V282 (by decide) rfl at_239 rfl ?_
     refine s_icmpN (pc' := 243) A at_240 rfl (teq (congrArg Int32.ofNat (((hq254.2.2.2 3 (by decide)).trans ((hq238.2.2.2 3 (by decide)).trans ((hq222.2.2.2 3 (by decide)).trans (hq203.2.2.2 3 (by decide)))))))).2 ?_
     refine s_iconst (pc' := 244) (z := (1 : Int32)) A at_243 rfl (by decide) ?_
     refine s_goto (pc' := 248) A at_244 (by decide) (by decide) ?_
     refine s_istore (pc' := 250) (Ls' := #[iv q0, iv q1, iv q2, iv (Int32.ofNat x0), iv (Int32.ofNat y0), iv (Int32.ofNat x1), iv (Int32.ofNat y1), iv (Int32.ofNat x2), iv (Int32.ofNat y2), iv (Int32.ofNat ee), rv b2, rv b24, iv 1, iv 1, iv 1, iv 1, iv 1]) A at_248 rfl rfl ?_
     refine s_iload (pc' := 252) A at_250 rfl rfl ?_
     refine s_ifN (pc' := 255) A at_252 rfl (by decide) ?_
     refine s_iload (pc' := 257) A at_255 rfl rfl ?_
     refine s_ifN (pc' := 260) A at_257 rfl (by decide) ?_
     refine s_iload (pc' := 262) A at_260 rfl rfl ?_
     refine s_ifN (pc' := 265) A at_262 rfl (by decide) ?_
     refine s_iload (pc' := 267) A at_265 rfl rfl ?_
     refine s_ifN (pc' := 270) A at_267 rfl (by decide) ?_
     refine s_iload (pc' := 272) A at_270 rfl rfl ?_
     refine s_ifN (pc' := 275) A at_272 rfl (by decide) ?_
     refine s_iconst (pc' := 276) (z := (1 : Int32)) A at_275 rfl (by decide) ?_
     refine s_goto (pc' := 280) A at_276 (by decide) (by decide) ?_
     exact r_bool A rfl (by decide) at_280 (by decide) (by decide) (rfl)
   ·
    refine s_ifY (pc' := 124) A at_103 ((if0 _ _).trans (feq hc103_1).2) (by decide) (by decide) ?_
    refine s_iloadN (pc' := 125) A at_124 rfl rfl ?_
    refine s_iconst (pc' := 126) (z := (4 : Int32)) A at_125 rfl (by decide) ?_
    refine s_iand (pc' := 127) (z := (q1 &&& (4 : Int32))) A at_126 rfl rfl ?_
    by_cases hc127_1 : (q1 &&& (4 : Int32)) = (0 : Int32)
    ·
     refine s_ifN (pc' := 130) A at_127 rfl ((if0 _ _).trans (teq hc127_1).2) ?_
     refine s_aload (pc' := 132) A at_130 rfl rfl rfl ?_
     refine s_iload (pc' := 134) A at_132 rfl rfl ?_
     refine s_iload (pc' := 136) A at_134 rfl rfl ?_
     have E289 := (E57.keep K64)
     have F290 := (F58.keep K64 (ninS ne29 nin0))
     have V291 := (V59.keep K64 (ninS ne30 nin0))
     refine s_virtual (pc' := 139) (y := y3_join) (argsL := [(.int (Int32.ofNat x2)), (.int (Int32.ofNat y2))]) (rest := []) (z := y3_join) A E289 (join_ok l Z a0 hw n0 h66 A.size b2 r9 q46 q47 q48 x2 y2 ⟨hq49.1, hq49.2.1, hq49.2.2.1, trivial⟩ hx2 hy2 ⟨E289, F290, V291, ne60, ge61, ge62⟩) (w12 hw) (w13 hw) (nf_same (C := "") (w15 hw)) (w15 hw) (w14 hw) (w2 hw) (w16 hw) (by decide) pd__II_V rfl (W := 0) (by decide) (by decide) (Nat.le_of_eq rfl) (by decide) (by decide) rfl rfl at_136 rfl fun T h292 v293 A Q294 => ?_
     obtain ⟨q283, q284, q285, hq286, rfl, K287, H288⟩ := Q294
     obtain ⟨E295, F296, V297, ne298, ge299, ge300⟩ := H288
     refine Wp.stk (st' := []) rfl ?_
     refine s_aload (pc' := 141) A at_139 rfl rfl rfl ?_
     refine s_iload (pc' := 143) A at_141 rfl rfl ?_
     refine s_iload (pc' := 145) A at_143 rfl rfl ?_
     have V301 := (V65.keep K287 (ninS (Ne.symm ne29) (ninS (Ne.symm ne30) nin0)))
     refine s_static (pc' := 148) (y := y4_merge) (argsL := [(.ref b24), (.int (Int32.ofNat x2)), (.int (Int32.ofNat y2))]) (rest := []) A (merge_ok l Z a0 hw n0 h292 A.size b24 (rt q46 q47 q48 0) (rt q46 q47 q48 1) (rt q46 q47 q48 2) (rt q46 q47 q48 3) x2 y2 (own_rt4 _ hq49.1 _ hq49.2.1 _ hq49.2.2.1 _ (by decide)) (own_rt4 _ hq49.1 _ hq49.2.1 _ hq49.2.2.1 _ (by decide)) (own_rt4 _ hq49.1 _ hq49.2.1 _ hq49.2.2.1 _ (by decide)) (own_rt4 _ hq49.1 _ hq49.2.1 _ hq49.2.2.1 _ (by decide)) hx2 hy2 V301 ge26) (w29 hw) (w30 hw) (w31 hw) (w32 hw) (by decide) pd___III_V rfl (W := 0) (by decide) (by decide) (Nat.le_of_eq rfl) (by decide) (by decide) rfl rfl at_145 rfl fun T h304 v305 A Q306 => ?_
     obtain ⟨rfl, K302, V303⟩ := Q306
     rw [own_Lrt q46 q47 q48 x2 hx2, own_Lrt q46 q47 q48 y2 hy2, ← hq286.2.2.2 0 (by decide), ← hq286.2.2.2 1 (by decide), ← hq286.2.2.2 2 (by decide), ← hq286.2.2.2 3 (by decide)] at V303
     refine Wp.stk (st' := []) rfl ?_
     refine s_aload (pc' := 150) A at_148 rfl rfl rfl ?_
     refine s_iload (pc' := 152) A at_150 rfl rfl ?_
     have E313 := (E295.keep K302)
     have F314 := (F296.keep K302 (ninS ne29 nin0))
     have V315 := (V297.keep K302 (ninS ne30 nin0))
     refine s_virtual (pc' := 155) (y := y0_find) (argsL := [(.int (Int32.ofNat ee))]) (rest := []) (z := y0_find) A E313 (find_ok l Z a0 hw n0 h304 A.size b2 r9 q283 q284 q285 ee hq286.1 hq286.2.1 hq286.2.2.1 hee ⟨E313, F314, V315, ne298, ge299, ge300⟩) (w35 hw) (w18 hw) (nf_same (C := "") (w20 hw)) (w20 hw) (w19 hw) (w2 hw) (w21 hw) (by decide) pd__I_I rfl (W := 0) (by decide) (by decide) (Nat.le_of_eq rfl) (by decide) (by decide) rfl rfl at_152 rfl fun T h316 v317 A Q318 => ?_
     obtain ⟨q307, q308, q309, hq310, rfl, K311, H312⟩ := Q318
     obtain ⟨E319, F320, V321, ne322, ge323, ge324⟩ := H312
     refine Wp.stk (st' := [(.int (Int32.ofNat (rt q283 q284 q285 ee)))]) rfl ?_
     refine s_aload (pc' := 157) A at_155 rfl rfl rfl ?_
     refine s_iload (pc' := 159) A at_157 rfl rfl ?_
     have V325 := (V303.keep K311 (ninS (Ne.symm ne29) (ninS (Ne.symm ne30) nin0)))
     refine s_iaload (pc' := 160) (i := ee) (v := (.int (Int32.ofNat (Lf (rt q283 q284 q285 0) (rt q283 q284 q285 1) (rt q283 q284 q285 2) (rt q283 q284 q285 3) ee)))) A V325 (own_small hee) (own_at _ _ _ _ _ hee) at_159 rfl ?_
     refine s_icmpN (pc' := 163) A at_160 rfl (teq (congrArg Int32.ofNat (((own_Lrt q283 q284 q285 ee hee).symm)))).2 ?_
     refine s_iconst (pc' := 164) (z := (1 : Int32)) A at_163 rfl (by decide) ?_
     refine s_goto (pc' := 168) A at_164 (by decide) (by decide) ?_
     refine s_istore (pc' := 170) (Ls' := #[iv q0, iv q1, iv q2, iv (Int32.ofNat x0), iv (Int32.ofNat y0), iv (Int32.ofNat x1), iv (Int32.ofNat y1), iv (Int32.ofNat x2), iv (Int32.ofNat y2), iv (Int32.ofNat ee), rv b2, rv b24, iv 1, U0, U0, U0, U0]) A at_168 rfl rfl ?_
     refine s_aload (pc' := 172) A at_170 rfl rfl rfl ?_
     refine s_iconst (pc' := 173) (z := (0 : Int32)) A at_172 rfl (by decide) ?_
     refine s_virtual (pc' := 176) (y := y0_find) (argsL := [(.int (0 : Int32))]) (rest := []) (z := y0_find) A E319 (find_ok l Z a0 hw n0 h316 A.size b2 r9 q307 q308 q309 0 hq310.1 hq310.2.1 hq310.2.2.1 (by decide) ⟨E319, F320, V321, ne322, ge323, ge324⟩) (w35 hw) (w18 hw) (nf_same (C := "") (w20 hw)) (w20 hw) (w19 hw) (w2 hw) (w21 hw) (by decide) pd__I_I rfl (W := 0) (by decide) (by decide) (Nat.le_of_eq rfl) (by decide) (by decide) rfl rfl at_173 rfl fun T h332 v333 A Q334 => ?_
     obtain ⟨q326, q327, q328, hq329, rfl, K330, H331⟩ := Q334
     obtain ⟨E335, F336, V337, ne338, ge339, ge340⟩ := H331
     refine Wp.stk (st' := [(.int (Int32.ofNat (rt q307 q308 q309 0)))]) rfl ?_
     refine s_aload (pc' := 178) A at_176 rfl rfl rfl ?_
     refine s_iconst (pc' := 179) (z := (0 : Int32)) A at_178 rfl (by decide) ?_
     have V341 := (V325.keep K330 (ninS (Ne.symm ne29) (ninS (Ne.symm ne30) nin0)))
     refine s_iaload (pc' := 180) (i := 0) (v := (.int (Int32.ofNat (rt q283 q284 q285 0)))) A V341 (by decide) rfl at_179 rfl ?_
     refine s_icmpN (pc' := 183) A at_180 rfl (teq (congrArg Int32.ofNat ((hq310.2.2.2 0 (by decide))))).2 ?_
     refine s_iconst (pc' := 184) (z := (1 : Int32)) A at_183 rfl (by decide) ?_
     refine s_goto (pc' := 188) A at_184 (by decide) (by decide) ?_
     refine s_istore (pc' := 190) (Ls' := #[iv q0, iv q1, iv q2, iv (Int32.ofNat x0), iv (Int32.ofNat y0), iv (Int32.ofNat x1), iv (Int32.ofNat y1), iv (Int32.ofNat x2), iv (Int32.ofNat y2), iv (Int32.ofNat ee), rv b2, rv b24, iv 1, iv 1, U0, U0, U0]) A at_188 rfl rfl ?_
     refine s_aload (pc' := 192) A at_190 rfl rfl rfl ?_
     refine s_iconst (pc' := 193) (z := (1 : Int32)) A at_192 rfl (by decide) ?_
     refine s_virtual (pc' := 196) (y := y0_find) (argsL := [(.int (1 : Int32))]) (rest := []) (z := y0_find) A E335 (find_ok l Z a0 hw n0 h332 A.size b2 r9 q326 q327 q328 1 hq329.1 hq329.2.1 hq329.2.2.1 (by decide) ⟨E335, F336, V337, ne338, ge339, ge340⟩) (w35 hw) (w18 hw) (nf_same (C := "") (w20 hw)) (w20 hw) (w19 hw) (w2 hw) (w21 hw) (by decide) pd__I_I rfl (W := 0) (by decide) (by decide) (Nat.le_of_eq rfl) (by decide) (by decide) rfl rfl at_193 rfl fun T h348 v349 A Q350 => ?_
     obtain ⟨q342, q343, q344, hq345, rfl, K346, H347⟩ := Q350
     obtain ⟨E351, F352, V353, ne354, ge355, ge356⟩ := H347
     refine Wp.stk (st' := [(.int (Int32.ofNat (rt q326 q327 q328 1)))]) rfl ?_
     refine s_aload (pc' := 198) A at_196 rfl rfl rfl ?_
     refine s_iconst (pc' := 199) (z := (1 : Int32)) A at_198 rfl (by decide) ?_
     have V357 := (V341.keep K346 (ninS (Ne.symm ne29) (ninS (Ne.symm ne30) nin0)))
     refine s_iaload (pc' := 200) (i := 1) (v := (.int (Int32.ofNat (rt q283 q284 q285 1)))) A V357 (by decide) rfl at_199 rfl ?_
     refine s_icmpN (pc' := 203) A at_200 rfl (teq (congrArg Int32.ofNat (((hq329.2.2.2 1 (by decide)).trans (hq310.2.2.2 1 (by decide)))))).2 ?_
     refine s_iconst (pc' := 204) (z := (1 : Int32)) A at_203 rfl (by decide) ?_
     refine s_goto (pc' := 208) A at_204 (by decide) (by decide) ?_
     refine s_istore (pc' := 210) (Ls' := #[iv q0, iv q1, iv q2, iv (Int32.ofNat x0), iv (Int32.ofNat y0), iv (Int32.ofNat x1), iv (Int32.ofNat y1), iv (Int32.ofNat x2), iv (Int32.ofNat y2), iv (Int32.ofNat ee), rv b2, rv b24, iv 1, iv 1, iv 1, U0, U0]) A at_208 rfl rfl ?_
     refine s_aload (pc' := 212) A at_210 rfl rfl rfl ?_
     refine s_iconst (pc' := 213) (z := (2 : Int32)) A at_212 rfl (by decide) ?_
     refine s_virtual (pc' := 216) (y := y0_find) (argsL := [(.int (2 : Int32))]) (rest := []) (z := y0_find) A E351 (find_ok l Z a0 hw n0 h348 A.size b2 r9 q342 q343 q344 2 hq345.1 hq345.2.1 hq345.2.2.1 (by decide) ⟨E351, F352, V353, ne354, ge355, ge356⟩) (w35 hw) (w18 hw) (nf_same (C := "") (w20 hw)) (w20 hw) (w19 hw) (w2 hw) (w21 hw) (by decide) pd__I_I rfl (W := 0) (by decide) (by decide) (Nat.le_of_eq rfl) (by decide) (by decide) rfl rfl at_213 rfl fun T h364 v365 A Q366 => ?_
     obtain ⟨q358, q359, q360, hq361, rfl, K362, H363⟩ := Q366
     obtain ⟨E367, F368, V369, ne370, ge371, ge372⟩ := H363
     refine Wp.stk (st' := [(.int (Int32.ofNat (rt q342 q343 q344 2)))]) rfl ?_
     refine s_aload (pc' := 218) A at_216 rfl rfl rfl ?_
     refine s_iconst (pc' := 219) (z := (2 : Int32)) A at_218 rfl (by decide) ?_
     have V373 := (V357.keep K362 (ninS (Ne.symm ne29) (ninS (Ne.symm ne30) nin0)))
     refine s_iaload (pc' := 220) (i := 2) (v := (.int (Int32.ofNat (rt q283 q284 q285 2)))) A V373 (by decide) rfl at_219 rfl ?_
     refine s_icmpN (pc' := 223) A at_220 rfl (teq (congrArg Int32.ofNat (((hq345.2.2.2 2 (by decide)).trans ((hq329.2.2.2 2 (by decide)).trans (hq310.2.2.2 2 (by decide))))))).2 ?_
     refine s_iconst (pc' := 224) (z := (1 : Int32)) A at_223 rfl (by decide) ?_
     refine s_goto (pc' := 228) A at_224 (by decide) (by decide) ?_
     refine s_istore (pc' := 230) (Ls' := #[iv q0, iv q1, iv q2, iv (Int32.ofNat x0), iv (Int32.ofNat y0), iv (Int32.ofNat x1), iv (Int32.ofNat y1), iv (Int32.ofNat x2), iv (Int32.ofNat y2), iv (Int32.ofNat ee), rv b2, rv b24, iv 1, iv 1, iv 1, iv 1, U0]) A at_228 rfl rfl ?_
     refine s_aload (pc' := 232) A at_230 rfl rfl rfl ?_
     refine s_iconst (pc' := 233) (z := (3 : Int32)) A at_232 rfl (by decide) ?_
     refine s_virtual (pc' := 236) (y := y0_find) (argsL := [(.int (3 : Int32))]) (rest := []) (z := y0_find) A E367 (find_ok l Z a0 hw n0 h364 A.size b2 r9 q358 q359 q360 3 hq361.1 hq361.2.1 hq361.2.2.1 (by decide) ⟨E367, F368, V369, ne370, ge371, ge372⟩) (w35 hw) (w18 hw) (nf_same (C := "") (w20 hw)) (w20 hw) (w19 hw) (w2 hw) (w21 hw) (by decide) pd__I_I rfl (W := 0) (by decide) (by decide) (Nat.le_of_eq rfl) (by decide) (by decide) rfl rfl at_233 rfl fun T h380 v381 A Q382 => ?_
     obtain ⟨q374, q375, q376, hq377, rfl, K378, H379⟩ := Q382
     obtain ⟨E383, F384, V385, ne386, ge387, ge388⟩ := H379
     refine Wp.stk (st' := [(.int (Int32.ofNat (rt q358 q359 q360 3)))]) rfl ?_
     refine s_aload (pc' := 238) A at_236 rfl rfl rfl ?_
     refine s_iconst (pc' := 239) (z := (3 : Int32)) A at_238 rfl (by decide) ?_
     have V389 := (V373.keep K378 (ninS (Ne.symm ne29) (ninS (Ne.symm ne30) nin0)))
     refine s_iaload (pc' := 240) (i := 3) (v := (.int (Int32.ofNat (rt q283 q284 q285 3)))) A V389 (by decide) rfl at_239 rfl ?_
     refine s_icmpN (pc' := 243) A at_240 rfl (teq (congrArg Int32.ofNat (((hq361.2.2.2 3 (by decide)).trans ((hq345.2.2.2 3 (by decide)).trans ((hq329.2.2.2 3 (by decide)).trans (hq310.2.2.2 3 (by decide)))))))).2 ?_
     refine s_iconst (pc' := 244) (z := (1 : Int32)) A at_243 rfl (by decide) ?_
     refine s_goto (pc' := 248) A at_244 (by decide) (by decide) ?_
     refine s_istore (pc' := 250) (Ls' := #[iv q0, iv q1, iv q2, iv (Int32.ofNat x0), iv (Int32.ofNat y0), iv (Int32.ofNat x1), iv (Int32.ofNat y1), iv (Int32.ofNat x2), iv (Int32.ofNat y2), iv (Int32.ofNat ee), rv b2, rv b24, iv 1, iv 1, iv 1, iv 1, iv 1]) A at_248 rfl rfl ?_
     refine s_iload (pc' := 252) A at_250 rfl rfl ?_
     refine s_ifN (pc' := 255) A at_252 rfl (by decide) ?_
     refine s_iload (pc' := 257) A at_255 rfl rfl ?_
     refine s_ifN (pc' := 260) A at_257 rfl (by decide) ?_
     refine s_iload (pc' := 262) A at_260 rfl rfl ?_
     refine s_ifN (pc' := 265) A at_262 rfl (by decide) ?_
     refine s_iload (pc' := 267) A at_265 rfl rfl ?_
     refine s_ifN (pc' := 270) A at_267 rfl (by decide) ?_
     refine s_iload (pc' := 272) A at_270 rfl rfl ?_
     refine s_ifN (pc' := 275) A at_272 rfl (by decide) ?_
     refine s_iconst (pc' := 276) (z := (1 : Int32)) A at_275 rfl (by decide) ?_
     refine s_goto (pc' := 280) A at_276 (by decide) (by decide) ?_
     exact r_bool A rfl (by decide) at_280 (by decide) (by decide) (rfl)
    ·
     refine s_ifY (pc' := 148) A at_127 ((if0 _ _).trans (feq hc127_1).2) (by decide) (by decide) ?_
     refine s_aload (pc' := 150) A at_148 rfl rfl rfl ?_
     refine s_iload (pc' := 152) A at_150 rfl rfl ?_
     have E396 := (E57.keep K64)
     have F397 := (F58.keep K64 (ninS ne29 nin0))
     have V398 := (V59.keep K64 (ninS ne30 nin0))
     refine s_virtual (pc' := 155) (y := y0_find) (argsL := [(.int (Int32.ofNat ee))]) (rest := []) (z := y0_find) A E396 (find_ok l Z a0 hw n0 h66 A.size b2 r9 q46 q47 q48 ee hq49.1 hq49.2.1 hq49.2.2.1 hee ⟨E396, F397, V398, ne60, ge61, ge62⟩) (w35 hw) (w18 hw) (nf_same (C := "") (w20 hw)) (w20 hw) (w19 hw) (w2 hw) (w21 hw) (by decide) pd__I_I rfl (W := 0) (by decide) (by decide) (Nat.le_of_eq rfl) (by decide) (by decide) rfl rfl at_152 rfl fun T h399 v400 A Q401 => ?_
     obtain ⟨q390, q391, q392, hq393, rfl, K394, H395⟩ := Q401
     obtain ⟨E402, F403, V404, ne405, ge406, ge407⟩ := H395
     refine Wp.stk (st' := [(.int (Int32.ofNat (rt q46 q47 q48 ee)))]) rfl ?_
     refine s_aload (pc' := 157) A at_155 rfl rfl rfl ?_
     refine s_iload (pc' := 159) A at_157 rfl rfl ?_
     have V408 := (V65.keep K394 (ninS (Ne.symm ne29) (ninS (Ne.symm ne30) nin0)))
     refine s_iaload (pc' := 160) (i := ee) (v := (.int (Int32.ofNat (Lf (rt q46 q47 q48 0) (rt q46 q47 q48 1) (rt q46 q47 q48 2) (rt q46 q47 q48 3) ee)))) A V408 (own_small hee) (own_at _ _ _ _ _ hee) at_159 rfl ?_
     refine s_icmpN (pc' := 163) A at_160 rfl (teq (congrArg Int32.ofNat (((own_Lrt q46 q47 q48 ee hee).symm)))).2 ?_
     refine s_iconst (pc' := 164) (z := (1 : Int32)) A at_163 rfl (by decide) ?_
     refine s_goto (pc' := 168) A at_164 (by decide) (by decide) ?_
     refine s_istore (pc' := 170) (Ls' := #[iv q0, iv q1, iv q2, iv (Int32.ofNat x0), iv (Int32.ofNat y0), iv (Int32.ofNat x1), iv (Int32.ofNat y1), iv (Int32.ofNat x2), iv (Int32.ofNat y2), iv (Int32.ofNat ee), rv b2, rv b24, iv 1, U0, U0, U0, U0]) A at_168 rfl rfl ?_
     refine s_aload (pc' := 172) A at_170 rfl rfl rfl ?_
     refine s_iconst (pc' := 173) (z := (0 : Int32)) A at_172 rfl (by decide) ?_
     refine s_virtual (pc' := 176) (y := y0_find) (argsL := [(.int (0 : Int32))]) (rest := []) (z := y0_find) A E402 (find_ok l Z a0 hw n0 h399 A.size b2 r9 q390 q391 q392 0 hq393.1 hq393.2.1 hq393.2.2.1 (by decide) ⟨E402, F403, V404, ne405, ge406, ge407⟩) (w35 hw) (w18 hw) (nf_same (C := "") (w20 hw)) (w20 hw) (w19 hw) (w2 hw) (w21 hw) (by decide) pd__I_I rfl (W := 0) (by decide) (by decide) (Nat.le_of_eq rfl) (by decide) (by decide) rfl rfl at_173 rfl fun T h415 v416 A Q417 => ?_
     obtain ⟨q409, q410, q411, hq412, rfl, K413, H414⟩ := Q417
     obtain ⟨E418, F419, V420, ne421, ge422, ge423⟩ := H414
     refine Wp.stk (st' := [(.int (Int32.ofNat (rt q390 q391 q392 0)))]) rfl ?_
     refine s_aload (pc' := 178) A at_176 rfl rfl rfl ?_
     refine s_iconst (pc' := 179) (z := (0 : Int32)) A at_178 rfl (by decide) ?_
     have V424 := (V408.keep K413 (ninS (Ne.symm ne29) (ninS (Ne.symm ne30) nin0)))
     refine s_iaload (pc' := 180) (i := 0) (v := (.int (Int32.ofNat (rt q46 q47 q48 0)))) A V424 (by decide) rfl at_179 rfl ?_
     refine s_icmpN (pc' := 183) A at_180 rfl (teq (congrArg Int32.ofNat ((hq393.2.2.2 0 (by decide))))).2 ?_
     refine s_iconst (pc' := 184) (z := (1 : Int32)) A at_183 rfl (by decide) ?_
     refine s_goto (pc' := 188) A at_184 (by decide) (by decide) ?_
     refine s_istore (pc' := 190) (Ls' := #[iv q0, iv q1, iv q2, iv (Int32.ofNat x0), iv (Int32.ofNat y0), iv (Int32.ofNat x1), iv (Int32.ofNat y1), iv (Int32.ofNat x2), iv (Int32.ofNat y2), iv (Int32.ofNat ee), rv b2, rv b24, iv 1, iv 1, U0, U0, U0]) A at_188 rfl rfl ?_
     refine s_aload (pc' := 192) A at_190 rfl rfl rfl ?_
     refine s_iconst (pc' := 193) (z := (1 : Int32)) A at_192 rfl (by decide) ?_
     refine s_virtual (pc' := 196) (y := y0_find) (argsL := [(.int (1 : Int32))]) (rest := []) (z := y0_find) A E418 (find_ok l Z a0 hw n0 h415 A.size b2 r9 q409 q410 q411 1 hq412.1 hq412.2.1 hq412.2.2.1 (by decide) ⟨E418, F419, V420, ne421, ge422, ge423⟩) (w35 hw) (w18 hw) (nf_same (C := "") (w20 hw)) (w20 hw) (w19 hw) (w2 hw) (w21 hw) (by decide) pd__I_I rfl (W := 0) (by decide) (by decide) (Nat.le_of_eq rfl) (by decide) (by decide) rfl rfl at_193 rfl fun T h431 v432 A Q433 => ?_
     obtain ⟨q425, q426, q427, hq428, rfl, K429, H430⟩ := Q433
     obtain ⟨E434, F435, V436, ne437, ge438, ge439⟩ := H430
     refine Wp.stk (st' := [(.int (Int32.ofNat (rt q409 q410 q411 1)))]) rfl ?_
     refine s_aload (pc' := 198) A at_196 rfl rfl rfl ?_
     refine s_iconst (pc' := 199) (z := (1 : Int32)) A at_198 rfl (by decide) ?_
     have V440 := (V424.keep K429 (ninS (Ne.symm ne29) (ninS (Ne.symm ne30) nin0)))
     refine s_iaload (pc' := 200) (i := 1) (v := (.int (Int32.ofNat (rt q46 q47 q48 1)))) A V440 (by decide) rfl at_199 rfl ?_
     refine s_icmpN (pc' := 203) A at_200 rfl (teq (congrArg Int32.ofNat (((hq412.2.2.2 1 (by decide)).trans (hq393.2.2.2 1 (by decide)))))).2 ?_
     refine s_iconst (pc' := 204) (z := (1 : Int32)) A at_203 rfl (by decide) ?_
     refine s_goto (pc' := 208) A at_204 (by decide) (by decide) ?_
     refine s_istore (pc' := 210) (Ls' := #[iv q0, iv q1, iv q2, iv (Int32.ofNat x0), iv (Int32.ofNat y0), iv (Int32.ofNat x1), iv (Int32.ofNat y1), iv (Int32.ofNat x2), iv (Int32.ofNat y2), iv (Int32.ofNat ee), rv b2, rv b24, iv 1, iv 1, iv 1, U0, U0]) A at_208 rfl rfl ?_
     refine s_aload (pc' := 212) A at_210 rfl rfl rfl ?_
     refine s_iconst (pc' := 213) (z := (2 : Int32)) A at_212 rfl (by decide) ?_
     refine s_virtual (pc' := 216) (y := y0_find) (argsL := [(.int (2 : Int32))]) (rest := []) (z := y0_find) A E434 (find_ok l Z a0 hw n0 h431 A.size b2 r9 q425 q426 q427 2 hq428.1 hq428.2.1 hq428.2.2.1 (by decide) ⟨E434, F435, V436, ne437, ge438, ge439⟩) (w35 hw) (w18 hw) (nf_same (C := "") (w20 hw)) (w20 hw) (w19 hw) (w2 hw) (w21 hw) (by decide) pd__I_I rfl (W := 0) (by decide) (by decide) (Nat.le_of_eq rfl) (by decide) (by decide) rfl rfl at_213 rfl fun T h447 v448 A Q449 => ?_
     obtain ⟨q441, q442, q443, hq444, rfl, K445, H446⟩ := Q449
     obtain ⟨E450, F451, V452, ne453, ge454, ge455⟩ := H446
     refine Wp.stk (st' := [(.int (Int32.ofNat (rt q425 q426 q427 2)))]) rfl ?_
     refine s_aload (pc' := 218) A at_216 rfl rfl rfl ?_
     refine s_iconst (pc' := 219) (z := (2 : Int32)) A at_218 rfl (by decide) ?_
     have V456 := (V440.keep K445 (ninS (Ne.symm ne29) (ninS (Ne.symm ne30) nin0)))
     refine s_iaload (pc' := 220) (i := 2) (v := (.int (Int32.ofNat (rt q46 q47 q48 2)))) A V456 (by decide) rfl at_219 rfl ?_
     refine s_icmpN (pc' := 223) A at_220 rfl (teq (congrArg Int32.ofNat (((hq428.2.2.2 2 (by decide)).trans ((hq412.2.2.2 2 (by decide)).trans (hq393.2.2.2 2 (by decide))))))).2 ?_
     refine s_iconst (pc' := 224) (z := (1 : Int32)) A at_223 rfl (by decide) ?_
     refine s_goto (pc' := 228) A at_224 (by decide) (by decide) ?_
     refine s_istore (pc' := 230) (Ls' := #[iv q0, iv q1, iv q2, iv (Int32.ofNat x0), iv (Int32.ofNat y0), iv (Int32.ofNat x1), iv (Int32.ofNat y1), iv (Int32.ofNat x2), iv (Int32.ofNat y2), iv (Int32.ofNat ee), rv b2, rv b24, iv 1, iv 1, iv 1, iv 1, U0]) A at_228 rfl rfl ?_
     refine s_aload (pc' := 232) A at_230 rfl rfl rfl ?_
     refine s_iconst (pc' := 233) (z := (3 : Int32)) A at_232 rfl (by decide) ?_
     refine s_virtual (pc' := 236) (y := y0_find) (argsL := [(.int (3 : Int32))]) (rest := []) (z := y0_find) A E450 (find_ok l Z a0 hw n0 h447 A.size b2 r9 q441 q442 q443 3 hq444.1 hq444.2.1 hq444.2.2.1 (by decide) ⟨E450, F451, V452, ne453, ge454, ge455⟩) (w35 hw) (w18 hw) (nf_same (C := "") (w20 hw)) (w20 hw) (w19 hw) (w2 hw) (w21 hw) (by decide) pd__I_I rfl (W := 0) (by decide) (by decide) (Nat.le_of_eq rfl) (by decide) (by decide) rfl rfl at_233 rfl fun T h463 v464 A Q465 => ?_
     obtain ⟨q457, q458, q459, hq460, rfl, K461, H462⟩ := Q465
     obtain ⟨E466, F467, V468, ne469, ge470, ge471⟩ := H462
     refine Wp.stk (st' := [(.int (Int32.ofNat (rt q441 q442 q443 3)))]) rfl ?_
     refine s_aload (pc' := 238) A at_236 rfl rfl rfl ?_
     refine s_iconst (pc' := 239) (z := (3 : Int32)) A at_238 rfl (by decide) ?_
     have V472 := (V456.keep K461 (ninS (Ne.symm ne29) (ninS (Ne.symm ne30) nin0)))
     refine s_iaload (pc' := 240) (i := 3) (v := (.int (Int32.ofNat (rt q46 q47 q48 3)))) A V472 (by decide) rfl at_239 rfl ?_
     refine s_icmpN (pc' := 243) A at_240 rfl (teq (congrArg Int32.ofNat (((hq444.2.2.2 3 (by decide)).trans ((hq428.2.2.2 3 (by decide)).trans ((hq412.2.2.2 3 (by decide)).trans (hq393.2.2.2 3 (by decide)))))))).2 ?_
     refine s_iconst (pc' := 244) (z := (1 : Int32)) A at_243 rfl (by decide) ?_
     refine s_goto (pc' := 248) A at_244 (by decide) (by decide) ?_
     refine s_istore (pc' := 250) (Ls' := #[iv q0, iv q1, iv q2, iv (Int32.ofNat x0), iv (Int32.ofNat y0), iv (Int32.ofNat x1), iv (Int32.ofNat y1), iv (Int32.ofNat x2), iv (Int32.ofNat y2), iv (Int32.ofNat ee), rv b2, rv b24, iv 1, iv 1, iv 1, iv 1, iv 1]) A at_248 rfl rfl ?_
     refine s_iload (pc' := 252) A at_250 rfl rfl ?_
     refine s_ifN (pc' := 255) A at_252 rfl (by decide) ?_
     refine s_iload (pc' := 257) A at_255 rfl rfl ?_
     refine s_ifN (pc' := 260) A at_257 rfl (by decide) ?_
     refine s_iload (pc' := 262) A at_260 rfl rfl ?_
     refine s_ifN (pc' := 265) A at_262 rfl (by decide) ?_
     refine s_iload (pc' := 267) A at_265 rfl rfl ?_
     refine s_ifN (pc' := 270) A at_267 rfl (by decide) ?_
     refine s_iload (pc' := 272) A at_270 rfl rfl ?_
     refine s_ifN (pc' := 275) A at_272 rfl (by decide) ?_
     refine s_iconst (pc' := 276) (z := (1 : Int32)) A at_275 rfl (by decide) ?_
     refine s_goto (pc' := 280) A at_276 (by decide) (by decide) ?_
     exact r_bool A rfl (by decide) at_280 (by decide) (by decide) (rfl)
  ·
   refine s_ifY (pc' := 100) A at_81 ((if0 _ _).trans (feq hc81_1).2) (by decide) (by decide) ?_
   refine s_iloadN (pc' := 101) A at_100 rfl rfl ?_
   refine s_iconst (pc' := 102) (z := (2 : Int32)) A at_101 rfl (by decide) ?_
   refine s_iand (pc' := 103) (z := (q1 &&& (2 : Int32))) A at_102 rfl rfl ?_
   by_cases hc103_1 : (q1 &&& (2 : Int32)) = (0 : Int32)
   ·
    refine s_ifN (pc' := 106) A at_103 rfl ((if0 _ _).trans (teq hc103_1).2) ?_
    refine s_aload (pc' := 108) A at_106 rfl rfl rfl ?_
    refine s_iload (pc' := 110) A at_108 rfl rfl ?_
    refine s_iload (pc' := 112) A at_110 rfl rfl ?_
    have E479 := (((((E17.ext X27).wr W32).wr W35).wr W38).wr W41)
    have F480 := (((((F18.ext X27).other W32 (Or.inl ne29)).other W35 (Or.inl ne29)).other W38 (Or.inl ne29)).other W41 (Or.inl ne29))
    refine s_virtual (pc' := 115) (y := y3_join) (argsL := [(.int (Int32.ofNat x1)), (.int (Int32.ofNat y1))]) (rest := []) (z := y3_join) A E479 (join_ok l Z a0 hw n0 h40 A.size b2 r9 1 2 3 x1 y1 ⟨hid.1, hid.2.1, hid.2.2.1, trivial⟩ hx1 hy1 ⟨E479, F480, V44, ne20, ge21, ge22⟩) (w12 hw) (w13 hw) (nf_same (C := "") (w15 hw)) (w15 hw) (w14 hw) (w2 hw) (w16 hw) (by decide) pd__II_V rfl (W := 0) (by decide) (by decide) (Nat.le_of_eq rfl) (by decide) (by decide) rfl rfl at_112 rfl fun T h481 v482 A Q483 => ?_
    obtain ⟨q473, q474, q475, hq476, rfl, K477, H478⟩ := Q483
    obtain ⟨E484, F485, V486, ne487, ge488, ge489⟩ := H478
    refine Wp.stk (st' := []) rfl ?_
    refine s_aload (pc' := 117) A at_115 rfl rfl rfl ?_
    refine s_iload (pc' := 119) A at_117 rfl rfl ?_
    refine s_iload (pc' := 121) A at_119 rfl rfl ?_
    have V490 := (V45.keep K477 (ninS (Ne.symm ne29) (ninS (Ne.symm ne30) nin0)))
    refine s_static (pc' := 124) (y := y4_merge) (argsL := [(.ref b24), (.int (Int32.ofNat x1)), (.int (Int32.ofNat y1))]) (rest := []) A (merge_ok l Z a0 hw n0 h481 A.size b24 (rt 1 2 3 0) (rt 1 2 3 1) (rt 1 2 3 2) (rt 1 2 3 3) x1 y1 (own_rt4 _ hid.1 _ hid.2.1 _ hid.2.2.1 _ (by decide)) (own_rt4 _ hid.1 _ hid.2.1 _ hid.2.2.1 _ (by decide)) (own_rt4 _ hid.1 _ hid.2.1 _ hid.2.2.1 _ (by decide)) (own_rt4 _ hid.1 _ hid.2.1 _ hid.2.2.1 _ (by decide)) hx1 hy1 V490 ge26) (w29 hw) (w30 hw) (w31 hw) (w32 hw) (by decide) pd___III_V rfl (W := 0) (by decide) (by decide) (Nat.le_of_eq rfl) (by decide) (by decide) rfl rfl at_121 rfl fun T h493 v494 A Q495 => ?_
    obtain ⟨rfl, K491, V492⟩ := Q495
    rw [own_Lrt 1 2 3 x1 hx1, own_Lrt 1 2 3 y1 hy1, ← hq476.2.2.2 0 (by decide), ← hq476.2.2.2 1 (by decide), ← hq476.2.2.2 2 (by decide), ← hq476.2.2.2 3 (by decide)] at V492
    refine Wp.stk (st' := []) rfl ?_
    refine s_iloadN (pc' := 125) A at_124 rfl rfl ?_
    refine s_iconst (pc' := 126) (z := (4 : Int32)) A at_125 rfl (by decide) ?_
    refine s_iand (pc' := 127) (z := (q1 &&& (4 : Int32))) A at_126 rfl rfl ?_
    by_cases hc127_1 : (q1 &&& (4 : Int32)) = (0 : Int32)
    ·
     refine s_ifN (pc' := 130) A at_127 rfl ((if0 _ _).trans (teq hc127_1).2) ?_
     refine s_aload (pc' := 132) A at_130 rfl rfl rfl ?_
     refine s_iload (pc' := 134) A at_132 rfl rfl ?_
     refine s_iload (pc' := 136) A at_134 rfl rfl ?_
     have E502 := (E484.keep K491)
     have F503 := (F485.keep K491 (ninS ne29 nin0))
     have V504 := (V486.keep K491 (ninS ne30 nin0))
     refine s_virtual (pc' := 139) (y := y3_join) (argsL := [(.int (Int32.ofNat x2)), (.int (Int32.ofNat y2))]) (rest := []) (z := y3_join) A E502 (join_ok l Z a0 hw n0 h493 A.size b2 r9 q473 q474 q475 x2 y2 ⟨hq476.1, hq476.2.1, hq476.2.2.1, trivial⟩ hx2 hy2 ⟨E502, F503, V504, ne487, ge488, ge489⟩) (w12 hw) (w13 hw) (nf_same (C := "") (w15 hw)) (w15 hw) (w14 hw) (w2 hw) (w16 hw) (by decide) pd__II_V rfl (W := 0) (by decide) (by decide) (Nat.le_of_eq rfl) (by decide) (by decide) rfl rfl at_136 rfl fun T h505 v506 A Q507 => ?_
     obtain ⟨q496, q497, q498, hq499, rfl, K500, H501⟩ := Q507
     obtain ⟨E508, F509, V510, ne511, ge512, ge513⟩ := H501
     refine Wp.stk (st' := []) rfl ?_
     refine s_aload (pc' := 141) A at_139 rfl rfl rfl ?_
     refine s_iload (pc' := 143) A at_141 rfl rfl ?_
     refine s_iload (pc' := 145) A at_143 rfl rfl ?_
     have V514 := (V492.keep K500 (ninS (Ne.symm ne29) (ninS (Ne.symm ne30) nin0)))
     refine s_static (pc' := 148) (y := y4_merge) (argsL := [(.ref b24), (.int (Int32.ofNat x2)), (.int (Int32.ofNat y2))]) (rest := []) A (merge_ok l Z a0 hw n0 h505 A.size b24 (rt q473 q474 q475 0) (rt q473 q474 q475 1) (rt q473 q474 q475 2) (rt q473 q474 q475 3) x2 y2 (own_rt4 _ hq476.1 _ hq476.2.1 _ hq476.2.2.1 _ (by decide)) (own_rt4 _ hq476.1 _ hq476.2.1 _ hq476.2.2.1 _ (by decide)) (own_rt4 _ hq476.1 _ hq476.2.1 _ hq476.2.2.1 _ (by decide)) (own_rt4 _ hq476.1 _ hq476.2.1 _ hq476.2.2.1 _ (by decide)) hx2 hy2 V514 ge26) (w29 hw) (w30 hw) (w31 hw) (w32 hw) (by decide) pd___III_V rfl (W := 0) (by decide) (by decide) (Nat.le_of_eq rfl) (by decide) (by decide) rfl rfl at_145 rfl fun T h517 v518 A Q519 => ?_
     obtain ⟨rfl, K515, V516⟩ := Q519
     rw [own_Lrt q473 q474 q475 x2 hx2, own_Lrt q473 q474 q475 y2 hy2, ← hq499.2.2.2 0 (by decide), ← hq499.2.2.2 1 (by decide), ← hq499.2.2.2 2 (by decide), ← hq499.2.2.2 3 (by decide)] at V516
     refine Wp.stk (st' := []) rfl ?_
     refine s_aload (pc' := 150) A at_148 rfl rfl rfl ?_
     refine s_iload (pc' := 152) A at_150 rfl rfl ?_
     have E526 := (E508.keep K515)
     have F527 := (F509.keep K515 (ninS ne29 nin0))
     have V528 := (V510.keep K515 (ninS ne30 nin0))
     refine s_virtual (pc' := 155) (y := y0_find) (argsL := [(.int (Int32.ofNat ee))]) (rest := []) (z := y0_find) A E526 (find_ok l Z a0 hw n0 h517 A.size b2 r9 q496 q497 q498 ee hq499.1 hq499.2.1 hq499.2.2.1 hee ⟨E526, F527, V528, ne511, ge512, ge513⟩) (w35 hw) (w18 hw) (nf_same (C := "") (w20 hw)) (w20 hw) (w19 hw) (w2 hw) (w21 hw) (by decide) pd__I_I rfl (W := 0) (by decide) (by decide) (Nat.le_of_eq rfl) (by decide) (by decide) rfl rfl at_152 rfl fun T h529 v530 A Q531 => ?_
     obtain ⟨q520, q521, q522, hq523, rfl, K524, H525⟩ := Q531
     obtain ⟨E532, F533, V534, ne535, ge536, ge537⟩ := H525
     refine Wp.stk (st' := [(.int (Int32.ofNat (rt q496 q497 q498 ee)))]) rfl ?_
     refine s_aload (pc' := 157) A at_155 rfl rfl rfl ?_
     refine s_iload (pc' := 159) A at_157 rfl rfl ?_
     have V538 := (V516.keep K524 (ninS (Ne.symm ne29) (ninS (Ne.symm ne30) nin0)))
     refine s_iaload (pc' := 160) (i := ee) (v := (.int (Int32.ofNat (Lf (rt q496 q497 q498 0) (rt q496 q497 q498 1) (rt q496 q497 q498 2) (rt q496 q497 q498 3) ee)))) A V538 (own_small hee) (own_at _ _ _ _ _ hee) at_159 rfl ?_
     refine s_icmpN (pc' := 163) A at_160 rfl (teq (congrArg Int32.ofNat (((own_Lrt q496 q497 q498 ee hee).symm)))).2 ?_
     refine s_iconst (pc' := 164) (z := (1 : Int32)) A at_163 rfl (by decide) ?_
     refine s_goto (pc' := 168) A at_164 (by decide) (by decide) ?_
     refine s_istore (pc' := 170) (Ls' := #[iv q0, iv q1, iv q2, iv (Int32.ofNat x0), iv (Int32.ofNat y0), iv (Int32.ofNat x1), iv (Int32.ofNat y1), iv (Int32.ofNat x2), iv (Int32.ofNat y2), iv (Int32.ofNat ee), rv b2, rv b24, iv 1, U0, U0, U0, U0]) A at_168 rfl rfl ?_
     refine s_aload (pc' := 172) A at_170 rfl rfl rfl ?_
     refine s_iconst (pc' := 173) (z := (0 : Int32)) A at_172 rfl (by decide) ?_
     refine s_virtual (pc' := 176) (y := y0_find) (argsL := [(.int (0 : Int32))]) (rest := []) (z := y0_find) A E532 (find_ok l Z a0 hw n0 h529 A.size b2 r9 q520 q521 q522 0 hq523.1 hq523.2.1 hq523.2.2.1 (by decide) ⟨E532, F533, V534, ne535, ge536, ge537⟩) (w35 hw) (w18 hw) (nf_same (C := "") (w20 hw)) (w20 hw) (w19 hw) (w2 hw) (w21 hw) (by decide) pd__I_I rfl (W := 0) (by decide) (by decide) (Nat.le_of_eq rfl) (by decide) (by decide) rfl rfl at_173 rfl fun T h545 v546 A Q547 => ?_
     obtain ⟨q539, q540, q541, hq542, rfl, K543, H544⟩ := Q547
     obtain ⟨E548, F549, V550, ne551, ge552, ge553⟩ := H544
     refine Wp.stk (st' := [(.int (Int32.ofNat (rt q520 q521 q522 0)))]) rfl ?_
     refine s_aload (pc' := 178) A at_176 rfl rfl rfl ?_
     refine s_iconst (pc' := 179) (z := (0 : Int32)) A at_178 rfl (by decide) ?_
     have V554 := (V538.keep K543 (ninS (Ne.symm ne29) (ninS (Ne.symm ne30) nin0)))
     refine s_iaload (pc' := 180) (i := 0) (v := (.int (Int32.ofNat (rt q496 q497 q498 0)))) A V554 (by decide) rfl at_179 rfl ?_
     refine s_icmpN (pc' := 183) A at_180 rfl (teq (congrArg Int32.ofNat ((hq523.2.2.2 0 (by decide))))).2 ?_
     refine s_iconst (pc' := 184) (z := (1 : Int32)) A at_183 rfl (by decide) ?_
     refine s_goto (pc' := 188) A at_184 (by decide) (by decide) ?_
     refine s_istore (pc' := 190) (Ls' := #[iv q0, iv q1, iv q2, iv (Int32.ofNat x0), iv (Int32.ofNat y0), iv (Int32.ofNat x1), iv (Int32.ofNat y1), iv (Int32.ofNat x2), iv (Int32.ofNat y2), iv (Int32.ofNat ee), rv b2, rv b24, iv 1, iv 1, U0, U0, U0]) A at_188 rfl rfl ?_
     refine s_aload (pc' := 192) A at_190 rfl rfl rfl ?_
     refine s_iconst (pc' := 193) (z := (1 : Int32)) A at_192 rfl (by decide) ?_
     refine s_virtual (pc' := 196) (y := y0_find) (argsL := [(.int (1 : Int32))]) (rest := []) (z := y0_find) A E548 (find_ok l Z a0 hw n0 h545 A.size b2 r9 q539 q540 q541 1 hq542.1 hq542.2.1 hq542.2.2.1 (by decide) ⟨E548, F549, V550, ne551, ge552, ge553⟩) (w35 hw) (w18 hw) (nf_same (C := "") (w20 hw)) (w20 hw) (w19 hw) (w2 hw) (w21 hw) (by decide) pd__I_I rfl (W := 0) (by decide) (by decide) (Nat.le_of_eq rfl) (by decide) (by decide) rfl rfl at_193 rfl fun T h561 v562 A Q563 => ?_
     obtain ⟨q555, q556, q557, hq558, rfl, K559, H560⟩ := Q563
     obtain ⟨E564, F565, V566, ne567, ge568, ge569⟩ := H560
     refine Wp.stk (st' := [(.int (Int32.ofNat (rt q539 q540 q541 1)))]) rfl ?_
     refine s_aload (pc' := 198) A at_196 rfl rfl rfl ?_
     refine s_iconst (pc' := 199) (z := (1 : Int32)) A at_198 rfl (by decide) ?_
     have V570 := (V554.keep K559 (ninS (Ne.symm ne29) (ninS (Ne.symm ne30) nin0)))
     refine s_iaload (pc' := 200) (i := 1) (v := (.int (Int32.ofNat (rt q496 q497 q498 1)))) A V570 (by decide) rfl at_199 rfl ?_
     refine s_icmpN (pc' := 203) A at_200 rfl (teq (congrArg Int32.ofNat (((hq542.2.2.2 1 (by decide)).trans (hq523.2.2.2 1 (by decide)))))).2 ?_
     refine s_iconst (pc' := 204) (z := (1 : Int32)) A at_203 rfl (by decide) ?_
     refine s_goto (pc' := 208) A at_204 (by decide) (by decide) ?_
     refine s_istore (pc' := 210) (Ls' := #[iv q0, iv q1, iv q2, iv (Int32.ofNat x0), iv (Int32.ofNat y0), iv (Int32.ofNat x1), iv (Int32.ofNat y1), iv (Int32.ofNat x2), iv (Int32.ofNat y2), iv (Int32.ofNat ee), rv b2, rv b24, iv 1, iv 1, iv 1, U0, U0]) A at_208 rfl rfl ?_
     refine s_aload (pc' := 212) A at_210 rfl rfl rfl ?_
     refine s_iconst (pc' := 213) (z := (2 : Int32)) A at_212 rfl (by decide) ?_
     refine s_virtual (pc' := 216) (y := y0_find) (argsL := [(.int (2 : Int32))]) (rest := []) (z := y0_find) A E564 (find_ok l Z a0 hw n0 h561 A.size b2 r9 q555 q556 q557 2 hq558.1 hq558.2.1 hq558.2.2.1 (by decide) ⟨E564, F565, V566, ne567, ge568, ge569⟩) (w35 hw) (w18 hw) (nf_same (C := "") (w20 hw)) (w20 hw) (w19 hw) (w2 hw) (w21 hw) (by decide) pd__I_I rfl (W := 0) (by decide) (by decide) (Nat.le_of_eq rfl) (by decide) (by decide) rfl rfl at_213 rfl fun T h577 v578 A Q579 => ?_
     obtain ⟨q571, q572, q573, hq574, rfl, K575, H576⟩ := Q579
     obtain ⟨E580, F581, V582, ne583, ge584, ge585⟩ := H576
     refine Wp.stk (st' := [(.int (Int32.ofNat (rt q555 q556 q557 2)))]) rfl ?_
     refine s_aload (pc' := 218) A at_216 rfl rfl rfl ?_
     refine s_iconst (pc' := 219) (z := (2 : Int32)) A at_218 rfl (by decide) ?_
     have V586 := (V570.keep K575 (ninS (Ne.symm ne29) (ninS (Ne.symm ne30) nin0)))
     refine s_iaload (pc' := 220) (i := 2) (v := (.int (Int32.ofNat (rt q496 q497 q498 2)))) A V586 (by decide) rfl at_219 rfl ?_
     refine s_icmpN (pc' := 223) A at_220 rfl (teq (congrArg Int32.ofNat (((hq558.2.2.2 2 (by decide)).trans ((hq542.2.2.2 2 (by decide)).trans (hq523.2.2.2 2 (by decide))))))).2 ?_
     refine s_iconst (pc' := 224) (z := (1 : Int32)) A at_223 rfl (by decide) ?_
     refine s_goto (pc' := 228) A at_224 (by decide) (by decide) ?_
     refine s_istore (pc' := 230) (Ls' := #[iv q0, iv q1, iv q2, iv (Int32.ofNat x0), iv (Int32.ofNat y0), iv (Int32.ofNat x1), iv (Int32.ofNat y1), iv (Int32.ofNat x2), iv (Int32.ofNat y2), iv (Int32.ofNat ee), rv b2, rv b24, iv 1, iv 1, iv 1, iv 1, U0]) A at_228 rfl rfl ?_
     refine s_aload (pc' := 232) A at_230 rfl rfl rfl ?_
     refine s_iconst (pc' := 233) (z := (3 : Int32)) A at_232 rfl (by decide) ?_
     refine s_virtual (pc' := 236) (y := y0_find) (argsL := [(.int (3 : Int32))]) (rest := []) (z := y0_find) A E580 (find_ok l Z a0 hw n0 h577 A.size b2 r9 q571 q572 q573 3 hq574.1 hq574.2.1 hq574.2.2.1 (by decide) ⟨E580, F581, V582, ne583, ge584, ge585⟩) (w35 hw) (w18 hw) (nf_same (C := "") (w20 hw)) (w20 hw) (w19 hw) (w2 hw) (w21 hw) (by decide) pd__I_I rfl (W := 0) (by decide) (by decide) (Nat.le_of_eq rfl) (by decide) (by decide) rfl rfl at_233 rfl fun T h593 v594 A Q595 => ?_
     obtain ⟨q587, q588, q589, hq590, rfl, K591, H592⟩ := Q595
     obtain ⟨E596, F597, V598, ne599, ge600, ge601⟩ := H592
     refine Wp.stk (st' := [(.int (Int32.ofNat (rt q571 q572 q573 3)))]) rfl ?_
     refine s_aload (pc' := 238) A at_236 rfl rfl rfl ?_
     refine s_iconst (pc' := 239) (z := (3 : Int32)) A at_238 rfl (by decide) ?_
     have V602 := (V586.keep K591 (ninS (Ne.symm ne29) (ninS (Ne.symm ne30) nin0)))
     refine s_iaload (pc' := 240) (i := 3) (v := (.int (Int32.ofNat (rt q496 q497 q498 3)))) A V602 (by decide) rfl at_239 rfl ?_
     refine s_icmpN (pc' := 243) A at_240 rfl (teq (congrArg Int32.ofNat (((hq574.2.2.2 3 (by decide)).trans ((hq558.2.2.2 3 (by decide)).trans ((hq542.2.2.2 3 (by decide)).trans (hq523.2.2.2 3 (by decide)))))))).2 ?_
     refine s_iconst (pc' := 244) (z := (1 : Int32)) A at_243 rfl (by decide) ?_
     refine s_goto (pc' := 248) A at_244 (by decide) (by decide) ?_
     refine s_istore (pc' := 250) (Ls' := #[iv q0, iv q1, iv q2, iv (Int32.ofNat x0), iv (Int32.ofNat y0), iv (Int32.ofNat x1), iv (Int32.ofNat y1), iv (Int32.ofNat x2), iv (Int32.ofNat y2), iv (Int32.ofNat ee), rv b2, rv b24, iv 1, iv 1, iv 1, iv 1, iv 1]) A at_248 rfl rfl ?_
     refine s_iload (pc' := 252) A at_250 rfl rfl ?_
     refine s_ifN (pc' := 255) A at_252 rfl (by decide) ?_
     refine s_iload (pc' := 257) A at_255 rfl rfl ?_
     refine s_ifN (pc' := 260) A at_257 rfl (by decide) ?_
     refine s_iload (pc' := 262) A at_260 rfl rfl ?_
     refine s_ifN (pc' := 265) A at_262 rfl (by decide) ?_
     refine s_iload (pc' := 267) A at_265 rfl rfl ?_
     refine s_ifN (pc' := 270) A at_267 rfl (by decide) ?_
     refine s_iload (pc' := 272) A at_270 rfl rfl ?_
     refine s_ifN (pc' := 275) A at_272 rfl (by decide) ?_
     refine s_iconst (pc' := 276) (z := (1 : Int32)) A at_275 rfl (by decide) ?_
     refine s_goto (pc' := 280) A at_276 (by decide) (by decide) ?_
     exact r_bool A rfl (by decide) at_280 (by decide) (by decide) (rfl)
    ·
     refine s_ifY (pc' := 148) A at_127 ((if0 _ _).trans (feq hc127_1).2) (by decide) (by decide) ?_
     refine s_aload (pc' := 150) A at_148 rfl rfl rfl ?_
     refine s_iload (pc' := 152) A at_150 rfl rfl ?_
     have E609 := (E484.keep K491)
     have F610 := (F485.keep K491 (ninS ne29 nin0))
     have V611 := (V486.keep K491 (ninS ne30 nin0))
     refine s_virtual (pc' := 155) (y := y0_find) (argsL := [(.int (Int32.ofNat ee))]) (rest := []) (z := y0_find) A E609 (find_ok l Z a0 hw n0 h493 A.size b2 r9 q473 q474 q475 ee hq476.1 hq476.2.1 hq476.2.2.1 hee ⟨E609, F610, V611, ne487, ge488, ge489⟩) (w35 hw) (w18 hw) (nf_same (C := "") (w20 hw)) (w20 hw) (w19 hw) (w2 hw) (w21 hw) (by decide) pd__I_I rfl (W := 0) (by decide) (by decide) (Nat.le_of_eq rfl) (by decide) (by decide) rfl rfl at_152 rfl fun T h612 v613 A Q614 => ?_
     obtain ⟨q603, q604, q605, hq606, rfl, K607, H608⟩ := Q614
     obtain ⟨E615, F616, V617, ne618, ge619, ge620⟩ := H608
     refine Wp.stk (st' := [(.int (Int32.ofNat (rt q473 q474 q475 ee)))]) rfl ?_
     refine s_aload (pc' := 157) A at_155 rfl rfl rfl ?_
     refine s_iload (pc' := 159) A at_157 rfl rfl ?_
     have V621 := (V492.keep K607 (ninS (Ne.symm ne29) (ninS (Ne.symm ne30) nin0)))
     refine s_iaload (pc' := 160) (i := ee) (v := (.int (Int32.ofNat (Lf (rt q473 q474 q475 0) (rt q473 q474 q475 1) (rt q473 q474 q475 2) (rt q473 q474 q475 3) ee)))) A V621 (own_small hee) (own_at _ _ _ _ _ hee) at_159 rfl ?_
     refine s_icmpN (pc' := 163) A at_160 rfl (teq (congrArg Int32.ofNat (((own_Lrt q473 q474 q475 ee hee).symm)))).2 ?_
     refine s_iconst (pc' := 164) (z := (1 : Int32)) A at_163 rfl (by decide) ?_
     refine s_goto (pc' := 168) A at_164 (by decide) (by decide) ?_
     refine s_istore (pc' := 170) (Ls' := #[iv q0, iv q1, iv q2, iv (Int32.ofNat x0), iv (Int32.ofNat y0), iv (Int32.ofNat x1), iv (Int32.ofNat y1), iv (Int32.ofNat x2), iv (Int32.ofNat y2), iv (Int32.ofNat ee), rv b2, rv b24, iv 1, U0, U0, U0, U0]) A at_168 rfl rfl ?_
     refine s_aload (pc' := 172) A at_170 rfl rfl rfl ?_
     refine s_iconst (pc' := 173) (z := (0 : Int32)) A at_172 rfl (by decide) ?_
     refine s_virtual (pc' := 176) (y := y0_find) (argsL := [(.int (0 : Int32))]) (rest := []) (z := y0_find) A E615 (find_ok l Z a0 hw n0 h612 A.size b2 r9 q603 q604 q605 0 hq606.1 hq606.2.1 hq606.2.2.1 (by decide) ⟨E615, F616, V617, ne618, ge619, ge620⟩) (w35 hw) (w18 hw) (nf_same (C := "") (w20 hw)) (w20 hw) (w19 hw) (w2 hw) (w21 hw) (by decide) pd__I_I rfl (W := 0) (by decide) (by decide) (Nat.le_of_eq rfl) (by decide) (by decide) rfl rfl at_173 rfl fun T h628 v629 A Q630 => ?_
     obtain ⟨q622, q623, q624, hq625, rfl, K626, H627⟩ := Q630
     obtain ⟨E631, F632, V633, ne634, ge635, ge636⟩ := H627
     refine Wp.stk (st' := [(.int (Int32.ofNat (rt q603 q604 q605 0)))]) rfl ?_
     refine s_aload (pc' := 178) A at_176 rfl rfl rfl ?_
     refine s_iconst (pc' := 179) (z := (0 : Int32)) A at_178 rfl (by decide) ?_
     have V637 := (V621.keep K626 (ninS (Ne.symm ne29) (ninS (Ne.symm ne30) nin0)))
     refine s_iaload (pc' := 180) (i := 0) (v := (.int (Int32.ofNat (rt q473 q474 q475 0)))) A V637 (by decide) rfl at_179 rfl ?_
     refine s_icmpN (pc' := 183) A at_180 rfl (teq (congrArg Int32.ofNat ((hq606.2.2.2 0 (by decide))))).2 ?_
     refine s_iconst (pc' := 184) (z := (1 : Int32)) A at_183 rfl (by decide) ?_
     refine s_goto (pc' := 188) A at_184 (by decide) (by decide) ?_
     refine s_istore (pc' := 190) (Ls' := #[iv q0, iv q1, iv q2, iv (Int32.ofNat x0), iv (Int32.ofNat y0), iv (Int32.ofNat x1), iv (Int32.ofNat y1), iv (Int32.ofNat x2), iv (Int32.ofNat y2), iv (Int32.ofNat ee), rv b2, rv b24, iv 1, iv 1, U0, U0, U0]) A at_188 rfl rfl ?_
     refine s_aload (pc' := 192) A at_190 rfl rfl rfl ?_
     refine s_iconst (pc' := 193) (z := (1 : Int32)) A at_192 rfl (by decide) ?_
     refine s_virtual (pc' := 196) (y := y0_find) (argsL := [(.int (1 : Int32))]) (rest := []) (z := y0_find) A E631 (find_ok l Z a0 hw n0 h628 A.size b2 r9 q622 q623 q624 1 hq625.1 hq625.2.1 hq625.2.2.1 (by decide) ⟨E631, F632, V633, ne634, ge635, ge636⟩) (w35 hw) (w18 hw) (nf_same (C := "") (w20 hw)) (w20 hw) (w19 hw) (w2 hw) (w21 hw) (by decide) pd__I_I rfl (W := 0) (by decide) (by decide) (Nat.le_of_eq rfl) (by decide) (by decide) rfl rfl at_193 rfl fun T h644 v645 A Q646 => ?_
     obtain ⟨q638, q639, q640, hq641, rfl, K642, H643⟩ := Q646
     obtain ⟨E647, F648, V649, ne650, ge651, ge652⟩ := H643
     refine Wp.stk (st' := [(.int (Int32.ofNat (rt q622 q623 q624 1)))]) rfl ?_
     refine s_aload (pc' := 198) A at_196 rfl rfl rfl ?_
     refine s_iconst (pc' := 199) (z := (1 : Int32)) A at_198 rfl (by decide) ?_
     have V653 := (V637.keep K642 (ninS (Ne.symm ne29) (ninS (Ne.symm ne30) nin0)))
     refine s_iaload (pc' := 200) (i := 1) (v := (.int (Int32.ofNat (rt q473 q474 q475 1)))) A V653 (by decide) rfl at_199 rfl ?_
     refine s_icmpN (pc' := 203) A at_200 rfl (teq (congrArg Int32.ofNat (((hq625.2.2.2 1 (by decide)).trans (hq606.2.2.2 1 (by decide)))))).2 ?_
     refine s_iconst (pc' := 204) (z := (1 : Int32)) A at_203 rfl (by decide) ?_
     refine s_goto (pc' := 208) A at_204 (by decide) (by decide) ?_
     refine s_istore (pc' := 210) (Ls' := #[iv q0, iv q1, iv q2, iv (Int32.ofNat x0), iv (Int32.ofNat y0), iv (Int32.ofNat x1), iv (Int32.ofNat y1), iv (Int32.ofNat x2), iv (Int32.ofNat y2), iv (Int32.ofNat ee), rv b2, rv b24, iv 1, iv 1, iv 1, U0, U0]) A at_208 rfl rfl ?_
     refine s_aload (pc' := 212) A at_210 rfl rfl rfl ?_
     refine s_iconst (pc' := 213) (z := (2 : Int32)) A at_212 rfl (by decide) ?_
     refine s_virtual (pc' := 216) (y := y0_find) (argsL := [(.int (2 : Int32))]) (rest := []) (z := y0_find) A E647 (find_ok l Z a0 hw n0 h644 A.size b2 r9 q638 q639 q640 2 hq641.1 hq641.2.1 hq641.2.2.1 (by decide) ⟨E647, F648, V649, ne650, ge651, ge652⟩) (w35 hw) (w18 hw) (nf_same (C := "") (w20 hw)) (w20 hw) (w19 hw) (w2 hw) (w21 hw) (by decide) pd__I_I rfl (W := 0) (by decide) (by decide) (Nat.le_of_eq rfl) (by decide) (by decide) rfl rfl at_213 rfl fun T h660 v661 A Q662 => ?_
     obtain ⟨q654, q655, q656, hq657, rfl, K658, H659⟩ := Q662
     obtain ⟨E663, F664, V665, ne666, ge667, ge668⟩ := H659
     refine Wp.stk (st' := [(.int (Int32.ofNat (rt q638 q639 q640 2)))]) rfl ?_
     refine s_aload (pc' := 218) A at_216 rfl rfl rfl ?_
     refine s_iconst (pc' := 219) (z := (2 : Int32)) A at_218 rfl (by decide) ?_
     have V669 := (V653.keep K658 (ninS (Ne.symm ne29) (ninS (Ne.symm ne30) nin0)))
     refine s_iaload (pc' := 220) (i := 2) (v := (.int (Int32.ofNat (rt q473 q474 q475 2)))) A V669 (by decide) rfl at_219 rfl ?_
     refine s_icmpN (pc' := 223) A at_220 rfl (teq (congrArg Int32.ofNat (((hq641.2.2.2 2 (by decide)).trans ((hq625.2.2.2 2 (by decide)).trans (hq606.2.2.2 2 (by decide))))))).2 ?_
     refine s_iconst (pc' := 224) (z := (1 : Int32)) A at_223 rfl (by decide) ?_
     refine s_goto (pc' := 228) A at_224 (by decide) (by decide) ?_
     refine s_istore (pc' := 230) (Ls' := #[iv q0, iv q1, iv q2, iv (Int32.ofNat x0), iv (Int32.ofNat y0), iv (Int32.ofNat x1), iv (Int32.ofNat y1), iv (Int32.ofNat x2), iv (Int32.ofNat y2), iv (Int32.ofNat ee), rv b2, rv b24, iv 1, iv 1, iv 1, iv 1, U0]) A at_228 rfl rfl ?_
     refine s_aload (pc' := 232) A at_230 rfl rfl rfl ?_
     refine s_iconst (pc' := 233) (z := (3 : Int32)) A at_232 rfl (by decide) ?_
     refine s_virtual (pc' := 236) (y := y0_find) (argsL := [(.int (3 : Int32))]) (rest := []) (z := y0_find) A E663 (find_ok l Z a0 hw n0 h660 A.size b2 r9 q654 q655 q656 3 hq657.1 hq657.2.1 hq657.2.2.1 (by decide) ⟨E663, F664, V665, ne666, ge667, ge668⟩) (w35 hw) (w18 hw) (nf_same (C := "") (w20 hw)) (w20 hw) (w19 hw) (w2 hw) (w21 hw) (by decide) pd__I_I rfl (W := 0) (by decide) (by decide) (Nat.le_of_eq rfl) (by decide) (by decide) rfl rfl at_233 rfl fun T h676 v677 A Q678 => ?_
     obtain ⟨q670, q671, q672, hq673, rfl, K674, H675⟩ := Q678
     obtain ⟨E679, F680, V681, ne682, ge683, ge684⟩ := H675
     refine Wp.stk (st' := [(.int (Int32.ofNat (rt q654 q655 q656 3)))]) rfl ?_
     refine s_aload (pc' := 238) A at_236 rfl rfl rfl ?_
     refine s_iconst (pc' := 239) (z := (3 : Int32)) A at_238 rfl (by decide) ?_
     have V685 := (V669.keep K674 (ninS (Ne.symm ne29) (ninS (Ne.symm ne30) nin0)))
     refine s_iaload (pc' := 240) (i := 3) (v := (.int (Int32.ofNat (rt q473 q474 q475 3)))) A V685 (by decide) rfl at_239 rfl ?_
     refine s_icmpN (pc' := 243) A at_240 rfl (teq (congrArg Int32.ofNat (((hq657.2.2.2 3 (by decide)).trans ((hq641.2.2.2 3 (by decide)).trans ((hq625.2.2.2 3 (by decide)).trans (hq606.2.2.2 3 (by decide)))))))).2 ?_
     refine s_iconst (pc' := 244) (z := (1 : Int32)) A at_243 rfl (by decide) ?_
     refine s_goto (pc' := 248) A at_244 (by decide) (by decide) ?_
     refine s_istore (pc' := 250) (Ls' := #[iv q0, iv q1, iv q2, iv (Int32.ofNat x0), iv (Int32.ofNat y0), iv (Int32.ofNat x1), iv (Int32.ofNat y1), iv (Int32.ofNat x2), iv (Int32.ofNat y2), iv (Int32.ofNat ee), rv b2, rv b24, iv 1, iv 1, iv 1, iv 1, iv 1]) A at_248 rfl rfl ?_
     refine s_iload (pc' := 252) A at_250 rfl rfl ?_
     refine s_ifN (pc' := 255) A at_252 rfl (by decide) ?_
     refine s_iload (pc' := 257) A at_255 rfl rfl ?_
     refine s_ifN (pc' := 260) A at_257 rfl (by decide) ?_
     refine s_iload (pc' := 262) A at_260 rfl rfl ?_
     refine s_ifN (pc' := 265) A at_262 rfl (by decide) ?_
     refine s_iload (pc' := 267) A at_265 rfl rfl ?_
     refine s_ifN (pc' := 270) A at_267 rfl (by decide) ?_
     refine s_iload (pc' := 272) A at_270 rfl rfl ?_
     refine s_ifN (pc' := 275) A at_272 rfl (by decide) ?_
     refine s_iconst (pc' := 276) (z := (1 : Int32)) A at_275 rfl (by decide) ?_
     refine s_goto (pc' := 280) A at_276 (by decide) (by decide) ?_
     exact r_bool A rfl (by decide) at_280 (by decide) (by decide) (rfl)
   ·
    refine s_ifY (pc' := 124) A at_103 ((if0 _ _).trans (feq hc103_1).2) (by decide) (by decide) ?_
    refine s_iloadN (pc' := 125) A at_124 rfl rfl ?_
    refine s_iconst (pc' := 126) (z := (4 : Int32)) A at_125 rfl (by decide) ?_
    refine s_iand (pc' := 127) (z := (q1 &&& (4 : Int32))) A at_126 rfl rfl ?_
    by_cases hc127_1 : (q1 &&& (4 : Int32)) = (0 : Int32)
    ·
     refine s_ifN (pc' := 130) A at_127 rfl ((if0 _ _).trans (teq hc127_1).2) ?_
     refine s_aload (pc' := 132) A at_130 rfl rfl rfl ?_
     refine s_iload (pc' := 134) A at_132 rfl rfl ?_
     refine s_iload (pc' := 136) A at_134 rfl rfl ?_
     have E692 := (((((E17.ext X27).wr W32).wr W35).wr W38).wr W41)
     have F693 := (((((F18.ext X27).other W32 (Or.inl ne29)).other W35 (Or.inl ne29)).other W38 (Or.inl ne29)).other W41 (Or.inl ne29))
     refine s_virtual (pc' := 139) (y := y3_join) (argsL := [(.int (Int32.ofNat x2)), (.int (Int32.ofNat y2))]) (rest := []) (z := y3_join) A E692 (join_ok l Z a0 hw n0 h40 A.size b2 r9 1 2 3 x2 y2 ⟨hid.1, hid.2.1, hid.2.2.1, trivial⟩ hx2 hy2 ⟨E692, F693, V44, ne20, ge21, ge22⟩) (w12 hw) (w13 hw) (nf_same (C := "") (w15 hw)) (w15 hw) (w14 hw) (w2 hw) (w16 hw) (by decide) pd__II_V rfl (W := 0) (by decide) (by decide) (Nat.le_of_eq rfl) (by decide) (by decide) rfl rfl at_136 rfl fun T h694 v695 A Q696 => ?_
     obtain ⟨q686, q687, q688, hq689, rfl, K690, H691⟩ := Q696
     obtain ⟨E697, F698, V699, ne700, ge701, ge702⟩ := H691
     refine Wp.stk (st' := []) rfl ?_
     refine s_aload (pc' := 141) A at_139 rfl rfl rfl ?_
     refine s_iload (pc' := 143) A at_141 rfl rfl ?_
     refine s_iload (pc' := 145) A at_143 rfl rfl ?_
     have V703 := (V45.keep K690 (ninS (Ne.symm ne29) (ninS (Ne.symm ne30) nin0)))
     refine s_static (pc' := 148) (y := y4_merge) (argsL := [(.ref b24), (.int (Int32.ofNat x2)), (.int (Int32.ofNat y2))]) (rest := []) A (merge_ok l Z a0 hw n0 h694 A.size b24 (rt 1 2 3 0) (rt 1 2 3 1) (rt 1 2 3 2) (rt 1 2 3 3) x2 y2 (own_rt4 _ hid.1 _ hid.2.1 _ hid.2.2.1 _ (by decide)) (own_rt4 _ hid.1 _ hid.2.1 _ hid.2.2.1 _ (by decide)) (own_rt4 _ hid.1 _ hid.2.1 _ hid.2.2.1 _ (by decide)) (own_rt4 _ hid.1 _ hid.2.1 _ hid.2.2.1 _ (by decide)) hx2 hy2 V703 ge26) (w29 hw) (w30 hw) (w31 hw) (w32 hw) (by decide) pd___III_V rfl (W := 0) (by decide) (by decide) (Nat.le_of_eq rfl) (by decide) (by decide) rfl rfl at_145 rfl fun T h706 v707 A Q708 => ?_
     obtain ⟨rfl, K704, V705⟩ := Q708
     rw [own_Lrt 1 2 3 x2 hx2, own_Lrt 1 2 3 y2 hy2, ← hq689.2.2.2 0 (by decide), ← hq689.2.2.2 1 (by decide), ← hq689.2.2.2 2 (by decide), ← hq689.2.2.2 3 (by decide)] at V705
     refine Wp.stk (st' := []) rfl ?_
     refine s_aload (pc' := 150) A at_148 rfl rfl rfl ?_
     refine s_iload (pc' := 152) A at_150 rfl rfl ?_
     have E715 := (E697.keep K704)
     have F716 := (F698.keep K704 (ninS ne29 nin0))
     have V717 := (V699.keep K704 (ninS ne30 nin0))
     refine s_virtual (pc' := 155) (y := y0_find) (argsL := [(.int (Int32.ofNat ee))]) (rest := []) (z := y0_find) A E715 (find_ok l Z a0 hw n0 h706 A.size b2 r9 q686 q687 q688 ee hq689.1 hq689.2.1 hq689.2.2.1 hee ⟨E715, F716, V717, ne700, ge701, ge702⟩) (w35 hw) (w18 hw) (nf_same (C := "") (w20 hw)) (w20 hw) (w19 hw) (w2 hw) (w21 hw) (by decide) pd__I_I rfl (W := 0) (by decide) (by decide) (Nat.le_of_eq rfl) (by decide) (by decide) rfl rfl at_152 rfl fun T h718 v719 A Q720 => ?_
     obtain ⟨q709, q710, q711, hq712, rfl, K713, H714⟩ := Q720
     obtain ⟨E721, F722, V723, ne724, ge725, ge726⟩ := H714
     refine Wp.stk (st' := [(.int (Int32.ofNat (rt q686 q687 q688 ee)))]) rfl ?_
     refine s_aload (pc' := 157) A at_155 rfl rfl rfl ?_
     refine s_iload (pc' := 159) A at_157 rfl rfl ?_
     have V727 := (V705.keep K713 (ninS (Ne.symm ne29) (ninS (Ne.symm ne30) nin0)))
     refine s_iaload (pc' := 160) (i := ee) (v := (.int (Int32.ofNat (Lf (rt q686 q687 q688 0) (rt q686 q687 q688 1) (rt q686 q687 q688 2) (rt q686 q687 q688 3) ee)))) A V727 (own_small hee) (own_at _ _ _ _ _ hee) at_159 rfl ?_
     refine s_icmpN (pc' := 163) A at_160 rfl (teq (congrArg Int32.ofNat (((own_Lrt q686 q687 q688 ee hee).symm)))).2 ?_
     refine s_iconst (pc' := 164) (z := (1 : Int32)) A at_163 rfl (by decide) ?_
     refine s_goto (pc' := 168) A at_164 (by decide) (by decide) ?_
     refine s_istore (pc' := 170) (Ls' := #[iv q0, iv q1, iv q2, iv (Int32.ofNat x0), iv (Int32.ofNat y0), iv (Int32.ofNat x1), iv (Int32.ofNat y1), iv (Int32.ofNat x2), iv (Int32.ofNat y2), iv (Int32.ofNat ee), rv b2, rv b24, iv 1, U0, U0, U0, U0]) A at_168 rfl rfl ?_
     refine s_aload (pc' := 172) A at_170 rfl rfl rfl ?_
     refine s_iconst (pc' := 173) (z := (0 : Int32)) A at_172 rfl (by decide) ?_
     refine s_virtual (pc' := 176) (y := y0_find) (argsL := [(.int (0 : Int32))]) (rest := []) (z := y0_find) A E721 (find_ok l Z a0 hw n0 h718 A.size b2 r9 q709 q710 q711 0 hq712.1 hq712.2.1 hq712.2.2.1 (by decide) ⟨E721, F722, V723, ne724, ge725, ge726⟩) (w35 hw) (w18 hw) (nf_same (C := "") (w20 hw)) (w20 hw) (w19 hw) (w2 hw) (w21 hw) (by decide) pd__I_I rfl (W := 0) (by decide) (by decide) (Nat.le_of_eq rfl) (by decide) (by decide) rfl rfl at_173 rfl fun T h734 v735 A Q736 => ?_
     obtain ⟨q728, q729, q730, hq731, rfl, K732, H733⟩ := Q736
     obtain ⟨E737, F738, V739, ne740, ge741, ge742⟩ := H733
     refine Wp.stk (st' := [(.int (Int32.ofNat (rt q709 q710 q711 0)))]) rfl ?_
     refine s_aload (pc' := 178) A at_176 rfl rfl rfl ?_
     refine s_iconst (pc' := 179) (z := (0 : Int32)) A at_178 rfl (by decide) ?_
     have V743 := (V727.keep K732 (ninS (Ne.symm ne29) (ninS (Ne.symm ne30) nin0)))
     refine s_iaload (pc' := 180) (i := 0) (v := (.int (Int32.ofNat (rt q686 q687 q688 0)))) A V743 (by decide) rfl at_179 rfl ?_
     refine s_icmpN (pc' := 183) A at_180 rfl (teq (congrArg Int32.ofNat ((hq712.2.2.2 0 (by decide))))).2 ?_
     refine s_iconst (pc' := 184) (z := (1 : Int32)) A at_183 rfl (by decide) ?_
     refine s_goto (pc' := 188) A at_184 (by decide) (by decide) ?_
     refine s_istore (pc' := 190) (Ls' := #[iv q0, iv q1, iv q2, iv (Int32.ofNat x0), iv (Int32.ofNat y0), iv (Int32.ofNat x1), iv (Int32.ofNat y1), iv (Int32.ofNat x2), iv (Int32.ofNat y2), iv (Int32.ofNat ee), rv b2, rv b24, iv 1, iv 1, U0, U0, U0]) A at_188 rfl rfl ?_
     refine s_aload (pc' := 192) A at_190 rfl rfl rfl ?_
     refine s_iconst (pc' := 193) (z := (1 : Int32)) A at_192 rfl (by decide) ?_
     refine s_virtual (pc' := 196) (y := y0_find) (argsL := [(.int (1 : Int32))]) (rest := []) (z := y0_find) A E737 (find_ok l Z a0 hw n0 h734 A.size b2 r9 q728 q729 q730 1 hq731.1 hq731.2.1 hq731.2.2.1 (by decide) ⟨E737, F738, V739, ne740, ge741, ge742⟩) (w35 hw) (w18 hw) (nf_same (C := "") (w20 hw)) (w20 hw) (w19 hw) (w2 hw) (w21 hw) (by decide) pd__I_I rfl (W := 0) (by decide) (by decide) (Nat.le_of_eq rfl) (by decide) (by decide) rfl rfl at_193 rfl fun T h750 v751 A Q752 => ?_
     obtain ⟨q744, q745, q746, hq747, rfl, K748, H749⟩ := Q752
     obtain ⟨E753, F754, V755, ne756, ge757, ge758⟩ := H749
     refine Wp.stk (st' := [(.int (Int32.ofNat (rt q728 q729 q730 1)))]) rfl ?_
     refine s_aload (pc' := 198) A at_196 rfl rfl rfl ?_
     refine s_iconst (pc' := 199) (z := (1 : Int32)) A at_198 rfl (by decide) ?_
     have V759 := (V743.keep K748 (ninS (Ne.symm ne29) (ninS (Ne.symm ne30) nin0)))
     refine s_iaload (pc' := 200) (i := 1) (v := (.int (Int32.ofNat (rt q686 q687 q688 1)))) A V759 (by decide) rfl at_199 rfl ?_
     refine s_icmpN (pc' := 203) A at_200 rfl (teq (congrArg Int32.ofNat (((hq731.2.2.2 1 (by decide)).trans (hq712.2.2.2 1 (by decide)))))).2 ?_
     refine s_iconst (pc' := 204) (z := (1 : Int32)) A at_203 rfl (by decide) ?_
     refine s_goto (pc' := 208) A at_204 (by decide) (by decide) ?_
     refine s_istore (pc' := 210) (Ls' := #[iv q0, iv q1, iv q2, iv (Int32.ofNat x0), iv (Int32.ofNat y0), iv (Int32.ofNat x1), iv (Int32.ofNat y1), iv (Int32.ofNat x2), iv (Int32.ofNat y2), iv (Int32.ofNat ee), rv b2, rv b24, iv 1, iv 1, iv 1, U0, U0]) A at_208 rfl rfl ?_
     refine s_aload (pc' := 212) A at_210 rfl rfl rfl ?_
     refine s_iconst (pc' := 213) (z := (2 : Int32)) A at_212 rfl (by decide) ?_
     refine s_virtual (pc' := 216) (y := y0_find) (argsL := [(.int (2 : Int32))]) (rest := []) (z := y0_find) A E753 (find_ok l Z a0 hw n0 h750 A.size b2 r9 q744 q745 q746 2 hq747.1 hq747.2.1 hq747.2.2.1 (by decide) ⟨E753, F754, V755, ne756, ge757, ge758⟩) (w35 hw) (w18 hw) (nf_same (C := "") (w20 hw)) (w20 hw) (w19 hw) (w2 hw) (w21 hw) (by decide) pd__I_I rfl (W := 0) (by decide) (by decide) (Nat.le_of_eq rfl) (by decide) (by decide) rfl rfl at_213 rfl fun T h766 v767 A Q768 => ?_
     obtain ⟨q760, q761, q762, hq763, rfl, K764, H765⟩ := Q768
     obtain ⟨E769, F770, V771, ne772, ge773, ge774⟩ := H765
     refine Wp.stk (st' := [(.int (Int32.ofNat (rt q744 q745 q746 2)))]) rfl ?_
     refine s_aload (pc' := 218) A at_216 rfl rfl rfl ?_
     refine s_iconst (pc' := 219) (z := (2 : Int32)) A at_218 rfl (by decide) ?_
     have V775 := (V759.keep K764 (ninS (Ne.symm ne29) (ninS (Ne.symm ne30) nin0)))
     refine s_iaload (pc' := 220) (i := 2) (v := (.int (Int32.ofNat (rt q686 q687 q688 2)))) A V775 (by decide) rfl at_219 rfl ?_
     refine s_icmpN (pc' := 223) A at_220 rfl (teq (congrArg Int32.ofNat (((hq747.2.2.2 2 (by decide)).trans ((hq731.2.2.2 2 (by decide)).trans (hq712.2.2.2 2 (by decide))))))).2 ?_
     refine s_iconst (pc' := 224) (z := (1 : Int32)) A at_223 rfl (by decide) ?_
     refine s_goto (pc' := 228) A at_224 (by decide) (by decide) ?_
     refine s_istore (pc' := 230) (Ls' := #[iv q0, iv q1, iv q2, iv (Int32.ofNat x0), iv (Int32.ofNat y0), iv (Int32.ofNat x1), iv (Int32.ofNat y1), iv (Int32.ofNat x2), iv (Int32.ofNat y2), iv (Int32.ofNat ee), rv b2, rv b24, iv 1, iv 1, iv 1, iv 1, U0]) A at_228 rfl rfl ?_
     refine s_aload (pc' := 232) A at_230 rfl rfl rfl ?_
     refine s_iconst (pc' := 233) (z := (3 : Int32)) A at_232 rfl (by decide) ?_
     refine s_virtual (pc' := 236) (y := y0_find) (argsL := [(.int (3 : Int32))]) (rest := []) (z := y0_find) A E769 (find_ok l Z a0 hw n0 h766 A.size b2 r9 q760 q761 q762 3 hq763.1 hq763.2.1 hq763.2.2.1 (by decide) ⟨E769, F770, V771, ne772, ge773, ge774⟩) (w35 hw) (w18 hw) (nf_same (C := "") (w20 hw)) (w20 hw) (w19 hw) (w2 hw) (w21 hw) (by decide) pd__I_I rfl (W := 0) (by decide) (by decide) (Nat.le_of_eq rfl) (by decide) (by decide) rfl rfl at_233 rfl fun T h782 v783 A Q784 => ?_
     obtain ⟨q776, q777, q778, hq779, rfl, K780, H781⟩ := Q784
     obtain ⟨E785, F786, V787, ne788, ge789, ge790⟩ := H781
     refine Wp.stk (st' := [(.int (Int32.ofNat (rt q760 q761 q762 3)))]) rfl ?_
     refine s_aload (pc' := 238) A at_236 rfl rfl rfl ?_
     refine s_iconst (pc' := 239) (z := (3 : Int32)) A at_238 rfl (by decide) ?_
     have V791 := (V775.keep K780 (ninS (Ne.symm ne29) (ninS (Ne.symm ne30) nin0)))
     refine s_iaload (pc' := 240) (i := 3) (v := (.int (Int32.ofNat (rt q686 q687 q688 3)))) A V791 (by decide) rfl at_239 rfl ?_
     refine s_icmpN (pc' := 243) A at_240 rfl (teq (congrArg Int32.ofNat (((hq763.2.2.2 3 (by decide)).trans ((hq747.2.2.2 3 (by decide)).trans ((hq731.2.2.2 3 (by decide)).trans (hq712.2.2.2 3 (by decide)))))))).2 ?_
     refine s_iconst (pc' := 244) (z := (1 : Int32)) A at_243 rfl (by decide) ?_
     refine s_goto (pc' := 248) A at_244 (by decide) (by decide) ?_
     refine s_istore (pc' := 250) (Ls' := #[iv q0, iv q1, iv q2, iv (Int32.ofNat x0), iv (Int32.ofNat y0), iv (Int32.ofNat x1), iv (Int32.ofNat y1), iv (Int32.ofNat x2), iv (Int32.ofNat y2), iv (Int32.ofNat ee), rv b2, rv b24, iv 1, iv 1, iv 1, iv 1, iv 1]) A at_248 rfl rfl ?_
     refine s_iload (pc' := 252) A at_250 rfl rfl ?_
     refine s_ifN (pc' := 255) A at_252 rfl (by decide) ?_
     refine s_iload (pc' := 257) A at_255 rfl rfl ?_
     refine s_ifN (pc' := 260) A at_257 rfl (by decide) ?_
     refine s_iload (pc' := 262) A at_260 rfl rfl ?_
     refine s_ifN (pc' := 265) A at_262 rfl (by decide) ?_
     refine s_iload (pc' := 267) A at_265 rfl rfl ?_
     refine s_ifN (pc' := 270) A at_267 rfl (by decide) ?_
     refine s_iload (pc' := 272) A at_270 rfl rfl ?_
     refine s_ifN (pc' := 275) A at_272 rfl (by decide) ?_
     refine s_iconst (pc' := 276) (z := (1 : Int32)) A at_275 rfl (by decide) ?_
     refine s_goto (pc' := 280) A at_276 (by decide) (by decide) ?_
     exact r_bool A rfl (by decide) at_280 (by decide) (by decide) (rfl)
    ·
     refine s_ifY (pc' := 148) A at_127 ((if0 _ _).trans (feq hc127_1).2) (by decide) (by decide) ?_
     refine s_aload (pc' := 150) A at_148 rfl rfl rfl ?_
     refine s_iload (pc' := 152) A at_150 rfl rfl ?_
     have E798 := (((((E17.ext X27).wr W32).wr W35).wr W38).wr W41)
     have F799 := (((((F18.ext X27).other W32 (Or.inl ne29)).other W35 (Or.inl ne29)).other W38 (Or.inl ne29)).other W41 (Or.inl ne29))
     refine s_virtual (pc' := 155) (y := y0_find) (argsL := [(.int (Int32.ofNat ee))]) (rest := []) (z := y0_find) A E798 (find_ok l Z a0 hw n0 h40 A.size b2 r9 1 2 3 ee hid.1 hid.2.1 hid.2.2.1 hee ⟨E798, F799, V44, ne20, ge21, ge22⟩) (w35 hw) (w18 hw) (nf_same (C := "") (w20 hw)) (w20 hw) (w19 hw) (w2 hw) (w21 hw) (by decide) pd__I_I rfl (W := 0) (by decide) (by decide) (Nat.le_of_eq rfl) (by decide) (by decide) rfl rfl at_152 rfl fun T h800 v801 A Q802 => ?_
     obtain ⟨q792, q793, q794, hq795, rfl, K796, H797⟩ := Q802
     obtain ⟨E803, F804, V805, ne806, ge807, ge808⟩ := H797
     refine Wp.stk (st' := [(.int (Int32.ofNat (rt 1 2 3 ee)))]) rfl ?_
     refine s_aload (pc' := 157) A at_155 rfl rfl rfl ?_
     refine s_iload (pc' := 159) A at_157 rfl rfl ?_
     have V809 := (V45.keep K796 (ninS (Ne.symm ne29) (ninS (Ne.symm ne30) nin0)))
     refine s_iaload (pc' := 160) (i := ee) (v := (.int (Int32.ofNat (Lf (rt 1 2 3 0) (rt 1 2 3 1) (rt 1 2 3 2) (rt 1 2 3 3) ee)))) A V809 (own_small hee) (own_at _ _ _ _ _ hee) at_159 rfl ?_
     refine s_icmpN (pc' := 163) A at_160 rfl (teq (congrArg Int32.ofNat (((own_Lrt 1 2 3 ee hee).symm)))).2 ?_
     refine s_iconst (pc' := 164) (z := (1 : Int32)) A at_163 rfl (by decide) ?_
     refine s_goto (pc' := 168) A at_164 (by decide) (by decide) ?_
     refine s_istore (pc' := 170) (Ls' := #[iv q0, iv q1, iv q2, iv (Int32.ofNat x0), iv (Int32.ofNat y0), iv (Int32.ofNat x1), iv (Int32.ofNat y1), iv (Int32.ofNat x2), iv (Int32.ofNat y2), iv (Int32.ofNat ee), rv b2, rv b24, iv 1, U0, U0, U0, U0]) A at_168 rfl rfl ?_
     refine s_aload (pc' := 172) A at_170 rfl rfl rfl ?_
     refine s_iconst (pc' := 173) (z := (0 : Int32)) A at_172 rfl (by decide) ?_
     refine s_virtual (pc' := 176) (y := y0_find) (argsL := [(.int (0 : Int32))]) (rest := []) (z := y0_find) A E803 (find_ok l Z a0 hw n0 h800 A.size b2 r9 q792 q793 q794 0 hq795.1 hq795.2.1 hq795.2.2.1 (by decide) ⟨E803, F804, V805, ne806, ge807, ge808⟩) (w35 hw) (w18 hw) (nf_same (C := "") (w20 hw)) (w20 hw) (w19 hw) (w2 hw) (w21 hw) (by decide) pd__I_I rfl (W := 0) (by decide) (by decide) (Nat.le_of_eq rfl) (by decide) (by decide) rfl rfl at_173 rfl fun T h816 v817 A Q818 => ?_
     obtain ⟨q810, q811, q812, hq813, rfl, K814, H815⟩ := Q818
     obtain ⟨E819, F820, V821, ne822, ge823, ge824⟩ := H815
     refine Wp.stk (st' := [(.int (Int32.ofNat (rt q792 q793 q794 0)))]) rfl ?_
     refine s_aload (pc' := 178) A at_176 rfl rfl rfl ?_
     refine s_iconst (pc' := 179) (z := (0 : Int32)) A at_178 rfl (by decide) ?_
     have V825 := (V809.keep K814 (ninS (Ne.symm ne29) (ninS (Ne.symm ne30) nin0)))
     refine s_iaload (pc' := 180) (i := 0) (v := (.int (Int32.ofNat (rt 1 2 3 0)))) A V825 (by decide) rfl at_179 rfl ?_
     refine s_icmpN (pc' := 183) A at_180 rfl (teq (congrArg Int32.ofNat ((hq795.2.2.2 0 (by decide))))).2 ?_
     refine s_iconst (pc' := 184) (z := (1 : Int32)) A at_183 rfl (by decide) ?_
     refine s_goto (pc' := 188) A at_184 (by decide) (by decide) ?_
     refine s_istore (pc' := 190) (Ls' := #[iv q0, iv q1, iv q2, iv (Int32.ofNat x0), iv (Int32.ofNat y0), iv (Int32.ofNat x1), iv (Int32.ofNat y1), iv (Int32.ofNat x2), iv (Int32.ofNat y2), iv (Int32.ofNat ee), rv b2, rv b24, iv 1, iv 1, U0, U0, U0]) A at_188 rfl rfl ?_
     refine s_aload (pc' := 192) A at_190 rfl rfl rfl ?_
     refine s_iconst (pc' := 193) (z := (1 : Int32)) A at_192 rfl (by decide) ?_
     refine s_virtual (pc' := 196) (y := y0_find) (argsL := [(.int (1 : Int32))]) (rest := []) (z := y0_find) A E819 (find_ok l Z a0 hw n0 h816 A.size b2 r9 q810 q811 q812 1 hq813.1 hq813.2.1 hq813.2.2.1 (by decide) ⟨E819, F820, V821, ne822, ge823, ge824⟩) (w35 hw) (w18 hw) (nf_same (C := "") (w20 hw)) (w20 hw) (w19 hw) (w2 hw) (w21 hw) (by decide) pd__I_I rfl (W := 0) (by decide) (by decide) (Nat.le_of_eq rfl) (by decide) (by decide) rfl rfl at_193 rfl fun T h832 v833 A Q834 => ?_
     obtain ⟨q826, q827, q828, hq829, rfl, K830, H831⟩ := Q834
     obtain ⟨E835, F836, V837, ne838, ge839, ge840⟩ := H831
     refine Wp.stk (st' := [(.int (Int32.ofNat (rt q810 q811 q812 1)))]) rfl ?_
     refine s_aload (pc' := 198) A at_196 rfl rfl rfl ?_
     refine s_iconst (pc' := 199) (z := (1 : Int32)) A at_198 rfl (by decide) ?_
     have V841 := (V825.keep K830 (ninS (Ne.symm ne29) (ninS (Ne.symm ne30) nin0)))
     refine s_iaload (pc' := 200) (i := 1) (v := (.int (Int32.ofNat (rt 1 2 3 1)))) A V841 (by decide) rfl at_199 rfl ?_
     refine s_icmpN (pc' := 203) A at_200 rfl (teq (congrArg Int32.ofNat (((hq813.2.2.2 1 (by decide)).trans (hq795.2.2.2 1 (by decide)))))).2 ?_
     refine s_iconst (pc' := 204) (z := (1 : Int32)) A at_203 rfl (by decide) ?_
     refine s_goto (pc' := 208) A at_204 (by decide) (by decide) ?_
     refine s_istore (pc' := 210) (Ls' := #[iv q0, iv q1, iv q2, iv (Int32.ofNat x0), iv (Int32.ofNat y0), iv (Int32.ofNat x1), iv (Int32.ofNat y1), iv (Int32.ofNat x2), iv (Int32.ofNat y2), iv (Int32.ofNat ee), rv b2, rv b24, iv 1, iv 1, iv 1, U0, U0]) A at_208 rfl rfl ?_
     refine s_aload (pc' := 212) A at_210 rfl rfl rfl ?_
     refine s_iconst (pc' := 213) (z := (2 : Int32)) A at_212 rfl (by decide) ?_
     refine s_virtual (pc' := 216) (y := y0_find) (argsL := [(.int (2 : Int32))]) (rest := []) (z := y0_find) A E835 (find_ok l Z a0 hw n0 h832 A.size b2 r9 q826 q827 q828 2 hq829.1 hq829.2.1 hq829.2.2.1 (by decide) ⟨E835, F836, V837, ne838, ge839, ge840⟩) (w35 hw) (w18 hw) (nf_same (C := "") (w20 hw)) (w20 hw) (w19 hw) (w2 hw) (w21 hw) (by decide) pd__I_I rfl (W := 0) (by decide) (by decide) (Nat.le_of_eq rfl) (by decide) (by decide) rfl rfl at_213 rfl fun T h848 v849 A Q850 => ?_
     obtain ⟨q842, q843, q844, hq845, rfl, K846, H847⟩ := Q850
     obtain ⟨E851, F852, V853, ne854, ge855, ge856⟩ := H847
     refine Wp.stk (st' := [(.int (Int32.ofNat (rt q826 q827 q828 2)))]) rfl ?_
     refine s_aload (pc' := 218) A at_216 rfl rfl rfl ?_
     refine s_iconst (pc' := 219) (z := (2 : Int32)) A at_218 rfl (by decide) ?_
     have V857 := (V841.keep K846 (ninS (Ne.symm ne29) (ninS (Ne.symm ne30) nin0)))
     refine s_iaload (pc' := 220) (i := 2) (v := (.int (Int32.ofNat (rt 1 2 3 2)))) A V857 (by decide) rfl at_219 rfl ?_
     refine s_icmpN (pc' := 223) A at_220 rfl (teq (congrArg Int32.ofNat (((hq829.2.2.2 2 (by decide)).trans ((hq813.2.2.2 2 (by decide)).trans (hq795.2.2.2 2 (by decide))))))).2 ?_
     refine s_iconst (pc' := 224) (z := (1 : Int32)) A at_223 rfl (by decide) ?_
     refine s_goto (pc' := 228) A at_224 (by decide) (by decide) ?_
     refine s_istore (pc' := 230) (Ls' := #[iv q0, iv q1, iv q2, iv (Int32.ofNat x0), iv (Int32.ofNat y0), iv (Int32.ofNat x1), iv (Int32.ofNat y1), iv (Int32.ofNat x2), iv (Int32.ofNat y2), iv (Int32.ofNat ee), rv b2, rv b24, iv 1, iv 1, iv 1, iv 1, U0]) A at_228 rfl rfl ?_
     refine s_aload (pc' := 232) A at_230 rfl rfl rfl ?_
     refine s_iconst (pc' := 233) (z := (3 : Int32)) A at_232 rfl (by decide) ?_
     refine s_virtual (pc' := 236) (y := y0_find) (argsL := [(.int (3 : Int32))]) (rest := []) (z := y0_find) A E851 (find_ok l Z a0 hw n0 h848 A.size b2 r9 q842 q843 q844 3 hq845.1 hq845.2.1 hq845.2.2.1 (by decide) ⟨E851, F852, V853, ne854, ge855, ge856⟩) (w35 hw) (w18 hw) (nf_same (C := "") (w20 hw)) (w20 hw) (w19 hw) (w2 hw) (w21 hw) (by decide) pd__I_I rfl (W := 0) (by decide) (by decide) (Nat.le_of_eq rfl) (by decide) (by decide) rfl rfl at_233 rfl fun T h864 v865 A Q866 => ?_
     obtain ⟨q858, q859, q860, hq861, rfl, K862, H863⟩ := Q866
     obtain ⟨E867, F868, V869, ne870, ge871, ge872⟩ := H863
     refine Wp.stk (st' := [(.int (Int32.ofNat (rt q842 q843 q844 3)))]) rfl ?_
     refine s_aload (pc' := 238) A at_236 rfl rfl rfl ?_
     refine s_iconst (pc' := 239) (z := (3 : Int32)) A at_238 rfl (by decide) ?_
     have V873 := (V857.keep K862 (ninS (Ne.symm ne29) (ninS (Ne.symm ne30) nin0)))
     refine s_iaload (pc' := 240) (i := 3) (v := (.int (Int32.ofNat (rt 1 2 3 3)))) A V873 (by decide) rfl at_239 rfl ?_
     refine s_icmpN (pc' := 243) A at_240 rfl (teq (congrArg Int32.ofNat (((hq845.2.2.2 3 (by decide)).trans ((hq829.2.2.2 3 (by decide)).trans ((hq813.2.2.2 3 (by decide)).trans (hq795.2.2.2 3 (by decide)))))))).2 ?_
     refine s_iconst (pc' := 244) (z := (1 : Int32)) A at_243 rfl (by decide) ?_
     refine s_goto (pc' := 248) A at_244 (by decide) (by decide) ?_
     refine s_istore (pc' := 250) (Ls' := #[iv q0, iv q1, iv q2, iv (Int32.ofNat x0), iv (Int32.ofNat y0), iv (Int32.ofNat x1), iv (Int32.ofNat y1), iv (Int32.ofNat x2), iv (Int32.ofNat y2), iv (Int32.ofNat ee), rv b2, rv b24, iv 1, iv 1, iv 1, iv 1, iv 1]) A at_248 rfl rfl ?_
     refine s_iload (pc' := 252) A at_250 rfl rfl ?_
     refine s_ifN (pc' := 255) A at_252 rfl (by decide) ?_
     refine s_iload (pc' := 257) A at_255 rfl rfl ?_
     refine s_ifN (pc' := 260) A at_257 rfl (by decide) ?_
     refine s_iload (pc' := 262) A at_260 rfl rfl ?_
     refine s_ifN (pc' := 265) A at_262 rfl (by decide) ?_
     refine s_iload (pc' := 267) A at_265 rfl rfl ?_
     refine s_ifN (pc' := 270) A at_267 rfl (by decide) ?_
     refine s_iload (pc' := 272) A at_270 rfl rfl ?_
     refine s_ifN (pc' := 275) A at_272 rfl (by decide) ?_
     refine s_iconst (pc' := 276) (z := (1 : Int32)) A at_275 rfl (by decide) ?_
     refine s_goto (pc' := 280) A at_276 (by decide) (by decide) ?_
     exact r_bool A rfl (by decide) at_280 (by decide) (by decide) (rfl)
set_option maxRecDepth 65536 in
set_option maxHeartbeats 40000000 in
theorem comes_1 {Post : Tables → Env → Array Value → State → Outcome → State → Prop} (hpost : ∀ tb e args s v u, (limb_1_1.after args s (.returned v) u = true ∧ limb_1_2.after args s (.returned v) u = true ∧ True) → FrameEnd s (.returned v) u (Jvm.fieldLocs frame_1_writes args s ++ Jvm.arrayLocs frame_1_arrays args s ++ Jvm.staticLocs frame_1_statics s) 16 128 → Post tb e args s (.returned v) u) :
    ArmFor flags0 classFile x code maxLocals ret World_1 tables_1 room_1 Calls_1 rest_1 Pre_1 Post := by
  intro l hfl _ _ p e ha hc hk s m args below hf hA hF happ hP
  obtain ⟨hcalls, hrest, hpre⟩ := hP
  obtain ⟨-, -, -, hnamed, -, -, -, hat⟩ := (Spec.applies_iff hf).mp happ
  obtain ⟨hg, hn⟩ := and_e (Cond.before_iff.mp (show (Jvm.Cond.and given_1 narrow_1).before args s = true from hpre))
  obtain ⟨hcnt, hg⟩ := and_e hg
  obtain ⟨w0, w1, w2, rfl⟩ : ∃ w0 w1 w2 : Value, args = #[w0, w1, w2] := by
    have hs : args.size = 3 := by simpa [Cond.value, given_1] using hcnt
    obtain ⟨L⟩ := args
    match L, hs with
    | [w0, w1, w2], _ => exact ⟨w0, w1, w2, rfl⟩
  have hw := fun d (hd : d ∈ tables_1) => atoms_spec (ws := Jvm.Cond.code x code maxLocals ret :: tables_1) hat d (List.mem_cons_of_mem _ hd)
  have hfit : Fit s := fun {y c} hc i hi => by
    obtain ⟨ha, rfl⟩ := Array.getElem?_eq_some_iff.mp hc
    have q := List.all_eq_true.mp ((Array.all_eq_true_iff_forall_mem.mp hF) _ (Array.getElem_mem ha)) i (List.mem_range.mpr hi)
    simpa [Array.getElem?_eq_getElem hi] using q
  obtain ⟨g0, hg⟩ := and_e hg
  obtain ⟨x0, e0⟩ := is_v g0
  obtain rfl : w0 = (.int x0) := Option.some.inj e0
  obtain ⟨g1, hg⟩ := and_e hg
  obtain ⟨x1, e1⟩ := is_v g1
  obtain rfl : w1 = (.int x1) := Option.some.inj e1
  obtain ⟨x2, e2⟩ := is_v hg
  obtain rfl : w2 = (.int x2) := Option.some.inj e2
  obtain ⟨n, o, h1, h2, h3, _, L, rfl, ⟨N, rfl⟩, hq⟩ := rm0 l s _ hw s.heap.size s.heap (Nat.le_refl _) x0 x1 x2 tables_1 p e ha hc hk s m _ below hf ((Spec.applies_iff_loose hf).mp happ).1 ⟨rfl, State.Warmed39.refl s, rfl⟩ trivial
  refine ⟨n, _, h1, h2, h3, hpost _ _ _ _ _ _ ⟨Cond.after_iff.mpr rfl, Cond.after_iff.mpr (eq_i res_at (Term.int_eval (1)) rfl), trivial⟩ ⟨hq.1, hq.2.1, (hq.2.2.sift fun y hy => Or.inr (N y hy)).mono (by decide) (by decide)⟩⟩
theorem main_1_1 : Claimed_1_1 := comes_1 fun _ _ _ _ _ _ h hF => ⟨h.1, hF⟩
theorem main_1_2 : Claimed_1_2 := comes_1 fun _ _ _ _ _ _ h hF => ⟨h.2.1, hF⟩
end Jvm.Pilot.@@N@@
namespace Jvm.Pilot.@@N@@
open Jvm Jvm.ClassFile Sem Op Lib Jvm.Free Jvm.Stand Jvm.Pilot.@@N@@.Jvm.D
/-! MADE BY PROGRAM (witnessworld.py) out of the Statement's table words and the real class files: 10 classes; the members and pool entries that the words name. The judged class is class 1, her method 2. -/
namespace start1
open Jvm.ClassFile
def u (s : String) : CpInfo := .utf8 (stringToUtf16 s)
/-- a pool by its gaps: so many unusable entries, then the entry; so many at the end -/
def gap : Nat → List CpInfo → List CpInfo
  | 0, r => r
  | n + 1, r => .unusable :: gap n r
def poolList (es : List (Nat × CpInfo)) (last : Nat) : List CpInfo := es.foldr (fun e r => gap e.1 (e.2 :: r)) (gap last [])
def pool (es : List (Nat × CpInfo)) (last : Nat) : Array CpInfo := ⟨poolList es last⟩
def fileOf (pool : Array CpInfo) (this : Nat) (attrs : Array Attribute := #[]) (ms : Array MethodInfo := #[]) (fl : Nat := 33) (sup : Nat := 0) (ifs : Array Nat := #[]) (fds : Array FieldInfo := #[]) : ClassFile where
  minorVersion := 0
  majorVersion := 65
  constantPool := pool
  accessFlags := fl
  thisClass := this
  superClass := sup
  interfaces := ifs
  fields := fds
  methods := ms
  attributes := attrs
def plain (name : String) (sup : Option ClassId) : Class where
  name := name
  kind := .ordinary
  loader := none
  accessFlags := 33
  super := sup
  interfaces := #[]
  cf := none
  fields := #[]
  methods := #[]
  instanceTypes := #[]
  staticTypes := #[]
  resolved := #[]
  callSites := []
  init := .initialized
  statics := none
  mirror := none

def pool0 : Array CpInfo := pool [(5, u "<init>"), (0, u "()V"), (1, .class_ 10), (1, u "java/lang/Object")] 113

def k0c0 : Code := { maxStack := 0, maxLocals := 1, code := object_method_1_code, exceptionTable := #[], attributes := #[] }
def k0m0 : Method := { name := "<init>", desc := "()V", sig := { parameters := [], returnType := none }, accessFlags := 1, code := some k0c0 }
/-- java/lang/Object -/
def k0 : Class := { plain "java/lang/Object" none with
  accessFlags := 33
  interfaces := #[]
  cf := some (fileOf pool0 8 #[] #[{ accessFlags := 1, nameIndex := 5, descriptorIndex := 6, attributes := #[] }] 33 0 #[] #[])
  fields := #[]
  methods := #[k0m0]
  instanceTypes := #[]
  staticTypes := #[]
  resolved := Array.replicate 124 none
  statics := none }

def pool1 : Array CpInfo := pool [(2, .class_ 4), (1, u "java/lang/Object"), (0, u "<init>"), (0, u "()V"), (0, .methodref 8 9), (0, .class_ 10), (0, .nameAndType 11 12), (0, u "java/lang/Math"), (0, u "min"), (0, u "(II)I"), (0, .methodref 8 14), (0, .nameAndType 15 12), (0, u "max"), (0, .class_ 17), (0, u "com/example/kithgraph/kithgraph/cluster/DisjointSets"), (0, .methodref 16 19), (0, .nameAndType 5 20), (0, u "(I)V"), (0, .methodref 16 22), (0, .nameAndType 23 24), (0, u "join"), (0, u "(II)V"), (0, .methodref 26 27), (0, .class_ 28), (0, .nameAndType 29 30), (0, u "com/example/kithgraph/kithgraph/cluster/DisjointSetsFindPinLaw"), (0, u "merge"), (0, u "([III)V"), (0, .methodref 16 32), (0, .nameAndType 33 34), (0, u "find"), (0, u "(I)I"), (5, u "law"), (0, u "(III)Z")] 2

def k1m0 : Method := { name := "<init>", desc := "()V", sig := { parameters := [], returnType := none }, accessFlags := 1, code := none }
def k1c1 : Code := { maxStack := 3, maxLocals := 7, code := method_2_code, exceptionTable := #[], attributes := #[] }
def k1m1 : Method := { name := "merge", desc := "([III)V", sig := { parameters := [(.array .int), .int, .int], returnType := none }, accessFlags := 10, code := some k1c1 }
def k1c2 : Code := { maxStack := 4, maxLocals := 17, code := code, exceptionTable := #[], attributes := #[] }
def k1m2 : Method := { name := "law", desc := "(III)Z", sig := { parameters := [.int, .int, .int], returnType := some .boolean }, accessFlags := 9, code := some k1c2 }
/-- com/example/kithgraph/kithgraph/cluster/DisjointSetsFindPinLaw -/
def k1 : Class := { plain "com/example/kithgraph/kithgraph/cluster/DisjointSetsFindPinLaw" (some 0) with
  accessFlags := 49
  interfaces := #[]
  cf := some (fileOf pool1 26 #[] #[{ accessFlags := 1, nameIndex := 5, descriptorIndex := 6, attributes := #[] }, { accessFlags := 10, nameIndex := 29, descriptorIndex := 30, attributes := #[] }, { accessFlags := 9, nameIndex := 40, descriptorIndex := 41, attributes := #[] }] 49 2 #[] #[])
  fields := #[]
  methods := #[k1m0, k1m1, k1m2]
  instanceTypes := #[]
  staticTypes := #[]
  resolved := Array.replicate 44 none
  statics := none }

def pool2 : Array CpInfo := pool [(1, .methodref 2 3), (0, .class_ 4), (0, .nameAndType 5 6), (0, u "java/lang/Object"), (0, u "<init>"), (0, u "()V"), (0, .fieldref 8 9), (0, .class_ 10), (0, .nameAndType 11 12), (0, u "com/example/kithgraph/kithgraph/cluster/DisjointSets"), (0, u "parents"), (0, u "[I"), (0, .methodref 8 14), (0, .nameAndType 15 16), (0, u "find"), (0, u "(I)I"), (0, .methodref 18 19), (0, .class_ 20), (0, .nameAndType 21 22), (0, u "java/lang/Math"), (0, u "max"), (0, u "(II)I"), (0, .methodref 18 24), (0, .nameAndType 25 22), (0, u "min"), (0, u "(I)V"), (4, u "join"), (0, u "(II)V")] 2

def k2c0 : Code := { maxStack := 3, maxLocals := 3, code := prog_15_method_1_code, exceptionTable := #[], attributes := #[] }
def k2m0 : Method := { name := "<init>", desc := "(I)V", sig := { parameters := [.int], returnType := none }, accessFlags := 0, code := some k2c0 }
def k2c1 : Code := { maxStack := 5, maxLocals := 3, code := prog_15_method_2_code, exceptionTable := #[], attributes := #[] }
def k2m1 : Method := { name := "find", desc := "(I)I", sig := { parameters := [.int], returnType := some .int }, accessFlags := 0, code := some k2c1 }
def k2c2 : Code := { maxStack := 4, maxLocals := 5, code := prog_15_method_3_code, exceptionTable := #[], attributes := #[] }
def k2m2 : Method := { name := "join", desc := "(II)V", sig := { parameters := [.int, .int], returnType := none }, accessFlags := 0, code := some k2c2 }
/-- com/example/kithgraph/kithgraph/cluster/DisjointSets -/
def k2 : Class := { plain "com/example/kithgraph/kithgraph/cluster/DisjointSets" (some 0) with
  accessFlags := 48
  interfaces := #[]
  cf := some (fileOf pool2 8 #[] #[{ accessFlags := 0, nameIndex := 5, descriptorIndex := 26, attributes := #[] }, { accessFlags := 0, nameIndex := 15, descriptorIndex := 16, attributes := #[] }, { accessFlags := 0, nameIndex := 31, descriptorIndex := 32, attributes := #[] }] 48 2 #[] #[{ accessFlags := 18, nameIndex := 11, descriptorIndex := 12, attributes := #[] }])
  fields := #[{ name := "parents", type := (.array .int), accessFlags := 18, slot := 0, constantValue := 0 }]
  methods := #[k2m0, k2m1, k2m2]
  instanceTypes := #[(.array .int)]
  staticTypes := #[]
  resolved := Array.replicate 35 none
  statics := none }

def pool3 : Array CpInfo := pool [(1, .class_ 2), (0, u "java/lang/Math"), (1, .class_ 6), (1, u "java/lang/Object"), (0, u "<init>"), (0, u "()V"), (89, .class_ 100), (1, u "java/lang/Math$RandomNumberGeneratorHolder"), (71, u "negativeZeroFloatBits"), (0, u "J"), (2, u "negativeZeroDoubleBits"), (21, u "max"), (2, u "min"), (43, u "$assertionsDisabled"), (0, u "Z"), (88, u "(II)I"), (2, u "twoToTheDoubleScaleDown"), (0, u "D"), (4, u "twoToTheDoubleScaleUp"), (9, u "E"), (3, u "PI"), (2, u "TAU"), (2, u "DEGREES_TO_RADIANS"), (0, u "RADIANS_TO_DEGREES")] 94

def k3m0 : Method := { name := "<init>", desc := "()V", sig := { parameters := [], returnType := none }, accessFlags := 2, code := none }
def k3c1 : Code := { maxStack := 2, maxLocals := 2, code := jdk_29_method_65_code, exceptionTable := #[], attributes := #[] }
def k3m1 : Method := { name := "max", desc := "(II)I", sig := { parameters := [.int, .int], returnType := some .int }, accessFlags := 9, code := some k3c1 }
def k3c2 : Code := { maxStack := 2, maxLocals := 2, code := jdk_29_method_69_code, exceptionTable := #[], attributes := #[] }
def k3m2 : Method := { name := "min", desc := "(II)I", sig := { parameters := [.int, .int], returnType := some .int }, accessFlags := 9, code := some k3c2 }
/-- java/lang/Math -/
def k3 : Class := { plain "java/lang/Math" (some 0) with
  accessFlags := 49
  interfaces := #[]
  cf := some (fileOf pool3 1 #[.nestMembers #[98]] #[{ accessFlags := 2, nameIndex := 7, descriptorIndex := 8, attributes := #[] }, { accessFlags := 9, nameIndex := 198, descriptorIndex := 335, attributes := #[] }, { accessFlags := 9, nameIndex := 201, descriptorIndex := 335, attributes := #[] }] 49 4 #[] #[{ accessFlags := 25, nameIndex := 354, descriptorIndex := 339, attributes := #[] }, { accessFlags := 25, nameIndex := 358, descriptorIndex := 339, attributes := #[] }, { accessFlags := 25, nameIndex := 361, descriptorIndex := 339, attributes := #[] }, { accessFlags := 26, nameIndex := 364, descriptorIndex := 339, attributes := #[] }, { accessFlags := 26, nameIndex := 365, descriptorIndex := 339, attributes := #[] }, { accessFlags := 26, nameIndex := 172, descriptorIndex := 173, attributes := #[] }, { accessFlags := 26, nameIndex := 176, descriptorIndex := 173, attributes := #[] }, { accessFlags := 8, nameIndex := 344, descriptorIndex := 339, attributes := #[] }, { accessFlags := 8, nameIndex := 338, descriptorIndex := 339, attributes := #[] }, { accessFlags := 4120, nameIndex := 245, descriptorIndex := 246, attributes := #[] }])
  fields := #[{ name := "E", type := .double, accessFlags := 25, slot := 0, constantValue := 0 }, { name := "PI", type := .double, accessFlags := 25, slot := 1, constantValue := 0 }, { name := "TAU", type := .double, accessFlags := 25, slot := 2, constantValue := 0 }, { name := "DEGREES_TO_RADIANS", type := .double, accessFlags := 26, slot := 3, constantValue := 0 }, { name := "RADIANS_TO_DEGREES", type := .double, accessFlags := 26, slot := 4, constantValue := 0 }, { name := "negativeZeroFloatBits", type := .long, accessFlags := 26, slot := 5, constantValue := 0 }, { name := "negativeZeroDoubleBits", type := .long, accessFlags := 26, slot := 6, constantValue := 0 }, { name := "twoToTheDoubleScaleUp", type := .double, accessFlags := 8, slot := 7, constantValue := 0 }, { name := "twoToTheDoubleScaleDown", type := .double, accessFlags := 8, slot := 8, constantValue := 0 }, { name := "$assertionsDisabled", type := .boolean, accessFlags := 4120, slot := 9, constantValue := 0 }]
  methods := #[k3m0, k3m1, k3m2]
  instanceTypes := #[]
  staticTypes := #[.double, .double, .double, .double, .double, .long, .long, .double, .double, .boolean]
  resolved := Array.replicate 460 none
  statics := none }

def pool4 : Array CpInfo := pool [(1, u "java/lang/Cloneable"), (0, .class_ 1), (0, u "java/lang/Object"), (0, .class_ 3)] 3

/-- java/lang/Cloneable -/
def k4 : Class := { plain "java/lang/Cloneable" (some 0) with
  accessFlags := 1537
  interfaces := #[]
  cf := some (fileOf pool4 2 #[] #[] 1537 4 #[] #[])
  fields := #[]
  methods := #[]
  instanceTypes := #[]
  staticTypes := #[]
  resolved := Array.replicate 8 none
  statics := none }

def pool5 : Array CpInfo := pool [(1, u "java/io/Serializable"), (0, .class_ 1), (0, u "java/lang/Object"), (0, .class_ 3)] 3

/-- java/io/Serializable -/
def k5 : Class := { plain "java/io/Serializable" (some 0) with
  accessFlags := 1537
  interfaces := #[]
  cf := some (fileOf pool5 2 #[] #[] 1537 4 #[] #[])
  fields := #[]
  methods := #[]
  instanceTypes := #[]
  staticTypes := #[]
  resolved := Array.replicate 8 none
  statics := none }

/-- the primitive byte -/
def k6 : Class := { plain "byte" none with kind := .primitive 'B', accessFlags := 0x411 }
/-- [B -/
def k7 : Class := { plain "[B" (some 0) with kind := .array 6 .byte, interfaces := #[4, 5], accessFlags := 1041 }

/-- the primitive int -/
def k8 : Class := { plain "int" none with kind := .primitive 'I', accessFlags := 0x411 }
/-- [I -/
def k9 : Class := { plain "[I" (some 0) with kind := .array 8 .int, interfaces := #[4, 5], accessFlags := 1041 }

def heap : Heap := #[]
def classes : Array Class := #[k0, k1, k2, k3, k4, k5, k6, k7, k8, k9]
def interned : List (Array UInt16 × Addr) := []
def slotsUsed : Nat := 0
def theMethod : MethodId := ⟨1, 2⟩
def args0 : Array Value := #[.int 1, .int 2, .int 3]
def aboutOver (below : List Frame) : State where
  vm := { classes := classes, interned := interned.toArray }
  heap := heap
  slotsUsed := slotsUsed
  threads := #[{ frames := .invoking theMethod args0 :: below }]
def below0 : List Frame := [.native { method := ⟨0, 0⟩, args := #[] }]
def about1 : State := aboutOver below0
def p0 : Program := .bare "" "" ""
def e0 : Env := launch0.env 0 0 0
theorem w_frames : about1.frames = Frame.invoking theMethod args0 :: below0 := rfl
set_option maxRecDepth 65536 in
theorem w_args : argsFit about1.vm theMethod args0 = true := by decide +kernel
set_option maxRecDepth 65536 in
theorem w_heap : heapFits about1 = true := by decide +kernel
set_option maxRecDepth 65536 in
theorem w_runnable : about1.curStatus? = some .runnable := by decide +kernel
set_option maxRecDepth 65536 in
theorem w_alone : about1.alone = true := by decide +kernel
set_option maxRecDepth 65536 in
theorem w_named : about1.methodNamed? x = some theMethod := by decide +kernel
set_option maxRecDepth 65536 in
theorem w_hears : about1.hears theMethod below0 = true := by decide +kernel
set_option maxRecDepth 65536 in
theorem w_ripe : about1.ripe theMethod args0 below0 = true := by decide +kernel
theorem w_running : about1.status = .running := rfl
set_option maxRecDepth 65536 in
theorem w_room : about1.hasRoom e0.platform room_1 = true :=
  launch0.hasRoom_least _ room_1 (by decide +kernel) (by decide +kernel) (by decide +kernel) (by decide +kernel) (by decide +kernel) (by decide +kernel)
theorem allAtoms_all (ts : List Jvm.Cond) (a : Array Jvm.Value) (st : Jvm.State) : (allAtoms ts).before a st = ts.all (fun c => c.before a st) := by
  induction ts with
  | nil => rfl
  | cons c t ih =>
    show (Jvm.Cond.and c (allAtoms t)).before a st = _
    rw [Jvm.Cond.before_and, ih, List.all_cons]
def words1 : List Jvm.Cond := Jvm.Cond.code x code maxLocals ret :: tables_1
/-- a 'code' word, met by the world's own term for the bytes: nothing is compared byte by byte -/
theorem code_word {y : MethodName} {bytes : ByteArray} {mx : Nat} {rt : Option FieldType} {a : Array Value} {s : State} {m : MethodId} {meth : Method} {c : Code} (h1 : s.methodNamed? y = some m) (h2 : s.vm.method? m = some meth) (h3 : meth.code = some c) (h4 : c.code = bytes)
    (h5 : (c.maxLocals == mx && c.exceptionTable.isEmpty && decide (c.maxStack ≤ mostOperands) && decide (meth.sig.returnType = rt) && !meth.locks && decide (parseMethodDescriptor y.desc = some meth.sig)) = true) : (Jvm.Cond.code y bytes mx rt).before a s = true := by
  simp only [Bool.and_eq_true, beq_iff_eq, Bool.not_eq_true', decide_eq_true_eq] at h5
  obtain ⟨⟨⟨⟨⟨g1, g2⟩, g3⟩, g4⟩, g5⟩, g6⟩ := h5
  simp [Cond.before, Cond.holds, Cond.value, h1, h2, h3, h4, g1, g2, g3, g4, g5, g6]
def isCode : Jvm.Cond → Bool
  | .code _ _ _ _ => true
  | _ => false
theorem all_split {L : List Jvm.Cond} {P : Jvm.Cond → Bool} (h1 : L.all (fun c => isCode c || P c) = true) (h2 : ∀ c ∈ L.filter isCode, P c = true) : L.all P = true := by
  refine List.all_eq_true.mpr fun c hc => ?_
  have h := List.all_eq_true.mp h1 c hc
  rcases Bool.eq_false_or_eq_true (isCode c) with hi | hi
  · exact h2 c (List.mem_filter.mpr ⟨hc, hi⟩)
  · simpa [hi] using h
set_option maxRecDepth 65536 in
theorem w_c0 : (Jvm.Cond.code x code maxLocals ret).before args0 about1 = true := code_word (m := ⟨1, 2⟩) (meth := k1m2) (c := k1c2) (by decide +kernel) rfl rfl rfl (by decide +kernel)
set_option maxRecDepth 65536 in
theorem w_c1 : (Jvm.Cond.code ({ cls := "com/example/kithgraph/kithgraph/cluster/DisjointSets", name := "<init>", desc := "(I)V" } : Jvm.MethodName) prog_15_method_1_code (3 : Nat) (Option.none : Option Jvm.ClassFile.FieldType)).before args0 about1 = true := code_word (m := ⟨2, 0⟩) (meth := k2m0) (c := k2c0) (by decide +kernel) rfl rfl rfl (by decide +kernel)
set_option maxRecDepth 65536 in
theorem w_c2 : (Jvm.Cond.code ({ cls := "java/lang/Object", name := "<init>", desc := "()V" } : Jvm.MethodName) object_method_1_code (1 : Nat) (Option.none : Option Jvm.ClassFile.FieldType)).before args0 about1 = true := code_word (m := ⟨0, 0⟩) (meth := k0m0) (c := k0c0) (by decide +kernel) rfl rfl rfl (by decide +kernel)
set_option maxRecDepth 65536 in
theorem w_c3 : (Jvm.Cond.code ({ cls := "com/example/kithgraph/kithgraph/cluster/DisjointSets", name := "join", desc := "(II)V" } : Jvm.MethodName) prog_15_method_3_code (5 : Nat) (Option.none : Option Jvm.ClassFile.FieldType)).before args0 about1 = true := code_word (m := ⟨2, 2⟩) (meth := k2m2) (c := k2c2) (by decide +kernel) rfl rfl rfl (by decide +kernel)
set_option maxRecDepth 65536 in
theorem w_c4 : (Jvm.Cond.code ({ cls := "com/example/kithgraph/kithgraph/cluster/DisjointSets", name := "find", desc := "(I)I" } : Jvm.MethodName) prog_15_method_2_code (3 : Nat) (Option.some Jvm.ClassFile.FieldType.int)).before args0 about1 = true := code_word (m := ⟨2, 1⟩) (meth := k2m1) (c := k2c1) (by decide +kernel) rfl rfl rfl (by decide +kernel)
set_option maxRecDepth 65536 in
theorem w_c5 : (Jvm.Cond.code ({ cls := "java/lang/Math", name := "max", desc := "(II)I" } : Jvm.MethodName) jdk_29_method_65_code (2 : Nat) (Option.some Jvm.ClassFile.FieldType.int)).before args0 about1 = true := code_word (m := ⟨3, 1⟩) (meth := k3m1) (c := k3c1) (by decide +kernel) rfl rfl rfl (by decide +kernel)
set_option maxRecDepth 65536 in
theorem w_c6 : (Jvm.Cond.code ({ cls := "java/lang/Math", name := "min", desc := "(II)I" } : Jvm.MethodName) jdk_29_method_69_code (2 : Nat) (Option.some Jvm.ClassFile.FieldType.int)).before args0 about1 = true := code_word (m := ⟨3, 2⟩) (meth := k3m2) (c := k3c2) (by decide +kernel) rfl rfl rfl (by decide +kernel)
set_option maxRecDepth 65536 in
theorem w_c7 : (Jvm.Cond.code ({ cls := "com/example/kithgraph/kithgraph/cluster/DisjointSetsFindPinLaw", name := "merge", desc := "([III)V" } : Jvm.MethodName) method_2_code (7 : Nat) (Option.none : Option Jvm.ClassFile.FieldType)).before args0 about1 = true := code_word (m := ⟨1, 1⟩) (meth := k1m1) (c := k1c1) (by decide +kernel) rfl rfl rfl (by decide +kernel)
def codes1 : List Jvm.Cond := [Jvm.Cond.code x code maxLocals ret, Jvm.Cond.code ({ cls := "com/example/kithgraph/kithgraph/cluster/DisjointSets", name := "<init>", desc := "(I)V" } : Jvm.MethodName) prog_15_method_1_code (3 : Nat) (Option.none : Option Jvm.ClassFile.FieldType), Jvm.Cond.code ({ cls := "java/lang/Object", name := "<init>", desc := "()V" } : Jvm.MethodName) object_method_1_code (1 : Nat) (Option.none : Option Jvm.ClassFile.FieldType), Jvm.Cond.code ({ cls := "com/example/kithgraph/kithgraph/cluster/DisjointSets", name := "join", desc := "(II)V" } : Jvm.MethodName) prog_15_method_3_code (5 : Nat) (Option.none : Option Jvm.ClassFile.FieldType), Jvm.Cond.code ({ cls := "com/example/kithgraph/kithgraph/cluster/DisjointSets", name := "find", desc := "(I)I" } : Jvm.MethodName) prog_15_method_2_code (3 : Nat) (Option.some Jvm.ClassFile.FieldType.int), Jvm.Cond.code ({ cls := "java/lang/Math", name := "max", desc := "(II)I" } : Jvm.MethodName) jdk_29_method_65_code (2 : Nat) (Option.some Jvm.ClassFile.FieldType.int), Jvm.Cond.code ({ cls := "java/lang/Math", name := "min", desc := "(II)I" } : Jvm.MethodName) jdk_29_method_69_code (2 : Nat) (Option.some Jvm.ClassFile.FieldType.int), Jvm.Cond.code ({ cls := "com/example/kithgraph/kithgraph/cluster/DisjointSetsFindPinLaw", name := "merge", desc := "([III)V" } : Jvm.MethodName) method_2_code (7 : Nat) (Option.none : Option Jvm.ClassFile.FieldType)]
set_option maxRecDepth 65536 in
theorem codes_eq : words1.filter isCode = codes1 := rfl
theorem w_codes : ∀ c ∈ words1.filter isCode, c.before args0 about1 = true := by
  rw [codes_eq]
  intro c hc
  simp only [codes1, List.mem_cons, List.not_mem_nil, or_false] at hc
  rcases hc with rfl | rfl | rfl | rfl | rfl | rfl | rfl | rfl
  · exact w_c0
  · exact w_c1
  · exact w_c2
  · exact w_c3
  · exact w_c4
  · exact w_c5
  · exact w_c6
  · exact w_c7
set_option maxRecDepth 65536 in
theorem w_t1 : (words1.take 24).all (fun c => isCode c || c.before args0 about1) = true := by decide +kernel
set_option maxRecDepth 65536 in
theorem w_t2 : (words1.drop 24).all (fun c => isCode c || c.before args0 about1) = true := by decide +kernel
theorem w_tables : (allAtoms (Jvm.Cond.code x code maxLocals ret :: tables_1)).before args0 about1 = true := by
  rw [allAtoms_all]
  show words1.all (fun c => c.before args0 about1) = true
  refine all_split ?_ w_codes
  rw [← List.take_append_drop 24 words1, List.all_append, w_t1, w_t2]
  rfl
set_option maxRecDepth 65536 in
theorem w_case : (Jvm.Cond.and given_1 narrow_1).before args0 about1 = true := by decide +kernel
theorem w_applies : (headSpec (Jvm.Cond.code x code maxLocals ret :: tables_1) room_1).applies x e0.platform about1 = true :=
  (Spec.applies_iff w_frames).mpr ⟨w_running, w_runnable, w_alone, w_named, w_hears, w_ripe, w_room, w_tables⟩
theorem atStart : AtStart classFile x code maxLocals ret World_1 tables_1 room_1 Calls_1 rest_1 Pre_1 launch0 p0 e0 about1 theMethod args0 below0 :=
  ⟨lists_1, trivial, launch0.admits_env _ _ _, launch0.least_env, fairChoices_fair.cas, fairChoices_fair.clock, w_frames, w_args, w_heap, w_applies, trivial, trivial, w_case⟩
end start1
theorem witness_1 : WitnessClaimed_1 := ⟨start1.p0, start1.e0, start1.about1, start1.theMethod, start1.args0, start1.below0, start1.atStart⟩
end Jvm.Pilot.@@N@@
