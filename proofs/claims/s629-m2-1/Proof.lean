import JvmDerived
import JvmDerived.Pilot.@@N@@Statement
import JvmDerived.Pilot.@@N@@Code
set_option linter.unusedVariables false
set_option linter.unusedSimpArgs false
namespace Jvm.Ow
open Sem ClassFile Op Lib Jvm.Stand Jvm.Free Jvm.LawKit Jvm.RoadKit
abbrev jv (x : Int64) : Slot := .val (.long x)
abbrev U0 : Slot := .unset
abbrev S2 : Slot := .second
def ush (x y : Int32) : Int32 := (x.toUInt32 >>> (y &&& 31).toUInt32).toInt32
def On (l : Launch) (Z : State) (n0 : Nat) (own : String) (bytes : ByteArray) (maxL : Nat) (ret : Option FieldType) (R : Room) (p : Program) (e : Env) (s : State) (m : MethodId) (args : Array Value) (below : List Frame) (meth : Method) (c : Code) (T : State) (h : Heap) (k n : Nat) : Prop :=
  ∃ locs, Stand p l e R s m args below meth c T locs k n ∧ Fr n0 locs ∧ T.heap = h ∧ p.tables.exec = Jvm.exec ∧ Z.Warmed39 s.vm ∧ c.code = bytes ∧ c.maxLocals = maxL ∧ s.vm.findClass own = some m.cls ∧ meth.sig.returnType = ret ∧ meth.locks = false ∧ n0 ≤ s.heap.size
def Wp (p : Program) (e : Env) (below : List Frame) (s : State) (n0 ck cs : Nat) (Q : Option Value → Heap → Prop) (U : State) : Prop :=
  ∃ t o, Steps p.tables e below U t ∧ t.status = .running ∧ Ended t below o ∧ ∃ v L, o = .returned v ∧ (Fr n0 L ∧ Q v t.heap) ∧ FrameEnd s o t L ck cs
def Met (l : Launch) (Z : State) (n0 : Nat) (y : MethodName) (bytes : ByteArray) (maxL : Nat) (ret : Option FieldType) (rm : Room) (as : Array Value) (h : Heap) (Q : Option Value → Heap → Prop) : Prop :=
  ∀ ws, MetFree l y (head1 (Cond.code y bytes maxL ret :: ws) rm) (fun a U => a = as ∧ Z.Warmed39 U.vm ∧ U.heap = h) (fun _ _ _ _ _ => True) (fun _ U o U' => ∃ v L, o = .returned v ∧ (Fr n0 L ∧ Q v U'.heap) ∧ FrameEnd U o U' L rm.cells rm.slots)
def AA (Z : State) (h : Heap) (a : Addr) (ty : FieldType) (vs : List Value) : Prop := ∃ c : Cell, Arr Z h a c ty ∧ c.slots = vs.toArray ∧ vs.length < 2147483648
section Kit
variable {l : Launch} {Z : State} {n0 : Nat} {own : String} {bytes : ByteArray} {maxL : Nat} {ret : Option FieldType} {R : Room} {p : Program} {e : Env} {s : State} {m : MethodId} {args : Array Value} {below : List Frame} {meth : Method} {c : Code} {T : State} {h h' : Heap} {k n ck cs : Nat} {Q : Option Value → Heap → Prop} {pc pc' : Nat} {Ls Ls' : Array Slot} {st : List Value} {a0 : Array Value} {a b : Addr} {ty : FieldType} {vs : List Value} {sl : Nat} {v w : Value} {ws : List Addr}
theorem AA.ext (F : AA Z h a ty vs) (E : Ext h h') : AA Z h' a ty vs := by obtain ⟨c, A, r⟩ := F; exact ⟨c, A.ext E, r⟩
theorem AA.other (F : AA Z h b ty vs) (W : Wr h h' a sl v) (q : b ≠ a) : AA Z h' b ty vs := by obtain ⟨c, A, r⟩ := F; exact ⟨c, A.other W q, r⟩
theorem AA.keep (F : AA Z h a ty vs) (K : Keep h h' ws) (q : a ∉ ws) : AA Z h' a ty vs := by obtain ⟨c, A, r⟩ := F; exact ⟨c, ⟨K.2.1 a c A.1 q, A.2⟩, r⟩
theorem AA.lt (F : AA Z h a ty vs) : a < h.size := by obtain ⟨c, A, -⟩ := F; exact A.lt
theorem AA.cast {vs' : List Value} (F : AA Z h a ty vs) (q : vs = vs') : AA Z h a ty vs' := q ▸ F
theorem Fld.cast {C f d : String} (F : Fld Z h a C f d v) (q : v = w) : Fld Z h a C f d w := q ▸ F
theorem AA.new {cA : ClassId} {z : Int32} {i : Nat} (A : Arr Z h a (newA cA ty z) ty) (hz : z.toInt = (i : Int)) : AA Z h a ty (List.replicate i (defaultValue ty)) := by
  have q : z.toNatClampNeg = i := by show z.toInt.toNat = i; omega
  have := z.toInt_lt
  refine ⟨_, A, ?_, ?_⟩
  · simp [newA, q]
  · simp; omega
theorem lt_ne {x y z : Nat} (q : x < y) (r : y = z) : x ≠ z := by omega
theorem le_eq {x y z : Nat} (q : x ≤ y) (r : y = z) : x ≤ z := by omega
theorem On.size(A : On l Z n0 own bytes maxL ret R p e s m args below meth c T h k n) : n0 ≤ h.size := by
  obtain ⟨locs, X, N, eT, hx, hZ, hby, hml, hown, hret, hlk, hsz⟩ := A
  have := X.same.2.1
  subst eT
  exact Nat.le_trans hsz this
theorem Wp.goo {U U' : State} (f : ∀ t, Steps p.tables e below U' t → Steps p.tables e below U t) (K : Wp p e below s n0 ck cs Q U') : Wp p e below s n0 ck cs Q U := by
  obtain ⟨t, o, q, r⟩ := K; exact ⟨t, o, f t q, r⟩
theorem Wp.cast {g g' : JFrame} (q : g = g') (K : Wp p e below s n0 ck cs Q (T.setTop g')) : Wp p e below s n0 ck cs Q (T.setTop g) := q ▸ K
theorem Wp.stk {st' : List Value} (q : st = st') (K : Wp p e below s n0 ck cs Q (T.setTop (mkF m pc Ls st'))) : Wp p e below s n0 ck cs Q (T.setTop (mkF m pc Ls st)) := q ▸ K
theorem Wp.mono {Q' : Option Value → Heap → Prop} {U : State} (K : Wp p e below s n0 ck cs Q U) (q : ∀ v h, Q v h → Q' v h) : Wp p e below s n0 ck cs Q' U := by
  obtain ⟨t, o, h1, h2, h3, v, L, h4, ⟨h5, h6⟩, h7⟩ := K; exact ⟨t, o, h1, h2, h3, v, L, h4, ⟨h5, q _ _ h6⟩, h7⟩
theorem met_intro {y : MethodName} {rm : Room} {as : Array Value} (hpl : plainFor y = true) (ho : y.cls = own) (hsz : n0 ≤ h.size)
    (body : ∀ p e s m below meth c T, On l Z n0 own bytes maxL ret rm p e s m as below meth c T h 0 0 → meth.name = y.name → Wp p e below s n0 rm.cells rm.slots Q (T.setTop (entryFrame m as maxL))) : Met l Z n0 y bytes maxL ret rm as h Q := by
  subst ho
  intro ws
  refine MetFree.of_bodySF hpl hisR ?_
  intro p e s m args below meth c s₁ Bd hml0 hP hK
  obtain ⟨rfl, hZ, hh⟩ := hP
  have X0 : Stand p l e rm s m args below meth c s₁ [] 0 0 := Stand.of_body Bd
  have e0 : s₁.heap = h := by rw [← hh, Bd.state]; rfl
  exact body p e s m below meth c s₁ ⟨[], X0, Fr.nil n0, e0, Bd.exec, hZ, Bd.bytes, hml0, findClass_of_methodNamed Bd.named, Bd.returns, Bd.notSynchronized, by rw [hh]; exact hsz⟩ (name_of_methodNamed Bd.named Bd.method).1
theorem Met.mono {y : MethodName} {rm : Room} {as : Array Value} {Q' : Option Value → Heap → Prop} (M : Met l Z n0 y bytes maxL ret rm as h Q) (q : ∀ v h, Q v h → Q' v h) : Met l Z n0 y bytes maxL ret rm as h Q' := by
  intro ws p e ha hc hk s m args below hf happ hP hK
  obtain ⟨n, o, h1, h2, h3, v, L, h4, ⟨h5, h6⟩, h7⟩ := M ws p e ha hc hk s m args below hf happ hP hK
  exact ⟨n, o, h1, h2, h3, v, L, h4, ⟨h5, q _ _ h6⟩, h7⟩
theorem s_iloadN (A : On l Z n0 own bytes maxL ret R p e s m args below meth c T h k n) {i : Fin 4} {z : Int32} (hd : decode bytes pc = .ok (.iload_n i, 1)) (hp : pc + 1 = pc') (hl : Ls[i.val]? = some (.val (.int z))) (K : Wp p e below s n0 ck cs Q (T.setTop (mkF m pc' Ls (.int z :: st)))) : Wp p e below s n0 ck cs Q (T.setTop (mkF m pc Ls st)) := by
  obtain ⟨locs, X, N, eT, hx, hZ, hby, hml, hown, hret, hlk, hsz⟩ := A
  subst hp
  exact K.goo fun t q => XS.iloadN X.here hx rfl (hb hby hd) hl q
theorem s_lloadN (A : On l Z n0 own bytes maxL ret R p e s m args below meth c T h k n) {i : Fin 4} {z : Int64} (hd : decode bytes pc = .ok (.lload_n i, 1)) (hp : pc + 1 = pc') (hl : Ls[i.val]? = some (.val (.long z))) (K : Wp p e below s n0 ck cs Q (T.setTop (mkF m pc' Ls (.long z :: st)))) : Wp p e below s n0 ck cs Q (T.setTop (mkF m pc Ls st)) := by
  obtain ⟨locs, X, N, eT, hx, hZ, hby, hml, hown, hret, hlk, hsz⟩ := A
  subst hp
  exact K.goo fun t q => XS.lloadN X.here hx rfl (hb hby hd) hl q
theorem s_aloadN (A : On l Z n0 own bytes maxL ret R p e s m args below meth c T h k n) {i : Fin 4} (hd : decode bytes pc = .ok (.aload_n i, 1)) (hp : pc + 1 = pc') (hl : Ls[i.val]? = some (.val v)) (hv : v.isRef = true) (K : Wp p e below s n0 ck cs Q (T.setTop (mkF m pc' Ls (v :: st)))) : Wp p e below s n0 ck cs Q (T.setTop (mkF m pc Ls st)) := by
  obtain ⟨locs, X, N, eT, hx, hZ, hby, hml, hown, hret, hlk, hsz⟩ := A
  subst hp
  exact K.goo fun t q => XS.aloadN X.here hx rfl (hb hby hd) hl hv q
theorem s_iload (A : On l Z n0 own bytes maxL ret R p e s m args below meth c T h k n) {i : Nat} {z : Int32} (hd : decode bytes pc = .ok (.iload i, 2)) (hp : pc + 2 = pc') (hl : Ls[i]? = some (.val (.int z))) (K : Wp p e below s n0 ck cs Q (T.setTop (mkF m pc' Ls (.int z :: st)))) : Wp p e below s n0 ck cs Q (T.setTop (mkF m pc Ls st)) := by
  obtain ⟨locs, X, N, eT, hx, hZ, hby, hml, hown, hret, hlk, hsz⟩ := A
  subst hp
  exact K.goo fun t q => XS.iload X.here hx rfl (hb hby hd) hl q
theorem s_lload (A : On l Z n0 own bytes maxL ret R p e s m args below meth c T h k n) {i : Nat} {z : Int64} (hd : decode bytes pc = .ok (.lload i, 2)) (hp : pc + 2 = pc') (hl : Ls[i]? = some (.val (.long z))) (K : Wp p e below s n0 ck cs Q (T.setTop (mkF m pc' Ls (.long z :: st)))) : Wp p e below s n0 ck cs Q (T.setTop (mkF m pc Ls st)) := by
  obtain ⟨locs, X, N, eT, hx, hZ, hby, hml, hown, hret, hlk, hsz⟩ := A
  subst hp
  exact K.goo fun t q => XS.lload X.here hx rfl (hb hby hd) hl q
theorem s_aload (A : On l Z n0 own bytes maxL ret R p e s m args below meth c T h k n) {i : Nat} (hd : decode bytes pc = .ok (.aload i, 2)) (hp : pc + 2 = pc') (hl : Ls[i]? = some (.val v)) (hv : v.isRef = true) (K : Wp p e below s n0 ck cs Q (T.setTop (mkF m pc' Ls (v :: st)))) : Wp p e below s n0 ck cs Q (T.setTop (mkF m pc Ls st)) := by
  obtain ⟨locs, X, N, eT, hx, hZ, hby, hml, hown, hret, hlk, hsz⟩ := A
  subst hp
  exact K.goo fun t q => XS.aload X.here hx rfl (hb hby hd) hl hv q
theorem s_istore (A : On l Z n0 own bytes maxL ret R p e s m args below meth c T h k n) {i : Nat} {z : Int32} (hd : decode bytes pc = .ok (.istore i, 2)) (hp : pc + 2 = pc') (hl : storeLocals Ls i (.int z) = some Ls') (K : Wp p e below s n0 ck cs Q (T.setTop (mkF m pc' Ls' st))) : Wp p e below s n0 ck cs Q (T.setTop (mkF m pc Ls (.int z :: st))) := by
  obtain ⟨locs, X, N, eT, hx, hZ, hby, hml, hown, hret, hlk, hsz⟩ := A
  subst hp
  exact K.goo fun t q => XS.istore X.here hx rfl (hb hby hd) rfl hl q
theorem s_lstore (A : On l Z n0 own bytes maxL ret R p e s m args below meth c T h k n) {i : Nat} {z : Int64} (hd : decode bytes pc = .ok (.lstore i, 2)) (hp : pc + 2 = pc') (hl : storeLocals Ls i (.long z) = some Ls') (K : Wp p e below s n0 ck cs Q (T.setTop (mkF m pc' Ls' st))) : Wp p e below s n0 ck cs Q (T.setTop (mkF m pc Ls (.long z :: st))) := by
  obtain ⟨locs, X, N, eT, hx, hZ, hby, hml, hown, hret, hlk, hsz⟩ := A
  subst hp
  exact K.goo fun t q => XS.lstore X.here hx rfl (hb hby hd) rfl hl q
theorem s_astore (A : On l Z n0 own bytes maxL ret R p e s m args below meth c T h k n) {i : Nat} (hd : decode bytes pc = .ok (.astore i, 2)) (hp : pc + 2 = pc') (hv : v.isRef = true) (hl : storeLocals Ls i v = some Ls') (K : Wp p e below s n0 ck cs Q (T.setTop (mkF m pc' Ls' st))) : Wp p e below s n0 ck cs Q (T.setTop (mkF m pc Ls (v :: st))) := by
  obtain ⟨locs, X, N, eT, hx, hZ, hby, hml, hown, hret, hlk, hsz⟩ := A
  subst hp
  exact K.goo fun t q => XS.astore X.here hx rfl (hb hby hd) rfl hv hl q
theorem s_iconst (A : On l Z n0 own bytes maxL ret R p e s m args below meth c T h k n) {i : Int} {z : Int32} (hd : decode bytes pc = .ok (.iconst i, 1)) (hp : pc + 1 = pc') (hz : Int32.ofInt i = z) (K : Wp p e below s n0 ck cs Q (T.setTop (mkF m pc' Ls (.int z :: st)))) : Wp p e below s n0 ck cs Q (T.setTop (mkF m pc Ls st)) := by
  obtain ⟨locs, X, N, eT, hx, hZ, hby, hml, hown, hret, hlk, hsz⟩ := A
  subst hp
  subst hz
  exact K.goo fun t q => XS.iconst X.here hx rfl (hb hby hd) q
theorem s_bipush (A : On l Z n0 own bytes maxL ret R p e s m args below meth c T h k n) {i : Int} {z : Int32} (hd : decode bytes pc = .ok (.bipush i, 2)) (hp : pc + 2 = pc') (hz : (Int8.ofInt i).toInt32 = z) (K : Wp p e below s n0 ck cs Q (T.setTop (mkF m pc' Ls (.int z :: st)))) : Wp p e below s n0 ck cs Q (T.setTop (mkF m pc Ls st)) := by
  obtain ⟨locs, X, N, eT, hx, hZ, hby, hml, hown, hret, hlk, hsz⟩ := A
  subst hp
  subst hz
  exact K.goo fun t q => XS.bipush X.here hx rfl (hb hby hd) q
theorem s_aconstNull (A : On l Z n0 own bytes maxL ret R p e s m args below meth c T h k n)  (hd : decode bytes pc = .ok (.aconst_null, 1)) (hp : pc + 1 = pc') (K : Wp p e below s n0 ck cs Q (T.setTop (mkF m pc' Ls (.null :: st)))) : Wp p e below s n0 ck cs Q (T.setTop (mkF m pc Ls st)) := by
  obtain ⟨locs, X, N, eT, hx, hZ, hby, hml, hown, hret, hlk, hsz⟩ := A
  subst hp
  exact K.goo fun t q => XS.aconstNull X.here hx rfl (hb hby hd) q
theorem s_iand (A : On l Z n0 own bytes maxL ret R p e s m args below meth c T h k n) {x y z : Int32} (hd : decode bytes pc = .ok (.iand, 1)) (hp : pc + 1 = pc') (hz : x &&& y = z) (K : Wp p e below s n0 ck cs Q (T.setTop (mkF m pc' Ls (.int z :: st)))) : Wp p e below s n0 ck cs Q (T.setTop (mkF m pc Ls (.int y :: .int x :: st))) := by
  obtain ⟨locs, X, N, eT, hx, hZ, hby, hml, hown, hret, hlk, hsz⟩ := A
  subst hp
  subst hz
  exact K.goo fun t q => XS.iand X.here hx rfl (hb hby hd) rfl q
theorem s_iushr (A : On l Z n0 own bytes maxL ret R p e s m args below meth c T h k n) {x y z : Int32} (hd : decode bytes pc = .ok (.iushr, 1)) (hp : pc + 1 = pc') (hz : ush x y = z) (K : Wp p e below s n0 ck cs Q (T.setTop (mkF m pc' Ls (.int z :: st)))) : Wp p e below s n0 ck cs Q (T.setTop (mkF m pc Ls (.int y :: .int x :: st))) := by
  obtain ⟨locs, X, N, eT, hx, hZ, hby, hml, hown, hret, hlk, hsz⟩ := A
  subst hp
  subst hz
  exact K.goo fun t q => XS.iushr X.here hx rfl (hb hby hd) rfl q
theorem s_lcmp (A : On l Z n0 own bytes maxL ret R p e s m args below meth c T h k n) {x y : Int64} (hd : decode bytes pc = .ok (.lcmp, 1)) (hp : pc + 1 = pc') (K : Wp p e below s n0 ck cs Q (T.setTop (mkF m pc' Ls (.int (lcmpW x y) :: st)))) : Wp p e below s n0 ck cs Q (T.setTop (mkF m pc Ls (.long y :: .long x :: st))) := by
  obtain ⟨locs, X, N, eT, hx, hZ, hby, hml, hown, hret, hlk, hsz⟩ := A
  subst hp
  exact K.goo fun t q => XS.lcmp X.here hx rfl (hb hby hd) rfl q
theorem s_dup (A : On l Z n0 own bytes maxL ret R p e s m args below meth c T h k n)  (hd : decode bytes pc = .ok (.dup, 1)) (hp : pc + 1 = pc') (hc : v.category = 1) (K : Wp p e below s n0 ck cs Q (T.setTop (mkF m pc' Ls (v :: v :: st)))) : Wp p e below s n0 ck cs Q (T.setTop (mkF m pc Ls (v :: st))) := by
  obtain ⟨locs, X, N, eT, hx, hZ, hby, hml, hown, hret, hlk, hsz⟩ := A
  subst hp
  exact K.goo fun t q => XS.dup X.here hx rfl (hb hby hd) rfl hc q
theorem s_goto (A : On l Z n0 own bytes maxL ret R p e s m args below meth c T h k n)  {o : Int} (hd : decode bytes pc = .ok (.goto o, 3))  (ho : 0 ≤ (pc : Int) + o) (hp : ((pc : Int) + o).toNat = pc') (K : Wp p e below s n0 ck cs Q (T.setTop (mkF m pc' Ls st))) : Wp p e below s n0 ck cs Q (T.setTop (mkF m pc Ls st)) := by
  obtain ⟨locs, X, N, eT, hx, hZ, hby, hml, hown, hret, hlk, hsz⟩ := A
  exact K.goo fun t q => XS.goto X.here hx rfl (pc0 := pc) rfl (hb hby hd) ho hp q
theorem s_ifY (A : On l Z n0 own bytes maxL ret R p e s m args below meth c T h k n) {cd : ClassFile.Cond} {x : Int32} {o : Int} (hd : decode bytes pc = .ok (.ifCond cd o, 3)) (hc : ifCond.holds cd x = true) (ho : 0 ≤ (pc : Int) + o) (hp : ((pc : Int) + o).toNat = pc') (K : Wp p e below s n0 ck cs Q (T.setTop (mkF m pc' Ls st))) : Wp p e below s n0 ck cs Q (T.setTop (mkF m pc Ls (.int x :: st))) := by
  obtain ⟨locs, X, N, eT, hx, hZ, hby, hml, hown, hret, hlk, hsz⟩ := A
  exact K.goo fun t q => XS.ifYes X.here hx rfl (pc0 := pc) rfl (hb hby hd) rfl hc ho hp q
theorem s_icmpY (A : On l Z n0 own bytes maxL ret R p e s m args below meth c T h k n) {cd : ClassFile.Cond} {x y : Int32} {o : Int} (hd : decode bytes pc = .ok (.if_icmp cd o, 3)) (hc : if_icmp.holds cd x y = true) (ho : 0 ≤ (pc : Int) + o) (hp : ((pc : Int) + o).toNat = pc') (K : Wp p e below s n0 ck cs Q (T.setTop (mkF m pc' Ls st))) : Wp p e below s n0 ck cs Q (T.setTop (mkF m pc Ls (.int y :: .int x :: st))) := by
  obtain ⟨locs, X, N, eT, hx, hZ, hby, hml, hown, hret, hlk, hsz⟩ := A
  exact K.goo fun t q => XS.icmpYes X.here hx rfl (pc0 := pc) rfl (hb hby hd) rfl hc ho hp q
theorem s_ifnullY (A : On l Z n0 own bytes maxL ret R p e s m args below meth c T h k n)  {o : Int} (hd : decode bytes pc = .ok (.ifnull o, 3))  (ho : 0 ≤ (pc : Int) + o) (hp : ((pc : Int) + o).toNat = pc') (K : Wp p e below s n0 ck cs Q (T.setTop (mkF m pc' Ls st))) : Wp p e below s n0 ck cs Q (T.setTop (mkF m pc Ls (.null :: st))) := by
  obtain ⟨locs, X, N, eT, hx, hZ, hby, hml, hown, hret, hlk, hsz⟩ := A
  exact K.goo fun t q => XS.ifnullYes X.here hx rfl (pc0 := pc) rfl (hb hby hd) rfl ho hp q
theorem s_ifN (A : On l Z n0 own bytes maxL ret R p e s m args below meth c T h k n) {cd : ClassFile.Cond} {x : Int32} {o : Int} (hd : decode bytes pc = .ok (.ifCond cd o, 3)) (hp : pc + 3 = pc') (hc : ifCond.holds cd x = false) (K : Wp p e below s n0 ck cs Q (T.setTop (mkF m pc' Ls st))) : Wp p e below s n0 ck cs Q (T.setTop (mkF m pc Ls (.int x :: st))) := by
  obtain ⟨locs, X, N, eT, hx, hZ, hby, hml, hown, hret, hlk, hsz⟩ := A
  subst hp
  exact K.goo fun t q => XS.ifNo X.here hx rfl (hb hby hd) rfl hc q
theorem s_icmpN (A : On l Z n0 own bytes maxL ret R p e s m args below meth c T h k n) {cd : ClassFile.Cond} {x y : Int32} {o : Int} (hd : decode bytes pc = .ok (.if_icmp cd o, 3)) (hp : pc + 3 = pc') (hc : if_icmp.holds cd x y = false) (K : Wp p e below s n0 ck cs Q (T.setTop (mkF m pc' Ls st))) : Wp p e below s n0 ck cs Q (T.setTop (mkF m pc Ls (.int y :: .int x :: st))) := by
  obtain ⟨locs, X, N, eT, hx, hZ, hby, hml, hown, hret, hlk, hsz⟩ := A
  subst hp
  exact K.goo fun t q => XS.icmpNo X.here hx rfl (hb hby hd) rfl hc q
theorem s_ifnullN (A : On l Z n0 own bytes maxL ret R p e s m args below meth c T h k n) {o : Int} (hd : decode bytes pc = .ok (.ifnull o, 3)) (hp : pc + 3 = pc') (K : Wp p e below s n0 ck cs Q (T.setTop (mkF m pc' Ls st))) : Wp p e below s n0 ck cs Q (T.setTop (mkF m pc Ls (.ref b :: st))) := by
  obtain ⟨locs, X, N, eT, hx, hZ, hby, hml, hown, hret, hlk, hsz⟩ := A
  subst hp
  exact K.goo fun t q => XS.ifnullNo X.here hx rfl (hb hby hd) rfl q
theorem s_ldcInt (A : On l Z n0 own bytes maxL ret R p e s m args below meth c T h k n) {i : Nat} {z : Int32} (hd : decode bytes pc = .ok (.ldc i, 2)) (hp : pc + 2 = pc') (w0 : (Cond.constant own i z).before a0 Z = true) (K : Wp p e below s n0 ck cs Q (T.setTop (mkF m pc' Ls (.int z :: st)))) : Wp p e below s n0 ck cs Q (T.setTop (mkF m pc Ls st)) := by
  obtain ⟨locs, X, N, eT, hx, hZ, hby, hml, hown, hret, hlk, hsz⟩ := A
  subst hp
  exact K.goo fun t q => X.ldcInt hx hown (mvT hZ w0) (g := mkF m pc Ls st) rfl (hb hby hd) t q
theorem s_getfield (A : On l Z n0 own bytes maxL ret R p e s m args below meth c T h k n) {index : Nat} {R0 O f d host : String} (w0 : (Cond.fieldLink own index R0 f d).before a0 Z = true ∨ (Cond.fieldLinkNest own index R0 f d host).before a0 Z = true) (via : Via Z R0 O f d) (F : Fld Z h a O f d v) (hd : decode bytes pc = .ok (.getfield index, 3)) (hp : pc + 3 = pc') (K : ∀ T' , On l Z n0 own bytes maxL ret R p e s m args below meth c T' h k n → Wp p e below s n0 ck cs Q (T'.setTop (mkF m pc' Ls (v :: st)))) : Wp p e below s n0 ck cs Q (T.setTop (mkF m pc Ls (.ref a :: st))) := by
  obtain ⟨locs, X, N, eT, hx, hZ, hby, hml, hown, hret, hlk, hsz⟩ := A
  subst hp
  obtain ⟨T', X', e', q⟩ := getF X hx hZ hown w0 via eT F (g := mkF m pc Ls (.ref a :: st)) rfl rfl (hb hby hd)
  exact (K T' ⟨_, X', N, e', hx, hZ, hby, hml, hown, hret, hlk, hsz⟩).goo q
theorem s_putfield (A : On l Z n0 own bytes maxL ret R p e s m args below meth c T h k n) {index kk : Nat} {R0 O f d host C : String} (w0 : (Cond.fieldLink own index R0 f d).before a0 Z = true ∨ (Cond.fieldLinkNest own index R0 f d host).before a0 Z = true) (via : Via Z R0 O f d) (F : Fld Z h a O f d w) (E : Exa Z h a C) (L : (Cond.lays C O f d).before a0 Z = true ∨ ((Cond.laysFinal C O f d).before a0 Z = true ∧ own = O ∧ meth.name = "<init>")) (wi : (Cond.instantiable C kk).before a0 Z = true) (hty : parseFieldDescriptor d = some ty) (hnar : narrow ty v = v) (hfit : fits ty v = true) (ha : n0 ≤ a) (hd : decode bytes pc = .ok (.putfield index, 3)) (hp : pc + 3 = pc') (K : ∀ T' h', On l Z n0 own bytes maxL ret R p e s m args below meth c T' h' k n → Wr h h' a (Jvm.RoadKit.slotOf Z O f d) v → Wp p e below s n0 ck cs Q (T'.setTop (mkF m pc' Ls st))) : Wp p e below s n0 ck cs Q (T.setTop (mkF m pc Ls (v :: .ref a :: st))) := by
  obtain ⟨locs, X, N, eT, hx, hZ, hby, hml, hown, hret, hlk, hsz⟩ := A
  subst hp
  obtain ⟨T', h', X', e', W, q⟩ := putF X hx hZ hown w0 via eT F E L wi hty hnar hfit (g := mkF m pc Ls (v :: .ref a :: st)) rfl rfl (hb hby hd)
  exact (K T' h' ⟨_, X', Fr.snoc X' N ha, e', hx, hZ, hby, hml, hown, hret, hlk, hsz⟩ W).goo q
theorem s_putfieldN (A : On l Z n0 own bytes maxL ret R p e s m args below meth c T h k n) {index kk : Nat} {R0 O f d C : String} {v' : Value} (w0 : (Cond.fieldLink own index R0 f d).before a0 Z = true) (via : Via Z R0 O f d) (F : Fld Z h a O f d w) (E : Exa Z h a C) (L : (Cond.lays C O f d).before a0 Z = true ∨ ((Cond.laysFinal C O f d).before a0 Z = true ∧ own = O ∧ meth.name = "<init>")) (wi : (Cond.instantiable C kk).before a0 Z = true) (hty : parseFieldDescriptor d = some ty) (hnar : narrow ty v = v') (hfit : fits ty v' = true) (ha : n0 ≤ a) (hd : decode bytes pc = .ok (.putfield index, 3)) (hp : pc + 3 = pc') (K : ∀ T' h', On l Z n0 own bytes maxL ret R p e s m args below meth c T' h' k n → Wr h h' a (Jvm.RoadKit.slotOf Z O f d) v' → Wp p e below s n0 ck cs Q (T'.setTop (mkF m pc' Ls st))) : Wp p e below s n0 ck cs Q (T.setTop (mkF m pc Ls (v :: .ref a :: st))) := by
  obtain ⟨locs, X, N, eT, hx, hZ, hby, hml, hown, hret, hlk, hsz⟩ := A
  subst hp
  obtain ⟨T', h', X', e', W, q⟩ := putFN X hx hZ hown w0 via eT F E L wi hty hnar hfit (g := mkF m pc Ls (v :: .ref a :: st)) rfl rfl (hb hby hd)
  exact (K T' h' ⟨_, X', Fr.snoc X' N ha, e', hx, hZ, hby, hml, hown, hret, hlk, hsz⟩ W).goo q
theorem s_new (A : On l Z n0 own bytes maxL ret R p e s m args below meth c T h k n) {index ns : Nat} {C : String} (w0 : (Cond.classLink own index C).before a0 Z = true) (wi : (Cond.instantiable C ns).before a0 Z = true) (wz : (Cond.initialized C).before a0 Z = true) (hc : k + 1 ≤ R.cells) (hs : n + ns ≤ R.slots) (hd : decode bytes pc = .ok (.new index, 3)) (hp : pc + 3 = pc') (K : ∀ T' h' b, On l Z n0 own bytes maxL ret R p e s m args below meth c T' h' (k + 1) (n + ns) → h.size = b → n0 ≤ b → Ext h h' → Exa Z h' b C → (∀ {O nm d : String} {ty : FieldType}, Laid Z a0 C O nm d → parseFieldDescriptor d = some ty → Fld Z h' b O nm d (defaultValue ty)) → Wp p e below s n0 ck cs Q (T'.setTop (mkF m pc' Ls (.ref b :: st)))) : Wp p e below s n0 ck cs Q (T.setTop (mkF m pc Ls st)) := by
  obtain ⟨locs, X, N, eT, hx, hZ, hby, hml, hown, hret, hlk, hsz⟩ := A
  subst hp
  obtain ⟨T', h', X', e', E, A', D, -, q⟩ := newO X hx hZ hown w0 wi wz eT (g := mkF m pc Ls st) rfl (hb hby hd) hc hs
  have hz : n0 ≤ h.size := by rw [← eT]; exact Nat.le_trans hsz X.same.2.1
  exact (K T' h' _ ⟨_, X', N, e', hx, hZ, hby, hml, hown, hret, hlk, hsz⟩ rfl hz E A' D).goo q
theorem s_static (A : On l Z n0 own bytes maxL ret R p e s m args below meth c T h k n) {index : Nat} {y : MethodName} {bytes' : ByteArray} {maxL' : Nat} {ret' : Option FieldType} {rm : Room} {argsL rest : List Value} {Q' : Option Value → Heap → Prop} (M : Met l Z n0 y bytes' maxL' ret' rm argsL.toArray h Q') (wl : (Cond.methodLink own index y).before a0 Z = true) (ws : (Cond.static y).before a0 Z = true) (wz : (Cond.initialized y.cls).before a0 Z = true) (wc : (Cond.code y bytes' maxL' ret').before a0 Z = true) (hy : y.cls ≠ "java/lang/invoke/MethodHandle" ∧ y.cls ≠ "java/lang/invoke/VarHandle") {sig : MethodDescriptor} (hsig : parseMethodDescriptor y.desc = some sig) (hlen : argsL.length = sig.parameters.length) {W : Nat} (hf : rm.frames + 1 ≤ R.frames) (hl : W + (maxL' + 11) + rm.locals ≤ R.locals) (hW : (rest.map fun v => v.category).sum ≤ W) (hc : k + rm.cells ≤ R.cells) (hs : n + rm.slots ≤ R.slots) (hLs : Ls.size = maxL) {stk : List Value} (hst : stk = argsL.reverse ++ rest) (hd : decode bytes pc = .ok (.invokestatic index, 3)) (hp : pc + 3 = pc') (K : ∀ T' h' v, On l Z n0 own bytes maxL ret R p e s m args below meth c T' h' (k + rm.cells) (n + rm.slots) → Q' v h' → Wp p e below s n0 ck cs Q (T'.setTop (mkF m pc' Ls (v.toList ++ rest)))) : Wp p e below s n0 ck cs Q (T.setTop (mkF m pc Ls stk)) := by
  obtain ⟨locs, X, N, eT, hx, hZ, hby, hml, hown, hret, hlk, hsz⟩ := A
  subst hp
  obtain ⟨v, _, ⟨T', L', k', n'⟩, -, X', ⟨Lc, ⟨Nq, hQ⟩, l1, l2, l3⟩, q⟩ := Jvm.LawKit.callS X hx (y := y) hown (mvT hZ wl) (mvT hZ ws) (mvT hZ wz) (mvT hZ wc) hy (backOf (Q := fun v h L => Fr n0 L ∧ Q' v h) (W := W) (M []) hZ wc wz hf hl) (g := mkF m pc Ls stk) rfl (by rw [hml]; exact hLs) (argsL := argsL) (rest := rest) (lenOf hsig hlen) hst (by show 2 * 0 + _ ≤ _; simpa using hW) (hb hby hd) (fun _ _ => ⟨rfl, eT, hc, hs⟩)
  dsimp only [Pt.U, Pt.locs, Pt.cells, Pt.slots] at X' l1 l2 l3 q hQ Nq
  subst l1 l2 l3
  exact (K T' T'.heap v ⟨_, X', Fr.app N Nq, rfl, hx, hZ, hby, hml, hown, hret, hlk, hsz⟩ hQ).goo q
theorem s_virtual (A : On l Z n0 own bytes maxL ret R p e s m args below meth c T h k n) {index : Nat} {y : MethodName} {bytes' : ByteArray} {maxL' : Nat} {ret' : Option FieldType} {rm : Room} {argsL rest : List Value} {Q' : Option Value → Heap → Prop} {C : String} {z : MethodName} (E : Exa Z h b C) (M : Met l Z n0 z bytes' maxL' ret' rm (.ref b :: argsL).toArray h Q') (wl : (Cond.methodLink own index y).before a0 Z = true) (wd : (Cond.declares y).before a0 Z = true) (wn : ∀ (args : Array Value) (s : State), Z.Warmed39 s.vm → NotFace s y) (wsel : (Cond.selects C y z).before a0 Z = true) (wim : (Cond.instanceMethod z).before a0 Z = true) (wz : (Cond.initialized z.cls).before a0 Z = true) (wc : (Cond.code z bytes' maxL' ret').before a0 Z = true) (hy : y.cls ≠ "java/lang/invoke/MethodHandle" ∧ y.cls ≠ "java/lang/invoke/VarHandle") {sig : MethodDescriptor} (hsig : parseMethodDescriptor y.desc = some sig) (hlen : argsL.length = sig.parameters.length) {W : Nat} (hf : rm.frames + 1 ≤ R.frames) (hl : W + (maxL' + 11) + rm.locals ≤ R.locals) (hW : (rest.map fun v => v.category).sum ≤ W) (hc : k + rm.cells ≤ R.cells) (hs : n + rm.slots ≤ R.slots) (hLs : Ls.size = maxL) {stk : List Value} (hst : stk = argsL.reverse ++ .ref b :: rest) (hd : decode bytes pc = .ok (.invokevirtual index, 3)) (hp : pc + 3 = pc') (K : ∀ T' h' v, On l Z n0 own bytes maxL ret R p e s m args below meth c T' h' (k + rm.cells) (n + rm.slots) → Q' v h' → Wp p e below s n0 ck cs Q (T'.setTop (mkF m pc' Ls (v.toList ++ rest)))) : Wp p e below s n0 ck cs Q (T.setTop (mkF m pc Ls stk)) := by
  obtain ⟨locs, X, N, eT, hx, hZ, hby, hml, hown, hret, hlk, hsz⟩ := A
  subst hp
  obtain ⟨cq, kq, qa, qb, qc⟩ := isOf hZ eT E
  obtain ⟨v, _, ⟨T', L', k', n'⟩, -, X', ⟨Lc, ⟨Nq, hQ⟩, l1, l2, l3⟩, q⟩ := X.virtualBack hx (y := y) (z := z) hown (mvT hZ wl) (mvT hZ wd) (wn #[] s hZ) (mvT hZ wsel) (mvT hZ wim) hy (backOf (Q := fun v h L => Fr n0 L ∧ Q' v h) (W := W) (M []) hZ wc wz hf hl) qa qc (g := mkF m pc Ls stk) rfl (by rw [hml]; exact hLs) (Steps.refl _) (argsL := argsL) (rest := rest) (lenOf hsig hlen) hst (by show 2 * 0 + _ ≤ _; simpa using hW) (hb hby hd) (fun _ _ => ⟨rfl, eT, hc, hs⟩)
  dsimp only [Pt.U, Pt.locs, Pt.cells, Pt.slots] at X' l1 l2 l3 q hQ Nq
  subst l1 l2 l3
  exact (K T' T'.heap v ⟨_, X', Fr.app N Nq, rfl, hx, hZ, hby, hml, hown, hret, hlk, hsz⟩ hQ).goo (fun t r => q.trans r)
theorem nf_same {y : MethodName} {C : String} (wsel : (Cond.selects y.cls y y).before a0 Z = true) : ∀ (args : Array Value) (s : State), Z.Warmed39 s.vm → NotFace s y := fun args s hZ => notFace_of_selects (args := #[]) (mvT hZ wsel)
theorem s_special (A : On l Z n0 own bytes maxL ret R p e s m args below meth c T h k n) {index : Nat} {y : MethodName} {bytes' : ByteArray} {maxL' : Nat} {rm : Room} {argsL rest : List Value} {Q' : Option Value → Heap → Prop} (M : Met l Z n0 y bytes' maxL' none rm (.ref b :: argsL).toArray h Q') (hy1 : y.name = "<init>") (wl : (Cond.methodLink own index y).before a0 Z = true) (wim : (Cond.instanceMethod y).before a0 Z = true) (wz : (Cond.initialized y.cls).before a0 Z = true) (wc : (Cond.code y bytes' maxL' none).before a0 Z = true) (hy : y.cls ≠ "java/lang/invoke/MethodHandle" ∧ y.cls ≠ "java/lang/invoke/VarHandle") {sig : MethodDescriptor} (hsig : parseMethodDescriptor y.desc = some sig) (hlen : argsL.length = sig.parameters.length) {W : Nat} (hf : rm.frames + 1 ≤ R.frames) (hl : W + (maxL' + 11) + rm.locals ≤ R.locals) (hW : (rest.map fun v => v.category).sum ≤ W) (hc : k + rm.cells ≤ R.cells) (hs : n + rm.slots ≤ R.slots) (hLs : Ls.size = maxL) {stk : List Value} (hst : stk = argsL.reverse ++ .ref b :: rest) (hd : decode bytes pc = .ok (.invokespecial index, 3)) (hp : pc + 3 = pc') (K : ∀ T' h' v, On l Z n0 own bytes maxL ret R p e s m args below meth c T' h' (k + rm.cells) (n + rm.slots) → Q' v h' → Wp p e below s n0 ck cs Q (T'.setTop (mkF m pc' Ls (v.toList ++ rest)))) : Wp p e below s n0 ck cs Q (T.setTop (mkF m pc Ls stk)) := by
  obtain ⟨locs, X, N, eT, hx, hZ, hby, hml, hown, hret, hlk, hsz⟩ := A
  subst hp
  obtain ⟨v, _, ⟨T', L', k', n'⟩, -, X', ⟨Lc, ⟨Nq, hQ⟩, l1, l2, l3⟩, q⟩ := X.specialBack hx (y := y) hy1 hown (mvT hZ wl) (mvT hZ wim) (mvT hZ wc) hy (backOf (Q := fun v h L => Fr n0 L ∧ Q' v h) (W := W) (M []) hZ wc wz hf hl) (g := mkF m pc Ls stk) rfl (by rw [hml]; exact hLs) (Steps.refl _) (a := b) (argsL := argsL) (rest := rest) (lenOf hsig hlen) hst (by show 2 * 0 + _ ≤ _; simpa using hW) (hb hby hd) (fun _ _ => ⟨rfl, eT, hc, hs⟩)
  dsimp only [Pt.U, Pt.locs, Pt.cells, Pt.slots] at X' l1 l2 l3 q hQ Nq
  subst l1 l2 l3
  exact (K T' T'.heap v ⟨_, X', Fr.app N Nq, rfl, hx, hZ, hby, hml, hown, hret, hlk, hsz⟩ hQ).goo (fun t r => q.trans r)
theorem s_private (A : On l Z n0 own bytes maxL ret R p e s m args below meth c T h k n) {index : Nat} {y : MethodName} {bytes' : ByteArray} {maxL' : Nat} {ret' : Option FieldType} {rm : Room} {argsL rest : List Value} {Q' : Option Value → Heap → Prop} {C : String} (E : Exa Z h b C) (M : Met l Z n0 y bytes' maxL' ret' rm (.ref b :: argsL).toArray h Q') (wl : (Cond.methodLink own index y).before a0 Z = true) (wim : (Cond.instanceMethod y).before a0 Z = true) {kk : Nat} (wi : (Cond.instantiable y.cls kk).before a0 Z = true) (wp : (Cond.privateMethod y).before a0 Z = true) (wz : (Cond.initialized y.cls).before a0 Z = true) (wc : (Cond.code y bytes' maxL' ret').before a0 Z = true) (hy : y.cls ≠ "java/lang/invoke/MethodHandle" ∧ y.cls ≠ "java/lang/invoke/VarHandle") {sig : MethodDescriptor} (hsig : parseMethodDescriptor y.desc = some sig) (hlen : argsL.length = sig.parameters.length) {W : Nat} (hf : rm.frames + 1 ≤ R.frames) (hl : W + (maxL' + 11) + rm.locals ≤ R.locals) (hW : (rest.map fun v => v.category).sum ≤ W) (hc : k + rm.cells ≤ R.cells) (hs : n + rm.slots ≤ R.slots) (hLs : Ls.size = maxL) {stk : List Value} (hst : stk = argsL.reverse ++ .ref b :: rest) (hd : decode bytes pc = .ok (.invokevirtual index, 3)) (hp : pc + 3 = pc') (K : ∀ T' h' v, On l Z n0 own bytes maxL ret R p e s m args below meth c T' h' (k + rm.cells) (n + rm.slots) → Q' v h' → Wp p e below s n0 ck cs Q (T'.setTop (mkF m pc' Ls (v.toList ++ rest)))) : Wp p e below s n0 ck cs Q (T.setTop (mkF m pc Ls stk)) := by
  obtain ⟨locs, X, N, eT, hx, hZ, hby, hml, hown, hret, hlk, hsz⟩ := A
  subst hp
  obtain ⟨cq, q0, q1⟩ := E.cell
  obtain ⟨ci, ki, i1, i2, -, i4, -⟩ := Cond.instantiable_spec (show (Cond.instantiable y.cls kk).before args s = true from mvT hZ wi)
  have i5 : ki.isInterface = false := by simp only [Bool.or_eq_false_iff] at i4; exact i4.1
  have hpriv := Cond.privateMethod_at (mvP hZ wp (args := args))
  have hsel := selects_self_of_private (args := args) i1 i2 i5 hpriv (mvT hZ wim) hy
  obtain ⟨v, _, ⟨T', L', k', n'⟩, -, X', ⟨Lc, ⟨Nq, hQ⟩, l1, l2, l3⟩, q⟩ := X.privateBack hx (y := y) hown (mvT hZ wl) (mvT hZ wim) hsel hpriv (mvT hZ wc) hy (backOf (Q := fun v h L => Fr n0 L ∧ Q' v h) (W := W) (M []) hZ wc wz hf hl) (g := mkF m pc Ls stk) rfl (by rw [hml]; exact hLs) (Steps.refl _) (a := b) (by rw [eT]; exact q0) q1 (argsL := argsL) (rest := rest) (lenOf hsig hlen) hst (by show 2 * 0 + _ ≤ _; simpa using hW) (hb hby hd) (fun _ _ => ⟨rfl, eT, hc, hs⟩)
  dsimp only [Pt.U, Pt.locs, Pt.cells, Pt.slots] at X' l1 l2 l3 q hQ Nq
  subst l1 l2 l3
  exact (K T' T'.heap v ⟨_, X', Fr.app N Nq, rfl, hx, hZ, hby, hml, hown, hret, hlk, hsz⟩ hQ).goo (fun t r => q.trans r)
theorem s_initO (A : On l Z n0 own bytes maxL ret R p e s m args below meth c T h k n) {index : Nat} (w1 : (Cond.methodLink own index Lib.objectInit).before a0 Z = true) (w2 : (Cond.instanceMethod Lib.objectInit).before a0 Z = true) (w3 : (Cond.code Lib.objectInit ⟨#[0xb1]⟩ 1 none).before a0 Z = true) {W : Nat} (hf : 1 ≤ R.frames) (hW : (st.map fun v => v.category).sum ≤ W) (hl : W + 12 ≤ R.locals) (hLs : Ls.size = maxL) (hd : decode bytes pc = .ok (.invokespecial index, 3)) (hp : pc + 3 = pc') (K : ∀ T', On l Z n0 own bytes maxL ret R p e s m args below meth c T' h k n → Wp p e below s n0 ck cs Q (T'.setTop (mkF m pc' Ls st))) : Wp p e below s n0 ck cs Q (T.setTop (mkF m pc Ls (.ref a :: st))) := by
  obtain ⟨locs, X, N, eT, hx, hZ, hby, hml, hown, hret, hlk, hsz⟩ := A
  subst hp
  obtain ⟨T', X', e', q⟩ := initO X hx hZ hown w1 w2 w3 eT (g := mkF m pc Ls (.ref a :: st)) rfl (by rw [hml]; exact hLs) rfl (hb hby hd) hf (W := W) (by show 2 * 0 + _ ≤ _; simpa using hW) hl
  exact (K T' ⟨_, X', N, e', hx, hZ, hby, hml, hown, hret, hlk, hsz⟩).goo q
theorem s_specialRef (A : On l Z n0 own bytes maxL ret R p e s m args below meth c T h k n) {index : Nat} {y : MethodName} {bytes' : ByteArray} {maxL' : Nat} {rm : Room} {argsL rest : List Value} {Q' : Option Value → Heap → Prop} (M : Met l Z n0 y bytes' maxL' none rm (.ref b :: argsL).toArray h Q') (hy1 : y.name = "<init>") (wl : (Cond.methodRef own index y).before a0 Z = true) (wim : (Cond.instanceMethod y).before a0 Z = true) (wz : (Cond.initialized y.cls).before a0 Z = true) (wc : (Cond.code y bytes' maxL' none).before a0 Z = true) (hy : y.cls ≠ "java/lang/invoke/MethodHandle" ∧ y.cls ≠ "java/lang/invoke/VarHandle") {sig : MethodDescriptor} (hsig : parseMethodDescriptor y.desc = some sig) (hlen : argsL.length = sig.parameters.length) {W : Nat} (hf : rm.frames + 1 ≤ R.frames) (hl : W + (maxL' + 11) + rm.locals ≤ R.locals) (hW : (rest.map fun v => v.category).sum ≤ W) (hc : k + rm.cells ≤ R.cells) (hs : n + rm.slots ≤ R.slots) (hLs : Ls.size = maxL) {stk : List Value} (hst : stk = argsL.reverse ++ .ref b :: rest) (hd : decode bytes pc = .ok (.invokespecial index, 3)) (hp : pc + 3 = pc') (K : ∀ T' h' v, On l Z n0 own bytes maxL ret R p e s m args below meth c T' h' (k + rm.cells) (n + rm.slots) → Q' v h' → Wp p e below s n0 ck cs Q (T'.setTop (mkF m pc' Ls (v.toList ++ rest)))) : Wp p e below s n0 ck cs Q (T.setTop (mkF m pc Ls stk)) := by
  obtain ⟨locs, X, N, eT, hx, hZ, hby, hml, hown, hret, hlk, hsz⟩ := A
  subst hp
  obtain ⟨mk, methM, hnamed, hmethM, hstM, habM⟩ := Cond.instanceMethod_spec (show (Cond.instanceMethod y).before args s = true from mvT hZ wim)
  obtain ⟨methM', cM, hmethM', -, -, -, -, -, -, hsigM⟩ := Cond.code_spec hnamed (show (Cond.code y bytes' maxL' none).before args s = true from mvT hZ wc)
  cases hmethM.symm.trans hmethM'
  obtain ⟨mk0, meth0, hnamed0, -⟩ := Cond.instanceMethod_spec wim
  have r1 : (Cond.methodRef own index y).before a0 (Z.setVm s.vm) = true := Cond.methodRef_warmed39 hZ hnamed0 hy wl
  have r2 : (Cond.methodRef own index y).before a0 s = true := r1
  have r3 : (Cond.methodRef own index y).before a0 (s.setVm T.vm) = true := Cond.methodRef_warmed X.warmed hnamed hy r2
  have hownT : (s.setVm T.vm).vm.findClass own = some m.cls := by show T.vm.findClass own = _; rw [X.warmed.alike.findClass]; exact hown
  obtain ⟨mk', c', hf', hready, hfc, dk, cf, ci, nt, hdk, hcf, hcp, hcr⟩ := Cond.methodRef_named e hownT r3
  have hfn : (s.setVm T.vm).methodFound? y.cls y.name y.desc = some mk := by rw [State.methodFound?_setVm_of_named X.warmed.alike hnamed hy]; exact State.methodFound?_of_named hnamed hy
  cases hfn.symm.trans hf'
  obtain ⟨kO, hkO, hnameO⟩ := className_of_methodNamed hnamed
  obtain ⟨hnameMO, hdescO⟩ := name_of_methodNamed hnamed hmethM
  obtain ⟨kT, hkT, -⟩ := X.warmed.alike.2.2 _ _ hkO
  have hmT : T.vm.method? mk = some methM := by rw [X.warmed.alike.method?]; exact hmethM
  have hfound : lookupSpecial T.vm mk.cls "<init>" methM.desc = .method mk := by
    rw [X.warmed.alike.lookupSpecial, hdescO, ← hy1]; exact lookupSpecial_of_named hnamed hmethM hstM
  have hcT : c' = mk.cls := by
    have q : (s.setVm T.vm).vm.findClass y.cls = some mk.cls := by show T.vm.findClass _ = _; rw [X.warmed.alike.findClass]; exact findClass_of_methodNamed hnamed
    exact Option.some.inj (hfc.symm.trans q)
  subst hcT
  have hstep : ∀ target, (∀ acts, Steps p.tables e below (doInvoke e (T.setTop { (mkF m pc Ls stk) with stack := rest }) acts mk (.ref b :: argsL).toArray).1 target) → Steps p.tables e below (T.setTop (mkF m pc Ls stk)) target := fun target hrest => by
    jvm_step X.here [hx, hb hby hd, invokespecial.wp_init (e := e) (s := T) (k := kT) (meth := methM) (m := mk) (a := b) (args := argsL) (rest := rest) (f := mkF m pc Ls stk) X.here.top ⟨dk, cf, ci, nt, hdk, hcf, hcp, hcr⟩ hready hkT hmT (by rw [hnameMO]; exact hy1) hstM habM hfound (lenOf hsig hlen _ hsigM) hst]
    exact hrest
  obtain ⟨v, ⟨T', L', k', n'⟩, X', ⟨Lc, ⟨Nq, hQ⟩, l1, l2, l3⟩, hsteps⟩ := (backOf (Q := fun v h L => Fr n0 L ∧ Q' v h) (W := W) (M []) hZ wc wz hf hl) m meth c ⟨T, locs, k, n⟩ { (mkF m pc Ls stk) with stack := rest } (.invokespecial index) mk (.ref b :: argsL).toArray X rfl (by rw [hml]; exact hLs) (hb hby hd) (by show 2 * 0 + _ ≤ _; simpa using hW) (X.named hnamed) ⟨rfl, eT, hc, hs⟩
  dsimp only [Pt.U, Pt.locs, Pt.cells, Pt.slots] at X' l1 l2 l3 hsteps hQ Nq
  subst l1 l2 l3
  exact (K T' T'.heap v ⟨_, X', Fr.app N Nq, rfl, hx, hZ, hby, hml, hown, hret, hlk, hsz⟩ hQ).goo fun t r => hstep t fun acts => by rw [doInvoke_state]; exact hsteps.trans r
theorem r_void (A : On l Z n0 own bytes maxL ret R p e s m args below meth c T h k n) (hr : ret = none) (hd : decode bytes pc = .ok (.return_, 1)) (hk : k ≤ ck) (hn : n ≤ cs) (q : Q none h) : Wp p e below s n0 ck cs Q (T.setTop (mkF m pc Ls [])) := by
  obtain ⟨locs, X, N, eT, hx, hZ, hby, hml, hown, hret, hlk, hsz⟩ := A
  have hR : meth.sig.returnType = none := hret.trans hr
  obtain ⟨fs, h1, hrun, hended, hW, hsame⟩ := X.leave (v := none) (fun _ => rfl) hlk
  exact ⟨_, _, X.returnOut hx hR (hb hby hd) h1, hrun, hended, _, _, rfl, ⟨N, by show Q none T.heap; rw [eT]; exact q⟩, ⟨_, rfl⟩, hW, hsame.mono hk hn⟩
theorem r_val (A : On l Z n0 own bytes maxL ret R p e s m args below meth c T h k n) {i : Instr} {t : FieldType} (hr : ret = some t) (hn0 : narrow t v = v) (hi : (i = .ireturn ∧ (t = .int ∨ t = .boolean ∨ t = .byte ∨ t = .char ∨ t = .short) ∧ ∃ z, v = .int z) ∨ (i = .lreturn ∧ t = .long ∧ ∃ z, v = .long z) ∨ (i = .dreturn ∧ t = .double ∧ ∃ z, v = .double z) ∨ (i = .freturn ∧ t = .float ∧ ∃ z, v = .float z) ∨ (i = .areturn ∧ t.isReference = true ∧ v.isRef = true)) (hd : decode bytes pc = .ok (i, 1)) (hk : k ≤ ck) (hn : n ≤ cs) (q : Q (some v) h) : Wp p e below s n0 ck cs Q (T.setTop (mkF m pc Ls (v :: st))) := by
  obtain ⟨locs, X, N, eT, hx, hZ, hby, hml, hown, hret, hlk, hsz⟩ := A
  have hR : meth.sig.returnType = some t := hret.trans hr
  obtain ⟨fs, h1, hrun, hended, hW, hsame⟩ := X.leave (v := some v) (fun z => by rw [hR] at z; cases z) hlk
  exact ⟨_, _, retOut X hx hR hn0 hi (hb hby hd) h1, hrun, hended, _, _, rfl, ⟨N, by show Q (some v) T.heap; rw [eT]; exact q⟩, ⟨_, rfl⟩, hW, hsame.mono hk hn⟩
theorem r_int (A : On l Z n0 own bytes maxL ret R p e s m args below meth c T h k n) {z : Int32} (hr : ret = some .int) (hd : decode bytes pc = .ok (.ireturn, 1)) (hk : k ≤ ck) (hn : n ≤ cs) (q : Q (some (.int z)) h) : Wp p e below s n0 ck cs Q (T.setTop (mkF m pc Ls (.int z :: st))) := r_val A hr rfl (Or.inl ⟨rfl, Or.inl rfl, _, rfl⟩) hd hk hn q
theorem r_bool (A : On l Z n0 own bytes maxL ret R p e s m args below meth c T h k n) {z : Int32} (hr : ret = some .boolean) (hz : z = 0 ∨ z = 1) (hd : decode bytes pc = .ok (.ireturn, 1)) (hk : k ≤ ck) (hn : n ≤ cs) (q : Q (some (.int z)) h) : Wp p e below s n0 ck cs Q (T.setTop (mkF m pc Ls (.int z :: st))) := r_val A hr (by rcases hz with rfl | rfl <;> rfl) (Or.inl ⟨rfl, Or.inr (Or.inl rfl), _, rfl⟩) hd hk hn q
theorem r_long (A : On l Z n0 own bytes maxL ret R p e s m args below meth c T h k n) {z : Int64} (hr : ret = some .long) (hd : decode bytes pc = .ok (.lreturn, 1)) (hk : k ≤ ck) (hn : n ≤ cs) (q : Q (some (.long z)) h) : Wp p e below s n0 ck cs Q (T.setTop (mkF m pc Ls (.long z :: st))) := r_val A hr rfl (Or.inr (Or.inl ⟨rfl, rfl, _, rfl⟩)) hd hk hn q
theorem r_ref (A : On l Z n0 own bytes maxL ret R p e s m args below meth c T h k n) {t : FieldType} (hr : ret = some t) (ht : t.isReference = true) (hv : v.isRef = true) (hd : decode bytes pc = .ok (.areturn, 1)) (hk : k ≤ ck) (hn : n ≤ cs) (q : Q (some v) h) : Wp p e below s n0 ck cs Q (T.setTop (mkF m pc Ls (v :: st))) := r_val A hr (by cases t <;> first | rfl | cases ht) (Or.inr (Or.inr (Or.inr (Or.inr ⟨rfl, ht, hv⟩)))) hd hk hn q
end Kit
end Jvm.Ow
namespace Jvm.Pilot.@@N@@
open Jvm Jvm.ClassFile Sem Op Lib Jvm.Free Jvm.Stand Jvm.LawKit Jvm.RoadKit Jvm.Ow Bundle Jvm.Pilot.@@N@@.Jvm.D
theorem d4_0 : decode prog_85_method_1_code 0 = .ok (.aload_n 0, 1) := by decide +kernel
theorem d4_1 : decode prog_85_method_1_code 1 = .ok (.invokespecial 3, 3) := by decide +kernel
theorem w20 {Z : State} {a0 : Array Value} (hw : ∀ d ∈ tables_1, d.before a0 Z = true) : (Jvm.Cond.methodLink "com/example/wirefram/wirefram/sequence/SessionsLeft$Left" (3 : Nat) ({ cls := "java/lang/Object", name := "<init>", desc := "()V" } : Jvm.MethodName)).before a0 Z = true := hw _ (List.mem_of_getElem? (i := 20) rfl)
theorem w12 {Z : State} {a0 : Array Value} (hw : ∀ d ∈ tables_1, d.before a0 Z = true) : (Jvm.Cond.instanceMethod ({ cls := "java/lang/Object", name := "<init>", desc := "()V" } : Jvm.MethodName)).before a0 Z = true := hw _ (List.mem_of_getElem? (i := 12) rfl)
theorem w13 {Z : State} {a0 : Array Value} (hw : ∀ d ∈ tables_1, d.before a0 Z = true) : (Jvm.Cond.code ({ cls := "java/lang/Object", name := "<init>", desc := "()V" } : Jvm.MethodName) object_method_1_code (1 : Nat) (Option.none : Option Jvm.ClassFile.FieldType)).before a0 Z = true := hw _ (List.mem_of_getElem? (i := 13) rfl)
theorem d4_4 : decode prog_85_method_1_code 4 = .ok (.aload_n 0, 1) := by decide +kernel
theorem d4_5 : decode prog_85_method_1_code 5 = .ok (.iconst (-1), 1) := by decide +kernel
theorem d4_6 : decode prog_85_method_1_code 6 = .ok (.putfield 9, 3) := by decide +kernel
theorem w21 {Z : State} {a0 : Array Value} (hw : ∀ d ∈ tables_1, d.before a0 Z = true) : (Jvm.Cond.fieldLink "com/example/wirefram/wirefram/sequence/SessionsLeft$Left" (9 : Nat) "com/example/wirefram/wirefram/sequence/SessionsLeft$Left" "id" "I").before a0 Z = true := hw _ (List.mem_of_getElem? (i := 21) rfl)
theorem w22 {Z : State} {a0 : Array Value} (hw : ∀ d ∈ tables_1, d.before a0 Z = true) : (Jvm.Cond.lays "com/example/wirefram/wirefram/sequence/SessionsLeft$Left" "com/example/wirefram/wirefram/sequence/SessionsLeft$Left" "id" "I").before a0 Z = true := hw _ (List.mem_of_getElem? (i := 22) rfl)
theorem w15 {Z : State} {a0 : Array Value} (hw : ∀ d ∈ tables_1, d.before a0 Z = true) : (Jvm.Cond.instantiable "com/example/wirefram/wirefram/sequence/SessionsLeft$Left" (5 : Nat)).before a0 Z = true := hw _ (List.mem_of_getElem? (i := 15) rfl)
theorem d4_9 : decode prog_85_method_1_code 9 = .ok (.return_, 1) := by decide +kernel
theorem w34 {Z : State} {a0 : Array Value} (hw : ∀ d ∈ tables_1, d.before a0 Z = true) : (Jvm.Cond.lays "com/example/wirefram/wirefram/sequence/SessionsLeft$Left" "com/example/wirefram/wirefram/sequence/SessionsLeft$Left" "lone" "Z").before a0 Z = true := hw _ (List.mem_of_getElem? (i := 34) rfl)
theorem sn_SessionsLeft_Left_lone_id {Z : State} {a0 : Array Value} (hw : ∀ d ∈ tables_1, d.before a0 Z = true) : Jvm.RoadKit.slotOf Z "com/example/wirefram/wirefram/sequence/SessionsLeft$Left" "lone" "Z" ≠ Jvm.RoadKit.slotOf Z "com/example/wirefram/wirefram/sequence/SessionsLeft$Left" "id" "I" := slot_ne (a0 := a0) (C := "com/example/wirefram/wirefram/sequence/SessionsLeft$Left") (Or.inl (w34 hw)) (Or.inl (w22 hw)) (by decide) (t := .boolean) (t' := .int) (by decide) (by decide)
theorem w36 {Z : State} {a0 : Array Value} (hw : ∀ d ∈ tables_1, d.before a0 Z = true) : (Jvm.Cond.lays "com/example/wirefram/wirefram/sequence/SessionsLeft$Left" "com/example/wirefram/wirefram/sequence/SessionsLeft$Left" "highest" "J").before a0 Z = true := hw _ (List.mem_of_getElem? (i := 36) rfl)
theorem sn_SessionsLeft_Left_highest_id {Z : State} {a0 : Array Value} (hw : ∀ d ∈ tables_1, d.before a0 Z = true) : Jvm.RoadKit.slotOf Z "com/example/wirefram/wirefram/sequence/SessionsLeft$Left" "highest" "J" ≠ Jvm.RoadKit.slotOf Z "com/example/wirefram/wirefram/sequence/SessionsLeft$Left" "id" "I" := slot_ne (a0 := a0) (C := "com/example/wirefram/wirefram/sequence/SessionsLeft$Left") (Or.inl (w36 hw)) (Or.inl (w22 hw)) (by decide) (t := .long) (t' := .int) (by decide) (by decide)
theorem w38 {Z : State} {a0 : Array Value} (hw : ∀ d ∈ tables_1, d.before a0 Z = true) : (Jvm.Cond.lays "com/example/wirefram/wirefram/sequence/SessionsLeft$Left" "com/example/wirefram/wirefram/sequence/SessionsLeft$Left" "note" "J").before a0 Z = true := hw _ (List.mem_of_getElem? (i := 38) rfl)
theorem sn_SessionsLeft_Left_note_id {Z : State} {a0 : Array Value} (hw : ∀ d ∈ tables_1, d.before a0 Z = true) : Jvm.RoadKit.slotOf Z "com/example/wirefram/wirefram/sequence/SessionsLeft$Left" "note" "J" ≠ Jvm.RoadKit.slotOf Z "com/example/wirefram/wirefram/sequence/SessionsLeft$Left" "id" "I" := slot_ne (a0 := a0) (C := "com/example/wirefram/wirefram/sequence/SessionsLeft$Left") (Or.inl (w38 hw)) (Or.inl (w22 hw)) (by decide) (t := .long) (t' := .int) (by decide) (by decide)
theorem w40 {Z : State} {a0 : Array Value} (hw : ∀ d ∈ tables_1, d.before a0 Z = true) : (Jvm.Cond.lays "com/example/wirefram/wirefram/sequence/SessionsLeft$Left" "com/example/wirefram/wirefram/sequence/SessionsLeft$Left" "order" "J").before a0 Z = true := hw _ (List.mem_of_getElem? (i := 40) rfl)
theorem sn_SessionsLeft_Left_order_id {Z : State} {a0 : Array Value} (hw : ∀ d ∈ tables_1, d.before a0 Z = true) : Jvm.RoadKit.slotOf Z "com/example/wirefram/wirefram/sequence/SessionsLeft$Left" "order" "J" ≠ Jvm.RoadKit.slotOf Z "com/example/wirefram/wirefram/sequence/SessionsLeft$Left" "id" "I" := slot_ne (a0 := a0) (C := "com/example/wirefram/wirefram/sequence/SessionsLeft$Left") (Or.inl (w40 hw)) (Or.inl (w22 hw)) (by decide) (t := .long) (t' := .int) (by decide) (by decide)
abbrev y0_init : MethodName := ⟨"com/example/wirefram/wirefram/sequence/SessionsLeft$Left", "<init>", "()V"⟩
theorem pn_com_example_wirefram_wirefram_sequence_SessionsLeft_Left : plainName "com/example/wirefram/wirefram/sequence/SessionsLeft$Left" = true := by first | (simp [plainName, overriddenIn]; done) | decide +kernel
abbrev c0_SessionsLeft_Left : String := "com/example/wirefram/wirefram/sequence/SessionsLeft$Left"
theorem d2_0 : decode prog_84_method_1_code 0 = .ok (.aload_n 0, 1) := by decide +kernel
theorem d2_1 : decode prog_84_method_1_code 1 = .ok (.invokespecial 1, 3) := by decide +kernel
theorem w11 {Z : State} {a0 : Array Value} (hw : ∀ d ∈ tables_1, d.before a0 Z = true) : (Jvm.Cond.methodLink "com/example/wirefram/wirefram/sequence/SessionsLeft" (1 : Nat) ({ cls := "java/lang/Object", name := "<init>", desc := "()V" } : Jvm.MethodName)).before a0 Z = true := hw _ (List.mem_of_getElem? (i := 11) rfl)
theorem d2_4 : decode prog_84_method_1_code 4 = .ok (.aload_n 0, 1) := by decide +kernel
theorem d2_5 : decode prog_84_method_1_code 5 = .ok (.new 7, 3) := by decide +kernel
theorem w14 {Z : State} {a0 : Array Value} (hw : ∀ d ∈ tables_1, d.before a0 Z = true) : (Jvm.Cond.classLink "com/example/wirefram/wirefram/sequence/SessionsLeft" (7 : Nat) "com/example/wirefram/wirefram/sequence/SessionsLeft$Left").before a0 Z = true := hw _ (List.mem_of_getElem? (i := 14) rfl)
theorem w16 {Z : State} {a0 : Array Value} (hw : ∀ d ∈ tables_1, d.before a0 Z = true) : (Jvm.Cond.initialized "com/example/wirefram/wirefram/sequence/SessionsLeft$Left").before a0 Z = true := hw _ (List.mem_of_getElem? (i := 16) rfl)
theorem d2_8 : decode prog_84_method_1_code 8 = .ok (.dup, 1) := by decide +kernel
theorem d2_9 : decode prog_84_method_1_code 9 = .ok (.invokespecial 9, 3) := by decide +kernel
theorem w17 {Z : State} {a0 : Array Value} (hw : ∀ d ∈ tables_1, d.before a0 Z = true) : (Jvm.Cond.methodRef "com/example/wirefram/wirefram/sequence/SessionsLeft" (9 : Nat) ({ cls := "com/example/wirefram/wirefram/sequence/SessionsLeft$Left", name := "<init>", desc := "()V" } : Jvm.MethodName)).before a0 Z = true := hw _ (List.mem_of_getElem? (i := 17) rfl)
theorem pd___V : parseMethodDescriptor "()V" = some ⟨[], none⟩ := by decide +kernel
theorem w19 {Z : State} {a0 : Array Value} (hw : ∀ d ∈ tables_1, d.before a0 Z = true) : (Jvm.Cond.code ({ cls := "com/example/wirefram/wirefram/sequence/SessionsLeft$Left", name := "<init>", desc := "()V" } : Jvm.MethodName) prog_85_method_1_code (1 : Nat) (Option.none : Option Jvm.ClassFile.FieldType)).before a0 Z = true := hw _ (List.mem_of_getElem? (i := 19) rfl)
theorem w18 {Z : State} {a0 : Array Value} (hw : ∀ d ∈ tables_1, d.before a0 Z = true) : (Jvm.Cond.instanceMethod ({ cls := "com/example/wirefram/wirefram/sequence/SessionsLeft$Left", name := "<init>", desc := "()V" } : Jvm.MethodName)).before a0 Z = true := hw _ (List.mem_of_getElem? (i := 18) rfl)
theorem d2_12 : decode prog_84_method_1_code 12 = .ok (.putfield 10, 3) := by decide +kernel
theorem w23 {Z : State} {a0 : Array Value} (hw : ∀ d ∈ tables_1, d.before a0 Z = true) : (Jvm.Cond.fieldLink "com/example/wirefram/wirefram/sequence/SessionsLeft" (10 : Nat) "com/example/wirefram/wirefram/sequence/SessionsLeft" "last" "Lcom/example/wirefram/wirefram/sequence/SessionsLeft$Left;").before a0 Z = true := hw _ (List.mem_of_getElem? (i := 23) rfl)
theorem w24 {Z : State} {a0 : Array Value} (hw : ∀ d ∈ tables_1, d.before a0 Z = true) : (Jvm.Cond.lays "com/example/wirefram/wirefram/sequence/SessionsLeft" "com/example/wirefram/wirefram/sequence/SessionsLeft" "last" "Lcom/example/wirefram/wirefram/sequence/SessionsLeft$Left;").before a0 Z = true := hw _ (List.mem_of_getElem? (i := 24) rfl)
theorem w6 {Z : State} {a0 : Array Value} (hw : ∀ d ∈ tables_1, d.before a0 Z = true) : (Jvm.Cond.instantiable "com/example/wirefram/wirefram/sequence/SessionsLeft" (2 : Nat)).before a0 Z = true := hw _ (List.mem_of_getElem? (i := 6) rfl)
theorem d2_15 : decode prog_84_method_1_code 15 = .ok (.aload_n 0, 1) := by decide +kernel
theorem d2_16 : decode prog_84_method_1_code 16 = .ok (.new 7, 3) := by decide +kernel
theorem d2_19 : decode prog_84_method_1_code 19 = .ok (.dup, 1) := by decide +kernel
theorem d2_20 : decode prog_84_method_1_code 20 = .ok (.invokespecial 9, 3) := by decide +kernel
theorem d2_23 : decode prog_84_method_1_code 23 = .ok (.putfield 16, 3) := by decide +kernel
theorem w25 {Z : State} {a0 : Array Value} (hw : ∀ d ∈ tables_1, d.before a0 Z = true) : (Jvm.Cond.fieldLink "com/example/wirefram/wirefram/sequence/SessionsLeft" (16 : Nat) "com/example/wirefram/wirefram/sequence/SessionsLeft" "before" "Lcom/example/wirefram/wirefram/sequence/SessionsLeft$Left;").before a0 Z = true := hw _ (List.mem_of_getElem? (i := 25) rfl)
theorem w26 {Z : State} {a0 : Array Value} (hw : ∀ d ∈ tables_1, d.before a0 Z = true) : (Jvm.Cond.lays "com/example/wirefram/wirefram/sequence/SessionsLeft" "com/example/wirefram/wirefram/sequence/SessionsLeft" "before" "Lcom/example/wirefram/wirefram/sequence/SessionsLeft$Left;").before a0 Z = true := hw _ (List.mem_of_getElem? (i := 26) rfl)
theorem sn_SessionsLeft_before_last {Z : State} {a0 : Array Value} (hw : ∀ d ∈ tables_1, d.before a0 Z = true) : Jvm.RoadKit.slotOf Z "com/example/wirefram/wirefram/sequence/SessionsLeft" "before" "Lcom/example/wirefram/wirefram/sequence/SessionsLeft$Left;" ≠ Jvm.RoadKit.slotOf Z "com/example/wirefram/wirefram/sequence/SessionsLeft" "last" "Lcom/example/wirefram/wirefram/sequence/SessionsLeft$Left;" := slot_ne (a0 := a0) (C := "com/example/wirefram/wirefram/sequence/SessionsLeft") (Or.inl (w26 hw)) (Or.inl (w24 hw)) (by decide) (t := (.object "com/example/wirefram/wirefram/sequence/SessionsLeft$Left")) (t' := (.object "com/example/wirefram/wirefram/sequence/SessionsLeft$Left")) (by decide) (by decide)
theorem d2_26 : decode prog_84_method_1_code 26 = .ok (.return_, 1) := by decide +kernel
theorem sn_SessionsLeft_last_before {Z : State} {a0 : Array Value} (hw : ∀ d ∈ tables_1, d.before a0 Z = true) : Jvm.RoadKit.slotOf Z "com/example/wirefram/wirefram/sequence/SessionsLeft" "last" "Lcom/example/wirefram/wirefram/sequence/SessionsLeft$Left;" ≠ Jvm.RoadKit.slotOf Z "com/example/wirefram/wirefram/sequence/SessionsLeft" "before" "Lcom/example/wirefram/wirefram/sequence/SessionsLeft$Left;" := slot_ne (a0 := a0) (C := "com/example/wirefram/wirefram/sequence/SessionsLeft") (Or.inl (w24 hw)) (Or.inl (w26 hw)) (by decide) (t := (.object "com/example/wirefram/wirefram/sequence/SessionsLeft$Left")) (t' := (.object "com/example/wirefram/wirefram/sequence/SessionsLeft$Left")) (by decide) (by decide)
abbrev y1_init : MethodName := ⟨"com/example/wirefram/wirefram/sequence/SessionsLeft", "<init>", "()V"⟩
theorem pn_com_example_wirefram_wirefram_sequence_SessionsLeft : plainName "com/example/wirefram/wirefram/sequence/SessionsLeft" = true := by first | (simp [plainName, overriddenIn]; done) | decide +kernel
abbrev c1_SessionsLeft : String := "com/example/wirefram/wirefram/sequence/SessionsLeft"
theorem d5_0 : decode prog_84_method_4_code 0 = .ok (.aload_n 0, 1) := by decide +kernel
theorem d5_1 : decode prog_84_method_4_code 1 = .ok (.getfield 10, 3) := by decide +kernel
theorem d5_4 : decode prog_84_method_4_code 4 = .ok (.getfield 29, 3) := by decide +kernel
theorem w32 {Z : State} {a0 : Array Value} (hw : ∀ d ∈ tables_1, d.before a0 Z = true) : (Jvm.Cond.fieldLink "com/example/wirefram/wirefram/sequence/SessionsLeft" (29 : Nat) "com/example/wirefram/wirefram/sequence/SessionsLeft$Left" "id" "I").before a0 Z = true := hw _ (List.mem_of_getElem? (i := 32) rfl)
theorem d5_7 : decode prog_84_method_4_code 7 = .ok (.iconst (-1), 1) := by decide +kernel
theorem d5_8 : decode prog_84_method_4_code 8 = .ok (.if_icmp .eq 44, 3) := by decide +kernel
theorem d5_52 : decode prog_84_method_4_code 52 = .ok (.aload_n 0, 1) := by decide +kernel
theorem d5_53 : decode prog_84_method_4_code 53 = .ok (.getfield 10, 3) := by decide +kernel
theorem d5_56 : decode prog_84_method_4_code 56 = .ok (.iload_n 1, 1) := by decide +kernel
theorem d5_57 : decode prog_84_method_4_code 57 = .ok (.putfield 29, 3) := by decide +kernel
theorem d5_60 : decode prog_84_method_4_code 60 = .ok (.aload_n 0, 1) := by decide +kernel
theorem d5_61 : decode prog_84_method_4_code 61 = .ok (.getfield 10, 3) := by decide +kernel
theorem d5_64 : decode prog_84_method_4_code 64 = .ok (.iload_n 2, 1) := by decide +kernel
theorem d5_65 : decode prog_84_method_4_code 65 = .ok (.putfield 33, 3) := by decide +kernel
theorem w33 {Z : State} {a0 : Array Value} (hw : ∀ d ∈ tables_1, d.before a0 Z = true) : (Jvm.Cond.fieldLink "com/example/wirefram/wirefram/sequence/SessionsLeft" (33 : Nat) "com/example/wirefram/wirefram/sequence/SessionsLeft$Left" "lone" "Z").before a0 Z = true := hw _ (List.mem_of_getElem? (i := 33) rfl)
theorem d5_68 : decode prog_84_method_4_code 68 = .ok (.aload_n 0, 1) := by decide +kernel
theorem d5_69 : decode prog_84_method_4_code 69 = .ok (.getfield 10, 3) := by decide +kernel
theorem d5_72 : decode prog_84_method_4_code 72 = .ok (.lload_n 3, 1) := by decide +kernel
theorem d5_73 : decode prog_84_method_4_code 73 = .ok (.putfield 37, 3) := by decide +kernel
theorem w35 {Z : State} {a0 : Array Value} (hw : ∀ d ∈ tables_1, d.before a0 Z = true) : (Jvm.Cond.fieldLink "com/example/wirefram/wirefram/sequence/SessionsLeft" (37 : Nat) "com/example/wirefram/wirefram/sequence/SessionsLeft$Left" "highest" "J").before a0 Z = true := hw _ (List.mem_of_getElem? (i := 35) rfl)
theorem sn_SessionsLeft_Left_highest_lone {Z : State} {a0 : Array Value} (hw : ∀ d ∈ tables_1, d.before a0 Z = true) : Jvm.RoadKit.slotOf Z "com/example/wirefram/wirefram/sequence/SessionsLeft$Left" "highest" "J" ≠ Jvm.RoadKit.slotOf Z "com/example/wirefram/wirefram/sequence/SessionsLeft$Left" "lone" "Z" := slot_ne (a0 := a0) (C := "com/example/wirefram/wirefram/sequence/SessionsLeft$Left") (Or.inl (w36 hw)) (Or.inl (w34 hw)) (by decide) (t := .long) (t' := .boolean) (by decide) (by decide)
theorem d5_76 : decode prog_84_method_4_code 76 = .ok (.aload_n 0, 1) := by decide +kernel
theorem d5_77 : decode prog_84_method_4_code 77 = .ok (.getfield 10, 3) := by decide +kernel
theorem d5_80 : decode prog_84_method_4_code 80 = .ok (.lload 5, 2) := by decide +kernel
theorem d5_82 : decode prog_84_method_4_code 82 = .ok (.putfield 41, 3) := by decide +kernel
theorem w37 {Z : State} {a0 : Array Value} (hw : ∀ d ∈ tables_1, d.before a0 Z = true) : (Jvm.Cond.fieldLink "com/example/wirefram/wirefram/sequence/SessionsLeft" (41 : Nat) "com/example/wirefram/wirefram/sequence/SessionsLeft$Left" "note" "J").before a0 Z = true := hw _ (List.mem_of_getElem? (i := 37) rfl)
theorem sn_SessionsLeft_Left_note_lone {Z : State} {a0 : Array Value} (hw : ∀ d ∈ tables_1, d.before a0 Z = true) : Jvm.RoadKit.slotOf Z "com/example/wirefram/wirefram/sequence/SessionsLeft$Left" "note" "J" ≠ Jvm.RoadKit.slotOf Z "com/example/wirefram/wirefram/sequence/SessionsLeft$Left" "lone" "Z" := slot_ne (a0 := a0) (C := "com/example/wirefram/wirefram/sequence/SessionsLeft$Left") (Or.inl (w38 hw)) (Or.inl (w34 hw)) (by decide) (t := .long) (t' := .boolean) (by decide) (by decide)
theorem sn_SessionsLeft_Left_note_highest {Z : State} {a0 : Array Value} (hw : ∀ d ∈ tables_1, d.before a0 Z = true) : Jvm.RoadKit.slotOf Z "com/example/wirefram/wirefram/sequence/SessionsLeft$Left" "note" "J" ≠ Jvm.RoadKit.slotOf Z "com/example/wirefram/wirefram/sequence/SessionsLeft$Left" "highest" "J" := slot_ne (a0 := a0) (C := "com/example/wirefram/wirefram/sequence/SessionsLeft$Left") (Or.inl (w38 hw)) (Or.inl (w36 hw)) (by decide) (t := .long) (t' := .long) (by decide) (by decide)
theorem d5_85 : decode prog_84_method_4_code 85 = .ok (.aload_n 0, 1) := by decide +kernel
theorem d5_86 : decode prog_84_method_4_code 86 = .ok (.getfield 10, 3) := by decide +kernel
theorem d5_89 : decode prog_84_method_4_code 89 = .ok (.lload 7, 2) := by decide +kernel
theorem d5_91 : decode prog_84_method_4_code 91 = .ok (.putfield 44, 3) := by decide +kernel
theorem w39 {Z : State} {a0 : Array Value} (hw : ∀ d ∈ tables_1, d.before a0 Z = true) : (Jvm.Cond.fieldLink "com/example/wirefram/wirefram/sequence/SessionsLeft" (44 : Nat) "com/example/wirefram/wirefram/sequence/SessionsLeft$Left" "order" "J").before a0 Z = true := hw _ (List.mem_of_getElem? (i := 39) rfl)
theorem sn_SessionsLeft_Left_order_lone {Z : State} {a0 : Array Value} (hw : ∀ d ∈ tables_1, d.before a0 Z = true) : Jvm.RoadKit.slotOf Z "com/example/wirefram/wirefram/sequence/SessionsLeft$Left" "order" "J" ≠ Jvm.RoadKit.slotOf Z "com/example/wirefram/wirefram/sequence/SessionsLeft$Left" "lone" "Z" := slot_ne (a0 := a0) (C := "com/example/wirefram/wirefram/sequence/SessionsLeft$Left") (Or.inl (w40 hw)) (Or.inl (w34 hw)) (by decide) (t := .long) (t' := .boolean) (by decide) (by decide)
theorem sn_SessionsLeft_Left_order_highest {Z : State} {a0 : Array Value} (hw : ∀ d ∈ tables_1, d.before a0 Z = true) : Jvm.RoadKit.slotOf Z "com/example/wirefram/wirefram/sequence/SessionsLeft$Left" "order" "J" ≠ Jvm.RoadKit.slotOf Z "com/example/wirefram/wirefram/sequence/SessionsLeft$Left" "highest" "J" := slot_ne (a0 := a0) (C := "com/example/wirefram/wirefram/sequence/SessionsLeft$Left") (Or.inl (w40 hw)) (Or.inl (w36 hw)) (by decide) (t := .long) (t' := .long) (by decide) (by decide)
theorem sn_SessionsLeft_Left_order_note {Z : State} {a0 : Array Value} (hw : ∀ d ∈ tables_1, d.before a0 Z = true) : Jvm.RoadKit.slotOf Z "com/example/wirefram/wirefram/sequence/SessionsLeft$Left" "order" "J" ≠ Jvm.RoadKit.slotOf Z "com/example/wirefram/wirefram/sequence/SessionsLeft$Left" "note" "J" := slot_ne (a0 := a0) (C := "com/example/wirefram/wirefram/sequence/SessionsLeft$Left") (Or.inl (w40 hw)) (Or.inl (w38 hw)) (by decide) (t := .long) (t' := .long) (by decide) (by decide)
theorem d5_94 : decode prog_84_method_4_code 94 = .ok (.return_, 1) := by decide +kernel
theorem sn_SessionsLeft_Left_id_lone {Z : State} {a0 : Array Value} (hw : ∀ d ∈ tables_1, d.before a0 Z = true) : Jvm.RoadKit.slotOf Z "com/example/wirefram/wirefram/sequence/SessionsLeft$Left" "id" "I" ≠ Jvm.RoadKit.slotOf Z "com/example/wirefram/wirefram/sequence/SessionsLeft$Left" "lone" "Z" := slot_ne (a0 := a0) (C := "com/example/wirefram/wirefram/sequence/SessionsLeft$Left") (Or.inl (w22 hw)) (Or.inl (w34 hw)) (by decide) (t := .int) (t' := .boolean) (by decide) (by decide)
theorem sn_SessionsLeft_Left_id_highest {Z : State} {a0 : Array Value} (hw : ∀ d ∈ tables_1, d.before a0 Z = true) : Jvm.RoadKit.slotOf Z "com/example/wirefram/wirefram/sequence/SessionsLeft$Left" "id" "I" ≠ Jvm.RoadKit.slotOf Z "com/example/wirefram/wirefram/sequence/SessionsLeft$Left" "highest" "J" := slot_ne (a0 := a0) (C := "com/example/wirefram/wirefram/sequence/SessionsLeft$Left") (Or.inl (w22 hw)) (Or.inl (w36 hw)) (by decide) (t := .int) (t' := .long) (by decide) (by decide)
theorem sn_SessionsLeft_Left_id_note {Z : State} {a0 : Array Value} (hw : ∀ d ∈ tables_1, d.before a0 Z = true) : Jvm.RoadKit.slotOf Z "com/example/wirefram/wirefram/sequence/SessionsLeft$Left" "id" "I" ≠ Jvm.RoadKit.slotOf Z "com/example/wirefram/wirefram/sequence/SessionsLeft$Left" "note" "J" := slot_ne (a0 := a0) (C := "com/example/wirefram/wirefram/sequence/SessionsLeft$Left") (Or.inl (w22 hw)) (Or.inl (w38 hw)) (by decide) (t := .int) (t' := .long) (by decide) (by decide)
theorem sn_SessionsLeft_Left_id_order {Z : State} {a0 : Array Value} (hw : ∀ d ∈ tables_1, d.before a0 Z = true) : Jvm.RoadKit.slotOf Z "com/example/wirefram/wirefram/sequence/SessionsLeft$Left" "id" "I" ≠ Jvm.RoadKit.slotOf Z "com/example/wirefram/wirefram/sequence/SessionsLeft$Left" "order" "J" := slot_ne (a0 := a0) (C := "com/example/wirefram/wirefram/sequence/SessionsLeft$Left") (Or.inl (w22 hw)) (Or.inl (w40 hw)) (by decide) (t := .int) (t' := .long) (by decide) (by decide)
theorem sn_SessionsLeft_Left_lone_highest {Z : State} {a0 : Array Value} (hw : ∀ d ∈ tables_1, d.before a0 Z = true) : Jvm.RoadKit.slotOf Z "com/example/wirefram/wirefram/sequence/SessionsLeft$Left" "lone" "Z" ≠ Jvm.RoadKit.slotOf Z "com/example/wirefram/wirefram/sequence/SessionsLeft$Left" "highest" "J" := slot_ne (a0 := a0) (C := "com/example/wirefram/wirefram/sequence/SessionsLeft$Left") (Or.inl (w34 hw)) (Or.inl (w36 hw)) (by decide) (t := .boolean) (t' := .long) (by decide) (by decide)
theorem sn_SessionsLeft_Left_lone_note {Z : State} {a0 : Array Value} (hw : ∀ d ∈ tables_1, d.before a0 Z = true) : Jvm.RoadKit.slotOf Z "com/example/wirefram/wirefram/sequence/SessionsLeft$Left" "lone" "Z" ≠ Jvm.RoadKit.slotOf Z "com/example/wirefram/wirefram/sequence/SessionsLeft$Left" "note" "J" := slot_ne (a0 := a0) (C := "com/example/wirefram/wirefram/sequence/SessionsLeft$Left") (Or.inl (w34 hw)) (Or.inl (w38 hw)) (by decide) (t := .boolean) (t' := .long) (by decide) (by decide)
theorem sn_SessionsLeft_Left_lone_order {Z : State} {a0 : Array Value} (hw : ∀ d ∈ tables_1, d.before a0 Z = true) : Jvm.RoadKit.slotOf Z "com/example/wirefram/wirefram/sequence/SessionsLeft$Left" "lone" "Z" ≠ Jvm.RoadKit.slotOf Z "com/example/wirefram/wirefram/sequence/SessionsLeft$Left" "order" "J" := slot_ne (a0 := a0) (C := "com/example/wirefram/wirefram/sequence/SessionsLeft$Left") (Or.inl (w34 hw)) (Or.inl (w40 hw)) (by decide) (t := .boolean) (t' := .long) (by decide) (by decide)
theorem sn_SessionsLeft_Left_highest_note {Z : State} {a0 : Array Value} (hw : ∀ d ∈ tables_1, d.before a0 Z = true) : Jvm.RoadKit.slotOf Z "com/example/wirefram/wirefram/sequence/SessionsLeft$Left" "highest" "J" ≠ Jvm.RoadKit.slotOf Z "com/example/wirefram/wirefram/sequence/SessionsLeft$Left" "note" "J" := slot_ne (a0 := a0) (C := "com/example/wirefram/wirefram/sequence/SessionsLeft$Left") (Or.inl (w36 hw)) (Or.inl (w38 hw)) (by decide) (t := .long) (t' := .long) (by decide) (by decide)
theorem sn_SessionsLeft_Left_highest_order {Z : State} {a0 : Array Value} (hw : ∀ d ∈ tables_1, d.before a0 Z = true) : Jvm.RoadKit.slotOf Z "com/example/wirefram/wirefram/sequence/SessionsLeft$Left" "highest" "J" ≠ Jvm.RoadKit.slotOf Z "com/example/wirefram/wirefram/sequence/SessionsLeft$Left" "order" "J" := slot_ne (a0 := a0) (C := "com/example/wirefram/wirefram/sequence/SessionsLeft$Left") (Or.inl (w36 hw)) (Or.inl (w40 hw)) (by decide) (t := .long) (t' := .long) (by decide) (by decide)
theorem sn_SessionsLeft_Left_note_order {Z : State} {a0 : Array Value} (hw : ∀ d ∈ tables_1, d.before a0 Z = true) : Jvm.RoadKit.slotOf Z "com/example/wirefram/wirefram/sequence/SessionsLeft$Left" "note" "J" ≠ Jvm.RoadKit.slotOf Z "com/example/wirefram/wirefram/sequence/SessionsLeft$Left" "order" "J" := slot_ne (a0 := a0) (C := "com/example/wirefram/wirefram/sequence/SessionsLeft$Left") (Or.inl (w38 hw)) (Or.inl (w40 hw)) (by decide) (t := .long) (t' := .long) (by decide) (by decide)
abbrev y2_leave : MethodName := ⟨"com/example/wirefram/wirefram/sequence/SessionsLeft", "leave", "(IZJJJ)V"⟩
theorem d5_11 : decode prog_84_method_4_code 11 = .ok (.aload_n 0, 1) := by decide +kernel
theorem d5_12 : decode prog_84_method_4_code 12 = .ok (.getfield 16, 3) := by decide +kernel
theorem d5_15 : decode prog_84_method_4_code 15 = .ok (.getfield 29, 3) := by decide +kernel
theorem d5_18 : decode prog_84_method_4_code 18 = .ok (.iconst (-1), 1) := by decide +kernel
theorem d5_19 : decode prog_84_method_4_code 19 = .ok (.if_icmp .eq 13, 3) := by decide +kernel
theorem d5_32 : decode prog_84_method_4_code 32 = .ok (.aload_n 0, 1) := by decide +kernel
theorem d5_33 : decode prog_84_method_4_code 33 = .ok (.getfield 16, 3) := by decide +kernel
theorem d5_36 : decode prog_84_method_4_code 36 = .ok (.astore 9, 2) := by decide +kernel
theorem d5_38 : decode prog_84_method_4_code 38 = .ok (.aload_n 0, 1) := by decide +kernel
theorem d5_39 : decode prog_84_method_4_code 39 = .ok (.aload_n 0, 1) := by decide +kernel
theorem d5_40 : decode prog_84_method_4_code 40 = .ok (.getfield 10, 3) := by decide +kernel
theorem d5_43 : decode prog_84_method_4_code 43 = .ok (.putfield 16, 3) := by decide +kernel
theorem d5_46 : decode prog_84_method_4_code 46 = .ok (.aload_n 0, 1) := by decide +kernel
theorem d5_47 : decode prog_84_method_4_code 47 = .ok (.aload 9, 2) := by decide +kernel
theorem d5_49 : decode prog_84_method_4_code 49 = .ok (.putfield 10, 3) := by decide +kernel
theorem d5_22 : decode prog_84_method_4_code 22 = .ok (.aload_n 0, 1) := by decide +kernel
theorem d5_23 : decode prog_84_method_4_code 23 = .ok (.getfield 10, 3) := by decide +kernel
theorem d5_26 : decode prog_84_method_4_code 26 = .ok (.getfield 33, 3) := by decide +kernel
theorem d5_29 : decode prog_84_method_4_code 29 = .ok (.ifCond .ne 23, 3) := by decide +kernel
theorem d7_0 : decode prog_84_method_9_code 0 = .ok (.iload_n 1, 1) := by decide +kernel
theorem d7_1 : decode prog_84_method_9_code 1 = .ok (.iconst (-1), 1) := by decide +kernel
theorem d7_2 : decode prog_84_method_9_code 2 = .ok (.if_icmp .ne 5, 3) := by decide +kernel
theorem d7_7 : decode prog_84_method_9_code 7 = .ok (.aload_n 0, 1) := by decide +kernel
theorem d7_8 : decode prog_84_method_9_code 8 = .ok (.getfield 10, 3) := by decide +kernel
theorem d7_11 : decode prog_84_method_9_code 11 = .ok (.getfield 29, 3) := by decide +kernel
theorem d7_14 : decode prog_84_method_9_code 14 = .ok (.iload_n 1, 1) := by decide +kernel
theorem d7_15 : decode prog_84_method_9_code 15 = .ok (.if_icmp .ne 8, 3) := by decide +kernel
theorem d7_18 : decode prog_84_method_9_code 18 = .ok (.aload_n 0, 1) := by decide +kernel
theorem d7_19 : decode prog_84_method_9_code 19 = .ok (.getfield 10, 3) := by decide +kernel
theorem d7_22 : decode prog_84_method_9_code 22 = .ok (.areturn, 1) := by decide +kernel
abbrev y3_find : MethodName := ⟨"com/example/wirefram/wirefram/sequence/SessionsLeft", "find", "(I)Lcom/example/wirefram/wirefram/sequence/SessionsLeft$Left;"⟩
theorem d7_23 : decode prog_84_method_9_code 23 = .ok (.aload_n 0, 1) := by decide +kernel
theorem d7_24 : decode prog_84_method_9_code 24 = .ok (.getfield 16, 3) := by decide +kernel
theorem d7_27 : decode prog_84_method_9_code 27 = .ok (.getfield 29, 3) := by decide +kernel
theorem d7_30 : decode prog_84_method_9_code 30 = .ok (.iload_n 1, 1) := by decide +kernel
theorem d7_31 : decode prog_84_method_9_code 31 = .ok (.if_icmp .ne 10, 3) := by decide +kernel
theorem d7_34 : decode prog_84_method_9_code 34 = .ok (.aload_n 0, 1) := by decide +kernel
theorem d7_35 : decode prog_84_method_9_code 35 = .ok (.getfield 16, 3) := by decide +kernel
theorem d7_38 : decode prog_84_method_9_code 38 = .ok (.goto 4, 3) := by decide +kernel
theorem d7_42 : decode prog_84_method_9_code 42 = .ok (.areturn, 1) := by decide +kernel
theorem d7_41 : decode prog_84_method_9_code 41 = .ok (.aconst_null, 1) := by decide +kernel
theorem d6_0 : decode prog_84_method_2_code 0 = .ok (.aload_n 0, 1) := by decide +kernel
theorem d6_1 : decode prog_84_method_2_code 1 = .ok (.iload_n 1, 1) := by decide +kernel
theorem d6_2 : decode prog_84_method_2_code 2 = .ok (.invokevirtual 19, 3) := by decide +kernel
theorem w46 {Z : State} {a0 : Array Value} (hw : ∀ d ∈ tables_1, d.before a0 Z = true) : (Jvm.Cond.methodLink "com/example/wirefram/wirefram/sequence/SessionsLeft" (19 : Nat) ({ cls := "com/example/wirefram/wirefram/sequence/SessionsLeft", name := "find", desc := "(I)Lcom/example/wirefram/wirefram/sequence/SessionsLeft$Left;" } : Jvm.MethodName)).before a0 Z = true := hw _ (List.mem_of_getElem? (i := 46) rfl)
theorem pd__I_Lcom_example_wirefram_wirefram_sequence_SessionsLeft_Left_ : parseMethodDescriptor "(I)Lcom/example/wirefram/wirefram/sequence/SessionsLeft$Left;" = some ⟨[.int], some (.object "com/example/wirefram/wirefram/sequence/SessionsLeft$Left")⟩ := by decide +kernel
theorem w7 {Z : State} {a0 : Array Value} (hw : ∀ d ∈ tables_1, d.before a0 Z = true) : (Jvm.Cond.initialized "com/example/wirefram/wirefram/sequence/SessionsLeft").before a0 Z = true := hw _ (List.mem_of_getElem? (i := 7) rfl)
theorem w49 {Z : State} {a0 : Array Value} (hw : ∀ d ∈ tables_1, d.before a0 Z = true) : (Jvm.Cond.code ({ cls := "com/example/wirefram/wirefram/sequence/SessionsLeft", name := "find", desc := "(I)Lcom/example/wirefram/wirefram/sequence/SessionsLeft$Left;" } : Jvm.MethodName) prog_84_method_9_code (2 : Nat) (Option.some (Jvm.ClassFile.FieldType.object "com/example/wirefram/wirefram/sequence/SessionsLeft$Left"))).before a0 Z = true := hw _ (List.mem_of_getElem? (i := 49) rfl)
theorem w47 {Z : State} {a0 : Array Value} (hw : ∀ d ∈ tables_1, d.before a0 Z = true) : (Jvm.Cond.instanceMethod ({ cls := "com/example/wirefram/wirefram/sequence/SessionsLeft", name := "find", desc := "(I)Lcom/example/wirefram/wirefram/sequence/SessionsLeft$Left;" } : Jvm.MethodName)).before a0 Z = true := hw _ (List.mem_of_getElem? (i := 47) rfl)
theorem w48 {Z : State} {a0 : Array Value} (hw : ∀ d ∈ tables_1, d.before a0 Z = true) : (Jvm.Cond.privateMethod ({ cls := "com/example/wirefram/wirefram/sequence/SessionsLeft", name := "find", desc := "(I)Lcom/example/wirefram/wirefram/sequence/SessionsLeft$Left;" } : Jvm.MethodName)).before a0 Z = true := hw _ (List.mem_of_getElem? (i := 48) rfl)
theorem d6_5 : decode prog_84_method_2_code 5 = .ok (.ifnull 7, 3) := by decide +kernel
theorem d6_8 : decode prog_84_method_2_code 8 = .ok (.iconst 1, 1) := by decide +kernel
theorem d6_9 : decode prog_84_method_2_code 9 = .ok (.goto 4, 3) := by decide +kernel
theorem d6_13 : decode prog_84_method_2_code 13 = .ok (.ireturn, 1) := by decide +kernel
abbrev y4_remembers : MethodName := ⟨"com/example/wirefram/wirefram/sequence/SessionsLeft", "remembers", "(I)Z"⟩
theorem d6_12 : decode prog_84_method_2_code 12 = .ok (.iconst 0, 1) := by decide +kernel
theorem d8_0 : decode prog_84_method_5_code 0 = .ok (.aload_n 0, 1) := by decide +kernel
theorem d8_1 : decode prog_84_method_5_code 1 = .ok (.iload_n 1, 1) := by decide +kernel
theorem d8_2 : decode prog_84_method_5_code 2 = .ok (.invokevirtual 19, 3) := by decide +kernel
theorem d8_5 : decode prog_84_method_5_code 5 = .ok (.getfield 37, 3) := by decide +kernel
theorem d8_8 : decode prog_84_method_5_code 8 = .ok (.lreturn, 1) := by decide +kernel
abbrev y5_highest : MethodName := ⟨"com/example/wirefram/wirefram/sequence/SessionsLeft", "highest", "(I)J"⟩
theorem d9_0 : decode prog_84_method_6_code 0 = .ok (.aload_n 0, 1) := by decide +kernel
theorem d9_1 : decode prog_84_method_6_code 1 = .ok (.iload_n 1, 1) := by decide +kernel
theorem d9_2 : decode prog_84_method_6_code 2 = .ok (.invokevirtual 19, 3) := by decide +kernel
theorem d9_5 : decode prog_84_method_6_code 5 = .ok (.getfield 41, 3) := by decide +kernel
theorem d9_8 : decode prog_84_method_6_code 8 = .ok (.lreturn, 1) := by decide +kernel
abbrev y6_note : MethodName := ⟨"com/example/wirefram/wirefram/sequence/SessionsLeft", "note", "(I)J"⟩
theorem d10_0 : decode prog_84_method_7_code 0 = .ok (.aload_n 0, 1) := by decide +kernel
theorem d10_1 : decode prog_84_method_7_code 1 = .ok (.iload_n 1, 1) := by decide +kernel
theorem d10_2 : decode prog_84_method_7_code 2 = .ok (.invokevirtual 19, 3) := by decide +kernel
theorem d10_5 : decode prog_84_method_7_code 5 = .ok (.getfield 44, 3) := by decide +kernel
theorem d10_8 : decode prog_84_method_7_code 8 = .ok (.lreturn, 1) := by decide +kernel
abbrev y7_order : MethodName := ⟨"com/example/wirefram/wirefram/sequence/SessionsLeft", "order", "(I)J"⟩
theorem d1_0 : decode jdk_29_method_69_code 0 = .ok (.iload_n 0, 1) := by decide +kernel
theorem d1_1 : decode jdk_29_method_69_code 1 = .ok (.iload_n 1, 1) := by decide +kernel
theorem d1_2 : decode jdk_29_method_69_code 2 = .ok (.if_icmp .gt 7, 3) := by decide +kernel
theorem d1_9 : decode jdk_29_method_69_code 9 = .ok (.iload_n 1, 1) := by decide +kernel
theorem d1_10 : decode jdk_29_method_69_code 10 = .ok (.ireturn, 1) := by decide +kernel
theorem d1_5 : decode jdk_29_method_69_code 5 = .ok (.iload_n 0, 1) := by decide +kernel
theorem d1_6 : decode jdk_29_method_69_code 6 = .ok (.goto 4, 3) := by decide +kernel
abbrev y8_min : MethodName := ⟨"java/lang/Math", "min", "(II)I"⟩
abbrev c2_Math : String := "java/lang/Math"
theorem w0 {Z : State} {a0 : Array Value} (hw : ∀ d ∈ tables_1, d.before a0 Z = true) : (Jvm.Cond.constant "com/example/wirefram/wirefram/sequence/SessionsLeftLeavePinLaw" (7 : Nat) (65535 : Int32)).before a0 Z = true := hw _ (List.mem_of_getElem? (i := 0) rfl)
theorem w1 {Z : State} {a0 : Array Value} (hw : ∀ d ∈ tables_1, d.before a0 Z = true) : (Jvm.Cond.methodLink "com/example/wirefram/wirefram/sequence/SessionsLeftLeavePinLaw" (8 : Nat) ({ cls := "java/lang/Math", name := "min", desc := "(II)I" } : Jvm.MethodName)).before a0 Z = true := hw _ (List.mem_of_getElem? (i := 1) rfl)
theorem pd__II_I : parseMethodDescriptor "(II)I" = some ⟨[.int, .int], some .int⟩ := by decide +kernel
theorem w3 {Z : State} {a0 : Array Value} (hw : ∀ d ∈ tables_1, d.before a0 Z = true) : (Jvm.Cond.initialized "java/lang/Math").before a0 Z = true := hw _ (List.mem_of_getElem? (i := 3) rfl)
theorem w4 {Z : State} {a0 : Array Value} (hw : ∀ d ∈ tables_1, d.before a0 Z = true) : (Jvm.Cond.code ({ cls := "java/lang/Math", name := "min", desc := "(II)I" } : Jvm.MethodName) jdk_29_method_69_code (2 : Nat) (Option.some Jvm.ClassFile.FieldType.int)).before a0 Z = true := hw _ (List.mem_of_getElem? (i := 4) rfl)
theorem w2 {Z : State} {a0 : Array Value} (hw : ∀ d ∈ tables_1, d.before a0 Z = true) : (Jvm.Cond.static ({ cls := "java/lang/Math", name := "min", desc := "(II)I" } : Jvm.MethodName)).before a0 Z = true := hw _ (List.mem_of_getElem? (i := 2) rfl)
theorem w5 {Z : State} {a0 : Array Value} (hw : ∀ d ∈ tables_1, d.before a0 Z = true) : (Jvm.Cond.classLink "com/example/wirefram/wirefram/sequence/SessionsLeftLeavePinLaw" (14 : Nat) "com/example/wirefram/wirefram/sequence/SessionsLeft").before a0 Z = true := hw _ (List.mem_of_getElem? (i := 5) rfl)
theorem w8 {Z : State} {a0 : Array Value} (hw : ∀ d ∈ tables_1, d.before a0 Z = true) : (Jvm.Cond.methodLink "com/example/wirefram/wirefram/sequence/SessionsLeftLeavePinLaw" (16 : Nat) ({ cls := "com/example/wirefram/wirefram/sequence/SessionsLeft", name := "<init>", desc := "()V" } : Jvm.MethodName)).before a0 Z = true := hw _ (List.mem_of_getElem? (i := 8) rfl)
theorem w10 {Z : State} {a0 : Array Value} (hw : ∀ d ∈ tables_1, d.before a0 Z = true) : (Jvm.Cond.code ({ cls := "com/example/wirefram/wirefram/sequence/SessionsLeft", name := "<init>", desc := "()V" } : Jvm.MethodName) prog_84_method_1_code (1 : Nat) (Option.none : Option Jvm.ClassFile.FieldType)).before a0 Z = true := hw _ (List.mem_of_getElem? (i := 10) rfl)
theorem w9 {Z : State} {a0 : Array Value} (hw : ∀ d ∈ tables_1, d.before a0 Z = true) : (Jvm.Cond.instanceMethod ({ cls := "com/example/wirefram/wirefram/sequence/SessionsLeft", name := "<init>", desc := "()V" } : Jvm.MethodName)).before a0 Z = true := hw _ (List.mem_of_getElem? (i := 9) rfl)
theorem w27 {Z : State} {a0 : Array Value} (hw : ∀ d ∈ tables_1, d.before a0 Z = true) : (Jvm.Cond.methodLink "com/example/wirefram/wirefram/sequence/SessionsLeftLeavePinLaw" (17 : Nat) ({ cls := "com/example/wirefram/wirefram/sequence/SessionsLeft", name := "leave", desc := "(IZJJJ)V" } : Jvm.MethodName)).before a0 Z = true := hw _ (List.mem_of_getElem? (i := 27) rfl)
theorem pd__IZJJJ_V : parseMethodDescriptor "(IZJJJ)V" = some ⟨[.int, .boolean, .long, .long, .long], none⟩ := by decide +kernel
theorem w31 {Z : State} {a0 : Array Value} (hw : ∀ d ∈ tables_1, d.before a0 Z = true) : (Jvm.Cond.code ({ cls := "com/example/wirefram/wirefram/sequence/SessionsLeft", name := "leave", desc := "(IZJJJ)V" } : Jvm.MethodName) prog_84_method_4_code (10 : Nat) (Option.none : Option Jvm.ClassFile.FieldType)).before a0 Z = true := hw _ (List.mem_of_getElem? (i := 31) rfl)
theorem w30 {Z : State} {a0 : Array Value} (hw : ∀ d ∈ tables_1, d.before a0 Z = true) : (Jvm.Cond.selects "com/example/wirefram/wirefram/sequence/SessionsLeft" ({ cls := "com/example/wirefram/wirefram/sequence/SessionsLeft", name := "leave", desc := "(IZJJJ)V" } : Jvm.MethodName) ({ cls := "com/example/wirefram/wirefram/sequence/SessionsLeft", name := "leave", desc := "(IZJJJ)V" } : Jvm.MethodName)).before a0 Z = true := hw _ (List.mem_of_getElem? (i := 30) rfl)
theorem w28 {Z : State} {a0 : Array Value} (hw : ∀ d ∈ tables_1, d.before a0 Z = true) : (Jvm.Cond.declares ({ cls := "com/example/wirefram/wirefram/sequence/SessionsLeft", name := "leave", desc := "(IZJJJ)V" } : Jvm.MethodName)).before a0 Z = true := hw _ (List.mem_of_getElem? (i := 28) rfl)
theorem w29 {Z : State} {a0 : Array Value} (hw : ∀ d ∈ tables_1, d.before a0 Z = true) : (Jvm.Cond.instanceMethod ({ cls := "com/example/wirefram/wirefram/sequence/SessionsLeft", name := "leave", desc := "(IZJJJ)V" } : Jvm.MethodName)).before a0 Z = true := hw _ (List.mem_of_getElem? (i := 29) rfl)
theorem w41 {Z : State} {a0 : Array Value} (hw : ∀ d ∈ tables_1, d.before a0 Z = true) : (Jvm.Cond.methodLink "com/example/wirefram/wirefram/sequence/SessionsLeftLeavePinLaw" (21 : Nat) ({ cls := "com/example/wirefram/wirefram/sequence/SessionsLeft", name := "remembers", desc := "(I)Z" } : Jvm.MethodName)).before a0 Z = true := hw _ (List.mem_of_getElem? (i := 41) rfl)
theorem pd__I_Z : parseMethodDescriptor "(I)Z" = some ⟨[.int], some .boolean⟩ := by decide +kernel
theorem w45 {Z : State} {a0 : Array Value} (hw : ∀ d ∈ tables_1, d.before a0 Z = true) : (Jvm.Cond.code ({ cls := "com/example/wirefram/wirefram/sequence/SessionsLeft", name := "remembers", desc := "(I)Z" } : Jvm.MethodName) prog_84_method_2_code (2 : Nat) (Option.some Jvm.ClassFile.FieldType.boolean)).before a0 Z = true := hw _ (List.mem_of_getElem? (i := 45) rfl)
theorem w44 {Z : State} {a0 : Array Value} (hw : ∀ d ∈ tables_1, d.before a0 Z = true) : (Jvm.Cond.selects "com/example/wirefram/wirefram/sequence/SessionsLeft" ({ cls := "com/example/wirefram/wirefram/sequence/SessionsLeft", name := "remembers", desc := "(I)Z" } : Jvm.MethodName) ({ cls := "com/example/wirefram/wirefram/sequence/SessionsLeft", name := "remembers", desc := "(I)Z" } : Jvm.MethodName)).before a0 Z = true := hw _ (List.mem_of_getElem? (i := 44) rfl)
theorem w42 {Z : State} {a0 : Array Value} (hw : ∀ d ∈ tables_1, d.before a0 Z = true) : (Jvm.Cond.declares ({ cls := "com/example/wirefram/wirefram/sequence/SessionsLeft", name := "remembers", desc := "(I)Z" } : Jvm.MethodName)).before a0 Z = true := hw _ (List.mem_of_getElem? (i := 42) rfl)
theorem w43 {Z : State} {a0 : Array Value} (hw : ∀ d ∈ tables_1, d.before a0 Z = true) : (Jvm.Cond.instanceMethod ({ cls := "com/example/wirefram/wirefram/sequence/SessionsLeft", name := "remembers", desc := "(I)Z" } : Jvm.MethodName)).before a0 Z = true := hw _ (List.mem_of_getElem? (i := 43) rfl)
theorem w50 {Z : State} {a0 : Array Value} (hw : ∀ d ∈ tables_1, d.before a0 Z = true) : (Jvm.Cond.methodLink "com/example/wirefram/wirefram/sequence/SessionsLeftLeavePinLaw" (25 : Nat) ({ cls := "com/example/wirefram/wirefram/sequence/SessionsLeft", name := "highest", desc := "(I)J" } : Jvm.MethodName)).before a0 Z = true := hw _ (List.mem_of_getElem? (i := 50) rfl)
theorem pd__I_J : parseMethodDescriptor "(I)J" = some ⟨[.int], some .long⟩ := by decide +kernel
theorem w54 {Z : State} {a0 : Array Value} (hw : ∀ d ∈ tables_1, d.before a0 Z = true) : (Jvm.Cond.code ({ cls := "com/example/wirefram/wirefram/sequence/SessionsLeft", name := "highest", desc := "(I)J" } : Jvm.MethodName) prog_84_method_5_code (2 : Nat) (Option.some Jvm.ClassFile.FieldType.long)).before a0 Z = true := hw _ (List.mem_of_getElem? (i := 54) rfl)
theorem w53 {Z : State} {a0 : Array Value} (hw : ∀ d ∈ tables_1, d.before a0 Z = true) : (Jvm.Cond.selects "com/example/wirefram/wirefram/sequence/SessionsLeft" ({ cls := "com/example/wirefram/wirefram/sequence/SessionsLeft", name := "highest", desc := "(I)J" } : Jvm.MethodName) ({ cls := "com/example/wirefram/wirefram/sequence/SessionsLeft", name := "highest", desc := "(I)J" } : Jvm.MethodName)).before a0 Z = true := hw _ (List.mem_of_getElem? (i := 53) rfl)
theorem w51 {Z : State} {a0 : Array Value} (hw : ∀ d ∈ tables_1, d.before a0 Z = true) : (Jvm.Cond.declares ({ cls := "com/example/wirefram/wirefram/sequence/SessionsLeft", name := "highest", desc := "(I)J" } : Jvm.MethodName)).before a0 Z = true := hw _ (List.mem_of_getElem? (i := 51) rfl)
theorem w52 {Z : State} {a0 : Array Value} (hw : ∀ d ∈ tables_1, d.before a0 Z = true) : (Jvm.Cond.instanceMethod ({ cls := "com/example/wirefram/wirefram/sequence/SessionsLeft", name := "highest", desc := "(I)J" } : Jvm.MethodName)).before a0 Z = true := hw _ (List.mem_of_getElem? (i := 52) rfl)
theorem w55 {Z : State} {a0 : Array Value} (hw : ∀ d ∈ tables_1, d.before a0 Z = true) : (Jvm.Cond.methodLink "com/example/wirefram/wirefram/sequence/SessionsLeftLeavePinLaw" (29 : Nat) ({ cls := "com/example/wirefram/wirefram/sequence/SessionsLeft", name := "note", desc := "(I)J" } : Jvm.MethodName)).before a0 Z = true := hw _ (List.mem_of_getElem? (i := 55) rfl)
theorem w59 {Z : State} {a0 : Array Value} (hw : ∀ d ∈ tables_1, d.before a0 Z = true) : (Jvm.Cond.code ({ cls := "com/example/wirefram/wirefram/sequence/SessionsLeft", name := "note", desc := "(I)J" } : Jvm.MethodName) prog_84_method_6_code (2 : Nat) (Option.some Jvm.ClassFile.FieldType.long)).before a0 Z = true := hw _ (List.mem_of_getElem? (i := 59) rfl)
theorem w58 {Z : State} {a0 : Array Value} (hw : ∀ d ∈ tables_1, d.before a0 Z = true) : (Jvm.Cond.selects "com/example/wirefram/wirefram/sequence/SessionsLeft" ({ cls := "com/example/wirefram/wirefram/sequence/SessionsLeft", name := "note", desc := "(I)J" } : Jvm.MethodName) ({ cls := "com/example/wirefram/wirefram/sequence/SessionsLeft", name := "note", desc := "(I)J" } : Jvm.MethodName)).before a0 Z = true := hw _ (List.mem_of_getElem? (i := 58) rfl)
theorem w56 {Z : State} {a0 : Array Value} (hw : ∀ d ∈ tables_1, d.before a0 Z = true) : (Jvm.Cond.declares ({ cls := "com/example/wirefram/wirefram/sequence/SessionsLeft", name := "note", desc := "(I)J" } : Jvm.MethodName)).before a0 Z = true := hw _ (List.mem_of_getElem? (i := 56) rfl)
theorem w57 {Z : State} {a0 : Array Value} (hw : ∀ d ∈ tables_1, d.before a0 Z = true) : (Jvm.Cond.instanceMethod ({ cls := "com/example/wirefram/wirefram/sequence/SessionsLeft", name := "note", desc := "(I)J" } : Jvm.MethodName)).before a0 Z = true := hw _ (List.mem_of_getElem? (i := 57) rfl)
theorem w60 {Z : State} {a0 : Array Value} (hw : ∀ d ∈ tables_1, d.before a0 Z = true) : (Jvm.Cond.methodLink "com/example/wirefram/wirefram/sequence/SessionsLeftLeavePinLaw" (32 : Nat) ({ cls := "com/example/wirefram/wirefram/sequence/SessionsLeft", name := "order", desc := "(I)J" } : Jvm.MethodName)).before a0 Z = true := hw _ (List.mem_of_getElem? (i := 60) rfl)
theorem w64 {Z : State} {a0 : Array Value} (hw : ∀ d ∈ tables_1, d.before a0 Z = true) : (Jvm.Cond.code ({ cls := "com/example/wirefram/wirefram/sequence/SessionsLeft", name := "order", desc := "(I)J" } : Jvm.MethodName) prog_84_method_7_code (2 : Nat) (Option.some Jvm.ClassFile.FieldType.long)).before a0 Z = true := hw _ (List.mem_of_getElem? (i := 64) rfl)
theorem w63 {Z : State} {a0 : Array Value} (hw : ∀ d ∈ tables_1, d.before a0 Z = true) : (Jvm.Cond.selects "com/example/wirefram/wirefram/sequence/SessionsLeft" ({ cls := "com/example/wirefram/wirefram/sequence/SessionsLeft", name := "order", desc := "(I)J" } : Jvm.MethodName) ({ cls := "com/example/wirefram/wirefram/sequence/SessionsLeft", name := "order", desc := "(I)J" } : Jvm.MethodName)).before a0 Z = true := hw _ (List.mem_of_getElem? (i := 63) rfl)
theorem w61 {Z : State} {a0 : Array Value} (hw : ∀ d ∈ tables_1, d.before a0 Z = true) : (Jvm.Cond.declares ({ cls := "com/example/wirefram/wirefram/sequence/SessionsLeft", name := "order", desc := "(I)J" } : Jvm.MethodName)).before a0 Z = true := hw _ (List.mem_of_getElem? (i := 61) rfl)
theorem w62 {Z : State} {a0 : Array Value} (hw : ∀ d ∈ tables_1, d.before a0 Z = true) : (Jvm.Cond.instanceMethod ({ cls := "com/example/wirefram/wirefram/sequence/SessionsLeft", name := "order", desc := "(I)J" } : Jvm.MethodName)).before a0 Z = true := hw _ (List.mem_of_getElem? (i := 62) rfl)
theorem pn_com_example_wirefram_wirefram_sequence_SessionsLeftLeavePinLaw : plainName "com/example/wirefram/wirefram/sequence/SessionsLeftLeavePinLaw" = true := by first | (simp [plainName, overriddenIn]; done) | decide +kernel
abbrev c3_SessionsLeftLeavePinLaw : String := "com/example/wirefram/wirefram/sequence/SessionsLeftLeavePinLaw"
def Lv (Z : State) (h : Heap) (x : Addr) (i n : Int32) (g t o : Int64) : Prop :=
  Exa Z h x "com/example/wirefram/wirefram/sequence/SessionsLeft$Left" ∧ Fld Z h x "com/example/wirefram/wirefram/sequence/SessionsLeft$Left" "id" "I" (.int i) ∧ Fld Z h x "com/example/wirefram/wirefram/sequence/SessionsLeft$Left" "lone" "Z" (.int n) ∧ Fld Z h x "com/example/wirefram/wirefram/sequence/SessionsLeft$Left" "highest" "J" (.long g) ∧ Fld Z h x "com/example/wirefram/wirefram/sequence/SessionsLeft$Left" "note" "J" (.long t) ∧ Fld Z h x "com/example/wirefram/wirefram/sequence/SessionsLeft$Left" "order" "J" (.long o)
def SL (Z : State) (n0 : Nat) (h : Heap) (a x y : Addr) (i1 n1 : Int32) (g1 t1 o1 : Int64) (i2 n2 : Int32) (g2 t2 o2 : Int64) : Prop :=
  Exa Z h a "com/example/wirefram/wirefram/sequence/SessionsLeft" ∧ Fld Z h a "com/example/wirefram/wirefram/sequence/SessionsLeft" "last" "Lcom/example/wirefram/wirefram/sequence/SessionsLeft$Left;" (.ref x) ∧ Fld Z h a "com/example/wirefram/wirefram/sequence/SessionsLeft" "before" "Lcom/example/wirefram/wirefram/sequence/SessionsLeft$Left;" (.ref y) ∧ Lv Z h x i1 n1 g1 t1 o1 ∧ Lv Z h y i2 n2 g2 t2 o2 ∧ a ≠ x ∧ a ≠ y ∧ x ≠ y ∧ n0 ≤ a ∧ n0 ≤ x ∧ n0 ≤ y
theorem own_nar {lo : Int32} (h : lo = 0 ∨ lo = 1) : narrow .boolean (.int lo) = .int lo := by rcases h with rfl | rfl <;> rfl
theorem own_fit {lo : Int32} (h : lo = 0 ∨ lo = 1) : fits .boolean (.int lo) = true := by rcases h with rfl | rfl <;> rfl
set_option maxRecDepth 65536 in
set_option maxHeartbeats 40000000 in
theorem l_new (l : Launch) (Z : State) (a0 : Array Value) (hw : ∀ d ∈ tables_1, d.before a0 Z = true) (n0 : Nat) (h0 : Heap) (Z0 : n0 ≤ h0.size) (x : Addr) (E : Exa Z h0 x "com/example/wirefram/wirefram/sequence/SessionsLeft$Left") (F_id : Fld Z h0 x "com/example/wirefram/wirefram/sequence/SessionsLeft$Left" "id" "I" (.int (0 : Int32))) (F_lone : Fld Z h0 x "com/example/wirefram/wirefram/sequence/SessionsLeft$Left" "lone" "Z" (.int (0 : Int32))) (F_highest : Fld Z h0 x "com/example/wirefram/wirefram/sequence/SessionsLeft$Left" "highest" "J" (.long (0 : Int64))) (F_note : Fld Z h0 x "com/example/wirefram/wirefram/sequence/SessionsLeft$Left" "note" "J" (.long (0 : Int64))) (F_order : Fld Z h0 x "com/example/wirefram/wirefram/sequence/SessionsLeft$Left" "order" "J" (.long (0 : Int64))) (gx : n0 ≤ x) :
    Met l Z n0 y0_init prog_85_method_1_code 1 (Option.none : Option Jvm.ClassFile.FieldType) ({ frames := 1, cells := 0, slots := 0, locals := 12 } : Room) #[(.ref x)] h0 (fun v h => v = none ∧ Keep h0 h [x] ∧ Lv Z h x (-1 : Int32) (0 : Int32) (0 : Int64) (0 : Int64) (0 : Int64)) := by
  refine met_intro (own := c0_SessionsLeft_Left) (plainFor_of_name pn_com_example_wirefram_wirefram_sequence_SessionsLeft_Left) rfl Z0 ?_
  intro p e s m below meth c T A hnm
  refine Wp.cast (g' := mkF m 0 #[rv x] []) (by first | (simp [entryFrame, mkF, argsToLocals, Value.category, maxLocals, jv, S2, U0, iv, rv]; done) | rfl) ?_
  refine s_aloadN (pc' := 1) A d4_0 rfl rfl rfl ?_
  refine s_initO (pc' := 4) (W := 0) A (w20 hw) (w12 hw) (w13 hw) (by decide) (Nat.le_of_eq rfl) (by decide) rfl d4_1 rfl fun T A => ?_
  refine s_aloadN (pc' := 5) A d4_4 rfl rfl rfl ?_
  refine s_iconst (pc' := 6) (z := (-1 : Int32)) A d4_5 rfl (by decide) ?_
  refine s_putfield (pc' := 9) (host := "") A (Or.inl (w21 hw)) Via.refl F_id E (Or.inl (w22 hw)) (w15 hw) (ty := .int) (by decide) rfl rfl gx d4_6 rfl fun T h1 A W2 => ?_
  have F3 := F_id.same W2
  have K4 := ((Keep.refl h0 [x]).wr W2 (Or.inl (List.mem_of_getElem? (i := 0) rfl)))
  have E5 := (E.wr W2)
  have F6 := (F_lone.other W2 (Or.inr (sn_SessionsLeft_Left_lone_id hw)))
  have F7 := (F_highest.other W2 (Or.inr (sn_SessionsLeft_Left_highest_id hw)))
  have F8 := (F_note.other W2 (Or.inr (sn_SessionsLeft_Left_note_id hw)))
  have F9 := (F_order.other W2 (Or.inr (sn_SessionsLeft_Left_order_id hw)))
  exact r_void A rfl d4_9 (by decide) (by decide) (⟨rfl, K4, ⟨E5, F3, F6, F7, F8, F9⟩⟩)
set_option maxRecDepth 65536 in
set_option maxHeartbeats 40000000 in
theorem ss_new (l : Launch) (Z : State) (a0 : Array Value) (hw : ∀ d ∈ tables_1, d.before a0 Z = true) (n0 : Nat) (h0 : Heap) (Z0 : n0 ≤ h0.size) (a : Addr) (E : Exa Z h0 a "com/example/wirefram/wirefram/sequence/SessionsLeft") (F1' : Fld Z h0 a "com/example/wirefram/wirefram/sequence/SessionsLeft" "last" "Lcom/example/wirefram/wirefram/sequence/SessionsLeft$Left;" .null) (F2' : Fld Z h0 a "com/example/wirefram/wirefram/sequence/SessionsLeft" "before" "Lcom/example/wirefram/wirefram/sequence/SessionsLeft$Left;" .null) (ga : n0 ≤ a) :
    Met l Z n0 y1_init prog_84_method_1_code 1 (Option.none : Option Jvm.ClassFile.FieldType) ({ frames := 2, cells := 2, slots := 10, locals := 26 } : Room) #[(.ref a)] h0 (fun v h => v = none ∧ Keep h0 h [a] ∧ ∃ x y, SL Z n0 h a x y (-1 : Int32) (0 : Int32) (0 : Int64) (0 : Int64) (0 : Int64) (-1 : Int32) (0 : Int32) (0 : Int64) (0 : Int64) (0 : Int64)) := by
  refine met_intro (own := c1_SessionsLeft) (plainFor_of_name pn_com_example_wirefram_wirefram_sequence_SessionsLeft) rfl Z0 ?_
  intro p e s m below meth c T A hnm
  refine Wp.cast (g' := mkF m 0 #[rv a] []) (by first | (simp [entryFrame, mkF, argsToLocals, Value.category, maxLocals, jv, S2, U0, iv, rv]; done) | rfl) ?_
  refine s_aloadN (pc' := 1) A d2_0 rfl rfl rfl ?_
  refine s_initO (pc' := 4) (W := 0) A (w11 hw) (w12 hw) (w13 hw) (by decide) (Nat.le_of_eq rfl) (by decide) rfl d2_1 rfl fun T A => ?_
  refine s_aloadN (pc' := 5) A d2_4 rfl rfl rfl ?_
  refine s_new (pc' := 8) A (w14 hw) (w15 hw) (w16 hw) (by decide) (by decide) d2_5 rfl fun T h1 b2 A g3 ge4 X5 E6 D7 => ?_
  have ne8 : a ≠ b2 := lt_ne E.lt g3
  have bo9 : h0.size ≤ b2 := le_eq (Keep.refl h0 [a]).1 g3
  have F10 : Fld Z h1 b2 "com/example/wirefram/wirefram/sequence/SessionsLeft$Left" "id" "I" (.int (0 : Int32)) := D7 (Or.inl (w22 hw)) (ty := .int) (by decide)
  have F11 : Fld Z h1 b2 "com/example/wirefram/wirefram/sequence/SessionsLeft$Left" "lone" "Z" (.int (0 : Int32)) := D7 (Or.inl (w34 hw)) (ty := .boolean) (by decide)
  have F12 : Fld Z h1 b2 "com/example/wirefram/wirefram/sequence/SessionsLeft$Left" "highest" "J" (.long (0 : Int64)) := D7 (Or.inl (w36 hw)) (ty := .long) (by decide)
  have F13 : Fld Z h1 b2 "com/example/wirefram/wirefram/sequence/SessionsLeft$Left" "note" "J" (.long (0 : Int64)) := D7 (Or.inl (w38 hw)) (ty := .long) (by decide)
  have F14 : Fld Z h1 b2 "com/example/wirefram/wirefram/sequence/SessionsLeft$Left" "order" "J" (.long (0 : Int64)) := D7 (Or.inl (w40 hw)) (ty := .long) (by decide)
  refine s_dup (pc' := 9) A d2_8 rfl rfl ?_
  refine s_specialRef (pc' := 12) (y := y0_init) (argsL := []) (rest := [(.ref b2), (.ref a)]) A (l_new l Z a0 hw n0 h1 A.size b2 E6 F10 F11 F12 F13 F14 ge4) rfl (w17 hw) (w18 hw) (w16 hw) (w19 hw) (by decide) pd___V rfl (W := 2) (by decide) (by decide) (Nat.le_of_eq rfl) (by decide) (by decide) rfl rfl d2_9 rfl fun T h22 v23 A Q24 => ?_
  obtain ⟨rfl, K15, E16, F17, F18, F19, F20, F21⟩ := Q24
  refine Wp.stk (st' := [(.ref b2), (.ref a)]) rfl ?_
  have F25 := ((F1'.ext X5).keep K15 (ninS ne8 nin0))
  have E26 := ((E.ext X5).keep K15)
  refine s_putfield (pc' := 15) (host := "") A (Or.inl (w23 hw)) Via.refl F25 E26 (Or.inl (w24 hw)) (w6 hw) (ty := (.object "com/example/wirefram/wirefram/sequence/SessionsLeft$Left")) (by decide) rfl rfl ga d2_12 rfl fun T h27 A W28 => ?_
  have F29 := F25.same W28
  refine s_aloadN (pc' := 16) A d2_15 rfl rfl rfl ?_
  have E37 := (E26.wr W28)
  have E38 := (E16.wr W28)
  refine s_new (pc' := 19) A (w14 hw) (w15 hw) (w16 hw) (by decide) (by decide) d2_16 rfl fun T h30 b31 A g32 ge33 X34 E35 D36 => ?_
  have ne39 : a ≠ b31 := lt_ne E37.lt g32
  have ne40 : b2 ≠ b31 := lt_ne E38.lt g32
  have K42 := ((((Keep.refl h0 [a]).ext X5).trans K15 (allS (Or.inr bo9) all0)).wr W28 (Or.inl (List.mem_of_getElem? (i := 0) rfl)))
  have bo41 : h0.size ≤ b31 := le_eq K42.1 g32
  have F43 : Fld Z h30 b31 "com/example/wirefram/wirefram/sequence/SessionsLeft$Left" "id" "I" (.int (0 : Int32)) := D36 (Or.inl (w22 hw)) (ty := .int) (by decide)
  have F44 : Fld Z h30 b31 "com/example/wirefram/wirefram/sequence/SessionsLeft$Left" "lone" "Z" (.int (0 : Int32)) := D36 (Or.inl (w34 hw)) (ty := .boolean) (by decide)
  have F45 : Fld Z h30 b31 "com/example/wirefram/wirefram/sequence/SessionsLeft$Left" "highest" "J" (.long (0 : Int64)) := D36 (Or.inl (w36 hw)) (ty := .long) (by decide)
  have F46 : Fld Z h30 b31 "com/example/wirefram/wirefram/sequence/SessionsLeft$Left" "note" "J" (.long (0 : Int64)) := D36 (Or.inl (w38 hw)) (ty := .long) (by decide)
  have F47 : Fld Z h30 b31 "com/example/wirefram/wirefram/sequence/SessionsLeft$Left" "order" "J" (.long (0 : Int64)) := D36 (Or.inl (w40 hw)) (ty := .long) (by decide)
  refine s_dup (pc' := 20) A d2_19 rfl rfl ?_
  refine s_specialRef (pc' := 23) (y := y0_init) (argsL := []) (rest := [(.ref b31), (.ref a)]) A (l_new l Z a0 hw n0 h30 A.size b31 E35 F43 F44 F45 F46 F47 ge33) rfl (w17 hw) (w18 hw) (w16 hw) (w19 hw) (by decide) pd___V rfl (W := 2) (by decide) (by decide) (Nat.le_of_eq rfl) (by decide) (by decide) rfl rfl d2_20 rfl fun T h55 v56 A Q57 => ?_
  obtain ⟨rfl, K48, E49, F50, F51, F52, F53, F54⟩ := Q57
  refine Wp.stk (st' := [(.ref b31), (.ref a)]) rfl ?_
  have F58 := (((((F2'.ext X5).keep K15 (ninS ne8 nin0)).other W28 (Or.inr (sn_SessionsLeft_before_last hw))).ext X34).keep K48 (ninS ne39 nin0))
  have E59 := ((E37.ext X34).keep K48)
  refine s_putfield (pc' := 26) (host := "") A (Or.inl (w25 hw)) Via.refl F58 E59 (Or.inl (w26 hw)) (w6 hw) (ty := (.object "com/example/wirefram/wirefram/sequence/SessionsLeft$Left")) (by decide) rfl rfl ga d2_23 rfl fun T h60 A W61 => ?_
  have F62 := F58.same W61
  have K63 := (((K42.ext X34).trans K48 (allS (Or.inr bo41) all0)).wr W61 (Or.inl (List.mem_of_getElem? (i := 0) rfl)))
  have E64 := (E59.wr W61)
  have F65 := (((F29.ext X34).keep K48 (ninS ne39 nin0)).other W61 (Or.inr (sn_SessionsLeft_last_before hw)))
  have E66 := (((E38.ext X34).keep K48).wr W61)
  have F67 := ((((F17.other W28 (Or.inl (Ne.symm ne8))).ext X34).keep K48 (ninS ne40 nin0)).other W61 (Or.inl (Ne.symm ne8)))
  have F68 := ((((F18.other W28 (Or.inl (Ne.symm ne8))).ext X34).keep K48 (ninS ne40 nin0)).other W61 (Or.inl (Ne.symm ne8)))
  have F69 := ((((F19.other W28 (Or.inl (Ne.symm ne8))).ext X34).keep K48 (ninS ne40 nin0)).other W61 (Or.inl (Ne.symm ne8)))
  have F70 := ((((F20.other W28 (Or.inl (Ne.symm ne8))).ext X34).keep K48 (ninS ne40 nin0)).other W61 (Or.inl (Ne.symm ne8)))
  have F71 := ((((F21.other W28 (Or.inl (Ne.symm ne8))).ext X34).keep K48 (ninS ne40 nin0)).other W61 (Or.inl (Ne.symm ne8)))
  have E72 := (E49.wr W61)
  have F73 := (F50.other W61 (Or.inl (Ne.symm ne39)))
  have F74 := (F51.other W61 (Or.inl (Ne.symm ne39)))
  have F75 := (F52.other W61 (Or.inl (Ne.symm ne39)))
  have F76 := (F53.other W61 (Or.inl (Ne.symm ne39)))
  have F77 := (F54.other W61 (Or.inl (Ne.symm ne39)))
  exact r_void A rfl d2_26 (by decide) (by decide) (⟨rfl, K63, b2, b31, ⟨E64, F65, F62, ⟨E66, F67, F68, F69, F70, F71⟩, ⟨E72, F73, F74, F75, F76, F77⟩, ne8, ne39, ne40, ga, ge4, ge33⟩⟩)
set_option maxRecDepth 65536 in
set_option maxHeartbeats 40000000 in
theorem leave0 (l : Launch) (Z : State) (a0 : Array Value) (hw : ∀ d ∈ tables_1, d.before a0 Z = true) (n0 : Nat) (h0 : Heap) (Z0 : n0 ≤ h0.size) (a x y : Addr) (i1 n1 : Int32) (g1 t1 o1 : Int64) (i2 n2 : Int32) (g2 t2 o2 : Int64) (id lo : Int32) (hi nt od : Int64) (H : SL Z n0 h0 a x y i1 n1 g1 t1 o1 i2 n2 g2 t2 o2) (hl : lo = 0 ∨ lo = 1) (h1 : i1 = (-1 : Int32)) :
    Met l Z n0 y2_leave prog_84_method_4_code 10 (Option.none : Option Jvm.ClassFile.FieldType) ({ frames := 0, cells := 0, slots := 0, locals := 0 } : Room) #[(.ref a), (.int id), (.int lo), (.long hi), (.long nt), (.long od)] h0 (fun v h => v = none ∧ Keep h0 h [a, x, y] ∧ SL Z n0 h a x y id lo hi nt od i2 n2 g2 t2 o2) := by
  refine met_intro (own := c1_SessionsLeft) (plainFor_of_name pn_com_example_wirefram_wirefram_sequence_SessionsLeft) rfl Z0 ?_
  intro p e s m below meth c T A hnm
  refine Wp.cast (g' := mkF m 0 #[rv a, iv id, iv lo, jv hi, S2, jv nt, S2, jv od, S2, U0] []) (by first | (simp [entryFrame, mkF, argsToLocals, Value.category, maxLocals, jv, S2, U0, iv, rv]; done) | rfl) ?_
  obtain ⟨E1, F2, F3, ⟨E10, F11, F12, F13, F14, F15⟩, ⟨E16, F17, F18, F19, F20, F21⟩, ne4, ne5, ne6, ge7, ge8, ge9⟩ := H
  refine s_aloadN (pc' := 1) A d5_0 rfl rfl rfl ?_
  refine s_getfield (pc' := 4) (host := "") A (Or.inl (w23 hw)) Via.refl F2 d5_1 rfl fun T A => ?_
  refine s_getfield (pc' := 7) (host := "") A (Or.inl (w32 hw)) Via.refl F11 d5_4 rfl fun T A => ?_
  refine s_iconst (pc' := 8) (z := (-1 : Int32)) A d5_7 rfl (by decide) ?_
  refine s_icmpY (pc' := 52) A d5_8 (teq h1).1 (by decide) (by decide) ?_
  refine s_aloadN (pc' := 53) A d5_52 rfl rfl rfl ?_
  refine s_getfield (pc' := 56) (host := "") A (Or.inl (w23 hw)) Via.refl F2 d5_53 rfl fun T A => ?_
  refine s_iloadN (pc' := 57) A d5_56 rfl rfl ?_
  refine s_putfield (pc' := 60) (host := "") A (Or.inl (w32 hw)) Via.refl F11 E10 (Or.inl (w22 hw)) (w15 hw) (ty := .int) (by decide) rfl rfl ge8 d5_57 rfl fun T h22 A W23 => ?_
  have F24 := F11.same W23
  refine s_aloadN (pc' := 61) A d5_60 rfl rfl rfl ?_
  have F25 := (F2.other W23 (Or.inl ne4))
  refine s_getfield (pc' := 64) (host := "") A (Or.inl (w23 hw)) Via.refl F25 d5_61 rfl fun T A => ?_
  refine s_iloadN (pc' := 65) A d5_64 rfl rfl ?_
  have F26 := (F12.other W23 (Or.inr (sn_SessionsLeft_Left_lone_id hw)))
  have E27 := (E10.wr W23)
  refine s_putfieldN (pc' := 68) (v' := (.int lo)) A ((w33 hw)) Via.refl F26 E27 (Or.inl (w34 hw)) (w15 hw) (ty := .boolean) (by decide) (own_nar hl) (own_fit hl) ge8 d5_65 rfl fun T h28 A W29 => ?_
  have F30 := F26.same W29
  refine s_aloadN (pc' := 69) A d5_68 rfl rfl rfl ?_
  have F31 := (F25.other W29 (Or.inl ne4))
  refine s_getfield (pc' := 72) (host := "") A (Or.inl (w23 hw)) Via.refl F31 d5_69 rfl fun T A => ?_
  refine s_lloadN (pc' := 73) A d5_72 rfl rfl ?_
  have F32 := ((F13.other W23 (Or.inr (sn_SessionsLeft_Left_highest_id hw))).other W29 (Or.inr (sn_SessionsLeft_Left_highest_lone hw)))
  have E33 := (E27.wr W29)
  refine s_putfield (pc' := 76) (host := "") A (Or.inl (w35 hw)) Via.refl F32 E33 (Or.inl (w36 hw)) (w15 hw) (ty := .long) (by decide) rfl rfl ge8 d5_73 rfl fun T h34 A W35 => ?_
  have F36 := F32.same W35
  refine s_aloadN (pc' := 77) A d5_76 rfl rfl rfl ?_
  have F37 := (F31.other W35 (Or.inl ne4))
  refine s_getfield (pc' := 80) (host := "") A (Or.inl (w23 hw)) Via.refl F37 d5_77 rfl fun T A => ?_
  refine s_lload (pc' := 82) A d5_80 rfl rfl ?_
  have F38 := (((F14.other W23 (Or.inr (sn_SessionsLeft_Left_note_id hw))).other W29 (Or.inr (sn_SessionsLeft_Left_note_lone hw))).other W35 (Or.inr (sn_SessionsLeft_Left_note_highest hw)))
  have E39 := (E33.wr W35)
  refine s_putfield (pc' := 85) (host := "") A (Or.inl (w37 hw)) Via.refl F38 E39 (Or.inl (w38 hw)) (w15 hw) (ty := .long) (by decide) rfl rfl ge8 d5_82 rfl fun T h40 A W41 => ?_
  have F42 := F38.same W41
  refine s_aloadN (pc' := 86) A d5_85 rfl rfl rfl ?_
  have F43 := (F37.other W41 (Or.inl ne4))
  refine s_getfield (pc' := 89) (host := "") A (Or.inl (w23 hw)) Via.refl F43 d5_86 rfl fun T A => ?_
  refine s_lload (pc' := 91) A d5_89 rfl rfl ?_
  have F44 := ((((F15.other W23 (Or.inr (sn_SessionsLeft_Left_order_id hw))).other W29 (Or.inr (sn_SessionsLeft_Left_order_lone hw))).other W35 (Or.inr (sn_SessionsLeft_Left_order_highest hw))).other W41 (Or.inr (sn_SessionsLeft_Left_order_note hw)))
  have E45 := (E39.wr W41)
  refine s_putfield (pc' := 94) (host := "") A (Or.inl (w39 hw)) Via.refl F44 E45 (Or.inl (w40 hw)) (w15 hw) (ty := .long) (by decide) rfl rfl ge8 d5_91 rfl fun T h46 A W47 => ?_
  have F48 := F44.same W47
  have K49 := ((((((Keep.refl h0 [a, x, y]).wr W23 (Or.inl (List.mem_of_getElem? (i := 1) rfl))).wr W29 (Or.inl (List.mem_of_getElem? (i := 1) rfl))).wr W35 (Or.inl (List.mem_of_getElem? (i := 1) rfl))).wr W41 (Or.inl (List.mem_of_getElem? (i := 1) rfl))).wr W47 (Or.inl (List.mem_of_getElem? (i := 1) rfl)))
  have E50 := (((((E1.wr W23).wr W29).wr W35).wr W41).wr W47)
  have F51 := (F43.other W47 (Or.inl ne4))
  have F52 := (((((F3.other W23 (Or.inl ne4)).other W29 (Or.inl ne4)).other W35 (Or.inl ne4)).other W41 (Or.inl ne4)).other W47 (Or.inl ne4))
  have E53 := (E45.wr W47)
  have F54 := ((((F24.other W29 (Or.inr (sn_SessionsLeft_Left_id_lone hw))).other W35 (Or.inr (sn_SessionsLeft_Left_id_highest hw))).other W41 (Or.inr (sn_SessionsLeft_Left_id_note hw))).other W47 (Or.inr (sn_SessionsLeft_Left_id_order hw)))
  have F55 := (((F30.other W35 (Or.inr (sn_SessionsLeft_Left_lone_highest hw))).other W41 (Or.inr (sn_SessionsLeft_Left_lone_note hw))).other W47 (Or.inr (sn_SessionsLeft_Left_lone_order hw)))
  have F56 := ((F36.other W41 (Or.inr (sn_SessionsLeft_Left_highest_note hw))).other W47 (Or.inr (sn_SessionsLeft_Left_highest_order hw)))
  have F57 := (F42.other W47 (Or.inr (sn_SessionsLeft_Left_note_order hw)))
  have E58 := (((((E16.wr W23).wr W29).wr W35).wr W41).wr W47)
  have F59 := (((((F17.other W23 (Or.inl (Ne.symm ne6))).other W29 (Or.inl (Ne.symm ne6))).other W35 (Or.inl (Ne.symm ne6))).other W41 (Or.inl (Ne.symm ne6))).other W47 (Or.inl (Ne.symm ne6)))
  have F60 := (((((F18.other W23 (Or.inl (Ne.symm ne6))).other W29 (Or.inl (Ne.symm ne6))).other W35 (Or.inl (Ne.symm ne6))).other W41 (Or.inl (Ne.symm ne6))).other W47 (Or.inl (Ne.symm ne6)))
  have F61 := (((((F19.other W23 (Or.inl (Ne.symm ne6))).other W29 (Or.inl (Ne.symm ne6))).other W35 (Or.inl (Ne.symm ne6))).other W41 (Or.inl (Ne.symm ne6))).other W47 (Or.inl (Ne.symm ne6)))
  have F62 := (((((F20.other W23 (Or.inl (Ne.symm ne6))).other W29 (Or.inl (Ne.symm ne6))).other W35 (Or.inl (Ne.symm ne6))).other W41 (Or.inl (Ne.symm ne6))).other W47 (Or.inl (Ne.symm ne6)))
  have F63 := (((((F21.other W23 (Or.inl (Ne.symm ne6))).other W29 (Or.inl (Ne.symm ne6))).other W35 (Or.inl (Ne.symm ne6))).other W41 (Or.inl (Ne.symm ne6))).other W47 (Or.inl (Ne.symm ne6)))
  exact r_void A rfl d5_94 (by decide) (by decide) (⟨rfl, K49, ⟨E50, F51, F52, ⟨E53, F54, F55, F56, F57, F48⟩, ⟨E58, F59, F60, F61, F62, F63⟩, ne4, ne5, ne6, ge7, ge8, ge9⟩⟩)
set_option maxRecDepth 65536 in
set_option maxHeartbeats 40000000 in
theorem leave1 (l : Launch) (Z : State) (a0 : Array Value) (hw : ∀ d ∈ tables_1, d.before a0 Z = true) (n0 : Nat) (h0 : Heap) (Z0 : n0 ≤ h0.size) (a x y : Addr) (i1 n1 : Int32) (g1 t1 o1 : Int64) (i2 n2 : Int32) (g2 t2 o2 : Int64) (id lo : Int32) (hi nt od : Int64) (H : SL Z n0 h0 a x y i1 n1 g1 t1 o1 i2 n2 g2 t2 o2) (hl : lo = 0 ∨ lo = 1) (h1 : ¬ i1 = (-1 : Int32)) (h2 : i2 = (-1 : Int32)) :
    Met l Z n0 y2_leave prog_84_method_4_code 10 (Option.none : Option Jvm.ClassFile.FieldType) ({ frames := 0, cells := 0, slots := 0, locals := 0 } : Room) #[(.ref a), (.int id), (.int lo), (.long hi), (.long nt), (.long od)] h0 (fun v h => v = none ∧ Keep h0 h [a, x, y] ∧ SL Z n0 h a y x id lo hi nt od i1 n1 g1 t1 o1) := by
  refine met_intro (own := c1_SessionsLeft) (plainFor_of_name pn_com_example_wirefram_wirefram_sequence_SessionsLeft) rfl Z0 ?_
  intro p e s m below meth c T A hnm
  refine Wp.cast (g' := mkF m 0 #[rv a, iv id, iv lo, jv hi, S2, jv nt, S2, jv od, S2, U0] []) (by first | (simp [entryFrame, mkF, argsToLocals, Value.category, maxLocals, jv, S2, U0, iv, rv]; done) | rfl) ?_
  obtain ⟨E1, F2, F3, ⟨E10, F11, F12, F13, F14, F15⟩, ⟨E16, F17, F18, F19, F20, F21⟩, ne4, ne5, ne6, ge7, ge8, ge9⟩ := H
  refine s_aloadN (pc' := 1) A d5_0 rfl rfl rfl ?_
  refine s_getfield (pc' := 4) (host := "") A (Or.inl (w23 hw)) Via.refl F2 d5_1 rfl fun T A => ?_
  refine s_getfield (pc' := 7) (host := "") A (Or.inl (w32 hw)) Via.refl F11 d5_4 rfl fun T A => ?_
  refine s_iconst (pc' := 8) (z := (-1 : Int32)) A d5_7 rfl (by decide) ?_
  refine s_icmpN (pc' := 11) A d5_8 rfl (feq h1).1 ?_
  refine s_aloadN (pc' := 12) A d5_11 rfl rfl rfl ?_
  refine s_getfield (pc' := 15) (host := "") A (Or.inl (w25 hw)) Via.refl F3 d5_12 rfl fun T A => ?_
  refine s_getfield (pc' := 18) (host := "") A (Or.inl (w32 hw)) Via.refl F17 d5_15 rfl fun T A => ?_
  refine s_iconst (pc' := 19) (z := (-1 : Int32)) A d5_18 rfl (by decide) ?_
  refine s_icmpY (pc' := 32) A d5_19 (teq h2).1 (by decide) (by decide) ?_
  refine s_aloadN (pc' := 33) A d5_32 rfl rfl rfl ?_
  refine s_getfield (pc' := 36) (host := "") A (Or.inl (w25 hw)) Via.refl F3 d5_33 rfl fun T A => ?_
  refine s_astore (pc' := 38) (Ls' := #[rv a, iv id, iv lo, jv hi, S2, jv nt, S2, jv od, S2, rv y]) A d5_36 rfl rfl rfl ?_
  refine s_aloadN (pc' := 39) A d5_38 rfl rfl rfl ?_
  refine s_aloadN (pc' := 40) A d5_39 rfl rfl rfl ?_
  refine s_getfield (pc' := 43) (host := "") A (Or.inl (w23 hw)) Via.refl F2 d5_40 rfl fun T A => ?_
  refine s_putfield (pc' := 46) (host := "") A (Or.inl (w25 hw)) Via.refl F3 E1 (Or.inl (w26 hw)) (w6 hw) (ty := (.object "com/example/wirefram/wirefram/sequence/SessionsLeft$Left")) (by decide) rfl rfl ge7 d5_43 rfl fun T h22 A W23 => ?_
  have F24 := F3.same W23
  refine s_aloadN (pc' := 47) A d5_46 rfl rfl rfl ?_
  refine s_aload (pc' := 49) A d5_47 rfl rfl rfl ?_
  have F25 := (F2.other W23 (Or.inr (sn_SessionsLeft_last_before hw)))
  have E26 := (E1.wr W23)
  refine s_putfield (pc' := 52) (host := "") A (Or.inl (w23 hw)) Via.refl F25 E26 (Or.inl (w24 hw)) (w6 hw) (ty := (.object "com/example/wirefram/wirefram/sequence/SessionsLeft$Left")) (by decide) rfl rfl ge7 d5_49 rfl fun T h27 A W28 => ?_
  have F29 := F25.same W28
  refine s_aloadN (pc' := 53) A d5_52 rfl rfl rfl ?_
  refine s_getfield (pc' := 56) (host := "") A (Or.inl (w23 hw)) Via.refl F29 d5_53 rfl fun T A => ?_
  refine s_iloadN (pc' := 57) A d5_56 rfl rfl ?_
  have F30 := ((F17.other W23 (Or.inl (Ne.symm ne5))).other W28 (Or.inl (Ne.symm ne5)))
  have E31 := ((E16.wr W23).wr W28)
  refine s_putfield (pc' := 60) (host := "") A (Or.inl (w32 hw)) Via.refl F30 E31 (Or.inl (w22 hw)) (w15 hw) (ty := .int) (by decide) rfl rfl ge9 d5_57 rfl fun T h32 A W33 => ?_
  have F34 := F30.same W33
  refine s_aloadN (pc' := 61) A d5_60 rfl rfl rfl ?_
  have F35 := (F29.other W33 (Or.inl ne5))
  refine s_getfield (pc' := 64) (host := "") A (Or.inl (w23 hw)) Via.refl F35 d5_61 rfl fun T A => ?_
  refine s_iloadN (pc' := 65) A d5_64 rfl rfl ?_
  have F36 := (((F18.other W23 (Or.inl (Ne.symm ne5))).other W28 (Or.inl (Ne.symm ne5))).other W33 (Or.inr (sn_SessionsLeft_Left_lone_id hw)))
  have E37 := (E31.wr W33)
  refine s_putfieldN (pc' := 68) (v' := (.int lo)) A ((w33 hw)) Via.refl F36 E37 (Or.inl (w34 hw)) (w15 hw) (ty := .boolean) (by decide) (own_nar hl) (own_fit hl) ge9 d5_65 rfl fun T h38 A W39 => ?_
  have F40 := F36.same W39
  refine s_aloadN (pc' := 69) A d5_68 rfl rfl rfl ?_
  have F41 := (F35.other W39 (Or.inl ne5))
  refine s_getfield (pc' := 72) (host := "") A (Or.inl (w23 hw)) Via.refl F41 d5_69 rfl fun T A => ?_
  refine s_lloadN (pc' := 73) A d5_72 rfl rfl ?_
  have F42 := ((((F19.other W23 (Or.inl (Ne.symm ne5))).other W28 (Or.inl (Ne.symm ne5))).other W33 (Or.inr (sn_SessionsLeft_Left_highest_id hw))).other W39 (Or.inr (sn_SessionsLeft_Left_highest_lone hw)))
  have E43 := (E37.wr W39)
  refine s_putfield (pc' := 76) (host := "") A (Or.inl (w35 hw)) Via.refl F42 E43 (Or.inl (w36 hw)) (w15 hw) (ty := .long) (by decide) rfl rfl ge9 d5_73 rfl fun T h44 A W45 => ?_
  have F46 := F42.same W45
  refine s_aloadN (pc' := 77) A d5_76 rfl rfl rfl ?_
  have F47 := (F41.other W45 (Or.inl ne5))
  refine s_getfield (pc' := 80) (host := "") A (Or.inl (w23 hw)) Via.refl F47 d5_77 rfl fun T A => ?_
  refine s_lload (pc' := 82) A d5_80 rfl rfl ?_
  have F48 := (((((F20.other W23 (Or.inl (Ne.symm ne5))).other W28 (Or.inl (Ne.symm ne5))).other W33 (Or.inr (sn_SessionsLeft_Left_note_id hw))).other W39 (Or.inr (sn_SessionsLeft_Left_note_lone hw))).other W45 (Or.inr (sn_SessionsLeft_Left_note_highest hw)))
  have E49 := (E43.wr W45)
  refine s_putfield (pc' := 85) (host := "") A (Or.inl (w37 hw)) Via.refl F48 E49 (Or.inl (w38 hw)) (w15 hw) (ty := .long) (by decide) rfl rfl ge9 d5_82 rfl fun T h50 A W51 => ?_
  have F52 := F48.same W51
  refine s_aloadN (pc' := 86) A d5_85 rfl rfl rfl ?_
  have F53 := (F47.other W51 (Or.inl ne5))
  refine s_getfield (pc' := 89) (host := "") A (Or.inl (w23 hw)) Via.refl F53 d5_86 rfl fun T A => ?_
  refine s_lload (pc' := 91) A d5_89 rfl rfl ?_
  have F54 := ((((((F21.other W23 (Or.inl (Ne.symm ne5))).other W28 (Or.inl (Ne.symm ne5))).other W33 (Or.inr (sn_SessionsLeft_Left_order_id hw))).other W39 (Or.inr (sn_SessionsLeft_Left_order_lone hw))).other W45 (Or.inr (sn_SessionsLeft_Left_order_highest hw))).other W51 (Or.inr (sn_SessionsLeft_Left_order_note hw)))
  have E55 := (E49.wr W51)
  refine s_putfield (pc' := 94) (host := "") A (Or.inl (w39 hw)) Via.refl F54 E55 (Or.inl (w40 hw)) (w15 hw) (ty := .long) (by decide) rfl rfl ge9 d5_91 rfl fun T h56 A W57 => ?_
  have F58 := F54.same W57
  have K59 := ((((((((Keep.refl h0 [a, x, y]).wr W23 (Or.inl (List.mem_of_getElem? (i := 0) rfl))).wr W28 (Or.inl (List.mem_of_getElem? (i := 0) rfl))).wr W33 (Or.inl (List.mem_of_getElem? (i := 2) rfl))).wr W39 (Or.inl (List.mem_of_getElem? (i := 2) rfl))).wr W45 (Or.inl (List.mem_of_getElem? (i := 2) rfl))).wr W51 (Or.inl (List.mem_of_getElem? (i := 2) rfl))).wr W57 (Or.inl (List.mem_of_getElem? (i := 2) rfl)))
  have E60 := ((((((E26.wr W28).wr W33).wr W39).wr W45).wr W51).wr W57)
  have F61 := (F53.other W57 (Or.inl ne5))
  have F62 := ((((((F24.other W28 (Or.inr (sn_SessionsLeft_before_last hw))).other W33 (Or.inl ne5)).other W39 (Or.inl ne5)).other W45 (Or.inl ne5)).other W51 (Or.inl ne5)).other W57 (Or.inl ne5))
  have E63 := (E55.wr W57)
  have F64 := ((((F34.other W39 (Or.inr (sn_SessionsLeft_Left_id_lone hw))).other W45 (Or.inr (sn_SessionsLeft_Left_id_highest hw))).other W51 (Or.inr (sn_SessionsLeft_Left_id_note hw))).other W57 (Or.inr (sn_SessionsLeft_Left_id_order hw)))
  have F65 := (((F40.other W45 (Or.inr (sn_SessionsLeft_Left_lone_highest hw))).other W51 (Or.inr (sn_SessionsLeft_Left_lone_note hw))).other W57 (Or.inr (sn_SessionsLeft_Left_lone_order hw)))
  have F66 := ((F46.other W51 (Or.inr (sn_SessionsLeft_Left_highest_note hw))).other W57 (Or.inr (sn_SessionsLeft_Left_highest_order hw)))
  have F67 := (F52.other W57 (Or.inr (sn_SessionsLeft_Left_note_order hw)))
  have E68 := (((((((E10.wr W23).wr W28).wr W33).wr W39).wr W45).wr W51).wr W57)
  have F69 := (((((((F11.other W23 (Or.inl (Ne.symm ne4))).other W28 (Or.inl (Ne.symm ne4))).other W33 (Or.inl ne6)).other W39 (Or.inl ne6)).other W45 (Or.inl ne6)).other W51 (Or.inl ne6)).other W57 (Or.inl ne6))
  have F70 := (((((((F12.other W23 (Or.inl (Ne.symm ne4))).other W28 (Or.inl (Ne.symm ne4))).other W33 (Or.inl ne6)).other W39 (Or.inl ne6)).other W45 (Or.inl ne6)).other W51 (Or.inl ne6)).other W57 (Or.inl ne6))
  have F71 := (((((((F13.other W23 (Or.inl (Ne.symm ne4))).other W28 (Or.inl (Ne.symm ne4))).other W33 (Or.inl ne6)).other W39 (Or.inl ne6)).other W45 (Or.inl ne6)).other W51 (Or.inl ne6)).other W57 (Or.inl ne6))
  have F72 := (((((((F14.other W23 (Or.inl (Ne.symm ne4))).other W28 (Or.inl (Ne.symm ne4))).other W33 (Or.inl ne6)).other W39 (Or.inl ne6)).other W45 (Or.inl ne6)).other W51 (Or.inl ne6)).other W57 (Or.inl ne6))
  have F73 := (((((((F15.other W23 (Or.inl (Ne.symm ne4))).other W28 (Or.inl (Ne.symm ne4))).other W33 (Or.inl ne6)).other W39 (Or.inl ne6)).other W45 (Or.inl ne6)).other W51 (Or.inl ne6)).other W57 (Or.inl ne6))
  exact r_void A rfl d5_94 (by decide) (by decide) (⟨rfl, K59, ⟨E60, F61, F62, ⟨E63, F64, F65, F66, F67, F58⟩, ⟨E68, F69, F70, F71, F72, F73⟩, ne5, ne4, (Ne.symm ne6), ge7, ge9, ge8⟩⟩)
set_option maxRecDepth 65536 in
set_option maxHeartbeats 40000000 in
theorem leave2 (l : Launch) (Z : State) (a0 : Array Value) (hw : ∀ d ∈ tables_1, d.before a0 Z = true) (n0 : Nat) (h0 : Heap) (Z0 : n0 ≤ h0.size) (a x y : Addr) (i1 n1 : Int32) (g1 t1 o1 : Int64) (i2 n2 : Int32) (g2 t2 o2 : Int64) (id lo : Int32) (hi nt od : Int64) (H : SL Z n0 h0 a x y i1 n1 g1 t1 o1 i2 n2 g2 t2 o2) (hl : lo = 0 ∨ lo = 1) (h1 : ¬ i1 = (-1 : Int32)) (h2 : ¬ i2 = (-1 : Int32)) (h3 : n1 = (0 : Int32)) :
    Met l Z n0 y2_leave prog_84_method_4_code 10 (Option.none : Option Jvm.ClassFile.FieldType) ({ frames := 0, cells := 0, slots := 0, locals := 0 } : Room) #[(.ref a), (.int id), (.int lo), (.long hi), (.long nt), (.long od)] h0 (fun v h => v = none ∧ Keep h0 h [a, x, y] ∧ SL Z n0 h a y x id lo hi nt od i1 n1 g1 t1 o1) := by
  refine met_intro (own := c1_SessionsLeft) (plainFor_of_name pn_com_example_wirefram_wirefram_sequence_SessionsLeft) rfl Z0 ?_
  intro p e s m below meth c T A hnm
  refine Wp.cast (g' := mkF m 0 #[rv a, iv id, iv lo, jv hi, S2, jv nt, S2, jv od, S2, U0] []) (by first | (simp [entryFrame, mkF, argsToLocals, Value.category, maxLocals, jv, S2, U0, iv, rv]; done) | rfl) ?_
  obtain ⟨E1, F2, F3, ⟨E10, F11, F12, F13, F14, F15⟩, ⟨E16, F17, F18, F19, F20, F21⟩, ne4, ne5, ne6, ge7, ge8, ge9⟩ := H
  refine s_aloadN (pc' := 1) A d5_0 rfl rfl rfl ?_
  refine s_getfield (pc' := 4) (host := "") A (Or.inl (w23 hw)) Via.refl F2 d5_1 rfl fun T A => ?_
  refine s_getfield (pc' := 7) (host := "") A (Or.inl (w32 hw)) Via.refl F11 d5_4 rfl fun T A => ?_
  refine s_iconst (pc' := 8) (z := (-1 : Int32)) A d5_7 rfl (by decide) ?_
  refine s_icmpN (pc' := 11) A d5_8 rfl (feq h1).1 ?_
  refine s_aloadN (pc' := 12) A d5_11 rfl rfl rfl ?_
  refine s_getfield (pc' := 15) (host := "") A (Or.inl (w25 hw)) Via.refl F3 d5_12 rfl fun T A => ?_
  refine s_getfield (pc' := 18) (host := "") A (Or.inl (w32 hw)) Via.refl F17 d5_15 rfl fun T A => ?_
  refine s_iconst (pc' := 19) (z := (-1 : Int32)) A d5_18 rfl (by decide) ?_
  refine s_icmpN (pc' := 22) A d5_19 rfl (feq h2).1 ?_
  refine s_aloadN (pc' := 23) A d5_22 rfl rfl rfl ?_
  refine s_getfield (pc' := 26) (host := "") A (Or.inl (w23 hw)) Via.refl F2 d5_23 rfl fun T A => ?_
  refine s_getfield (pc' := 29) (host := "") A (Or.inl (w33 hw)) Via.refl F12 d5_26 rfl fun T A => ?_
  refine s_ifN (pc' := 32) A d5_29 rfl ((if0 _ _).trans (teq h3).2) ?_
  refine s_aloadN (pc' := 33) A d5_32 rfl rfl rfl ?_
  refine s_getfield (pc' := 36) (host := "") A (Or.inl (w25 hw)) Via.refl F3 d5_33 rfl fun T A => ?_
  refine s_astore (pc' := 38) (Ls' := #[rv a, iv id, iv lo, jv hi, S2, jv nt, S2, jv od, S2, rv y]) A d5_36 rfl rfl rfl ?_
  refine s_aloadN (pc' := 39) A d5_38 rfl rfl rfl ?_
  refine s_aloadN (pc' := 40) A d5_39 rfl rfl rfl ?_
  refine s_getfield (pc' := 43) (host := "") A (Or.inl (w23 hw)) Via.refl F2 d5_40 rfl fun T A => ?_
  refine s_putfield (pc' := 46) (host := "") A (Or.inl (w25 hw)) Via.refl F3 E1 (Or.inl (w26 hw)) (w6 hw) (ty := (.object "com/example/wirefram/wirefram/sequence/SessionsLeft$Left")) (by decide) rfl rfl ge7 d5_43 rfl fun T h22 A W23 => ?_
  have F24 := F3.same W23
  refine s_aloadN (pc' := 47) A d5_46 rfl rfl rfl ?_
  refine s_aload (pc' := 49) A d5_47 rfl rfl rfl ?_
  have F25 := (F2.other W23 (Or.inr (sn_SessionsLeft_last_before hw)))
  have E26 := (E1.wr W23)
  refine s_putfield (pc' := 52) (host := "") A (Or.inl (w23 hw)) Via.refl F25 E26 (Or.inl (w24 hw)) (w6 hw) (ty := (.object "com/example/wirefram/wirefram/sequence/SessionsLeft$Left")) (by decide) rfl rfl ge7 d5_49 rfl fun T h27 A W28 => ?_
  have F29 := F25.same W28
  refine s_aloadN (pc' := 53) A d5_52 rfl rfl rfl ?_
  refine s_getfield (pc' := 56) (host := "") A (Or.inl (w23 hw)) Via.refl F29 d5_53 rfl fun T A => ?_
  refine s_iloadN (pc' := 57) A d5_56 rfl rfl ?_
  have F30 := ((F17.other W23 (Or.inl (Ne.symm ne5))).other W28 (Or.inl (Ne.symm ne5)))
  have E31 := ((E16.wr W23).wr W28)
  refine s_putfield (pc' := 60) (host := "") A (Or.inl (w32 hw)) Via.refl F30 E31 (Or.inl (w22 hw)) (w15 hw) (ty := .int) (by decide) rfl rfl ge9 d5_57 rfl fun T h32 A W33 => ?_
  have F34 := F30.same W33
  refine s_aloadN (pc' := 61) A d5_60 rfl rfl rfl ?_
  have F35 := (F29.other W33 (Or.inl ne5))
  refine s_getfield (pc' := 64) (host := "") A (Or.inl (w23 hw)) Via.refl F35 d5_61 rfl fun T A => ?_
  refine s_iloadN (pc' := 65) A d5_64 rfl rfl ?_
  have F36 := (((F18.other W23 (Or.inl (Ne.symm ne5))).other W28 (Or.inl (Ne.symm ne5))).other W33 (Or.inr (sn_SessionsLeft_Left_lone_id hw)))
  have E37 := (E31.wr W33)
  refine s_putfieldN (pc' := 68) (v' := (.int lo)) A ((w33 hw)) Via.refl F36 E37 (Or.inl (w34 hw)) (w15 hw) (ty := .boolean) (by decide) (own_nar hl) (own_fit hl) ge9 d5_65 rfl fun T h38 A W39 => ?_
  have F40 := F36.same W39
  refine s_aloadN (pc' := 69) A d5_68 rfl rfl rfl ?_
  have F41 := (F35.other W39 (Or.inl ne5))
  refine s_getfield (pc' := 72) (host := "") A (Or.inl (w23 hw)) Via.refl F41 d5_69 rfl fun T A => ?_
  refine s_lloadN (pc' := 73) A d5_72 rfl rfl ?_
  have F42 := ((((F19.other W23 (Or.inl (Ne.symm ne5))).other W28 (Or.inl (Ne.symm ne5))).other W33 (Or.inr (sn_SessionsLeft_Left_highest_id hw))).other W39 (Or.inr (sn_SessionsLeft_Left_highest_lone hw)))
  have E43 := (E37.wr W39)
  refine s_putfield (pc' := 76) (host := "") A (Or.inl (w35 hw)) Via.refl F42 E43 (Or.inl (w36 hw)) (w15 hw) (ty := .long) (by decide) rfl rfl ge9 d5_73 rfl fun T h44 A W45 => ?_
  have F46 := F42.same W45
  refine s_aloadN (pc' := 77) A d5_76 rfl rfl rfl ?_
  have F47 := (F41.other W45 (Or.inl ne5))
  refine s_getfield (pc' := 80) (host := "") A (Or.inl (w23 hw)) Via.refl F47 d5_77 rfl fun T A => ?_
  refine s_lload (pc' := 82) A d5_80 rfl rfl ?_
  have F48 := (((((F20.other W23 (Or.inl (Ne.symm ne5))).other W28 (Or.inl (Ne.symm ne5))).other W33 (Or.inr (sn_SessionsLeft_Left_note_id hw))).other W39 (Or.inr (sn_SessionsLeft_Left_note_lone hw))).other W45 (Or.inr (sn_SessionsLeft_Left_note_highest hw)))
  have E49 := (E43.wr W45)
  refine s_putfield (pc' := 85) (host := "") A (Or.inl (w37 hw)) Via.refl F48 E49 (Or.inl (w38 hw)) (w15 hw) (ty := .long) (by decide) rfl rfl ge9 d5_82 rfl fun T h50 A W51 => ?_
  have F52 := F48.same W51
  refine s_aloadN (pc' := 86) A d5_85 rfl rfl rfl ?_
  have F53 := (F47.other W51 (Or.inl ne5))
  refine s_getfield (pc' := 89) (host := "") A (Or.inl (w23 hw)) Via.refl F53 d5_86 rfl fun T A => ?_
  refine s_lload (pc' := 91) A d5_89 rfl rfl ?_
  have F54 := ((((((F21.other W23 (Or.inl (Ne.symm ne5))).other W28 (Or.inl (Ne.symm ne5))).other W33 (Or.inr (sn_SessionsLeft_Left_order_id hw))).other W39 (Or.inr (sn_SessionsLeft_Left_order_lone hw))).other W45 (Or.inr (sn_SessionsLeft_Left_order_highest hw))).other W51 (Or.inr (sn_SessionsLeft_Left_order_note hw)))
  have E55 := (E49.wr W51)
  refine s_putfield (pc' := 94) (host := "") A (Or.inl (w39 hw)) Via.refl F54 E55 (Or.inl (w40 hw)) (w15 hw) (ty := .long) (by decide) rfl rfl ge9 d5_91 rfl fun T h56 A W57 => ?_
  have F58 := F54.same W57
  have K59 := ((((((((Keep.refl h0 [a, x, y]).wr W23 (Or.inl (List.mem_of_getElem? (i := 0) rfl))).wr W28 (Or.inl (List.mem_of_getElem? (i := 0) rfl))).wr W33 (Or.inl (List.mem_of_getElem? (i := 2) rfl))).wr W39 (Or.inl (List.mem_of_getElem? (i := 2) rfl))).wr W45 (Or.inl (List.mem_of_getElem? (i := 2) rfl))).wr W51 (Or.inl (List.mem_of_getElem? (i := 2) rfl))).wr W57 (Or.inl (List.mem_of_getElem? (i := 2) rfl)))
  have E60 := ((((((E26.wr W28).wr W33).wr W39).wr W45).wr W51).wr W57)
  have F61 := (F53.other W57 (Or.inl ne5))
  have F62 := ((((((F24.other W28 (Or.inr (sn_SessionsLeft_before_last hw))).other W33 (Or.inl ne5)).other W39 (Or.inl ne5)).other W45 (Or.inl ne5)).other W51 (Or.inl ne5)).other W57 (Or.inl ne5))
  have E63 := (E55.wr W57)
  have F64 := ((((F34.other W39 (Or.inr (sn_SessionsLeft_Left_id_lone hw))).other W45 (Or.inr (sn_SessionsLeft_Left_id_highest hw))).other W51 (Or.inr (sn_SessionsLeft_Left_id_note hw))).other W57 (Or.inr (sn_SessionsLeft_Left_id_order hw)))
  have F65 := (((F40.other W45 (Or.inr (sn_SessionsLeft_Left_lone_highest hw))).other W51 (Or.inr (sn_SessionsLeft_Left_lone_note hw))).other W57 (Or.inr (sn_SessionsLeft_Left_lone_order hw)))
  have F66 := ((F46.other W51 (Or.inr (sn_SessionsLeft_Left_highest_note hw))).other W57 (Or.inr (sn_SessionsLeft_Left_highest_order hw)))
  have F67 := (F52.other W57 (Or.inr (sn_SessionsLeft_Left_note_order hw)))
  have E68 := (((((((E10.wr W23).wr W28).wr W33).wr W39).wr W45).wr W51).wr W57)
  have F69 := (((((((F11.other W23 (Or.inl (Ne.symm ne4))).other W28 (Or.inl (Ne.symm ne4))).other W33 (Or.inl ne6)).other W39 (Or.inl ne6)).other W45 (Or.inl ne6)).other W51 (Or.inl ne6)).other W57 (Or.inl ne6))
  have F70 := (((((((F12.other W23 (Or.inl (Ne.symm ne4))).other W28 (Or.inl (Ne.symm ne4))).other W33 (Or.inl ne6)).other W39 (Or.inl ne6)).other W45 (Or.inl ne6)).other W51 (Or.inl ne6)).other W57 (Or.inl ne6))
  have F71 := (((((((F13.other W23 (Or.inl (Ne.symm ne4))).other W28 (Or.inl (Ne.symm ne4))).other W33 (Or.inl ne6)).other W39 (Or.inl ne6)).other W45 (Or.inl ne6)).other W51 (Or.inl ne6)).other W57 (Or.inl ne6))
  have F72 := (((((((F14.other W23 (Or.inl (Ne.symm ne4))).other W28 (Or.inl (Ne.symm ne4))).other W33 (Or.inl ne6)).other W39 (Or.inl ne6)).other W45 (Or.inl ne6)).other W51 (Or.inl ne6)).other W57 (Or.inl ne6))
  have F73 := (((((((F15.other W23 (Or.inl (Ne.symm ne4))).other W28 (Or.inl (Ne.symm ne4))).other W33 (Or.inl ne6)).other W39 (Or.inl ne6)).other W45 (Or.inl ne6)).other W51 (Or.inl ne6)).other W57 (Or.inl ne6))
  exact r_void A rfl d5_94 (by decide) (by decide) (⟨rfl, K59, ⟨E60, F61, F62, ⟨E63, F64, F65, F66, F67, F58⟩, ⟨E68, F69, F70, F71, F72, F73⟩, ne5, ne4, (Ne.symm ne6), ge7, ge9, ge8⟩⟩)
set_option maxRecDepth 65536 in
set_option maxHeartbeats 40000000 in
theorem leave3 (l : Launch) (Z : State) (a0 : Array Value) (hw : ∀ d ∈ tables_1, d.before a0 Z = true) (n0 : Nat) (h0 : Heap) (Z0 : n0 ≤ h0.size) (a x y : Addr) (i1 n1 : Int32) (g1 t1 o1 : Int64) (i2 n2 : Int32) (g2 t2 o2 : Int64) (id lo : Int32) (hi nt od : Int64) (H : SL Z n0 h0 a x y i1 n1 g1 t1 o1 i2 n2 g2 t2 o2) (hl : lo = 0 ∨ lo = 1) (h1 : ¬ i1 = (-1 : Int32)) (h2 : ¬ i2 = (-1 : Int32)) (h3 : ¬ n1 = (0 : Int32)) :
    Met l Z n0 y2_leave prog_84_method_4_code 10 (Option.none : Option Jvm.ClassFile.FieldType) ({ frames := 0, cells := 0, slots := 0, locals := 0 } : Room) #[(.ref a), (.int id), (.int lo), (.long hi), (.long nt), (.long od)] h0 (fun v h => v = none ∧ Keep h0 h [a, x, y] ∧ SL Z n0 h a x y id lo hi nt od i2 n2 g2 t2 o2) := by
  refine met_intro (own := c1_SessionsLeft) (plainFor_of_name pn_com_example_wirefram_wirefram_sequence_SessionsLeft) rfl Z0 ?_
  intro p e s m below meth c T A hnm
  refine Wp.cast (g' := mkF m 0 #[rv a, iv id, iv lo, jv hi, S2, jv nt, S2, jv od, S2, U0] []) (by first | (simp [entryFrame, mkF, argsToLocals, Value.category, maxLocals, jv, S2, U0, iv, rv]; done) | rfl) ?_
  obtain ⟨E1, F2, F3, ⟨E10, F11, F12, F13, F14, F15⟩, ⟨E16, F17, F18, F19, F20, F21⟩, ne4, ne5, ne6, ge7, ge8, ge9⟩ := H
  refine s_aloadN (pc' := 1) A d5_0 rfl rfl rfl ?_
  refine s_getfield (pc' := 4) (host := "") A (Or.inl (w23 hw)) Via.refl F2 d5_1 rfl fun T A => ?_
  refine s_getfield (pc' := 7) (host := "") A (Or.inl (w32 hw)) Via.refl F11 d5_4 rfl fun T A => ?_
  refine s_iconst (pc' := 8) (z := (-1 : Int32)) A d5_7 rfl (by decide) ?_
  refine s_icmpN (pc' := 11) A d5_8 rfl (feq h1).1 ?_
  refine s_aloadN (pc' := 12) A d5_11 rfl rfl rfl ?_
  refine s_getfield (pc' := 15) (host := "") A (Or.inl (w25 hw)) Via.refl F3 d5_12 rfl fun T A => ?_
  refine s_getfield (pc' := 18) (host := "") A (Or.inl (w32 hw)) Via.refl F17 d5_15 rfl fun T A => ?_
  refine s_iconst (pc' := 19) (z := (-1 : Int32)) A d5_18 rfl (by decide) ?_
  refine s_icmpN (pc' := 22) A d5_19 rfl (feq h2).1 ?_
  refine s_aloadN (pc' := 23) A d5_22 rfl rfl rfl ?_
  refine s_getfield (pc' := 26) (host := "") A (Or.inl (w23 hw)) Via.refl F2 d5_23 rfl fun T A => ?_
  refine s_getfield (pc' := 29) (host := "") A (Or.inl (w33 hw)) Via.refl F12 d5_26 rfl fun T A => ?_
  refine s_ifY (pc' := 52) A d5_29 ((if0 _ _).trans (feq h3).2) (by decide) (by decide) ?_
  refine s_aloadN (pc' := 53) A d5_52 rfl rfl rfl ?_
  refine s_getfield (pc' := 56) (host := "") A (Or.inl (w23 hw)) Via.refl F2 d5_53 rfl fun T A => ?_
  refine s_iloadN (pc' := 57) A d5_56 rfl rfl ?_
  refine s_putfield (pc' := 60) (host := "") A (Or.inl (w32 hw)) Via.refl F11 E10 (Or.inl (w22 hw)) (w15 hw) (ty := .int) (by decide) rfl rfl ge8 d5_57 rfl fun T h22 A W23 => ?_
  have F24 := F11.same W23
  refine s_aloadN (pc' := 61) A d5_60 rfl rfl rfl ?_
  have F25 := (F2.other W23 (Or.inl ne4))
  refine s_getfield (pc' := 64) (host := "") A (Or.inl (w23 hw)) Via.refl F25 d5_61 rfl fun T A => ?_
  refine s_iloadN (pc' := 65) A d5_64 rfl rfl ?_
  have F26 := (F12.other W23 (Or.inr (sn_SessionsLeft_Left_lone_id hw)))
  have E27 := (E10.wr W23)
  refine s_putfieldN (pc' := 68) (v' := (.int lo)) A ((w33 hw)) Via.refl F26 E27 (Or.inl (w34 hw)) (w15 hw) (ty := .boolean) (by decide) (own_nar hl) (own_fit hl) ge8 d5_65 rfl fun T h28 A W29 => ?_
  have F30 := F26.same W29
  refine s_aloadN (pc' := 69) A d5_68 rfl rfl rfl ?_
  have F31 := (F25.other W29 (Or.inl ne4))
  refine s_getfield (pc' := 72) (host := "") A (Or.inl (w23 hw)) Via.refl F31 d5_69 rfl fun T A => ?_
  refine s_lloadN (pc' := 73) A d5_72 rfl rfl ?_
  have F32 := ((F13.other W23 (Or.inr (sn_SessionsLeft_Left_highest_id hw))).other W29 (Or.inr (sn_SessionsLeft_Left_highest_lone hw)))
  have E33 := (E27.wr W29)
  refine s_putfield (pc' := 76) (host := "") A (Or.inl (w35 hw)) Via.refl F32 E33 (Or.inl (w36 hw)) (w15 hw) (ty := .long) (by decide) rfl rfl ge8 d5_73 rfl fun T h34 A W35 => ?_
  have F36 := F32.same W35
  refine s_aloadN (pc' := 77) A d5_76 rfl rfl rfl ?_
  have F37 := (F31.other W35 (Or.inl ne4))
  refine s_getfield (pc' := 80) (host := "") A (Or.inl (w23 hw)) Via.refl F37 d5_77 rfl fun T A => ?_
  refine s_lload (pc' := 82) A d5_80 rfl rfl ?_
  have F38 := (((F14.other W23 (Or.inr (sn_SessionsLeft_Left_note_id hw))).other W29 (Or.inr (sn_SessionsLeft_Left_note_lone hw))).other W35 (Or.inr (sn_SessionsLeft_Left_note_highest hw)))
  have E39 := (E33.wr W35)
  refine s_putfield (pc' := 85) (host := "") A (Or.inl (w37 hw)) Via.refl F38 E39 (Or.inl (w38 hw)) (w15 hw) (ty := .long) (by decide) rfl rfl ge8 d5_82 rfl fun T h40 A W41 => ?_
  have F42 := F38.same W41
  refine s_aloadN (pc' := 86) A d5_85 rfl rfl rfl ?_
  have F43 := (F37.other W41 (Or.inl ne4))
  refine s_getfield (pc' := 89) (host := "") A (Or.inl (w23 hw)) Via.refl F43 d5_86 rfl fun T A => ?_
  refine s_lload (pc' := 91) A d5_89 rfl rfl ?_
  have F44 := ((((F15.other W23 (Or.inr (sn_SessionsLeft_Left_order_id hw))).other W29 (Or.inr (sn_SessionsLeft_Left_order_lone hw))).other W35 (Or.inr (sn_SessionsLeft_Left_order_highest hw))).other W41 (Or.inr (sn_SessionsLeft_Left_order_note hw)))
  have E45 := (E39.wr W41)
  refine s_putfield (pc' := 94) (host := "") A (Or.inl (w39 hw)) Via.refl F44 E45 (Or.inl (w40 hw)) (w15 hw) (ty := .long) (by decide) rfl rfl ge8 d5_91 rfl fun T h46 A W47 => ?_
  have F48 := F44.same W47
  have K49 := ((((((Keep.refl h0 [a, x, y]).wr W23 (Or.inl (List.mem_of_getElem? (i := 1) rfl))).wr W29 (Or.inl (List.mem_of_getElem? (i := 1) rfl))).wr W35 (Or.inl (List.mem_of_getElem? (i := 1) rfl))).wr W41 (Or.inl (List.mem_of_getElem? (i := 1) rfl))).wr W47 (Or.inl (List.mem_of_getElem? (i := 1) rfl)))
  have E50 := (((((E1.wr W23).wr W29).wr W35).wr W41).wr W47)
  have F51 := (F43.other W47 (Or.inl ne4))
  have F52 := (((((F3.other W23 (Or.inl ne4)).other W29 (Or.inl ne4)).other W35 (Or.inl ne4)).other W41 (Or.inl ne4)).other W47 (Or.inl ne4))
  have E53 := (E45.wr W47)
  have F54 := ((((F24.other W29 (Or.inr (sn_SessionsLeft_Left_id_lone hw))).other W35 (Or.inr (sn_SessionsLeft_Left_id_highest hw))).other W41 (Or.inr (sn_SessionsLeft_Left_id_note hw))).other W47 (Or.inr (sn_SessionsLeft_Left_id_order hw)))
  have F55 := (((F30.other W35 (Or.inr (sn_SessionsLeft_Left_lone_highest hw))).other W41 (Or.inr (sn_SessionsLeft_Left_lone_note hw))).other W47 (Or.inr (sn_SessionsLeft_Left_lone_order hw)))
  have F56 := ((F36.other W41 (Or.inr (sn_SessionsLeft_Left_highest_note hw))).other W47 (Or.inr (sn_SessionsLeft_Left_highest_order hw)))
  have F57 := (F42.other W47 (Or.inr (sn_SessionsLeft_Left_note_order hw)))
  have E58 := (((((E16.wr W23).wr W29).wr W35).wr W41).wr W47)
  have F59 := (((((F17.other W23 (Or.inl (Ne.symm ne6))).other W29 (Or.inl (Ne.symm ne6))).other W35 (Or.inl (Ne.symm ne6))).other W41 (Or.inl (Ne.symm ne6))).other W47 (Or.inl (Ne.symm ne6)))
  have F60 := (((((F18.other W23 (Or.inl (Ne.symm ne6))).other W29 (Or.inl (Ne.symm ne6))).other W35 (Or.inl (Ne.symm ne6))).other W41 (Or.inl (Ne.symm ne6))).other W47 (Or.inl (Ne.symm ne6)))
  have F61 := (((((F19.other W23 (Or.inl (Ne.symm ne6))).other W29 (Or.inl (Ne.symm ne6))).other W35 (Or.inl (Ne.symm ne6))).other W41 (Or.inl (Ne.symm ne6))).other W47 (Or.inl (Ne.symm ne6)))
  have F62 := (((((F20.other W23 (Or.inl (Ne.symm ne6))).other W29 (Or.inl (Ne.symm ne6))).other W35 (Or.inl (Ne.symm ne6))).other W41 (Or.inl (Ne.symm ne6))).other W47 (Or.inl (Ne.symm ne6)))
  have F63 := (((((F21.other W23 (Or.inl (Ne.symm ne6))).other W29 (Or.inl (Ne.symm ne6))).other W35 (Or.inl (Ne.symm ne6))).other W41 (Or.inl (Ne.symm ne6))).other W47 (Or.inl (Ne.symm ne6)))
  exact r_void A rfl d5_94 (by decide) (by decide) (⟨rfl, K49, ⟨E50, F51, F52, ⟨E53, F54, F55, F56, F57, F48⟩, ⟨E58, F59, F60, F61, F62, F63⟩, ne4, ne5, ne6, ge7, ge8, ge9⟩⟩)
set_option maxRecDepth 65536 in
set_option maxHeartbeats 40000000 in
theorem find0 (l : Launch) (Z : State) (a0 : Array Value) (hw : ∀ d ∈ tables_1, d.before a0 Z = true) (n0 : Nat) (h0 : Heap) (Z0 : n0 ≤ h0.size) (a x y : Addr) (i1 n1 : Int32) (g1 t1 o1 : Int64) (i2 n2 : Int32) (g2 t2 o2 : Int64) (id : Int32) (H : SL Z n0 h0 a x y i1 n1 g1 t1 o1 i2 n2 g2 t2 o2) (hn : ¬ id = (-1 : Int32)) (h1 : i1 = id) :
    Met l Z n0 y3_find prog_84_method_9_code 2 (Option.some (Jvm.ClassFile.FieldType.object "com/example/wirefram/wirefram/sequence/SessionsLeft$Left")) ({ frames := 0, cells := 0, slots := 0, locals := 0 } : Room) #[(.ref a), (.int id)] h0 (fun v h => v = some (.ref x) ∧ h = h0) := by
  refine met_intro (own := c1_SessionsLeft) (plainFor_of_name pn_com_example_wirefram_wirefram_sequence_SessionsLeft) rfl Z0 ?_
  intro p e s m below meth c T A hnm
  refine Wp.cast (g' := mkF m 0 #[rv a, iv id] []) (by first | (simp [entryFrame, mkF, argsToLocals, Value.category, maxLocals, jv, S2, U0, iv, rv]; done) | rfl) ?_
  obtain ⟨E1, F2, F3, ⟨E10, F11, F12, F13, F14, F15⟩, ⟨E16, F17, F18, F19, F20, F21⟩, ne4, ne5, ne6, ge7, ge8, ge9⟩ := H
  refine s_iloadN (pc' := 1) A d7_0 rfl rfl ?_
  refine s_iconst (pc' := 2) (z := (-1 : Int32)) A d7_1 rfl (by decide) ?_
  refine s_icmpY (pc' := 7) A d7_2 (feq hn).2 (by decide) (by decide) ?_
  refine s_aloadN (pc' := 8) A d7_7 rfl rfl rfl ?_
  refine s_getfield (pc' := 11) (host := "") A (Or.inl (w23 hw)) Via.refl F2 d7_8 rfl fun T A => ?_
  refine s_getfield (pc' := 14) (host := "") A (Or.inl (w32 hw)) Via.refl F11 d7_11 rfl fun T A => ?_
  refine s_iloadN (pc' := 15) A d7_14 rfl rfl ?_
  refine s_icmpN (pc' := 18) A d7_15 rfl (teq h1).2 ?_
  refine s_aloadN (pc' := 19) A d7_18 rfl rfl rfl ?_
  refine s_getfield (pc' := 22) (host := "") A (Or.inl (w23 hw)) Via.refl F2 d7_19 rfl fun T A => ?_
  exact r_ref A rfl rfl rfl d7_22 (by decide) (by decide) (⟨rfl, rfl⟩)
set_option maxRecDepth 65536 in
set_option maxHeartbeats 40000000 in
theorem find1 (l : Launch) (Z : State) (a0 : Array Value) (hw : ∀ d ∈ tables_1, d.before a0 Z = true) (n0 : Nat) (h0 : Heap) (Z0 : n0 ≤ h0.size) (a x y : Addr) (i1 n1 : Int32) (g1 t1 o1 : Int64) (i2 n2 : Int32) (g2 t2 o2 : Int64) (id : Int32) (H : SL Z n0 h0 a x y i1 n1 g1 t1 o1 i2 n2 g2 t2 o2) (hn : ¬ id = (-1 : Int32)) (h1 : ¬ i1 = id) (h2 : i2 = id) :
    Met l Z n0 y3_find prog_84_method_9_code 2 (Option.some (Jvm.ClassFile.FieldType.object "com/example/wirefram/wirefram/sequence/SessionsLeft$Left")) ({ frames := 0, cells := 0, slots := 0, locals := 0 } : Room) #[(.ref a), (.int id)] h0 (fun v h => v = some (.ref y) ∧ h = h0) := by
  refine met_intro (own := c1_SessionsLeft) (plainFor_of_name pn_com_example_wirefram_wirefram_sequence_SessionsLeft) rfl Z0 ?_
  intro p e s m below meth c T A hnm
  refine Wp.cast (g' := mkF m 0 #[rv a, iv id] []) (by first | (simp [entryFrame, mkF, argsToLocals, Value.category, maxLocals, jv, S2, U0, iv, rv]; done) | rfl) ?_
  obtain ⟨E1, F2, F3, ⟨E10, F11, F12, F13, F14, F15⟩, ⟨E16, F17, F18, F19, F20, F21⟩, ne4, ne5, ne6, ge7, ge8, ge9⟩ := H
  refine s_iloadN (pc' := 1) A d7_0 rfl rfl ?_
  refine s_iconst (pc' := 2) (z := (-1 : Int32)) A d7_1 rfl (by decide) ?_
  refine s_icmpY (pc' := 7) A d7_2 (feq hn).2 (by decide) (by decide) ?_
  refine s_aloadN (pc' := 8) A d7_7 rfl rfl rfl ?_
  refine s_getfield (pc' := 11) (host := "") A (Or.inl (w23 hw)) Via.refl F2 d7_8 rfl fun T A => ?_
  refine s_getfield (pc' := 14) (host := "") A (Or.inl (w32 hw)) Via.refl F11 d7_11 rfl fun T A => ?_
  refine s_iloadN (pc' := 15) A d7_14 rfl rfl ?_
  refine s_icmpY (pc' := 23) A d7_15 (feq h1).2 (by decide) (by decide) ?_
  refine s_aloadN (pc' := 24) A d7_23 rfl rfl rfl ?_
  refine s_getfield (pc' := 27) (host := "") A (Or.inl (w25 hw)) Via.refl F3 d7_24 rfl fun T A => ?_
  refine s_getfield (pc' := 30) (host := "") A (Or.inl (w32 hw)) Via.refl F17 d7_27 rfl fun T A => ?_
  refine s_iloadN (pc' := 31) A d7_30 rfl rfl ?_
  refine s_icmpN (pc' := 34) A d7_31 rfl (teq h2).2 ?_
  refine s_aloadN (pc' := 35) A d7_34 rfl rfl rfl ?_
  refine s_getfield (pc' := 38) (host := "") A (Or.inl (w25 hw)) Via.refl F3 d7_35 rfl fun T A => ?_
  refine s_goto (pc' := 42) A d7_38 (by decide) (by decide) ?_
  exact r_ref A rfl rfl rfl d7_42 (by decide) (by decide) (⟨rfl, rfl⟩)
set_option maxRecDepth 65536 in
set_option maxHeartbeats 40000000 in
theorem find2 (l : Launch) (Z : State) (a0 : Array Value) (hw : ∀ d ∈ tables_1, d.before a0 Z = true) (n0 : Nat) (h0 : Heap) (Z0 : n0 ≤ h0.size) (a x y : Addr) (i1 n1 : Int32) (g1 t1 o1 : Int64) (i2 n2 : Int32) (g2 t2 o2 : Int64) (id : Int32) (H : SL Z n0 h0 a x y i1 n1 g1 t1 o1 i2 n2 g2 t2 o2) (hn : ¬ id = (-1 : Int32)) (h1 : ¬ i1 = id) (h2 : ¬ i2 = id) :
    Met l Z n0 y3_find prog_84_method_9_code 2 (Option.some (Jvm.ClassFile.FieldType.object "com/example/wirefram/wirefram/sequence/SessionsLeft$Left")) ({ frames := 0, cells := 0, slots := 0, locals := 0 } : Room) #[(.ref a), (.int id)] h0 (fun v h => v = some .null ∧ h = h0) := by
  refine met_intro (own := c1_SessionsLeft) (plainFor_of_name pn_com_example_wirefram_wirefram_sequence_SessionsLeft) rfl Z0 ?_
  intro p e s m below meth c T A hnm
  refine Wp.cast (g' := mkF m 0 #[rv a, iv id] []) (by first | (simp [entryFrame, mkF, argsToLocals, Value.category, maxLocals, jv, S2, U0, iv, rv]; done) | rfl) ?_
  obtain ⟨E1, F2, F3, ⟨E10, F11, F12, F13, F14, F15⟩, ⟨E16, F17, F18, F19, F20, F21⟩, ne4, ne5, ne6, ge7, ge8, ge9⟩ := H
  refine s_iloadN (pc' := 1) A d7_0 rfl rfl ?_
  refine s_iconst (pc' := 2) (z := (-1 : Int32)) A d7_1 rfl (by decide) ?_
  refine s_icmpY (pc' := 7) A d7_2 (feq hn).2 (by decide) (by decide) ?_
  refine s_aloadN (pc' := 8) A d7_7 rfl rfl rfl ?_
  refine s_getfield (pc' := 11) (host := "") A (Or.inl (w23 hw)) Via.refl F2 d7_8 rfl fun T A => ?_
  refine s_getfield (pc' := 14) (host := "") A (Or.inl (w32 hw)) Via.refl F11 d7_11 rfl fun T A => ?_
  refine s_iloadN (pc' := 15) A d7_14 rfl rfl ?_
  refine s_icmpY (pc' := 23) A d7_15 (feq h1).2 (by decide) (by decide) ?_
  refine s_aloadN (pc' := 24) A d7_23 rfl rfl rfl ?_
  refine s_getfield (pc' := 27) (host := "") A (Or.inl (w25 hw)) Via.refl F3 d7_24 rfl fun T A => ?_
  refine s_getfield (pc' := 30) (host := "") A (Or.inl (w32 hw)) Via.refl F17 d7_27 rfl fun T A => ?_
  refine s_iloadN (pc' := 31) A d7_30 rfl rfl ?_
  refine s_icmpY (pc' := 41) A d7_31 (feq h2).2 (by decide) (by decide) ?_
  refine s_aconstNull (pc' := 42) A d7_41 rfl ?_
  exact r_ref A rfl rfl rfl d7_42 (by decide) (by decide) (⟨rfl, rfl⟩)
set_option maxRecDepth 65536 in
set_option maxHeartbeats 40000000 in
theorem remembers0 (l : Launch) (Z : State) (a0 : Array Value) (hw : ∀ d ∈ tables_1, d.before a0 Z = true) (n0 : Nat) (h0 : Heap) (Z0 : n0 ≤ h0.size) (a x y : Addr) (i1 n1 : Int32) (g1 t1 o1 : Int64) (i2 n2 : Int32) (g2 t2 o2 : Int64) (id : Int32) (H : SL Z n0 h0 a x y i1 n1 g1 t1 o1 i2 n2 g2 t2 o2) (hn : ¬ id = (-1 : Int32)) (h1 : i1 = id) :
    Met l Z n0 y4_remembers prog_84_method_2_code 2 (Option.some Jvm.ClassFile.FieldType.boolean) ({ frames := 1, cells := 0, slots := 0, locals := 13 } : Room) #[(.ref a), (.int id)] h0 (fun v h => v = some (.int 1) ∧ h = h0) := by
  refine met_intro (own := c1_SessionsLeft) (plainFor_of_name pn_com_example_wirefram_wirefram_sequence_SessionsLeft) rfl Z0 ?_
  intro p e s m below meth c T A hnm
  refine Wp.cast (g' := mkF m 0 #[rv a, iv id] []) (by first | (simp [entryFrame, mkF, argsToLocals, Value.category, maxLocals, jv, S2, U0, iv, rv]; done) | rfl) ?_
  obtain ⟨E1, F2, F3, ⟨E10, F11, F12, F13, F14, F15⟩, ⟨E16, F17, F18, F19, F20, F21⟩, ne4, ne5, ne6, ge7, ge8, ge9⟩ := H
  refine s_aloadN (pc' := 1) A d6_0 rfl rfl rfl ?_
  refine s_iloadN (pc' := 2) A d6_1 rfl rfl ?_
  refine s_private (pc' := 5) (y := y3_find) (argsL := [(.int id)]) (rest := []) A E1 (find0 l Z a0 hw n0 h0 A.size a x y i1 n1 g1 t1 o1 i2 n2 g2 t2 o2 id ⟨E1, F2, F3, ⟨E10, F11, F12, F13, F14, F15⟩, ⟨E16, F17, F18, F19, F20, F21⟩, ne4, ne5, ne6, ge7, ge8, ge9⟩ hn h1) (w46 hw) (w47 hw) (w6 hw) (w48 hw) (w7 hw) (w49 hw) (by decide) pd__I_Lcom_example_wirefram_wirefram_sequence_SessionsLeft_Left_ rfl (W := 0) (by decide) (by decide) (Nat.le_of_eq rfl) (by decide) (by decide) rfl rfl d6_2 rfl fun T h22 v23 A Q24 => ?_
  obtain ⟨rfl, eh⟩ := Q24
  rw [eh] at A
  refine Wp.stk (st' := [(.ref x)]) rfl ?_
  refine s_ifnullN (pc' := 8) A d6_5 rfl ?_
  refine s_iconst (pc' := 9) (z := (1 : Int32)) A d6_8 rfl (by decide) ?_
  refine s_goto (pc' := 13) A d6_9 (by decide) (by decide) ?_
  exact r_bool A rfl (by decide) d6_13 (by decide) (by decide) (⟨rfl, rfl⟩)
set_option maxRecDepth 65536 in
set_option maxHeartbeats 40000000 in
theorem remembers1 (l : Launch) (Z : State) (a0 : Array Value) (hw : ∀ d ∈ tables_1, d.before a0 Z = true) (n0 : Nat) (h0 : Heap) (Z0 : n0 ≤ h0.size) (a x y : Addr) (i1 n1 : Int32) (g1 t1 o1 : Int64) (i2 n2 : Int32) (g2 t2 o2 : Int64) (id : Int32) (H : SL Z n0 h0 a x y i1 n1 g1 t1 o1 i2 n2 g2 t2 o2) (hn : ¬ id = (-1 : Int32)) (h1 : ¬ i1 = id) (h2 : i2 = id) :
    Met l Z n0 y4_remembers prog_84_method_2_code 2 (Option.some Jvm.ClassFile.FieldType.boolean) ({ frames := 1, cells := 0, slots := 0, locals := 13 } : Room) #[(.ref a), (.int id)] h0 (fun v h => v = some (.int 1) ∧ h = h0) := by
  refine met_intro (own := c1_SessionsLeft) (plainFor_of_name pn_com_example_wirefram_wirefram_sequence_SessionsLeft) rfl Z0 ?_
  intro p e s m below meth c T A hnm
  refine Wp.cast (g' := mkF m 0 #[rv a, iv id] []) (by first | (simp [entryFrame, mkF, argsToLocals, Value.category, maxLocals, jv, S2, U0, iv, rv]; done) | rfl) ?_
  obtain ⟨E1, F2, F3, ⟨E10, F11, F12, F13, F14, F15⟩, ⟨E16, F17, F18, F19, F20, F21⟩, ne4, ne5, ne6, ge7, ge8, ge9⟩ := H
  refine s_aloadN (pc' := 1) A d6_0 rfl rfl rfl ?_
  refine s_iloadN (pc' := 2) A d6_1 rfl rfl ?_
  refine s_private (pc' := 5) (y := y3_find) (argsL := [(.int id)]) (rest := []) A E1 (find1 l Z a0 hw n0 h0 A.size a x y i1 n1 g1 t1 o1 i2 n2 g2 t2 o2 id ⟨E1, F2, F3, ⟨E10, F11, F12, F13, F14, F15⟩, ⟨E16, F17, F18, F19, F20, F21⟩, ne4, ne5, ne6, ge7, ge8, ge9⟩ hn h1 h2) (w46 hw) (w47 hw) (w6 hw) (w48 hw) (w7 hw) (w49 hw) (by decide) pd__I_Lcom_example_wirefram_wirefram_sequence_SessionsLeft_Left_ rfl (W := 0) (by decide) (by decide) (Nat.le_of_eq rfl) (by decide) (by decide) rfl rfl d6_2 rfl fun T h22 v23 A Q24 => ?_
  obtain ⟨rfl, eh⟩ := Q24
  rw [eh] at A
  refine Wp.stk (st' := [(.ref y)]) rfl ?_
  refine s_ifnullN (pc' := 8) A d6_5 rfl ?_
  refine s_iconst (pc' := 9) (z := (1 : Int32)) A d6_8 rfl (by decide) ?_
  refine s_goto (pc' := 13) A d6_9 (by decide) (by decide) ?_
  exact r_bool A rfl (by decide) d6_13 (by decide) (by decide) (⟨rfl, rfl⟩)
set_option maxRecDepth 65536 in
set_option maxHeartbeats 40000000 in
theorem remembers2 (l : Launch) (Z : State) (a0 : Array Value) (hw : ∀ d ∈ tables_1, d.before a0 Z = true) (n0 : Nat) (h0 : Heap) (Z0 : n0 ≤ h0.size) (a x y : Addr) (i1 n1 : Int32) (g1 t1 o1 : Int64) (i2 n2 : Int32) (g2 t2 o2 : Int64) (id : Int32) (H : SL Z n0 h0 a x y i1 n1 g1 t1 o1 i2 n2 g2 t2 o2) (hn : ¬ id = (-1 : Int32)) (h1 : ¬ i1 = id) (h2 : ¬ i2 = id) :
    Met l Z n0 y4_remembers prog_84_method_2_code 2 (Option.some Jvm.ClassFile.FieldType.boolean) ({ frames := 1, cells := 0, slots := 0, locals := 13 } : Room) #[(.ref a), (.int id)] h0 (fun v h => v = some (.int 0) ∧ h = h0) := by
  refine met_intro (own := c1_SessionsLeft) (plainFor_of_name pn_com_example_wirefram_wirefram_sequence_SessionsLeft) rfl Z0 ?_
  intro p e s m below meth c T A hnm
  refine Wp.cast (g' := mkF m 0 #[rv a, iv id] []) (by first | (simp [entryFrame, mkF, argsToLocals, Value.category, maxLocals, jv, S2, U0, iv, rv]; done) | rfl) ?_
  obtain ⟨E1, F2, F3, ⟨E10, F11, F12, F13, F14, F15⟩, ⟨E16, F17, F18, F19, F20, F21⟩, ne4, ne5, ne6, ge7, ge8, ge9⟩ := H
  refine s_aloadN (pc' := 1) A d6_0 rfl rfl rfl ?_
  refine s_iloadN (pc' := 2) A d6_1 rfl rfl ?_
  refine s_private (pc' := 5) (y := y3_find) (argsL := [(.int id)]) (rest := []) A E1 (find2 l Z a0 hw n0 h0 A.size a x y i1 n1 g1 t1 o1 i2 n2 g2 t2 o2 id ⟨E1, F2, F3, ⟨E10, F11, F12, F13, F14, F15⟩, ⟨E16, F17, F18, F19, F20, F21⟩, ne4, ne5, ne6, ge7, ge8, ge9⟩ hn h1 h2) (w46 hw) (w47 hw) (w6 hw) (w48 hw) (w7 hw) (w49 hw) (by decide) pd__I_Lcom_example_wirefram_wirefram_sequence_SessionsLeft_Left_ rfl (W := 0) (by decide) (by decide) (Nat.le_of_eq rfl) (by decide) (by decide) rfl rfl d6_2 rfl fun T h22 v23 A Q24 => ?_
  obtain ⟨rfl, eh⟩ := Q24
  rw [eh] at A
  refine Wp.stk (st' := [.null]) rfl ?_
  refine s_ifnullY (pc' := 12) A d6_5 (by decide) (by decide) ?_
  refine s_iconst (pc' := 13) (z := (0 : Int32)) A d6_12 rfl (by decide) ?_
  exact r_bool A rfl (by decide) d6_13 (by decide) (by decide) (⟨rfl, rfl⟩)
set_option maxRecDepth 65536 in
set_option maxHeartbeats 40000000 in
theorem highest0 (l : Launch) (Z : State) (a0 : Array Value) (hw : ∀ d ∈ tables_1, d.before a0 Z = true) (n0 : Nat) (h0 : Heap) (Z0 : n0 ≤ h0.size) (a x y : Addr) (i1 n1 : Int32) (g1 t1 o1 : Int64) (i2 n2 : Int32) (g2 t2 o2 : Int64) (id : Int32) (H : SL Z n0 h0 a x y i1 n1 g1 t1 o1 i2 n2 g2 t2 o2) (hn : ¬ id = (-1 : Int32)) (h1 : i1 = id) :
    Met l Z n0 y5_highest prog_84_method_5_code 2 (Option.some Jvm.ClassFile.FieldType.long) ({ frames := 1, cells := 0, slots := 0, locals := 13 } : Room) #[(.ref a), (.int id)] h0 (fun v h => v = some (.long g1) ∧ h = h0) := by
  refine met_intro (own := c1_SessionsLeft) (plainFor_of_name pn_com_example_wirefram_wirefram_sequence_SessionsLeft) rfl Z0 ?_
  intro p e s m below meth c T A hnm
  refine Wp.cast (g' := mkF m 0 #[rv a, iv id] []) (by first | (simp [entryFrame, mkF, argsToLocals, Value.category, maxLocals, jv, S2, U0, iv, rv]; done) | rfl) ?_
  obtain ⟨E1, F2, F3, ⟨E10, F11, F12, F13, F14, F15⟩, ⟨E16, F17, F18, F19, F20, F21⟩, ne4, ne5, ne6, ge7, ge8, ge9⟩ := H
  refine s_aloadN (pc' := 1) A d8_0 rfl rfl rfl ?_
  refine s_iloadN (pc' := 2) A d8_1 rfl rfl ?_
  refine s_private (pc' := 5) (y := y3_find) (argsL := [(.int id)]) (rest := []) A E1 (find0 l Z a0 hw n0 h0 A.size a x y i1 n1 g1 t1 o1 i2 n2 g2 t2 o2 id ⟨E1, F2, F3, ⟨E10, F11, F12, F13, F14, F15⟩, ⟨E16, F17, F18, F19, F20, F21⟩, ne4, ne5, ne6, ge7, ge8, ge9⟩ hn h1) (w46 hw) (w47 hw) (w6 hw) (w48 hw) (w7 hw) (w49 hw) (by decide) pd__I_Lcom_example_wirefram_wirefram_sequence_SessionsLeft_Left_ rfl (W := 0) (by decide) (by decide) (Nat.le_of_eq rfl) (by decide) (by decide) rfl rfl d8_2 rfl fun T h22 v23 A Q24 => ?_
  obtain ⟨rfl, eh⟩ := Q24
  rw [eh] at A
  refine Wp.stk (st' := [(.ref x)]) rfl ?_
  refine s_getfield (pc' := 8) (host := "") A (Or.inl (w35 hw)) Via.refl F13 d8_5 rfl fun T A => ?_
  exact r_long A rfl d8_8 (by decide) (by decide) (⟨rfl, rfl⟩)
set_option maxRecDepth 65536 in
set_option maxHeartbeats 40000000 in
theorem highest1 (l : Launch) (Z : State) (a0 : Array Value) (hw : ∀ d ∈ tables_1, d.before a0 Z = true) (n0 : Nat) (h0 : Heap) (Z0 : n0 ≤ h0.size) (a x y : Addr) (i1 n1 : Int32) (g1 t1 o1 : Int64) (i2 n2 : Int32) (g2 t2 o2 : Int64) (id : Int32) (H : SL Z n0 h0 a x y i1 n1 g1 t1 o1 i2 n2 g2 t2 o2) (hn : ¬ id = (-1 : Int32)) (h1 : ¬ i1 = id) (h2 : i2 = id) :
    Met l Z n0 y5_highest prog_84_method_5_code 2 (Option.some Jvm.ClassFile.FieldType.long) ({ frames := 1, cells := 0, slots := 0, locals := 13 } : Room) #[(.ref a), (.int id)] h0 (fun v h => v = some (.long g2) ∧ h = h0) := by
  refine met_intro (own := c1_SessionsLeft) (plainFor_of_name pn_com_example_wirefram_wirefram_sequence_SessionsLeft) rfl Z0 ?_
  intro p e s m below meth c T A hnm
  refine Wp.cast (g' := mkF m 0 #[rv a, iv id] []) (by first | (simp [entryFrame, mkF, argsToLocals, Value.category, maxLocals, jv, S2, U0, iv, rv]; done) | rfl) ?_
  obtain ⟨E1, F2, F3, ⟨E10, F11, F12, F13, F14, F15⟩, ⟨E16, F17, F18, F19, F20, F21⟩, ne4, ne5, ne6, ge7, ge8, ge9⟩ := H
  refine s_aloadN (pc' := 1) A d8_0 rfl rfl rfl ?_
  refine s_iloadN (pc' := 2) A d8_1 rfl rfl ?_
  refine s_private (pc' := 5) (y := y3_find) (argsL := [(.int id)]) (rest := []) A E1 (find1 l Z a0 hw n0 h0 A.size a x y i1 n1 g1 t1 o1 i2 n2 g2 t2 o2 id ⟨E1, F2, F3, ⟨E10, F11, F12, F13, F14, F15⟩, ⟨E16, F17, F18, F19, F20, F21⟩, ne4, ne5, ne6, ge7, ge8, ge9⟩ hn h1 h2) (w46 hw) (w47 hw) (w6 hw) (w48 hw) (w7 hw) (w49 hw) (by decide) pd__I_Lcom_example_wirefram_wirefram_sequence_SessionsLeft_Left_ rfl (W := 0) (by decide) (by decide) (Nat.le_of_eq rfl) (by decide) (by decide) rfl rfl d8_2 rfl fun T h22 v23 A Q24 => ?_
  obtain ⟨rfl, eh⟩ := Q24
  rw [eh] at A
  refine Wp.stk (st' := [(.ref y)]) rfl ?_
  refine s_getfield (pc' := 8) (host := "") A (Or.inl (w35 hw)) Via.refl F19 d8_5 rfl fun T A => ?_
  exact r_long A rfl d8_8 (by decide) (by decide) (⟨rfl, rfl⟩)
set_option maxRecDepth 65536 in
set_option maxHeartbeats 40000000 in
theorem note0 (l : Launch) (Z : State) (a0 : Array Value) (hw : ∀ d ∈ tables_1, d.before a0 Z = true) (n0 : Nat) (h0 : Heap) (Z0 : n0 ≤ h0.size) (a x y : Addr) (i1 n1 : Int32) (g1 t1 o1 : Int64) (i2 n2 : Int32) (g2 t2 o2 : Int64) (id : Int32) (H : SL Z n0 h0 a x y i1 n1 g1 t1 o1 i2 n2 g2 t2 o2) (hn : ¬ id = (-1 : Int32)) (h1 : i1 = id) :
    Met l Z n0 y6_note prog_84_method_6_code 2 (Option.some Jvm.ClassFile.FieldType.long) ({ frames := 1, cells := 0, slots := 0, locals := 13 } : Room) #[(.ref a), (.int id)] h0 (fun v h => v = some (.long t1) ∧ h = h0) := by
  refine met_intro (own := c1_SessionsLeft) (plainFor_of_name pn_com_example_wirefram_wirefram_sequence_SessionsLeft) rfl Z0 ?_
  intro p e s m below meth c T A hnm
  refine Wp.cast (g' := mkF m 0 #[rv a, iv id] []) (by first | (simp [entryFrame, mkF, argsToLocals, Value.category, maxLocals, jv, S2, U0, iv, rv]; done) | rfl) ?_
  obtain ⟨E1, F2, F3, ⟨E10, F11, F12, F13, F14, F15⟩, ⟨E16, F17, F18, F19, F20, F21⟩, ne4, ne5, ne6, ge7, ge8, ge9⟩ := H
  refine s_aloadN (pc' := 1) A d9_0 rfl rfl rfl ?_
  refine s_iloadN (pc' := 2) A d9_1 rfl rfl ?_
  refine s_private (pc' := 5) (y := y3_find) (argsL := [(.int id)]) (rest := []) A E1 (find0 l Z a0 hw n0 h0 A.size a x y i1 n1 g1 t1 o1 i2 n2 g2 t2 o2 id ⟨E1, F2, F3, ⟨E10, F11, F12, F13, F14, F15⟩, ⟨E16, F17, F18, F19, F20, F21⟩, ne4, ne5, ne6, ge7, ge8, ge9⟩ hn h1) (w46 hw) (w47 hw) (w6 hw) (w48 hw) (w7 hw) (w49 hw) (by decide) pd__I_Lcom_example_wirefram_wirefram_sequence_SessionsLeft_Left_ rfl (W := 0) (by decide) (by decide) (Nat.le_of_eq rfl) (by decide) (by decide) rfl rfl d9_2 rfl fun T h22 v23 A Q24 => ?_
  obtain ⟨rfl, eh⟩ := Q24
  rw [eh] at A
  refine Wp.stk (st' := [(.ref x)]) rfl ?_
  refine s_getfield (pc' := 8) (host := "") A (Or.inl (w37 hw)) Via.refl F14 d9_5 rfl fun T A => ?_
  exact r_long A rfl d9_8 (by decide) (by decide) (⟨rfl, rfl⟩)
set_option maxRecDepth 65536 in
set_option maxHeartbeats 40000000 in
theorem note1 (l : Launch) (Z : State) (a0 : Array Value) (hw : ∀ d ∈ tables_1, d.before a0 Z = true) (n0 : Nat) (h0 : Heap) (Z0 : n0 ≤ h0.size) (a x y : Addr) (i1 n1 : Int32) (g1 t1 o1 : Int64) (i2 n2 : Int32) (g2 t2 o2 : Int64) (id : Int32) (H : SL Z n0 h0 a x y i1 n1 g1 t1 o1 i2 n2 g2 t2 o2) (hn : ¬ id = (-1 : Int32)) (h1 : ¬ i1 = id) (h2 : i2 = id) :
    Met l Z n0 y6_note prog_84_method_6_code 2 (Option.some Jvm.ClassFile.FieldType.long) ({ frames := 1, cells := 0, slots := 0, locals := 13 } : Room) #[(.ref a), (.int id)] h0 (fun v h => v = some (.long t2) ∧ h = h0) := by
  refine met_intro (own := c1_SessionsLeft) (plainFor_of_name pn_com_example_wirefram_wirefram_sequence_SessionsLeft) rfl Z0 ?_
  intro p e s m below meth c T A hnm
  refine Wp.cast (g' := mkF m 0 #[rv a, iv id] []) (by first | (simp [entryFrame, mkF, argsToLocals, Value.category, maxLocals, jv, S2, U0, iv, rv]; done) | rfl) ?_
  obtain ⟨E1, F2, F3, ⟨E10, F11, F12, F13, F14, F15⟩, ⟨E16, F17, F18, F19, F20, F21⟩, ne4, ne5, ne6, ge7, ge8, ge9⟩ := H
  refine s_aloadN (pc' := 1) A d9_0 rfl rfl rfl ?_
  refine s_iloadN (pc' := 2) A d9_1 rfl rfl ?_
  refine s_private (pc' := 5) (y := y3_find) (argsL := [(.int id)]) (rest := []) A E1 (find1 l Z a0 hw n0 h0 A.size a x y i1 n1 g1 t1 o1 i2 n2 g2 t2 o2 id ⟨E1, F2, F3, ⟨E10, F11, F12, F13, F14, F15⟩, ⟨E16, F17, F18, F19, F20, F21⟩, ne4, ne5, ne6, ge7, ge8, ge9⟩ hn h1 h2) (w46 hw) (w47 hw) (w6 hw) (w48 hw) (w7 hw) (w49 hw) (by decide) pd__I_Lcom_example_wirefram_wirefram_sequence_SessionsLeft_Left_ rfl (W := 0) (by decide) (by decide) (Nat.le_of_eq rfl) (by decide) (by decide) rfl rfl d9_2 rfl fun T h22 v23 A Q24 => ?_
  obtain ⟨rfl, eh⟩ := Q24
  rw [eh] at A
  refine Wp.stk (st' := [(.ref y)]) rfl ?_
  refine s_getfield (pc' := 8) (host := "") A (Or.inl (w37 hw)) Via.refl F20 d9_5 rfl fun T A => ?_
  exact r_long A rfl d9_8 (by decide) (by decide) (⟨rfl, rfl⟩)
set_option maxRecDepth 65536 in
set_option maxHeartbeats 40000000 in
theorem order0 (l : Launch) (Z : State) (a0 : Array Value) (hw : ∀ d ∈ tables_1, d.before a0 Z = true) (n0 : Nat) (h0 : Heap) (Z0 : n0 ≤ h0.size) (a x y : Addr) (i1 n1 : Int32) (g1 t1 o1 : Int64) (i2 n2 : Int32) (g2 t2 o2 : Int64) (id : Int32) (H : SL Z n0 h0 a x y i1 n1 g1 t1 o1 i2 n2 g2 t2 o2) (hn : ¬ id = (-1 : Int32)) (h1 : i1 = id) :
    Met l Z n0 y7_order prog_84_method_7_code 2 (Option.some Jvm.ClassFile.FieldType.long) ({ frames := 1, cells := 0, slots := 0, locals := 13 } : Room) #[(.ref a), (.int id)] h0 (fun v h => v = some (.long o1) ∧ h = h0) := by
  refine met_intro (own := c1_SessionsLeft) (plainFor_of_name pn_com_example_wirefram_wirefram_sequence_SessionsLeft) rfl Z0 ?_
  intro p e s m below meth c T A hnm
  refine Wp.cast (g' := mkF m 0 #[rv a, iv id] []) (by first | (simp [entryFrame, mkF, argsToLocals, Value.category, maxLocals, jv, S2, U0, iv, rv]; done) | rfl) ?_
  obtain ⟨E1, F2, F3, ⟨E10, F11, F12, F13, F14, F15⟩, ⟨E16, F17, F18, F19, F20, F21⟩, ne4, ne5, ne6, ge7, ge8, ge9⟩ := H
  refine s_aloadN (pc' := 1) A d10_0 rfl rfl rfl ?_
  refine s_iloadN (pc' := 2) A d10_1 rfl rfl ?_
  refine s_private (pc' := 5) (y := y3_find) (argsL := [(.int id)]) (rest := []) A E1 (find0 l Z a0 hw n0 h0 A.size a x y i1 n1 g1 t1 o1 i2 n2 g2 t2 o2 id ⟨E1, F2, F3, ⟨E10, F11, F12, F13, F14, F15⟩, ⟨E16, F17, F18, F19, F20, F21⟩, ne4, ne5, ne6, ge7, ge8, ge9⟩ hn h1) (w46 hw) (w47 hw) (w6 hw) (w48 hw) (w7 hw) (w49 hw) (by decide) pd__I_Lcom_example_wirefram_wirefram_sequence_SessionsLeft_Left_ rfl (W := 0) (by decide) (by decide) (Nat.le_of_eq rfl) (by decide) (by decide) rfl rfl d10_2 rfl fun T h22 v23 A Q24 => ?_
  obtain ⟨rfl, eh⟩ := Q24
  rw [eh] at A
  refine Wp.stk (st' := [(.ref x)]) rfl ?_
  refine s_getfield (pc' := 8) (host := "") A (Or.inl (w39 hw)) Via.refl F15 d10_5 rfl fun T A => ?_
  exact r_long A rfl d10_8 (by decide) (by decide) (⟨rfl, rfl⟩)
set_option maxRecDepth 65536 in
set_option maxHeartbeats 40000000 in
theorem order1 (l : Launch) (Z : State) (a0 : Array Value) (hw : ∀ d ∈ tables_1, d.before a0 Z = true) (n0 : Nat) (h0 : Heap) (Z0 : n0 ≤ h0.size) (a x y : Addr) (i1 n1 : Int32) (g1 t1 o1 : Int64) (i2 n2 : Int32) (g2 t2 o2 : Int64) (id : Int32) (H : SL Z n0 h0 a x y i1 n1 g1 t1 o1 i2 n2 g2 t2 o2) (hn : ¬ id = (-1 : Int32)) (h1 : ¬ i1 = id) (h2 : i2 = id) :
    Met l Z n0 y7_order prog_84_method_7_code 2 (Option.some Jvm.ClassFile.FieldType.long) ({ frames := 1, cells := 0, slots := 0, locals := 13 } : Room) #[(.ref a), (.int id)] h0 (fun v h => v = some (.long o2) ∧ h = h0) := by
  refine met_intro (own := c1_SessionsLeft) (plainFor_of_name pn_com_example_wirefram_wirefram_sequence_SessionsLeft) rfl Z0 ?_
  intro p e s m below meth c T A hnm
  refine Wp.cast (g' := mkF m 0 #[rv a, iv id] []) (by first | (simp [entryFrame, mkF, argsToLocals, Value.category, maxLocals, jv, S2, U0, iv, rv]; done) | rfl) ?_
  obtain ⟨E1, F2, F3, ⟨E10, F11, F12, F13, F14, F15⟩, ⟨E16, F17, F18, F19, F20, F21⟩, ne4, ne5, ne6, ge7, ge8, ge9⟩ := H
  refine s_aloadN (pc' := 1) A d10_0 rfl rfl rfl ?_
  refine s_iloadN (pc' := 2) A d10_1 rfl rfl ?_
  refine s_private (pc' := 5) (y := y3_find) (argsL := [(.int id)]) (rest := []) A E1 (find1 l Z a0 hw n0 h0 A.size a x y i1 n1 g1 t1 o1 i2 n2 g2 t2 o2 id ⟨E1, F2, F3, ⟨E10, F11, F12, F13, F14, F15⟩, ⟨E16, F17, F18, F19, F20, F21⟩, ne4, ne5, ne6, ge7, ge8, ge9⟩ hn h1 h2) (w46 hw) (w47 hw) (w6 hw) (w48 hw) (w7 hw) (w49 hw) (by decide) pd__I_Lcom_example_wirefram_wirefram_sequence_SessionsLeft_Left_ rfl (W := 0) (by decide) (by decide) (Nat.le_of_eq rfl) (by decide) (by decide) rfl rfl d10_2 rfl fun T h22 v23 A Q24 => ?_
  obtain ⟨rfl, eh⟩ := Q24
  rw [eh] at A
  refine Wp.stk (st' := [(.ref y)]) rfl ?_
  refine s_getfield (pc' := 8) (host := "") A (Or.inl (w39 hw)) Via.refl F21 d10_5 rfl fun T A => ?_
  exact r_long A rfl d10_8 (by decide) (by decide) (⟨rfl, rfl⟩)
set_option maxRecDepth 65536 in
set_option maxHeartbeats 40000000 in
theorem m_min (l : Launch) (Z : State) (a0 : Array Value) (hw : ∀ d ∈ tables_1, d.before a0 Z = true) (n0 : Nat) (h0 : Heap) (Z0 : n0 ≤ h0.size) (u u' : Int32)  :
    Met l Z n0 y8_min jdk_29_method_69_code 2 (Option.some Jvm.ClassFile.FieldType.int) ({ frames := 0, cells := 0, slots := 0, locals := 0 } : Room) #[(.int u), (.int u')] h0 (fun v h => ∃ z : Int32, v = some (.int z) ∧ h = h0 ∧ ((u' < u ∧ z = u') ∨ (¬ u' < u ∧ z = u))) := by
  refine met_intro (own := c2_Math) (Jvm.Free.JP.mathPlain rfl (by decide +kernel)) rfl Z0 ?_
  intro p e s m below meth c T A hnm
  refine Wp.cast (g' := mkF m 0 #[iv u, iv u'] []) (by first | (simp [entryFrame, mkF, argsToLocals, Value.category, maxLocals, jv, S2, U0, iv, rv]; done) | rfl) ?_
  refine s_iloadN (pc' := 1) A d1_0 rfl rfl ?_
  refine s_iloadN (pc' := 2) A d1_1 rfl rfl ?_
  by_cases hc2_1 : u' < u
  ·
   refine s_icmpY (pc' := 9) A d1_2 (tlt hc2_1).2.2.1 (by decide) (by decide) ?_
   refine s_iloadN (pc' := 10) A d1_9 rfl rfl ?_
   exact r_int A rfl d1_10 (by decide) (by decide) (⟨_, rfl, rfl, Or.inl ⟨hc2_1, rfl⟩⟩)
  ·
   refine s_icmpN (pc' := 5) A d1_2 rfl (flt hc2_1).2.2.1 ?_
   refine s_iloadN (pc' := 6) A d1_5 rfl rfl ?_
   refine s_goto (pc' := 10) A d1_6 (by decide) (by decide) ?_
   exact r_int A rfl d1_10 (by decide) (by decide) (⟨_, rfl, rfl, Or.inr ⟨hc2_1, rfl⟩⟩)
theorem own_m4 (x : Int32) : (x &&& (3 : Int32)) = 0 ∨ (x &&& (3 : Int32)) = 1 ∨ (x &&& (3 : Int32)) = 2 ∨ (x &&& (3 : Int32)) = 3 := by
  have e := c_mask x (3 : Int32) 2 (by decide) (by decide)
  have q : (x &&& (3 : Int32)).toInt = 0 ∨ (x &&& (3 : Int32)).toInt = 1 ∨ (x &&& (3 : Int32)).toInt = 2 ∨ (x &&& (3 : Int32)).toInt = 3 := by omega
  rcases q with q | q | q | q
  · exact Or.inl (Int32.toInt_inj.mp (q.trans (by decide)))
  · exact Or.inr (Or.inl (Int32.toInt_inj.mp (q.trans (by decide))))
  · exact Or.inr (Or.inr (Or.inl (Int32.toInt_inj.mp (q.trans (by decide)))))
  · exact Or.inr (Or.inr (Or.inr (Int32.toInt_inj.mp (q.trans (by decide)))))
set_option maxRecDepth 65536 in
set_option maxHeartbeats 40000000 in
theorem rm0 (l : Launch) (Z : State) (a0 : Array Value) (hw : ∀ d ∈ tables_1, d.before a0 Z = true) (n0 : Nat) (h0 : Heap) (Z0 : n0 ≤ h0.size) (q0 q1 q2 : Int32) (q3 q4 q5 : Int64)  :
    Met l Z n0 x code maxLocals ret room_1 #[(.int q0), (.int q1), (.int q2), (.long q3), (.long q4), (.long q5)] h0 (fun v h => v = some (.int 1)) := by
  refine met_intro (own := c3_SessionsLeftLeavePinLaw) (plainFor_of_name pn_com_example_wirefram_wirefram_sequence_SessionsLeftLeavePinLaw) rfl Z0 ?_
  intro p e s m below meth c T A hnm
  refine Wp.cast (g' := mkF m 0 #[iv q0, iv q1, iv q2, jv q3, S2, jv q4, S2, jv q5, S2, U0, U0, U0, U0, U0, U0, U0, U0, U0, U0, U0, U0, U0, U0, U0, U0] []) (by first | (simp [entryFrame, mkF, argsToLocals, Value.category, maxLocals, jv, S2, U0, iv, rv]; done) | rfl) ?_
  refine s_iloadN (pc' := 1) A at_0 rfl rfl ?_
  refine s_ldcInt (pc' := 3) A at_1 rfl (w0 hw) ?_
  obtain ⟨ia, eia⟩ : ∃ z, z = (q0 &&& (65535 : Int32)) := ⟨_, rfl⟩
  have nia : ¬ ia = (-1 : Int32) := by intro q; have _ := congrArg Int32.toInt q; rw [eia] at *; have _ := rng32 q0; have _ : (65535 : Int32).toInt = 65535 := (by decide); have _ := rng32 (q0 &&& (65535 : Int32)); have _ : (q0 &&& (65535 : Int32)).toInt = q0.toInt % 65536 := c_mask q0 (65535 : Int32) 16 (by decide) (by decide); have _ : (-1 : Int32).toInt = -1 := (by decide); omega
  refine s_iand (pc' := 4) (z := ia) A at_3 rfl eia.symm ?_
  refine s_istore (pc' := 6) (Ls' := #[iv q0, iv q1, iv q2, jv q3, S2, jv q4, S2, jv q5, S2, iv ia, U0, U0, U0, U0, U0, U0, U0, U0, U0, U0, U0, U0, U0, U0, U0]) A at_4 rfl rfl ?_
  refine s_iloadN (pc' := 7) A at_6 rfl rfl ?_
  refine s_bipush (pc' := 9) (z := (16 : Int32)) A at_7 rfl (by decide) ?_
  refine s_iushr (pc' := 10) (z := (ush q0 (16 : Int32))) A at_9 rfl rfl ?_
  refine s_ldcInt (pc' := 12) A at_10 rfl (w0 hw) ?_
  obtain ⟨ib, eib⟩ : ∃ z, z = ((ush q0 (16 : Int32)) &&& (65535 : Int32)) := ⟨_, rfl⟩
  have nib : ¬ ib = (-1 : Int32) := by intro q; have _ := congrArg Int32.toInt q; rw [eib] at *; have _ := rng32 q0; have _ : (16 : Int32).toInt = 16 := (by decide); have _ := rng32 (ush q0 (16 : Int32)); have _ : (ush q0 (16 : Int32)).toInt = (q0.toInt % 4294967296) / 65536 := c_iushr q0 (16 : Int32) 16 (by decide) (by decide); have _ : (65535 : Int32).toInt = 65535 := (by decide); have _ := rng32 ((ush q0 (16 : Int32)) &&& (65535 : Int32)); have _ : ((ush q0 (16 : Int32)) &&& (65535 : Int32)).toInt = (ush q0 (16 : Int32)).toInt % 65536 := c_mask (ush q0 (16 : Int32)) (65535 : Int32) 16 (by decide) (by decide); have _ : (-1 : Int32).toInt = -1 := (by decide); omega
  refine s_iand (pc' := 13) (z := ib) A at_12 rfl eib.symm ?_
  refine s_istore (pc' := 15) (Ls' := #[iv q0, iv q1, iv q2, jv q3, S2, jv q4, S2, jv q5, S2, iv ia, iv ib, U0, U0, U0, U0, U0, U0, U0, U0, U0, U0, U0, U0, U0, U0]) A at_13 rfl rfl ?_
  refine s_iloadN (pc' := 16) A at_15 rfl rfl ?_
  refine s_ldcInt (pc' := 18) A at_16 rfl (w0 hw) ?_
  obtain ⟨ic, eic⟩ : ∃ z, z = (q1 &&& (65535 : Int32)) := ⟨_, rfl⟩
  have nic : ¬ ic = (-1 : Int32) := by intro q; have _ := congrArg Int32.toInt q; rw [eic] at *; have _ := rng32 q1; have _ : (65535 : Int32).toInt = 65535 := (by decide); have _ := rng32 (q1 &&& (65535 : Int32)); have _ : (q1 &&& (65535 : Int32)).toInt = q1.toInt % 65536 := c_mask q1 (65535 : Int32) 16 (by decide) (by decide); have _ : (-1 : Int32).toInt = -1 := (by decide); omega
  refine s_iand (pc' := 19) (z := ic) A at_18 rfl eic.symm ?_
  refine s_istore (pc' := 21) (Ls' := #[iv q0, iv q1, iv q2, jv q3, S2, jv q4, S2, jv q5, S2, iv ia, iv ib, iv ic, U0, U0, U0, U0, U0, U0, U0, U0, U0, U0, U0, U0, U0]) A at_19 rfl rfl ?_
  refine s_iloadN (pc' := 22) A at_21 rfl rfl ?_
  refine s_iconst (pc' := 23) (z := (3 : Int32)) A at_22 rfl (by decide) ?_
  obtain ⟨ff, eff⟩ : ∃ z, z = (q2 &&& (3 : Int32)) := ⟨_, rfl⟩
  have cff := own_m4 q2
  rw [← eff] at cff
  refine s_iand (pc' := 24) (z := ff) A at_23 rfl eff.symm ?_
  refine s_iconst (pc' := 25) (z := (2 : Int32)) A at_24 rfl (by decide) ?_
  refine s_static (pc' := 28) (y := y8_min) (argsL := [(.int ff), (.int (2 : Int32))]) (rest := []) A (m_min l Z a0 hw n0 h0 A.size ff (2 : Int32)) (w1 hw) (w2 hw) (w3 hw) (w4 hw) (by decide) pd__II_I rfl (W := 0) (by decide) (by decide) (Nat.le_of_eq rfl) (by decide) (by decide) rfl rfl at_25 rfl fun T h1 v2 A Q3 => ?_
  obtain ⟨kk, rfl, eh, hk⟩ := Q3
  rw [eh] at A
  refine Wp.stk (st' := [(.int kk)]) rfl ?_
  have ck : kk = 0 ∨ kk = 1 ∨ kk = 2 := by
   rcases cff with rfl | rfl | rfl | rfl <;> rcases hk with ⟨q, rfl⟩ | ⟨q, rfl⟩ <;> first | exact Or.inl rfl | exact Or.inr (Or.inl rfl) | exact Or.inr (Or.inr rfl) | exact absurd q (by decide)
  clear hk cff eff
  rcases ck with rfl | rfl | rfl
  ·
   refine s_istore (pc' := 30) (Ls' := #[iv q0, iv q1, iv q2, jv q3, S2, jv q4, S2, jv q5, S2, iv ia, iv ib, iv ic, iv 0, U0, U0, U0, U0, U0, U0, U0, U0, U0, U0, U0, U0]) A at_28 rfl rfl ?_
   refine s_iloadN (pc' := 31) A at_30 rfl rfl ?_
   refine s_iconst (pc' := 32) (z := (2 : Int32)) A at_31 rfl (by decide) ?_
   refine s_iushr (pc' := 33) (z := (ush q2 (2 : Int32))) A at_32 rfl rfl ?_
   refine s_iconst (pc' := 34) (z := (1 : Int32)) A at_33 rfl (by decide) ?_
   refine s_iand (pc' := 35) (z := ((ush q2 (2 : Int32)) &&& (1 : Int32))) A at_34 rfl rfl ?_
   suffices dm35 : ∀ la : Int32, (la = 0 ∨ la = 1) → Wp p e below s n0 room_1.cells room_1.slots (fun v h => v = some (.int 1)) (T.setTop (mkF m 43 #[iv q0, iv q1, iv q2, jv q3, S2, jv q4, S2, jv q5, S2, iv ia, iv ib, iv ic, iv 0, U0, U0, U0, U0, U0, U0, U0, U0, U0, U0, U0, U0] [.int la])) by
    by_cases hc35_1 : ((ush q2 (2 : Int32)) &&& (1 : Int32)) = (0 : Int32)
    ·
     refine s_ifY (pc' := 42) A at_35 ((if0 _ _).trans (teq hc35_1).1) (by decide) (by decide) ?_
     refine s_iconst (pc' := 43) (z := (0 : Int32)) A at_42 rfl (by decide) ?_
     exact dm35 _ (Or.inl rfl)
    ·
     refine s_ifN (pc' := 38) A at_35 rfl ((if0 _ _).trans (feq hc35_1).1) ?_
     refine s_iconst (pc' := 39) (z := (1 : Int32)) A at_38 rfl (by decide) ?_
     refine s_goto (pc' := 43) A at_39 (by decide) (by decide) ?_
     exact dm35 _ (Or.inr rfl)
   intro la hla
   refine s_istore (pc' := 45) (Ls' := #[iv q0, iv q1, iv q2, jv q3, S2, jv q4, S2, jv q5, S2, iv ia, iv ib, iv ic, iv 0, iv la, U0, U0, U0, U0, U0, U0, U0, U0, U0, U0, U0]) A at_43 rfl rfl ?_
   refine s_iloadN (pc' := 46) A at_45 rfl rfl ?_
   refine s_iconst (pc' := 47) (z := (3 : Int32)) A at_46 rfl (by decide) ?_
   refine s_iushr (pc' := 48) (z := (ush q2 (3 : Int32))) A at_47 rfl rfl ?_
   refine s_iconst (pc' := 49) (z := (1 : Int32)) A at_48 rfl (by decide) ?_
   refine s_iand (pc' := 50) (z := ((ush q2 (3 : Int32)) &&& (1 : Int32))) A at_49 rfl rfl ?_
   by_cases hc50_1 : ((ush q2 (3 : Int32)) &&& (1 : Int32)) = (0 : Int32)
   ·
    refine s_ifY (pc' := 57) A at_50 ((if0 _ _).trans (teq hc50_1).1) (by decide) (by decide) ?_
    refine s_iconst (pc' := 58) (z := (0 : Int32)) A at_57 rfl (by decide) ?_
    refine s_istore (pc' := 60) (Ls' := #[iv q0, iv q1, iv q2, jv q3, S2, jv q4, S2, jv q5, S2, iv ia, iv ib, iv ic, iv 0, iv la, iv 0, U0, U0, U0, U0, U0, U0, U0, U0, U0, U0]) A at_58 rfl rfl ?_
    refine s_iloadN (pc' := 61) A at_60 rfl rfl ?_
    refine s_iconst (pc' := 62) (z := (4 : Int32)) A at_61 rfl (by decide) ?_
    refine s_iushr (pc' := 63) (z := (ush q2 (4 : Int32))) A at_62 rfl rfl ?_
    refine s_iconst (pc' := 64) (z := (1 : Int32)) A at_63 rfl (by decide) ?_
    refine s_iand (pc' := 65) (z := ((ush q2 (4 : Int32)) &&& (1 : Int32))) A at_64 rfl rfl ?_
    suffices dm65 : ∀ lc : Int32, (lc = 0 ∨ lc = 1) → Wp p e below s n0 room_1.cells room_1.slots (fun v h => v = some (.int 1)) (T.setTop (mkF m 73 #[iv q0, iv q1, iv q2, jv q3, S2, jv q4, S2, jv q5, S2, iv ia, iv ib, iv ic, iv 0, iv la, iv 0, U0, U0, U0, U0, U0, U0, U0, U0, U0, U0] [.int lc])) by
     by_cases hc65_1 : ((ush q2 (4 : Int32)) &&& (1 : Int32)) = (0 : Int32)
     ·
      refine s_ifY (pc' := 72) A at_65 ((if0 _ _).trans (teq hc65_1).1) (by decide) (by decide) ?_
      refine s_iconst (pc' := 73) (z := (0 : Int32)) A at_72 rfl (by decide) ?_
      exact dm65 _ (Or.inl rfl)
     ·
      refine s_ifN (pc' := 68) A at_65 rfl ((if0 _ _).trans (feq hc65_1).1) ?_
      refine s_iconst (pc' := 69) (z := (1 : Int32)) A at_68 rfl (by decide) ?_
      refine s_goto (pc' := 73) A at_69 (by decide) (by decide) ?_
      exact dm65 _ (Or.inr rfl)
    intro lc hlc
    refine s_istore (pc' := 75) (Ls' := #[iv q0, iv q1, iv q2, jv q3, S2, jv q4, S2, jv q5, S2, iv ia, iv ib, iv ic, iv 0, iv la, iv 0, iv lc, U0, U0, U0, U0, U0, U0, U0, U0, U0]) A at_73 rfl rfl ?_
    refine s_new (pc' := 78) A (w5 hw) (w6 hw) (w7 hw) (by decide) (by decide) at_75 rfl fun T h4 b5 A g6 ge7 X8 E9 D10 => ?_
    have F11 : Fld Z h4 b5 "com/example/wirefram/wirefram/sequence/SessionsLeft" "last" "Lcom/example/wirefram/wirefram/sequence/SessionsLeft$Left;" .null := D10 (Or.inl (w24 hw)) (ty := (.object "com/example/wirefram/wirefram/sequence/SessionsLeft$Left")) (by decide)
    have F12 : Fld Z h4 b5 "com/example/wirefram/wirefram/sequence/SessionsLeft" "before" "Lcom/example/wirefram/wirefram/sequence/SessionsLeft$Left;" .null := D10 (Or.inl (w26 hw)) (ty := (.object "com/example/wirefram/wirefram/sequence/SessionsLeft$Left")) (by decide)
    refine s_dup (pc' := 79) A at_78 rfl rfl ?_
    refine s_special (pc' := 82) (y := y1_init) (argsL := []) (rest := [(.ref b5)]) A (ss_new l Z a0 hw n0 h4 A.size b5 E9 F11 F12 ge7) rfl (w8 hw) (w9 hw) (w7 hw) (w10 hw) (by decide) pd___V rfl (W := 1) (by decide) (by decide) (Nat.le_of_eq rfl) (by decide) (by decide) rfl rfl at_79 rfl fun T h17 v18 A Q19 => ?_
    obtain ⟨rfl, K13, b15, b16, H14⟩ := Q19
    obtain ⟨E20, F21, F22, ⟨E29, F30, F31, F32, F33, F34⟩, ⟨E35, F36, F37, F38, F39, F40⟩, ne23, ne24, ne25, ge26, ge27, ge28⟩ := H14
    refine Wp.stk (st' := [(.ref b5)]) rfl ?_
    refine s_astore (pc' := 84) (Ls' := #[iv q0, iv q1, iv q2, jv q3, S2, jv q4, S2, jv q5, S2, iv ia, iv ib, iv ic, iv 0, iv la, iv 0, iv lc, rv b5, U0, U0, U0, U0, U0, U0, U0, U0]) A at_82 rfl rfl rfl ?_
    refine s_iload (pc' := 86) A at_84 rfl rfl ?_
    refine s_iconst (pc' := 87) (z := (1 : Int32)) A at_86 rfl (by decide) ?_
    refine s_icmpY (pc' := 104) A at_87 (by decide) (by decide) (by decide) ?_
    refine s_iload (pc' := 106) A at_104 rfl rfl ?_
    refine s_iconst (pc' := 107) (z := (2 : Int32)) A at_106 rfl (by decide) ?_
    refine s_icmpY (pc' := 124) A at_107 (by decide) (by decide) (by decide) ?_
    refine s_aload (pc' := 126) A at_124 rfl rfl rfl ?_
    refine s_iload (pc' := 128) A at_126 rfl rfl ?_
    refine s_iload (pc' := 130) A at_128 rfl rfl ?_
    refine s_lloadN (pc' := 131) A at_130 rfl rfl ?_
    refine s_lload (pc' := 133) A at_131 rfl rfl ?_
    refine s_lload (pc' := 135) A at_133 rfl rfl ?_
    refine s_virtual (pc' := 138) (y := y2_leave) (argsL := [(.int ic), (.int lc), (.long q3), (.long q4), (.long q5)]) (rest := []) (z := y2_leave) A E20 (leave0 l Z a0 hw n0 h17 A.size b5 b15 b16 (-1 : Int32) (0 : Int32) (0 : Int64) (0 : Int64) (0 : Int64) (-1 : Int32) (0 : Int32) (0 : Int64) (0 : Int64) (0 : Int64) ic lc q3 q4 q5 ⟨E20, F21, F22, ⟨E29, F30, F31, F32, F33, F34⟩, ⟨E35, F36, F37, F38, F39, F40⟩, ne23, ne24, ne25, ge26, ge27, ge28⟩ hlc rfl) (w27 hw) (w28 hw) (nf_same (C := "") (w30 hw)) (w30 hw) (w29 hw) (w7 hw) (w31 hw) (by decide) pd__IZJJJ_V rfl (W := 0) (by decide) (by decide) (Nat.le_of_eq rfl) (by decide) (by decide) rfl rfl at_135 rfl fun T h43 v44 A Q45 => ?_
    obtain ⟨rfl, K41, H42⟩ := Q45
    obtain ⟨E46, F47, F48, ⟨E55, F56, F57, F58, F59, F60⟩, ⟨E61, F62, F63, F64, F65, F66⟩, ne49, ne50, ne51, ge52, ge53, ge54⟩ := H42
    refine Wp.stk (st' := []) rfl ?_
    refine s_iload (pc' := 140) A at_138 rfl rfl ?_
    refine s_iconst (pc' := 141) (z := (1 : Int32)) A at_140 rfl (by decide) ?_
    refine s_icmpY (pc' := 148) A at_141 (by decide) (by decide) (by decide) ?_
    refine s_iconst (pc' := 149) (z := (0 : Int32)) A at_148 rfl (by decide) ?_
    refine s_istore (pc' := 151) (Ls' := #[iv q0, iv q1, iv q2, jv q3, S2, jv q4, S2, jv q5, S2, iv ia, iv ib, iv ic, iv 0, iv la, iv 0, iv lc, rv b5, iv 0, U0, U0, U0, U0, U0, U0, U0]) A at_149 rfl rfl ?_
    refine s_iload (pc' := 153) A at_151 rfl rfl ?_
    refine s_iconst (pc' := 154) (z := (2 : Int32)) A at_153 rfl (by decide) ?_
    refine s_icmpY (pc' := 166) A at_154 (by decide) (by decide) (by decide) ?_
    refine s_iconst (pc' := 167) (z := (0 : Int32)) A at_166 rfl (by decide) ?_
    refine s_istore (pc' := 169) (Ls' := #[iv q0, iv q1, iv q2, jv q3, S2, jv q4, S2, jv q5, S2, iv ia, iv ib, iv ic, iv 0, iv la, iv 0, iv lc, rv b5, iv 0, iv 0, U0, U0, U0, U0, U0, U0]) A at_167 rfl rfl ?_
    refine s_iload (pc' := 171) A at_169 rfl rfl ?_
    refine s_ifY (pc' := 179) A at_171 (by decide) (by decide) (by decide) ?_
    refine s_iload (pc' := 181) A at_179 rfl rfl ?_
    refine s_istore (pc' := 183) (Ls' := #[iv q0, iv q1, iv q2, jv q3, S2, jv q4, S2, jv q5, S2, iv ia, iv ib, iv ic, iv 0, iv la, iv 0, iv lc, rv b5, iv 0, iv 0, iv ia, U0, U0, U0, U0, U0]) A at_181 rfl rfl ?_
    refine s_iload (pc' := 185) A at_183 rfl rfl ?_
    refine s_ifY (pc' := 193) A at_185 (by decide) (by decide) (by decide) ?_
    refine s_lload (pc' := 195) A at_193 rfl rfl ?_
    refine s_lstore (pc' := 197) (Ls' := #[iv q0, iv q1, iv q2, jv q3, S2, jv q4, S2, jv q5, S2, iv ia, iv ib, iv ic, iv 0, iv la, iv 0, iv lc, rv b5, iv 0, iv 0, iv ia, jv q4, S2, U0, U0, U0]) A at_195 rfl rfl ?_
    refine s_iload (pc' := 199) A at_197 rfl rfl ?_
    refine s_ifY (pc' := 207) A at_199 (by decide) (by decide) (by decide) ?_
    refine s_lloadN (pc' := 208) A at_207 rfl rfl ?_
    refine s_lstore (pc' := 210) (Ls' := #[iv q0, iv q1, iv q2, jv q3, S2, jv q4, S2, jv q5, S2, iv ia, iv ib, iv ic, iv 0, iv la, iv 0, iv lc, rv b5, iv 0, iv 0, iv ia, jv q4, S2, jv q3, S2, U0]) A at_208 rfl rfl ?_
    refine s_aload (pc' := 212) A at_210 rfl rfl rfl ?_
    refine s_iload (pc' := 214) A at_212 rfl rfl ?_
    refine s_virtual (pc' := 217) (y := y4_remembers) (argsL := [(.int ic)]) (rest := []) (z := y4_remembers) A E46 (remembers0 l Z a0 hw n0 h43 A.size b5 b15 b16 ic lc q3 q4 q5 (-1 : Int32) (0 : Int32) (0 : Int64) (0 : Int64) (0 : Int64) ic ⟨E46, F47, F48, ⟨E55, F56, F57, F58, F59, F60⟩, ⟨E61, F62, F63, F64, F65, F66⟩, ne49, ne50, ne51, ge52, ge53, ge54⟩ nic rfl) (w41 hw) (w42 hw) (nf_same (C := "") (w44 hw)) (w44 hw) (w43 hw) (w7 hw) (w45 hw) (by decide) pd__I_Z rfl (W := 0) (by decide) (by decide) (Nat.le_of_eq rfl) (by decide) (by decide) rfl rfl at_214 rfl fun T h67 v68 A Q69 => ?_
    obtain ⟨rfl, eh⟩ := Q69
    rw [eh] at A
    refine Wp.stk (st' := [(.int (1 : Int32))]) rfl ?_
    refine s_ifN (pc' := 220) A at_217 rfl (by decide) ?_
    refine s_aload (pc' := 222) A at_220 rfl rfl rfl ?_
    refine s_iload (pc' := 224) A at_222 rfl rfl ?_
    refine s_virtual (pc' := 227) (y := y5_highest) (argsL := [(.int ic)]) (rest := []) (z := y5_highest) A E46 (highest0 l Z a0 hw n0 h43 A.size b5 b15 b16 ic lc q3 q4 q5 (-1 : Int32) (0 : Int32) (0 : Int64) (0 : Int64) (0 : Int64) ic ⟨E46, F47, F48, ⟨E55, F56, F57, F58, F59, F60⟩, ⟨E61, F62, F63, F64, F65, F66⟩, ne49, ne50, ne51, ge52, ge53, ge54⟩ nic rfl) (w50 hw) (w51 hw) (nf_same (C := "") (w53 hw)) (w53 hw) (w52 hw) (w7 hw) (w54 hw) (by decide) pd__I_J rfl (W := 0) (by decide) (by decide) (Nat.le_of_eq rfl) (by decide) (by decide) rfl rfl at_224 rfl fun T h70 v71 A Q72 => ?_
    obtain ⟨rfl, eh⟩ := Q72
    rw [eh] at A
    refine Wp.stk (st' := [(.long q3)]) rfl ?_
    refine s_lloadN (pc' := 228) A at_227 rfl rfl ?_
    refine s_lcmp (pc' := 229) A at_228 rfl ?_
    refine s_ifN (pc' := 232) A at_229 rfl ((if0 _ _).trans (teq ((lw_eq q3 q3).2 (rfl : q3 = q3))).2) ?_
    refine s_aload (pc' := 234) A at_232 rfl rfl rfl ?_
    refine s_iload (pc' := 236) A at_234 rfl rfl ?_
    refine s_virtual (pc' := 239) (y := y6_note) (argsL := [(.int ic)]) (rest := []) (z := y6_note) A E46 (note0 l Z a0 hw n0 h43 A.size b5 b15 b16 ic lc q3 q4 q5 (-1 : Int32) (0 : Int32) (0 : Int64) (0 : Int64) (0 : Int64) ic ⟨E46, F47, F48, ⟨E55, F56, F57, F58, F59, F60⟩, ⟨E61, F62, F63, F64, F65, F66⟩, ne49, ne50, ne51, ge52, ge53, ge54⟩ nic rfl) (w55 hw) (w56 hw) (nf_same (C := "") (w58 hw)) (w58 hw) (w57 hw) (w7 hw) (w59 hw) (by decide) pd__I_J rfl (W := 0) (by decide) (by decide) (Nat.le_of_eq rfl) (by decide) (by decide) rfl rfl at_236 rfl fun T h73 v74 A Q75 => ?_
    obtain ⟨rfl, eh⟩ := Q75
    rw [eh] at A
    refine Wp.stk (st' := [(.long q4)]) rfl ?_
    refine s_lload (pc' := 241) A at_239 rfl rfl ?_
    refine s_lcmp (pc' := 242) A at_241 rfl ?_
    refine s_ifN (pc' := 245) A at_242 rfl ((if0 _ _).trans (teq ((lw_eq q4 q4).2 (rfl : q4 = q4))).2) ?_
    refine s_aload (pc' := 247) A at_245 rfl rfl rfl ?_
    refine s_iload (pc' := 249) A at_247 rfl rfl ?_
    refine s_virtual (pc' := 252) (y := y7_order) (argsL := [(.int ic)]) (rest := []) (z := y7_order) A E46 (order0 l Z a0 hw n0 h43 A.size b5 b15 b16 ic lc q3 q4 q5 (-1 : Int32) (0 : Int32) (0 : Int64) (0 : Int64) (0 : Int64) ic ⟨E46, F47, F48, ⟨E55, F56, F57, F58, F59, F60⟩, ⟨E61, F62, F63, F64, F65, F66⟩, ne49, ne50, ne51, ge52, ge53, ge54⟩ nic rfl) (w60 hw) (w61 hw) (nf_same (C := "") (w63 hw)) (w63 hw) (w62 hw) (w7 hw) (w64 hw) (by decide) pd__I_J rfl (W := 0) (by decide) (by decide) (Nat.le_of_eq rfl) (by decide) (by decide) rfl rfl at_249 rfl fun T h76 v77 A Q78 => ?_
    obtain ⟨rfl, eh⟩ := Q78
    rw [eh] at A
    refine Wp.stk (st' := [(.long q5)]) rfl ?_
    refine s_lload (pc' := 254) A at_252 rfl rfl ?_
    refine s_lcmp (pc' := 255) A at_254 rfl ?_
    refine s_ifN (pc' := 258) A at_255 rfl ((if0 _ _).trans (teq ((lw_eq q5 q5).2 (rfl : q5 = q5))).2) ?_
    refine s_iconst (pc' := 259) (z := (1 : Int32)) A at_258 rfl (by decide) ?_
    refine s_goto (pc' := 263) A at_259 (by decide) (by decide) ?_
    refine s_istore (pc' := 265) (Ls' := #[iv q0, iv q1, iv q2, jv q3, S2, jv q4, S2, jv q5, S2, iv ia, iv ib, iv ic, iv 0, iv la, iv 0, iv lc, rv b5, iv 0, iv 0, iv ia, jv q4, S2, jv q3, S2, iv 1]) A at_263 rfl rfl ?_
    refine s_iload (pc' := 267) A at_265 rfl rfl ?_
    refine s_ifN (pc' := 270) A at_267 rfl (by decide) ?_
    refine s_aload (pc' := 272) A at_270 rfl rfl rfl ?_
    refine s_iload (pc' := 274) A at_272 rfl rfl ?_
    by_cases hs274 : ic = ia
    ·
     refine s_virtual (pc' := 277) (y := y4_remembers) (argsL := [(.int ia)]) (rest := []) (z := y4_remembers) A E46 (remembers0 l Z a0 hw n0 h43 A.size b5 b15 b16 ic lc q3 q4 q5 (-1 : Int32) (0 : Int32) (0 : Int64) (0 : Int64) (0 : Int64) ia ⟨E46, F47, F48, ⟨E55, F56, F57, F58, F59, F60⟩, ⟨E61, F62, F63, F64, F65, F66⟩, ne49, ne50, ne51, ge52, ge53, ge54⟩ nia hs274) (w41 hw) (w42 hw) (nf_same (C := "") (w44 hw)) (w44 hw) (w43 hw) (w7 hw) (w45 hw) (by decide) pd__I_Z rfl (W := 0) (by decide) (by decide) (Nat.le_of_eq rfl) (by decide) (by decide) rfl rfl at_274 rfl fun T h79 v80 A Q81 => ?_
     obtain ⟨rfl, eh⟩ := Q81
     rw [eh] at A
     refine Wp.stk (st' := [(.int (1 : Int32))]) rfl ?_
     refine s_iload (pc' := 279) A at_277 rfl rfl ?_
     refine s_iload (pc' := 281) A at_279 rfl rfl ?_
     refine s_icmpY (pc' := 296) A at_281 (teq hs274.symm).1 (by decide) (by decide) ?_
     refine s_iconst (pc' := 297) (z := (1 : Int32)) A at_296 rfl (by decide) ?_
     refine s_goto (pc' := 301) A at_297 (by decide) (by decide) ?_
     refine s_icmpN (pc' := 304) A at_301 rfl (by decide) ?_
     refine s_iconst (pc' := 305) (z := (1 : Int32)) A at_304 rfl (by decide) ?_
     refine s_goto (pc' := 309) A at_305 (by decide) (by decide) ?_
     refine s_istore (pc' := 311) (Ls' := #[iv q0, iv q1, iv q2, jv q3, S2, jv q4, S2, jv q5, S2, iv ia, iv ib, iv ic, iv 0, iv la, iv 0, iv lc, rv b5, iv 0, iv 0, iv ia, jv q4, S2, jv q3, S2, iv 1]) A at_309 rfl rfl ?_
     refine s_iload (pc' := 313) A at_311 rfl rfl ?_
     refine s_ifN (pc' := 316) A at_313 rfl (by decide) ?_
     refine s_aload (pc' := 318) A at_316 rfl rfl rfl ?_
     refine s_iload (pc' := 320) A at_318 rfl rfl ?_
     by_cases hs320 : ic = ib
     ·
      refine s_virtual (pc' := 323) (y := y4_remembers) (argsL := [(.int ib)]) (rest := []) (z := y4_remembers) A E46 (remembers0 l Z a0 hw n0 h43 A.size b5 b15 b16 ic lc q3 q4 q5 (-1 : Int32) (0 : Int32) (0 : Int64) (0 : Int64) (0 : Int64) ib ⟨E46, F47, F48, ⟨E55, F56, F57, F58, F59, F60⟩, ⟨E61, F62, F63, F64, F65, F66⟩, ne49, ne50, ne51, ge52, ge53, ge54⟩ nib hs320) (w41 hw) (w42 hw) (nf_same (C := "") (w44 hw)) (w44 hw) (w43 hw) (w7 hw) (w45 hw) (by decide) pd__I_Z rfl (W := 0) (by decide) (by decide) (Nat.le_of_eq rfl) (by decide) (by decide) rfl rfl at_320 rfl fun T h82 v83 A Q84 => ?_
      obtain ⟨rfl, eh⟩ := Q84
      rw [eh] at A
      refine Wp.stk (st' := [(.int (1 : Int32))]) rfl ?_
      refine s_iload (pc' := 325) A at_323 rfl rfl ?_
      refine s_iload (pc' := 327) A at_325 rfl rfl ?_
      refine s_icmpY (pc' := 342) A at_327 (teq hs320.symm).1 (by decide) (by decide) ?_
      refine s_iconst (pc' := 343) (z := (1 : Int32)) A at_342 rfl (by decide) ?_
      refine s_goto (pc' := 347) A at_343 (by decide) (by decide) ?_
      refine s_icmpN (pc' := 350) A at_347 rfl (by decide) ?_
      refine s_iconst (pc' := 351) (z := (1 : Int32)) A at_350 rfl (by decide) ?_
      refine s_goto (pc' := 355) A at_351 (by decide) (by decide) ?_
      refine s_istore (pc' := 357) (Ls' := #[iv q0, iv q1, iv q2, jv q3, S2, jv q4, S2, jv q5, S2, iv ia, iv ib, iv ic, iv 0, iv la, iv 0, iv lc, rv b5, iv 0, iv 0, iv ia, jv q4, S2, jv q3, S2, iv 1]) A at_355 rfl rfl ?_
      refine s_iload (pc' := 359) A at_357 rfl rfl ?_
      refine s_ifN (pc' := 362) A at_359 rfl (by decide) ?_
      refine s_iload (pc' := 364) A at_362 rfl rfl ?_
      refine s_ifY (pc' := 407) A at_364 (by decide) (by decide) (by decide) ?_
      refine s_iload (pc' := 409) A at_407 rfl rfl ?_
      exact r_bool A rfl (by decide) at_409 (by decide) (by decide) (rfl)
     ·
      refine s_virtual (pc' := 323) (y := y4_remembers) (argsL := [(.int ib)]) (rest := []) (z := y4_remembers) A E46 (remembers2 l Z a0 hw n0 h43 A.size b5 b15 b16 ic lc q3 q4 q5 (-1 : Int32) (0 : Int32) (0 : Int64) (0 : Int64) (0 : Int64) ib ⟨E46, F47, F48, ⟨E55, F56, F57, F58, F59, F60⟩, ⟨E61, F62, F63, F64, F65, F66⟩, ne49, ne50, ne51, ge52, ge53, ge54⟩ nib hs320 (fun q => nib q.symm)) (w41 hw) (w42 hw) (nf_same (C := "") (w44 hw)) (w44 hw) (w43 hw) (w7 hw) (w45 hw) (by decide) pd__I_Z rfl (W := 0) (by decide) (by decide) (Nat.le_of_eq rfl) (by decide) (by decide) rfl rfl at_320 rfl fun T h85 v86 A Q87 => ?_
      obtain ⟨rfl, eh⟩ := Q87
      rw [eh] at A
      refine Wp.stk (st' := [(.int (0 : Int32))]) rfl ?_
      refine s_iload (pc' := 325) A at_323 rfl rfl ?_
      refine s_iload (pc' := 327) A at_325 rfl rfl ?_
      refine s_icmpN (pc' := 330) A at_327 rfl (feq (fun q => hs320 q.symm)).1 ?_
      refine s_iload (pc' := 332) A at_330 rfl rfl ?_
      refine s_ifY (pc' := 346) A at_332 (by decide) (by decide) (by decide) ?_
      refine s_iconst (pc' := 347) (z := (0 : Int32)) A at_346 rfl (by decide) ?_
      refine s_icmpN (pc' := 350) A at_347 rfl (by decide) ?_
      refine s_iconst (pc' := 351) (z := (1 : Int32)) A at_350 rfl (by decide) ?_
      refine s_goto (pc' := 355) A at_351 (by decide) (by decide) ?_
      refine s_istore (pc' := 357) (Ls' := #[iv q0, iv q1, iv q2, jv q3, S2, jv q4, S2, jv q5, S2, iv ia, iv ib, iv ic, iv 0, iv la, iv 0, iv lc, rv b5, iv 0, iv 0, iv ia, jv q4, S2, jv q3, S2, iv 1]) A at_355 rfl rfl ?_
      refine s_iload (pc' := 359) A at_357 rfl rfl ?_
      refine s_ifN (pc' := 362) A at_359 rfl (by decide) ?_
      refine s_iload (pc' := 364) A at_362 rfl rfl ?_
      refine s_ifY (pc' := 407) A at_364 (by decide) (by decide) (by decide) ?_
      refine s_iload (pc' := 409) A at_407 rfl rfl ?_
      exact r_bool A rfl (by decide) at_409 (by decide) (by decide) (rfl)
    ·
     refine s_virtual (pc' := 277) (y := y4_remembers) (argsL := [(.int ia)]) (rest := []) (z := y4_remembers) A E46 (remembers2 l Z a0 hw n0 h43 A.size b5 b15 b16 ic lc q3 q4 q5 (-1 : Int32) (0 : Int32) (0 : Int64) (0 : Int64) (0 : Int64) ia ⟨E46, F47, F48, ⟨E55, F56, F57, F58, F59, F60⟩, ⟨E61, F62, F63, F64, F65, F66⟩, ne49, ne50, ne51, ge52, ge53, ge54⟩ nia hs274 (fun q => nia q.symm)) (w41 hw) (w42 hw) (nf_same (C := "") (w44 hw)) (w44 hw) (w43 hw) (w7 hw) (w45 hw) (by decide) pd__I_Z rfl (W := 0) (by decide) (by decide) (Nat.le_of_eq rfl) (by decide) (by decide) rfl rfl at_274 rfl fun T h88 v89 A Q90 => ?_
     obtain ⟨rfl, eh⟩ := Q90
     rw [eh] at A
     refine Wp.stk (st' := [(.int (0 : Int32))]) rfl ?_
     refine s_iload (pc' := 279) A at_277 rfl rfl ?_
     refine s_iload (pc' := 281) A at_279 rfl rfl ?_
     refine s_icmpN (pc' := 284) A at_281 rfl (feq (fun q => hs274 q.symm)).1 ?_
     refine s_iload (pc' := 286) A at_284 rfl rfl ?_
     refine s_ifY (pc' := 300) A at_286 (by decide) (by decide) (by decide) ?_
     refine s_iconst (pc' := 301) (z := (0 : Int32)) A at_300 rfl (by decide) ?_
     refine s_icmpN (pc' := 304) A at_301 rfl (by decide) ?_
     refine s_iconst (pc' := 305) (z := (1 : Int32)) A at_304 rfl (by decide) ?_
     refine s_goto (pc' := 309) A at_305 (by decide) (by decide) ?_
     refine s_istore (pc' := 311) (Ls' := #[iv q0, iv q1, iv q2, jv q3, S2, jv q4, S2, jv q5, S2, iv ia, iv ib, iv ic, iv 0, iv la, iv 0, iv lc, rv b5, iv 0, iv 0, iv ia, jv q4, S2, jv q3, S2, iv 1]) A at_309 rfl rfl ?_
     refine s_iload (pc' := 313) A at_311 rfl rfl ?_
     refine s_ifN (pc' := 316) A at_313 rfl (by decide) ?_
     refine s_aload (pc' := 318) A at_316 rfl rfl rfl ?_
     refine s_iload (pc' := 320) A at_318 rfl rfl ?_
     by_cases hs320 : ic = ib
     ·
      refine s_virtual (pc' := 323) (y := y4_remembers) (argsL := [(.int ib)]) (rest := []) (z := y4_remembers) A E46 (remembers0 l Z a0 hw n0 h43 A.size b5 b15 b16 ic lc q3 q4 q5 (-1 : Int32) (0 : Int32) (0 : Int64) (0 : Int64) (0 : Int64) ib ⟨E46, F47, F48, ⟨E55, F56, F57, F58, F59, F60⟩, ⟨E61, F62, F63, F64, F65, F66⟩, ne49, ne50, ne51, ge52, ge53, ge54⟩ nib hs320) (w41 hw) (w42 hw) (nf_same (C := "") (w44 hw)) (w44 hw) (w43 hw) (w7 hw) (w45 hw) (by decide) pd__I_Z rfl (W := 0) (by decide) (by decide) (Nat.le_of_eq rfl) (by decide) (by decide) rfl rfl at_320 rfl fun T h91 v92 A Q93 => ?_
      obtain ⟨rfl, eh⟩ := Q93
      rw [eh] at A
      refine Wp.stk (st' := [(.int (1 : Int32))]) rfl ?_
      refine s_iload (pc' := 325) A at_323 rfl rfl ?_
      refine s_iload (pc' := 327) A at_325 rfl rfl ?_
      refine s_icmpY (pc' := 342) A at_327 (teq hs320.symm).1 (by decide) (by decide) ?_
      refine s_iconst (pc' := 343) (z := (1 : Int32)) A at_342 rfl (by decide) ?_
      refine s_goto (pc' := 347) A at_343 (by decide) (by decide) ?_
      refine s_icmpN (pc' := 350) A at_347 rfl (by decide) ?_
      refine s_iconst (pc' := 351) (z := (1 : Int32)) A at_350 rfl (by decide) ?_
      refine s_goto (pc' := 355) A at_351 (by decide) (by decide) ?_
      refine s_istore (pc' := 357) (Ls' := #[iv q0, iv q1, iv q2, jv q3, S2, jv q4, S2, jv q5, S2, iv ia, iv ib, iv ic, iv 0, iv la, iv 0, iv lc, rv b5, iv 0, iv 0, iv ia, jv q4, S2, jv q3, S2, iv 1]) A at_355 rfl rfl ?_
      refine s_iload (pc' := 359) A at_357 rfl rfl ?_
      refine s_ifN (pc' := 362) A at_359 rfl (by decide) ?_
      refine s_iload (pc' := 364) A at_362 rfl rfl ?_
      refine s_ifY (pc' := 407) A at_364 (by decide) (by decide) (by decide) ?_
      refine s_iload (pc' := 409) A at_407 rfl rfl ?_
      exact r_bool A rfl (by decide) at_409 (by decide) (by decide) (rfl)
     ·
      refine s_virtual (pc' := 323) (y := y4_remembers) (argsL := [(.int ib)]) (rest := []) (z := y4_remembers) A E46 (remembers2 l Z a0 hw n0 h43 A.size b5 b15 b16 ic lc q3 q4 q5 (-1 : Int32) (0 : Int32) (0 : Int64) (0 : Int64) (0 : Int64) ib ⟨E46, F47, F48, ⟨E55, F56, F57, F58, F59, F60⟩, ⟨E61, F62, F63, F64, F65, F66⟩, ne49, ne50, ne51, ge52, ge53, ge54⟩ nib hs320 (fun q => nib q.symm)) (w41 hw) (w42 hw) (nf_same (C := "") (w44 hw)) (w44 hw) (w43 hw) (w7 hw) (w45 hw) (by decide) pd__I_Z rfl (W := 0) (by decide) (by decide) (Nat.le_of_eq rfl) (by decide) (by decide) rfl rfl at_320 rfl fun T h94 v95 A Q96 => ?_
      obtain ⟨rfl, eh⟩ := Q96
      rw [eh] at A
      refine Wp.stk (st' := [(.int (0 : Int32))]) rfl ?_
      refine s_iload (pc' := 325) A at_323 rfl rfl ?_
      refine s_iload (pc' := 327) A at_325 rfl rfl ?_
      refine s_icmpN (pc' := 330) A at_327 rfl (feq (fun q => hs320 q.symm)).1 ?_
      refine s_iload (pc' := 332) A at_330 rfl rfl ?_
      refine s_ifY (pc' := 346) A at_332 (by decide) (by decide) (by decide) ?_
      refine s_iconst (pc' := 347) (z := (0 : Int32)) A at_346 rfl (by decide) ?_
      refine s_icmpN (pc' := 350) A at_347 rfl (by decide) ?_
      refine s_iconst (pc' := 351) (z := (1 : Int32)) A at_350 rfl (by decide) ?_
      refine s_goto (pc' := 355) A at_351 (by decide) (by decide) ?_
      refine s_istore (pc' := 357) (Ls' := #[iv q0, iv q1, iv q2, jv q3, S2, jv q4, S2, jv q5, S2, iv ia, iv ib, iv ic, iv 0, iv la, iv 0, iv lc, rv b5, iv 0, iv 0, iv ia, jv q4, S2, jv q3, S2, iv 1]) A at_355 rfl rfl ?_
      refine s_iload (pc' := 359) A at_357 rfl rfl ?_
      refine s_ifN (pc' := 362) A at_359 rfl (by decide) ?_
      refine s_iload (pc' := 364) A at_362 rfl rfl ?_
      refine s_ifY (pc' := 407) A at_364 (by decide) (by decide) (by decide) ?_
      refine s_iload (pc' := 409) A at_407 rfl rfl ?_
      exact r_bool A rfl (by decide) at_409 (by decide) (by decide) (rfl)
   ·
    refine s_ifN (pc' := 53) A at_50 rfl ((if0 _ _).trans (feq hc50_1).1) ?_
    refine s_iconst (pc' := 54) (z := (1 : Int32)) A at_53 rfl (by decide) ?_
    refine s_goto (pc' := 58) A at_54 (by decide) (by decide) ?_
    refine s_istore (pc' := 60) (Ls' := #[iv q0, iv q1, iv q2, jv q3, S2, jv q4, S2, jv q5, S2, iv ia, iv ib, iv ic, iv 0, iv la, iv 1, U0, U0, U0, U0, U0, U0, U0, U0, U0, U0]) A at_58 rfl rfl ?_
    refine s_iloadN (pc' := 61) A at_60 rfl rfl ?_
    refine s_iconst (pc' := 62) (z := (4 : Int32)) A at_61 rfl (by decide) ?_
    refine s_iushr (pc' := 63) (z := (ush q2 (4 : Int32))) A at_62 rfl rfl ?_
    refine s_iconst (pc' := 64) (z := (1 : Int32)) A at_63 rfl (by decide) ?_
    refine s_iand (pc' := 65) (z := ((ush q2 (4 : Int32)) &&& (1 : Int32))) A at_64 rfl rfl ?_
    suffices dm65 : ∀ lc : Int32, (lc = 0 ∨ lc = 1) → Wp p e below s n0 room_1.cells room_1.slots (fun v h => v = some (.int 1)) (T.setTop (mkF m 73 #[iv q0, iv q1, iv q2, jv q3, S2, jv q4, S2, jv q5, S2, iv ia, iv ib, iv ic, iv 0, iv la, iv 1, U0, U0, U0, U0, U0, U0, U0, U0, U0, U0] [.int lc])) by
     by_cases hc65_1 : ((ush q2 (4 : Int32)) &&& (1 : Int32)) = (0 : Int32)
     ·
      refine s_ifY (pc' := 72) A at_65 ((if0 _ _).trans (teq hc65_1).1) (by decide) (by decide) ?_
      refine s_iconst (pc' := 73) (z := (0 : Int32)) A at_72 rfl (by decide) ?_
      exact dm65 _ (Or.inl rfl)
     ·
      refine s_ifN (pc' := 68) A at_65 rfl ((if0 _ _).trans (feq hc65_1).1) ?_
      refine s_iconst (pc' := 69) (z := (1 : Int32)) A at_68 rfl (by decide) ?_
      refine s_goto (pc' := 73) A at_69 (by decide) (by decide) ?_
      exact dm65 _ (Or.inr rfl)
    intro lc hlc
    refine s_istore (pc' := 75) (Ls' := #[iv q0, iv q1, iv q2, jv q3, S2, jv q4, S2, jv q5, S2, iv ia, iv ib, iv ic, iv 0, iv la, iv 1, iv lc, U0, U0, U0, U0, U0, U0, U0, U0, U0]) A at_73 rfl rfl ?_
    refine s_new (pc' := 78) A (w5 hw) (w6 hw) (w7 hw) (by decide) (by decide) at_75 rfl fun T h97 b98 A g99 ge100 X101 E102 D103 => ?_
    have F104 : Fld Z h97 b98 "com/example/wirefram/wirefram/sequence/SessionsLeft" "last" "Lcom/example/wirefram/wirefram/sequence/SessionsLeft$Left;" .null := D103 (Or.inl (w24 hw)) (ty := (.object "com/example/wirefram/wirefram/sequence/SessionsLeft$Left")) (by decide)
    have F105 : Fld Z h97 b98 "com/example/wirefram/wirefram/sequence/SessionsLeft" "before" "Lcom/example/wirefram/wirefram/sequence/SessionsLeft$Left;" .null := D103 (Or.inl (w26 hw)) (ty := (.object "com/example/wirefram/wirefram/sequence/SessionsLeft$Left")) (by decide)
    refine s_dup (pc' := 79) A at_78 rfl rfl ?_
    refine s_special (pc' := 82) (y := y1_init) (argsL := []) (rest := [(.ref b98)]) A (ss_new l Z a0 hw n0 h97 A.size b98 E102 F104 F105 ge100) rfl (w8 hw) (w9 hw) (w7 hw) (w10 hw) (by decide) pd___V rfl (W := 1) (by decide) (by decide) (Nat.le_of_eq rfl) (by decide) (by decide) rfl rfl at_79 rfl fun T h110 v111 A Q112 => ?_
    obtain ⟨rfl, K106, b108, b109, H107⟩ := Q112
    obtain ⟨E113, F114, F115, ⟨E122, F123, F124, F125, F126, F127⟩, ⟨E128, F129, F130, F131, F132, F133⟩, ne116, ne117, ne118, ge119, ge120, ge121⟩ := H107
    refine Wp.stk (st' := [(.ref b98)]) rfl ?_
    refine s_astore (pc' := 84) (Ls' := #[iv q0, iv q1, iv q2, jv q3, S2, jv q4, S2, jv q5, S2, iv ia, iv ib, iv ic, iv 0, iv la, iv 1, iv lc, rv b98, U0, U0, U0, U0, U0, U0, U0, U0]) A at_82 rfl rfl rfl ?_
    refine s_iload (pc' := 86) A at_84 rfl rfl ?_
    refine s_iconst (pc' := 87) (z := (1 : Int32)) A at_86 rfl (by decide) ?_
    refine s_icmpY (pc' := 104) A at_87 (by decide) (by decide) (by decide) ?_
    refine s_iload (pc' := 106) A at_104 rfl rfl ?_
    refine s_iconst (pc' := 107) (z := (2 : Int32)) A at_106 rfl (by decide) ?_
    refine s_icmpY (pc' := 124) A at_107 (by decide) (by decide) (by decide) ?_
    refine s_aload (pc' := 126) A at_124 rfl rfl rfl ?_
    refine s_iload (pc' := 128) A at_126 rfl rfl ?_
    refine s_iload (pc' := 130) A at_128 rfl rfl ?_
    refine s_lloadN (pc' := 131) A at_130 rfl rfl ?_
    refine s_lload (pc' := 133) A at_131 rfl rfl ?_
    refine s_lload (pc' := 135) A at_133 rfl rfl ?_
    refine s_virtual (pc' := 138) (y := y2_leave) (argsL := [(.int ic), (.int lc), (.long q3), (.long q4), (.long q5)]) (rest := []) (z := y2_leave) A E113 (leave0 l Z a0 hw n0 h110 A.size b98 b108 b109 (-1 : Int32) (0 : Int32) (0 : Int64) (0 : Int64) (0 : Int64) (-1 : Int32) (0 : Int32) (0 : Int64) (0 : Int64) (0 : Int64) ic lc q3 q4 q5 ⟨E113, F114, F115, ⟨E122, F123, F124, F125, F126, F127⟩, ⟨E128, F129, F130, F131, F132, F133⟩, ne116, ne117, ne118, ge119, ge120, ge121⟩ hlc rfl) (w27 hw) (w28 hw) (nf_same (C := "") (w30 hw)) (w30 hw) (w29 hw) (w7 hw) (w31 hw) (by decide) pd__IZJJJ_V rfl (W := 0) (by decide) (by decide) (Nat.le_of_eq rfl) (by decide) (by decide) rfl rfl at_135 rfl fun T h136 v137 A Q138 => ?_
    obtain ⟨rfl, K134, H135⟩ := Q138
    obtain ⟨E139, F140, F141, ⟨E148, F149, F150, F151, F152, F153⟩, ⟨E154, F155, F156, F157, F158, F159⟩, ne142, ne143, ne144, ge145, ge146, ge147⟩ := H135
    refine Wp.stk (st' := []) rfl ?_
    refine s_iload (pc' := 140) A at_138 rfl rfl ?_
    refine s_iconst (pc' := 141) (z := (1 : Int32)) A at_140 rfl (by decide) ?_
    refine s_icmpY (pc' := 148) A at_141 (by decide) (by decide) (by decide) ?_
    refine s_iconst (pc' := 149) (z := (0 : Int32)) A at_148 rfl (by decide) ?_
    refine s_istore (pc' := 151) (Ls' := #[iv q0, iv q1, iv q2, jv q3, S2, jv q4, S2, jv q5, S2, iv ia, iv ib, iv ic, iv 0, iv la, iv 1, iv lc, rv b98, iv 0, U0, U0, U0, U0, U0, U0, U0]) A at_149 rfl rfl ?_
    refine s_iload (pc' := 153) A at_151 rfl rfl ?_
    refine s_iconst (pc' := 154) (z := (2 : Int32)) A at_153 rfl (by decide) ?_
    refine s_icmpY (pc' := 166) A at_154 (by decide) (by decide) (by decide) ?_
    refine s_iconst (pc' := 167) (z := (0 : Int32)) A at_166 rfl (by decide) ?_
    refine s_istore (pc' := 169) (Ls' := #[iv q0, iv q1, iv q2, jv q3, S2, jv q4, S2, jv q5, S2, iv ia, iv ib, iv ic, iv 0, iv la, iv 1, iv lc, rv b98, iv 0, iv 0, U0, U0, U0, U0, U0, U0]) A at_167 rfl rfl ?_
    refine s_iload (pc' := 171) A at_169 rfl rfl ?_
    refine s_ifY (pc' := 179) A at_171 (by decide) (by decide) (by decide) ?_
    refine s_iload (pc' := 181) A at_179 rfl rfl ?_
    refine s_istore (pc' := 183) (Ls' := #[iv q0, iv q1, iv q2, jv q3, S2, jv q4, S2, jv q5, S2, iv ia, iv ib, iv ic, iv 0, iv la, iv 1, iv lc, rv b98, iv 0, iv 0, iv ia, U0, U0, U0, U0, U0]) A at_181 rfl rfl ?_
    refine s_iload (pc' := 185) A at_183 rfl rfl ?_
    refine s_ifY (pc' := 193) A at_185 (by decide) (by decide) (by decide) ?_
    refine s_lload (pc' := 195) A at_193 rfl rfl ?_
    refine s_lstore (pc' := 197) (Ls' := #[iv q0, iv q1, iv q2, jv q3, S2, jv q4, S2, jv q5, S2, iv ia, iv ib, iv ic, iv 0, iv la, iv 1, iv lc, rv b98, iv 0, iv 0, iv ia, jv q4, S2, U0, U0, U0]) A at_195 rfl rfl ?_
    refine s_iload (pc' := 199) A at_197 rfl rfl ?_
    refine s_ifY (pc' := 207) A at_199 (by decide) (by decide) (by decide) ?_
    refine s_lloadN (pc' := 208) A at_207 rfl rfl ?_
    refine s_lstore (pc' := 210) (Ls' := #[iv q0, iv q1, iv q2, jv q3, S2, jv q4, S2, jv q5, S2, iv ia, iv ib, iv ic, iv 0, iv la, iv 1, iv lc, rv b98, iv 0, iv 0, iv ia, jv q4, S2, jv q3, S2, U0]) A at_208 rfl rfl ?_
    refine s_aload (pc' := 212) A at_210 rfl rfl rfl ?_
    refine s_iload (pc' := 214) A at_212 rfl rfl ?_
    refine s_virtual (pc' := 217) (y := y4_remembers) (argsL := [(.int ic)]) (rest := []) (z := y4_remembers) A E139 (remembers0 l Z a0 hw n0 h136 A.size b98 b108 b109 ic lc q3 q4 q5 (-1 : Int32) (0 : Int32) (0 : Int64) (0 : Int64) (0 : Int64) ic ⟨E139, F140, F141, ⟨E148, F149, F150, F151, F152, F153⟩, ⟨E154, F155, F156, F157, F158, F159⟩, ne142, ne143, ne144, ge145, ge146, ge147⟩ nic rfl) (w41 hw) (w42 hw) (nf_same (C := "") (w44 hw)) (w44 hw) (w43 hw) (w7 hw) (w45 hw) (by decide) pd__I_Z rfl (W := 0) (by decide) (by decide) (Nat.le_of_eq rfl) (by decide) (by decide) rfl rfl at_214 rfl fun T h160 v161 A Q162 => ?_
    obtain ⟨rfl, eh⟩ := Q162
    rw [eh] at A
    refine Wp.stk (st' := [(.int (1 : Int32))]) rfl ?_
    refine s_ifN (pc' := 220) A at_217 rfl (by decide) ?_
    refine s_aload (pc' := 222) A at_220 rfl rfl rfl ?_
    refine s_iload (pc' := 224) A at_222 rfl rfl ?_
    refine s_virtual (pc' := 227) (y := y5_highest) (argsL := [(.int ic)]) (rest := []) (z := y5_highest) A E139 (highest0 l Z a0 hw n0 h136 A.size b98 b108 b109 ic lc q3 q4 q5 (-1 : Int32) (0 : Int32) (0 : Int64) (0 : Int64) (0 : Int64) ic ⟨E139, F140, F141, ⟨E148, F149, F150, F151, F152, F153⟩, ⟨E154, F155, F156, F157, F158, F159⟩, ne142, ne143, ne144, ge145, ge146, ge147⟩ nic rfl) (w50 hw) (w51 hw) (nf_same (C := "") (w53 hw)) (w53 hw) (w52 hw) (w7 hw) (w54 hw) (by decide) pd__I_J rfl (W := 0) (by decide) (by decide) (Nat.le_of_eq rfl) (by decide) (by decide) rfl rfl at_224 rfl fun T h163 v164 A Q165 => ?_
    obtain ⟨rfl, eh⟩ := Q165
    rw [eh] at A
    refine Wp.stk (st' := [(.long q3)]) rfl ?_
    refine s_lloadN (pc' := 228) A at_227 rfl rfl ?_
    refine s_lcmp (pc' := 229) A at_228 rfl ?_
    refine s_ifN (pc' := 232) A at_229 rfl ((if0 _ _).trans (teq ((lw_eq q3 q3).2 (rfl : q3 = q3))).2) ?_
    refine s_aload (pc' := 234) A at_232 rfl rfl rfl ?_
    refine s_iload (pc' := 236) A at_234 rfl rfl ?_
    refine s_virtual (pc' := 239) (y := y6_note) (argsL := [(.int ic)]) (rest := []) (z := y6_note) A E139 (note0 l Z a0 hw n0 h136 A.size b98 b108 b109 ic lc q3 q4 q5 (-1 : Int32) (0 : Int32) (0 : Int64) (0 : Int64) (0 : Int64) ic ⟨E139, F140, F141, ⟨E148, F149, F150, F151, F152, F153⟩, ⟨E154, F155, F156, F157, F158, F159⟩, ne142, ne143, ne144, ge145, ge146, ge147⟩ nic rfl) (w55 hw) (w56 hw) (nf_same (C := "") (w58 hw)) (w58 hw) (w57 hw) (w7 hw) (w59 hw) (by decide) pd__I_J rfl (W := 0) (by decide) (by decide) (Nat.le_of_eq rfl) (by decide) (by decide) rfl rfl at_236 rfl fun T h166 v167 A Q168 => ?_
    obtain ⟨rfl, eh⟩ := Q168
    rw [eh] at A
    refine Wp.stk (st' := [(.long q4)]) rfl ?_
    refine s_lload (pc' := 241) A at_239 rfl rfl ?_
    refine s_lcmp (pc' := 242) A at_241 rfl ?_
    refine s_ifN (pc' := 245) A at_242 rfl ((if0 _ _).trans (teq ((lw_eq q4 q4).2 (rfl : q4 = q4))).2) ?_
    refine s_aload (pc' := 247) A at_245 rfl rfl rfl ?_
    refine s_iload (pc' := 249) A at_247 rfl rfl ?_
    refine s_virtual (pc' := 252) (y := y7_order) (argsL := [(.int ic)]) (rest := []) (z := y7_order) A E139 (order0 l Z a0 hw n0 h136 A.size b98 b108 b109 ic lc q3 q4 q5 (-1 : Int32) (0 : Int32) (0 : Int64) (0 : Int64) (0 : Int64) ic ⟨E139, F140, F141, ⟨E148, F149, F150, F151, F152, F153⟩, ⟨E154, F155, F156, F157, F158, F159⟩, ne142, ne143, ne144, ge145, ge146, ge147⟩ nic rfl) (w60 hw) (w61 hw) (nf_same (C := "") (w63 hw)) (w63 hw) (w62 hw) (w7 hw) (w64 hw) (by decide) pd__I_J rfl (W := 0) (by decide) (by decide) (Nat.le_of_eq rfl) (by decide) (by decide) rfl rfl at_249 rfl fun T h169 v170 A Q171 => ?_
    obtain ⟨rfl, eh⟩ := Q171
    rw [eh] at A
    refine Wp.stk (st' := [(.long q5)]) rfl ?_
    refine s_lload (pc' := 254) A at_252 rfl rfl ?_
    refine s_lcmp (pc' := 255) A at_254 rfl ?_
    refine s_ifN (pc' := 258) A at_255 rfl ((if0 _ _).trans (teq ((lw_eq q5 q5).2 (rfl : q5 = q5))).2) ?_
    refine s_iconst (pc' := 259) (z := (1 : Int32)) A at_258 rfl (by decide) ?_
    refine s_goto (pc' := 263) A at_259 (by decide) (by decide) ?_
    refine s_istore (pc' := 265) (Ls' := #[iv q0, iv q1, iv q2, jv q3, S2, jv q4, S2, jv q5, S2, iv ia, iv ib, iv ic, iv 0, iv la, iv 1, iv lc, rv b98, iv 0, iv 0, iv ia, jv q4, S2, jv q3, S2, iv 1]) A at_263 rfl rfl ?_
    refine s_iload (pc' := 267) A at_265 rfl rfl ?_
    refine s_ifN (pc' := 270) A at_267 rfl (by decide) ?_
    refine s_aload (pc' := 272) A at_270 rfl rfl rfl ?_
    refine s_iload (pc' := 274) A at_272 rfl rfl ?_
    by_cases hs274 : ic = ia
    ·
     refine s_virtual (pc' := 277) (y := y4_remembers) (argsL := [(.int ia)]) (rest := []) (z := y4_remembers) A E139 (remembers0 l Z a0 hw n0 h136 A.size b98 b108 b109 ic lc q3 q4 q5 (-1 : Int32) (0 : Int32) (0 : Int64) (0 : Int64) (0 : Int64) ia ⟨E139, F140, F141, ⟨E148, F149, F150, F151, F152, F153⟩, ⟨E154, F155, F156, F157, F158, F159⟩, ne142, ne143, ne144, ge145, ge146, ge147⟩ nia hs274) (w41 hw) (w42 hw) (nf_same (C := "") (w44 hw)) (w44 hw) (w43 hw) (w7 hw) (w45 hw) (by decide) pd__I_Z rfl (W := 0) (by decide) (by decide) (Nat.le_of_eq rfl) (by decide) (by decide) rfl rfl at_274 rfl fun T h172 v173 A Q174 => ?_
     obtain ⟨rfl, eh⟩ := Q174
     rw [eh] at A
     refine Wp.stk (st' := [(.int (1 : Int32))]) rfl ?_
     refine s_iload (pc' := 279) A at_277 rfl rfl ?_
     refine s_iload (pc' := 281) A at_279 rfl rfl ?_
     refine s_icmpY (pc' := 296) A at_281 (teq hs274.symm).1 (by decide) (by decide) ?_
     refine s_iconst (pc' := 297) (z := (1 : Int32)) A at_296 rfl (by decide) ?_
     refine s_goto (pc' := 301) A at_297 (by decide) (by decide) ?_
     refine s_icmpN (pc' := 304) A at_301 rfl (by decide) ?_
     refine s_iconst (pc' := 305) (z := (1 : Int32)) A at_304 rfl (by decide) ?_
     refine s_goto (pc' := 309) A at_305 (by decide) (by decide) ?_
     refine s_istore (pc' := 311) (Ls' := #[iv q0, iv q1, iv q2, jv q3, S2, jv q4, S2, jv q5, S2, iv ia, iv ib, iv ic, iv 0, iv la, iv 1, iv lc, rv b98, iv 0, iv 0, iv ia, jv q4, S2, jv q3, S2, iv 1]) A at_309 rfl rfl ?_
     refine s_iload (pc' := 313) A at_311 rfl rfl ?_
     refine s_ifN (pc' := 316) A at_313 rfl (by decide) ?_
     refine s_aload (pc' := 318) A at_316 rfl rfl rfl ?_
     refine s_iload (pc' := 320) A at_318 rfl rfl ?_
     by_cases hs320 : ic = ib
     ·
      refine s_virtual (pc' := 323) (y := y4_remembers) (argsL := [(.int ib)]) (rest := []) (z := y4_remembers) A E139 (remembers0 l Z a0 hw n0 h136 A.size b98 b108 b109 ic lc q3 q4 q5 (-1 : Int32) (0 : Int32) (0 : Int64) (0 : Int64) (0 : Int64) ib ⟨E139, F140, F141, ⟨E148, F149, F150, F151, F152, F153⟩, ⟨E154, F155, F156, F157, F158, F159⟩, ne142, ne143, ne144, ge145, ge146, ge147⟩ nib hs320) (w41 hw) (w42 hw) (nf_same (C := "") (w44 hw)) (w44 hw) (w43 hw) (w7 hw) (w45 hw) (by decide) pd__I_Z rfl (W := 0) (by decide) (by decide) (Nat.le_of_eq rfl) (by decide) (by decide) rfl rfl at_320 rfl fun T h175 v176 A Q177 => ?_
      obtain ⟨rfl, eh⟩ := Q177
      rw [eh] at A
      refine Wp.stk (st' := [(.int (1 : Int32))]) rfl ?_
      refine s_iload (pc' := 325) A at_323 rfl rfl ?_
      refine s_iload (pc' := 327) A at_325 rfl rfl ?_
      refine s_icmpY (pc' := 342) A at_327 (teq hs320.symm).1 (by decide) (by decide) ?_
      refine s_iconst (pc' := 343) (z := (1 : Int32)) A at_342 rfl (by decide) ?_
      refine s_goto (pc' := 347) A at_343 (by decide) (by decide) ?_
      refine s_icmpN (pc' := 350) A at_347 rfl (by decide) ?_
      refine s_iconst (pc' := 351) (z := (1 : Int32)) A at_350 rfl (by decide) ?_
      refine s_goto (pc' := 355) A at_351 (by decide) (by decide) ?_
      refine s_istore (pc' := 357) (Ls' := #[iv q0, iv q1, iv q2, jv q3, S2, jv q4, S2, jv q5, S2, iv ia, iv ib, iv ic, iv 0, iv la, iv 1, iv lc, rv b98, iv 0, iv 0, iv ia, jv q4, S2, jv q3, S2, iv 1]) A at_355 rfl rfl ?_
      refine s_iload (pc' := 359) A at_357 rfl rfl ?_
      refine s_ifN (pc' := 362) A at_359 rfl (by decide) ?_
      refine s_iload (pc' := 364) A at_362 rfl rfl ?_
      refine s_ifY (pc' := 407) A at_364 (by decide) (by decide) (by decide) ?_
      refine s_iload (pc' := 409) A at_407 rfl rfl ?_
      exact r_bool A rfl (by decide) at_409 (by decide) (by decide) (rfl)
     ·
      refine s_virtual (pc' := 323) (y := y4_remembers) (argsL := [(.int ib)]) (rest := []) (z := y4_remembers) A E139 (remembers2 l Z a0 hw n0 h136 A.size b98 b108 b109 ic lc q3 q4 q5 (-1 : Int32) (0 : Int32) (0 : Int64) (0 : Int64) (0 : Int64) ib ⟨E139, F140, F141, ⟨E148, F149, F150, F151, F152, F153⟩, ⟨E154, F155, F156, F157, F158, F159⟩, ne142, ne143, ne144, ge145, ge146, ge147⟩ nib hs320 (fun q => nib q.symm)) (w41 hw) (w42 hw) (nf_same (C := "") (w44 hw)) (w44 hw) (w43 hw) (w7 hw) (w45 hw) (by decide) pd__I_Z rfl (W := 0) (by decide) (by decide) (Nat.le_of_eq rfl) (by decide) (by decide) rfl rfl at_320 rfl fun T h178 v179 A Q180 => ?_
      obtain ⟨rfl, eh⟩ := Q180
      rw [eh] at A
      refine Wp.stk (st' := [(.int (0 : Int32))]) rfl ?_
      refine s_iload (pc' := 325) A at_323 rfl rfl ?_
      refine s_iload (pc' := 327) A at_325 rfl rfl ?_
      refine s_icmpN (pc' := 330) A at_327 rfl (feq (fun q => hs320 q.symm)).1 ?_
      refine s_iload (pc' := 332) A at_330 rfl rfl ?_
      refine s_ifY (pc' := 346) A at_332 (by decide) (by decide) (by decide) ?_
      refine s_iconst (pc' := 347) (z := (0 : Int32)) A at_346 rfl (by decide) ?_
      refine s_icmpN (pc' := 350) A at_347 rfl (by decide) ?_
      refine s_iconst (pc' := 351) (z := (1 : Int32)) A at_350 rfl (by decide) ?_
      refine s_goto (pc' := 355) A at_351 (by decide) (by decide) ?_
      refine s_istore (pc' := 357) (Ls' := #[iv q0, iv q1, iv q2, jv q3, S2, jv q4, S2, jv q5, S2, iv ia, iv ib, iv ic, iv 0, iv la, iv 1, iv lc, rv b98, iv 0, iv 0, iv ia, jv q4, S2, jv q3, S2, iv 1]) A at_355 rfl rfl ?_
      refine s_iload (pc' := 359) A at_357 rfl rfl ?_
      refine s_ifN (pc' := 362) A at_359 rfl (by decide) ?_
      refine s_iload (pc' := 364) A at_362 rfl rfl ?_
      refine s_ifY (pc' := 407) A at_364 (by decide) (by decide) (by decide) ?_
      refine s_iload (pc' := 409) A at_407 rfl rfl ?_
      exact r_bool A rfl (by decide) at_409 (by decide) (by decide) (rfl)
    ·
     refine s_virtual (pc' := 277) (y := y4_remembers) (argsL := [(.int ia)]) (rest := []) (z := y4_remembers) A E139 (remembers2 l Z a0 hw n0 h136 A.size b98 b108 b109 ic lc q3 q4 q5 (-1 : Int32) (0 : Int32) (0 : Int64) (0 : Int64) (0 : Int64) ia ⟨E139, F140, F141, ⟨E148, F149, F150, F151, F152, F153⟩, ⟨E154, F155, F156, F157, F158, F159⟩, ne142, ne143, ne144, ge145, ge146, ge147⟩ nia hs274 (fun q => nia q.symm)) (w41 hw) (w42 hw) (nf_same (C := "") (w44 hw)) (w44 hw) (w43 hw) (w7 hw) (w45 hw) (by decide) pd__I_Z rfl (W := 0) (by decide) (by decide) (Nat.le_of_eq rfl) (by decide) (by decide) rfl rfl at_274 rfl fun T h181 v182 A Q183 => ?_
     obtain ⟨rfl, eh⟩ := Q183
     rw [eh] at A
     refine Wp.stk (st' := [(.int (0 : Int32))]) rfl ?_
     refine s_iload (pc' := 279) A at_277 rfl rfl ?_
     refine s_iload (pc' := 281) A at_279 rfl rfl ?_
     refine s_icmpN (pc' := 284) A at_281 rfl (feq (fun q => hs274 q.symm)).1 ?_
     refine s_iload (pc' := 286) A at_284 rfl rfl ?_
     refine s_ifY (pc' := 300) A at_286 (by decide) (by decide) (by decide) ?_
     refine s_iconst (pc' := 301) (z := (0 : Int32)) A at_300 rfl (by decide) ?_
     refine s_icmpN (pc' := 304) A at_301 rfl (by decide) ?_
     refine s_iconst (pc' := 305) (z := (1 : Int32)) A at_304 rfl (by decide) ?_
     refine s_goto (pc' := 309) A at_305 (by decide) (by decide) ?_
     refine s_istore (pc' := 311) (Ls' := #[iv q0, iv q1, iv q2, jv q3, S2, jv q4, S2, jv q5, S2, iv ia, iv ib, iv ic, iv 0, iv la, iv 1, iv lc, rv b98, iv 0, iv 0, iv ia, jv q4, S2, jv q3, S2, iv 1]) A at_309 rfl rfl ?_
     refine s_iload (pc' := 313) A at_311 rfl rfl ?_
     refine s_ifN (pc' := 316) A at_313 rfl (by decide) ?_
     refine s_aload (pc' := 318) A at_316 rfl rfl rfl ?_
     refine s_iload (pc' := 320) A at_318 rfl rfl ?_
     by_cases hs320 : ic = ib
     ·
      refine s_virtual (pc' := 323) (y := y4_remembers) (argsL := [(.int ib)]) (rest := []) (z := y4_remembers) A E139 (remembers0 l Z a0 hw n0 h136 A.size b98 b108 b109 ic lc q3 q4 q5 (-1 : Int32) (0 : Int32) (0 : Int64) (0 : Int64) (0 : Int64) ib ⟨E139, F140, F141, ⟨E148, F149, F150, F151, F152, F153⟩, ⟨E154, F155, F156, F157, F158, F159⟩, ne142, ne143, ne144, ge145, ge146, ge147⟩ nib hs320) (w41 hw) (w42 hw) (nf_same (C := "") (w44 hw)) (w44 hw) (w43 hw) (w7 hw) (w45 hw) (by decide) pd__I_Z rfl (W := 0) (by decide) (by decide) (Nat.le_of_eq rfl) (by decide) (by decide) rfl rfl at_320 rfl fun T h184 v185 A Q186 => ?_
      obtain ⟨rfl, eh⟩ := Q186
      rw [eh] at A
      refine Wp.stk (st' := [(.int (1 : Int32))]) rfl ?_
      refine s_iload (pc' := 325) A at_323 rfl rfl ?_
      refine s_iload (pc' := 327) A at_325 rfl rfl ?_
      refine s_icmpY (pc' := 342) A at_327 (teq hs320.symm).1 (by decide) (by decide) ?_
      refine s_iconst (pc' := 343) (z := (1 : Int32)) A at_342 rfl (by decide) ?_
      refine s_goto (pc' := 347) A at_343 (by decide) (by decide) ?_
      refine s_icmpN (pc' := 350) A at_347 rfl (by decide) ?_
      refine s_iconst (pc' := 351) (z := (1 : Int32)) A at_350 rfl (by decide) ?_
      refine s_goto (pc' := 355) A at_351 (by decide) (by decide) ?_
      refine s_istore (pc' := 357) (Ls' := #[iv q0, iv q1, iv q2, jv q3, S2, jv q4, S2, jv q5, S2, iv ia, iv ib, iv ic, iv 0, iv la, iv 1, iv lc, rv b98, iv 0, iv 0, iv ia, jv q4, S2, jv q3, S2, iv 1]) A at_355 rfl rfl ?_
      refine s_iload (pc' := 359) A at_357 rfl rfl ?_
      refine s_ifN (pc' := 362) A at_359 rfl (by decide) ?_
      refine s_iload (pc' := 364) A at_362 rfl rfl ?_
      refine s_ifY (pc' := 407) A at_364 (by decide) (by decide) (by decide) ?_
      refine s_iload (pc' := 409) A at_407 rfl rfl ?_
      exact r_bool A rfl (by decide) at_409 (by decide) (by decide) (rfl)
     ·
      refine s_virtual (pc' := 323) (y := y4_remembers) (argsL := [(.int ib)]) (rest := []) (z := y4_remembers) A E139 (remembers2 l Z a0 hw n0 h136 A.size b98 b108 b109 ic lc q3 q4 q5 (-1 : Int32) (0 : Int32) (0 : Int64) (0 : Int64) (0 : Int64) ib ⟨E139, F140, F141, ⟨E148, F149, F150, F151, F152, F153⟩, ⟨E154, F155, F156, F157, F158, F159⟩, ne142, ne143, ne144, ge145, ge146, ge147⟩ nib hs320 (fun q => nib q.symm)) (w41 hw) (w42 hw) (nf_same (C := "") (w44 hw)) (w44 hw) (w43 hw) (w7 hw) (w45 hw) (by decide) pd__I_Z rfl (W := 0) (by decide) (by decide) (Nat.le_of_eq rfl) (by decide) (by decide) rfl rfl at_320 rfl fun T h187 v188 A Q189 => ?_
      obtain ⟨rfl, eh⟩ := Q189
      rw [eh] at A
      refine Wp.stk (st' := [(.int (0 : Int32))]) rfl ?_
      refine s_iload (pc' := 325) A at_323 rfl rfl ?_
      refine s_iload (pc' := 327) A at_325 rfl rfl ?_
      refine s_icmpN (pc' := 330) A at_327 rfl (feq (fun q => hs320 q.symm)).1 ?_
      refine s_iload (pc' := 332) A at_330 rfl rfl ?_
      refine s_ifY (pc' := 346) A at_332 (by decide) (by decide) (by decide) ?_
      refine s_iconst (pc' := 347) (z := (0 : Int32)) A at_346 rfl (by decide) ?_
      refine s_icmpN (pc' := 350) A at_347 rfl (by decide) ?_
      refine s_iconst (pc' := 351) (z := (1 : Int32)) A at_350 rfl (by decide) ?_
      refine s_goto (pc' := 355) A at_351 (by decide) (by decide) ?_
      refine s_istore (pc' := 357) (Ls' := #[iv q0, iv q1, iv q2, jv q3, S2, jv q4, S2, jv q5, S2, iv ia, iv ib, iv ic, iv 0, iv la, iv 1, iv lc, rv b98, iv 0, iv 0, iv ia, jv q4, S2, jv q3, S2, iv 1]) A at_355 rfl rfl ?_
      refine s_iload (pc' := 359) A at_357 rfl rfl ?_
      refine s_ifN (pc' := 362) A at_359 rfl (by decide) ?_
      refine s_iload (pc' := 364) A at_362 rfl rfl ?_
      refine s_ifY (pc' := 407) A at_364 (by decide) (by decide) (by decide) ?_
      refine s_iload (pc' := 409) A at_407 rfl rfl ?_
      exact r_bool A rfl (by decide) at_409 (by decide) (by decide) (rfl)
  ·
   refine s_istore (pc' := 30) (Ls' := #[iv q0, iv q1, iv q2, jv q3, S2, jv q4, S2, jv q5, S2, iv ia, iv ib, iv ic, iv 1, U0, U0, U0, U0, U0, U0, U0, U0, U0, U0, U0, U0]) A at_28 rfl rfl ?_
   refine s_iloadN (pc' := 31) A at_30 rfl rfl ?_
   refine s_iconst (pc' := 32) (z := (2 : Int32)) A at_31 rfl (by decide) ?_
   refine s_iushr (pc' := 33) (z := (ush q2 (2 : Int32))) A at_32 rfl rfl ?_
   refine s_iconst (pc' := 34) (z := (1 : Int32)) A at_33 rfl (by decide) ?_
   refine s_iand (pc' := 35) (z := ((ush q2 (2 : Int32)) &&& (1 : Int32))) A at_34 rfl rfl ?_
   suffices dm35 : ∀ la : Int32, (la = 0 ∨ la = 1) → Wp p e below s n0 room_1.cells room_1.slots (fun v h => v = some (.int 1)) (T.setTop (mkF m 43 #[iv q0, iv q1, iv q2, jv q3, S2, jv q4, S2, jv q5, S2, iv ia, iv ib, iv ic, iv 1, U0, U0, U0, U0, U0, U0, U0, U0, U0, U0, U0, U0] [.int la])) by
    by_cases hc35_1 : ((ush q2 (2 : Int32)) &&& (1 : Int32)) = (0 : Int32)
    ·
     refine s_ifY (pc' := 42) A at_35 ((if0 _ _).trans (teq hc35_1).1) (by decide) (by decide) ?_
     refine s_iconst (pc' := 43) (z := (0 : Int32)) A at_42 rfl (by decide) ?_
     exact dm35 _ (Or.inl rfl)
    ·
     refine s_ifN (pc' := 38) A at_35 rfl ((if0 _ _).trans (feq hc35_1).1) ?_
     refine s_iconst (pc' := 39) (z := (1 : Int32)) A at_38 rfl (by decide) ?_
     refine s_goto (pc' := 43) A at_39 (by decide) (by decide) ?_
     exact dm35 _ (Or.inr rfl)
   intro la hla
   refine s_istore (pc' := 45) (Ls' := #[iv q0, iv q1, iv q2, jv q3, S2, jv q4, S2, jv q5, S2, iv ia, iv ib, iv ic, iv 1, iv la, U0, U0, U0, U0, U0, U0, U0, U0, U0, U0, U0]) A at_43 rfl rfl ?_
   refine s_iloadN (pc' := 46) A at_45 rfl rfl ?_
   refine s_iconst (pc' := 47) (z := (3 : Int32)) A at_46 rfl (by decide) ?_
   refine s_iushr (pc' := 48) (z := (ush q2 (3 : Int32))) A at_47 rfl rfl ?_
   refine s_iconst (pc' := 49) (z := (1 : Int32)) A at_48 rfl (by decide) ?_
   refine s_iand (pc' := 50) (z := ((ush q2 (3 : Int32)) &&& (1 : Int32))) A at_49 rfl rfl ?_
   by_cases hc50_1 : ((ush q2 (3 : Int32)) &&& (1 : Int32)) = (0 : Int32)
   ·
    refine s_ifY (pc' := 57) A at_50 ((if0 _ _).trans (teq hc50_1).1) (by decide) (by decide) ?_
    refine s_iconst (pc' := 58) (z := (0 : Int32)) A at_57 rfl (by decide) ?_
    refine s_istore (pc' := 60) (Ls' := #[iv q0, iv q1, iv q2, jv q3, S2, jv q4, S2, jv q5, S2, iv ia, iv ib, iv ic, iv 1, iv la, iv 0, U0, U0, U0, U0, U0, U0, U0, U0, U0, U0]) A at_58 rfl rfl ?_
    refine s_iloadN (pc' := 61) A at_60 rfl rfl ?_
    refine s_iconst (pc' := 62) (z := (4 : Int32)) A at_61 rfl (by decide) ?_
    refine s_iushr (pc' := 63) (z := (ush q2 (4 : Int32))) A at_62 rfl rfl ?_
    refine s_iconst (pc' := 64) (z := (1 : Int32)) A at_63 rfl (by decide) ?_
    refine s_iand (pc' := 65) (z := ((ush q2 (4 : Int32)) &&& (1 : Int32))) A at_64 rfl rfl ?_
    suffices dm65 : ∀ lc : Int32, (lc = 0 ∨ lc = 1) → Wp p e below s n0 room_1.cells room_1.slots (fun v h => v = some (.int 1)) (T.setTop (mkF m 73 #[iv q0, iv q1, iv q2, jv q3, S2, jv q4, S2, jv q5, S2, iv ia, iv ib, iv ic, iv 1, iv la, iv 0, U0, U0, U0, U0, U0, U0, U0, U0, U0, U0] [.int lc])) by
     by_cases hc65_1 : ((ush q2 (4 : Int32)) &&& (1 : Int32)) = (0 : Int32)
     ·
      refine s_ifY (pc' := 72) A at_65 ((if0 _ _).trans (teq hc65_1).1) (by decide) (by decide) ?_
      refine s_iconst (pc' := 73) (z := (0 : Int32)) A at_72 rfl (by decide) ?_
      exact dm65 _ (Or.inl rfl)
     ·
      refine s_ifN (pc' := 68) A at_65 rfl ((if0 _ _).trans (feq hc65_1).1) ?_
      refine s_iconst (pc' := 69) (z := (1 : Int32)) A at_68 rfl (by decide) ?_
      refine s_goto (pc' := 73) A at_69 (by decide) (by decide) ?_
      exact dm65 _ (Or.inr rfl)
    intro lc hlc
    refine s_istore (pc' := 75) (Ls' := #[iv q0, iv q1, iv q2, jv q3, S2, jv q4, S2, jv q5, S2, iv ia, iv ib, iv ic, iv 1, iv la, iv 0, iv lc, U0, U0, U0, U0, U0, U0, U0, U0, U0]) A at_73 rfl rfl ?_
    refine s_new (pc' := 78) A (w5 hw) (w6 hw) (w7 hw) (by decide) (by decide) at_75 rfl fun T h190 b191 A g192 ge193 X194 E195 D196 => ?_
    have F197 : Fld Z h190 b191 "com/example/wirefram/wirefram/sequence/SessionsLeft" "last" "Lcom/example/wirefram/wirefram/sequence/SessionsLeft$Left;" .null := D196 (Or.inl (w24 hw)) (ty := (.object "com/example/wirefram/wirefram/sequence/SessionsLeft$Left")) (by decide)
    have F198 : Fld Z h190 b191 "com/example/wirefram/wirefram/sequence/SessionsLeft" "before" "Lcom/example/wirefram/wirefram/sequence/SessionsLeft$Left;" .null := D196 (Or.inl (w26 hw)) (ty := (.object "com/example/wirefram/wirefram/sequence/SessionsLeft$Left")) (by decide)
    refine s_dup (pc' := 79) A at_78 rfl rfl ?_
    refine s_special (pc' := 82) (y := y1_init) (argsL := []) (rest := [(.ref b191)]) A (ss_new l Z a0 hw n0 h190 A.size b191 E195 F197 F198 ge193) rfl (w8 hw) (w9 hw) (w7 hw) (w10 hw) (by decide) pd___V rfl (W := 1) (by decide) (by decide) (Nat.le_of_eq rfl) (by decide) (by decide) rfl rfl at_79 rfl fun T h203 v204 A Q205 => ?_
    obtain ⟨rfl, K199, b201, b202, H200⟩ := Q205
    obtain ⟨E206, F207, F208, ⟨E215, F216, F217, F218, F219, F220⟩, ⟨E221, F222, F223, F224, F225, F226⟩, ne209, ne210, ne211, ge212, ge213, ge214⟩ := H200
    refine Wp.stk (st' := [(.ref b191)]) rfl ?_
    refine s_astore (pc' := 84) (Ls' := #[iv q0, iv q1, iv q2, jv q3, S2, jv q4, S2, jv q5, S2, iv ia, iv ib, iv ic, iv 1, iv la, iv 0, iv lc, rv b191, U0, U0, U0, U0, U0, U0, U0, U0]) A at_82 rfl rfl rfl ?_
    refine s_iload (pc' := 86) A at_84 rfl rfl ?_
    refine s_iconst (pc' := 87) (z := (1 : Int32)) A at_86 rfl (by decide) ?_
    refine s_icmpN (pc' := 90) A at_87 rfl (by decide) ?_
    refine s_aload (pc' := 92) A at_90 rfl rfl rfl ?_
    refine s_iload (pc' := 94) A at_92 rfl rfl ?_
    refine s_iload (pc' := 96) A at_94 rfl rfl ?_
    refine s_lload (pc' := 98) A at_96 rfl rfl ?_
    refine s_lload (pc' := 100) A at_98 rfl rfl ?_
    refine s_lloadN (pc' := 101) A at_100 rfl rfl ?_
    refine s_virtual (pc' := 104) (y := y2_leave) (argsL := [(.int ia), (.int la), (.long q4), (.long q5), (.long q3)]) (rest := []) (z := y2_leave) A E206 (leave0 l Z a0 hw n0 h203 A.size b191 b201 b202 (-1 : Int32) (0 : Int32) (0 : Int64) (0 : Int64) (0 : Int64) (-1 : Int32) (0 : Int32) (0 : Int64) (0 : Int64) (0 : Int64) ia la q4 q5 q3 ⟨E206, F207, F208, ⟨E215, F216, F217, F218, F219, F220⟩, ⟨E221, F222, F223, F224, F225, F226⟩, ne209, ne210, ne211, ge212, ge213, ge214⟩ hla rfl) (w27 hw) (w28 hw) (nf_same (C := "") (w30 hw)) (w30 hw) (w29 hw) (w7 hw) (w31 hw) (by decide) pd__IZJJJ_V rfl (W := 0) (by decide) (by decide) (Nat.le_of_eq rfl) (by decide) (by decide) rfl rfl at_101 rfl fun T h229 v230 A Q231 => ?_
    obtain ⟨rfl, K227, H228⟩ := Q231
    obtain ⟨E232, F233, F234, ⟨E241, F242, F243, F244, F245, F246⟩, ⟨E247, F248, F249, F250, F251, F252⟩, ne235, ne236, ne237, ge238, ge239, ge240⟩ := H228
    refine Wp.stk (st' := []) rfl ?_
    refine s_iload (pc' := 106) A at_104 rfl rfl ?_
    refine s_iconst (pc' := 107) (z := (2 : Int32)) A at_106 rfl (by decide) ?_
    refine s_icmpY (pc' := 124) A at_107 (by decide) (by decide) (by decide) ?_
    refine s_aload (pc' := 126) A at_124 rfl rfl rfl ?_
    refine s_iload (pc' := 128) A at_126 rfl rfl ?_
    refine s_iload (pc' := 130) A at_128 rfl rfl ?_
    refine s_lloadN (pc' := 131) A at_130 rfl rfl ?_
    refine s_lload (pc' := 133) A at_131 rfl rfl ?_
    refine s_lload (pc' := 135) A at_133 rfl rfl ?_
    refine s_virtual (pc' := 138) (y := y2_leave) (argsL := [(.int ic), (.int lc), (.long q3), (.long q4), (.long q5)]) (rest := []) (z := y2_leave) A E232 (leave1 l Z a0 hw n0 h229 A.size b191 b201 b202 ia la q4 q5 q3 (-1 : Int32) (0 : Int32) (0 : Int64) (0 : Int64) (0 : Int64) ic lc q3 q4 q5 ⟨E232, F233, F234, ⟨E241, F242, F243, F244, F245, F246⟩, ⟨E247, F248, F249, F250, F251, F252⟩, ne235, ne236, ne237, ge238, ge239, ge240⟩ hlc nia rfl) (w27 hw) (w28 hw) (nf_same (C := "") (w30 hw)) (w30 hw) (w29 hw) (w7 hw) (w31 hw) (by decide) pd__IZJJJ_V rfl (W := 0) (by decide) (by decide) (Nat.le_of_eq rfl) (by decide) (by decide) rfl rfl at_135 rfl fun T h255 v256 A Q257 => ?_
    obtain ⟨rfl, K253, H254⟩ := Q257
    obtain ⟨E258, F259, F260, ⟨E267, F268, F269, F270, F271, F272⟩, ⟨E273, F274, F275, F276, F277, F278⟩, ne261, ne262, ne263, ge264, ge265, ge266⟩ := H254
    refine Wp.stk (st' := []) rfl ?_
    refine s_iload (pc' := 140) A at_138 rfl rfl ?_
    refine s_iconst (pc' := 141) (z := (1 : Int32)) A at_140 rfl (by decide) ?_
    refine s_icmpN (pc' := 144) A at_141 rfl (by decide) ?_
    refine s_iconst (pc' := 145) (z := (1 : Int32)) A at_144 rfl (by decide) ?_
    refine s_goto (pc' := 149) A at_145 (by decide) (by decide) ?_
    refine s_istore (pc' := 151) (Ls' := #[iv q0, iv q1, iv q2, jv q3, S2, jv q4, S2, jv q5, S2, iv ia, iv ib, iv ic, iv 1, iv la, iv 0, iv lc, rv b191, iv 1, U0, U0, U0, U0, U0, U0, U0]) A at_149 rfl rfl ?_
    refine s_iload (pc' := 153) A at_151 rfl rfl ?_
    refine s_iconst (pc' := 154) (z := (2 : Int32)) A at_153 rfl (by decide) ?_
    refine s_icmpY (pc' := 166) A at_154 (by decide) (by decide) (by decide) ?_
    refine s_iconst (pc' := 167) (z := (0 : Int32)) A at_166 rfl (by decide) ?_
    refine s_istore (pc' := 169) (Ls' := #[iv q0, iv q1, iv q2, jv q3, S2, jv q4, S2, jv q5, S2, iv ia, iv ib, iv ic, iv 1, iv la, iv 0, iv lc, rv b191, iv 1, iv 0, U0, U0, U0, U0, U0, U0]) A at_167 rfl rfl ?_
    refine s_iload (pc' := 171) A at_169 rfl rfl ?_
    refine s_ifY (pc' := 179) A at_171 (by decide) (by decide) (by decide) ?_
    refine s_iload (pc' := 181) A at_179 rfl rfl ?_
    refine s_istore (pc' := 183) (Ls' := #[iv q0, iv q1, iv q2, jv q3, S2, jv q4, S2, jv q5, S2, iv ia, iv ib, iv ic, iv 1, iv la, iv 0, iv lc, rv b191, iv 1, iv 0, iv ia, U0, U0, U0, U0, U0]) A at_181 rfl rfl ?_
    refine s_iload (pc' := 185) A at_183 rfl rfl ?_
    refine s_ifY (pc' := 193) A at_185 (by decide) (by decide) (by decide) ?_
    refine s_lload (pc' := 195) A at_193 rfl rfl ?_
    refine s_lstore (pc' := 197) (Ls' := #[iv q0, iv q1, iv q2, jv q3, S2, jv q4, S2, jv q5, S2, iv ia, iv ib, iv ic, iv 1, iv la, iv 0, iv lc, rv b191, iv 1, iv 0, iv ia, jv q4, S2, U0, U0, U0]) A at_195 rfl rfl ?_
    refine s_iload (pc' := 199) A at_197 rfl rfl ?_
    refine s_ifY (pc' := 207) A at_199 (by decide) (by decide) (by decide) ?_
    refine s_lloadN (pc' := 208) A at_207 rfl rfl ?_
    refine s_lstore (pc' := 210) (Ls' := #[iv q0, iv q1, iv q2, jv q3, S2, jv q4, S2, jv q5, S2, iv ia, iv ib, iv ic, iv 1, iv la, iv 0, iv lc, rv b191, iv 1, iv 0, iv ia, jv q4, S2, jv q3, S2, U0]) A at_208 rfl rfl ?_
    refine s_aload (pc' := 212) A at_210 rfl rfl rfl ?_
    refine s_iload (pc' := 214) A at_212 rfl rfl ?_
    refine s_virtual (pc' := 217) (y := y4_remembers) (argsL := [(.int ic)]) (rest := []) (z := y4_remembers) A E258 (remembers0 l Z a0 hw n0 h255 A.size b191 b202 b201 ic lc q3 q4 q5 ia la q4 q5 q3 ic ⟨E258, F259, F260, ⟨E267, F268, F269, F270, F271, F272⟩, ⟨E273, F274, F275, F276, F277, F278⟩, ne261, ne262, ne263, ge264, ge265, ge266⟩ nic rfl) (w41 hw) (w42 hw) (nf_same (C := "") (w44 hw)) (w44 hw) (w43 hw) (w7 hw) (w45 hw) (by decide) pd__I_Z rfl (W := 0) (by decide) (by decide) (Nat.le_of_eq rfl) (by decide) (by decide) rfl rfl at_214 rfl fun T h279 v280 A Q281 => ?_
    obtain ⟨rfl, eh⟩ := Q281
    rw [eh] at A
    refine Wp.stk (st' := [(.int (1 : Int32))]) rfl ?_
    refine s_ifN (pc' := 220) A at_217 rfl (by decide) ?_
    refine s_aload (pc' := 222) A at_220 rfl rfl rfl ?_
    refine s_iload (pc' := 224) A at_222 rfl rfl ?_
    refine s_virtual (pc' := 227) (y := y5_highest) (argsL := [(.int ic)]) (rest := []) (z := y5_highest) A E258 (highest0 l Z a0 hw n0 h255 A.size b191 b202 b201 ic lc q3 q4 q5 ia la q4 q5 q3 ic ⟨E258, F259, F260, ⟨E267, F268, F269, F270, F271, F272⟩, ⟨E273, F274, F275, F276, F277, F278⟩, ne261, ne262, ne263, ge264, ge265, ge266⟩ nic rfl) (w50 hw) (w51 hw) (nf_same (C := "") (w53 hw)) (w53 hw) (w52 hw) (w7 hw) (w54 hw) (by decide) pd__I_J rfl (W := 0) (by decide) (by decide) (Nat.le_of_eq rfl) (by decide) (by decide) rfl rfl at_224 rfl fun T h282 v283 A Q284 => ?_
    obtain ⟨rfl, eh⟩ := Q284
    rw [eh] at A
    refine Wp.stk (st' := [(.long q3)]) rfl ?_
    refine s_lloadN (pc' := 228) A at_227 rfl rfl ?_
    refine s_lcmp (pc' := 229) A at_228 rfl ?_
    refine s_ifN (pc' := 232) A at_229 rfl ((if0 _ _).trans (teq ((lw_eq q3 q3).2 (rfl : q3 = q3))).2) ?_
    refine s_aload (pc' := 234) A at_232 rfl rfl rfl ?_
    refine s_iload (pc' := 236) A at_234 rfl rfl ?_
    refine s_virtual (pc' := 239) (y := y6_note) (argsL := [(.int ic)]) (rest := []) (z := y6_note) A E258 (note0 l Z a0 hw n0 h255 A.size b191 b202 b201 ic lc q3 q4 q5 ia la q4 q5 q3 ic ⟨E258, F259, F260, ⟨E267, F268, F269, F270, F271, F272⟩, ⟨E273, F274, F275, F276, F277, F278⟩, ne261, ne262, ne263, ge264, ge265, ge266⟩ nic rfl) (w55 hw) (w56 hw) (nf_same (C := "") (w58 hw)) (w58 hw) (w57 hw) (w7 hw) (w59 hw) (by decide) pd__I_J rfl (W := 0) (by decide) (by decide) (Nat.le_of_eq rfl) (by decide) (by decide) rfl rfl at_236 rfl fun T h285 v286 A Q287 => ?_
    obtain ⟨rfl, eh⟩ := Q287
    rw [eh] at A
    refine Wp.stk (st' := [(.long q4)]) rfl ?_
    refine s_lload (pc' := 241) A at_239 rfl rfl ?_
    refine s_lcmp (pc' := 242) A at_241 rfl ?_
    refine s_ifN (pc' := 245) A at_242 rfl ((if0 _ _).trans (teq ((lw_eq q4 q4).2 (rfl : q4 = q4))).2) ?_
    refine s_aload (pc' := 247) A at_245 rfl rfl rfl ?_
    refine s_iload (pc' := 249) A at_247 rfl rfl ?_
    refine s_virtual (pc' := 252) (y := y7_order) (argsL := [(.int ic)]) (rest := []) (z := y7_order) A E258 (order0 l Z a0 hw n0 h255 A.size b191 b202 b201 ic lc q3 q4 q5 ia la q4 q5 q3 ic ⟨E258, F259, F260, ⟨E267, F268, F269, F270, F271, F272⟩, ⟨E273, F274, F275, F276, F277, F278⟩, ne261, ne262, ne263, ge264, ge265, ge266⟩ nic rfl) (w60 hw) (w61 hw) (nf_same (C := "") (w63 hw)) (w63 hw) (w62 hw) (w7 hw) (w64 hw) (by decide) pd__I_J rfl (W := 0) (by decide) (by decide) (Nat.le_of_eq rfl) (by decide) (by decide) rfl rfl at_249 rfl fun T h288 v289 A Q290 => ?_
    obtain ⟨rfl, eh⟩ := Q290
    rw [eh] at A
    refine Wp.stk (st' := [(.long q5)]) rfl ?_
    refine s_lload (pc' := 254) A at_252 rfl rfl ?_
    refine s_lcmp (pc' := 255) A at_254 rfl ?_
    refine s_ifN (pc' := 258) A at_255 rfl ((if0 _ _).trans (teq ((lw_eq q5 q5).2 (rfl : q5 = q5))).2) ?_
    refine s_iconst (pc' := 259) (z := (1 : Int32)) A at_258 rfl (by decide) ?_
    refine s_goto (pc' := 263) A at_259 (by decide) (by decide) ?_
    refine s_istore (pc' := 265) (Ls' := #[iv q0, iv q1, iv q2, jv q3, S2, jv q4, S2, jv q5, S2, iv ia, iv ib, iv ic, iv 1, iv la, iv 0, iv lc, rv b191, iv 1, iv 0, iv ia, jv q4, S2, jv q3, S2, iv 1]) A at_263 rfl rfl ?_
    refine s_iload (pc' := 267) A at_265 rfl rfl ?_
    refine s_ifN (pc' := 270) A at_267 rfl (by decide) ?_
    refine s_aload (pc' := 272) A at_270 rfl rfl rfl ?_
    refine s_iload (pc' := 274) A at_272 rfl rfl ?_
    by_cases hs274 : ic = ia
    ·
     refine s_virtual (pc' := 277) (y := y4_remembers) (argsL := [(.int ia)]) (rest := []) (z := y4_remembers) A E258 (remembers0 l Z a0 hw n0 h255 A.size b191 b202 b201 ic lc q3 q4 q5 ia la q4 q5 q3 ia ⟨E258, F259, F260, ⟨E267, F268, F269, F270, F271, F272⟩, ⟨E273, F274, F275, F276, F277, F278⟩, ne261, ne262, ne263, ge264, ge265, ge266⟩ nia hs274) (w41 hw) (w42 hw) (nf_same (C := "") (w44 hw)) (w44 hw) (w43 hw) (w7 hw) (w45 hw) (by decide) pd__I_Z rfl (W := 0) (by decide) (by decide) (Nat.le_of_eq rfl) (by decide) (by decide) rfl rfl at_274 rfl fun T h291 v292 A Q293 => ?_
     obtain ⟨rfl, eh⟩ := Q293
     rw [eh] at A
     refine Wp.stk (st' := [(.int (1 : Int32))]) rfl ?_
     refine s_iload (pc' := 279) A at_277 rfl rfl ?_
     refine s_iload (pc' := 281) A at_279 rfl rfl ?_
     refine s_icmpY (pc' := 296) A at_281 (teq hs274.symm).1 (by decide) (by decide) ?_
     refine s_iconst (pc' := 297) (z := (1 : Int32)) A at_296 rfl (by decide) ?_
     refine s_goto (pc' := 301) A at_297 (by decide) (by decide) ?_
     refine s_icmpN (pc' := 304) A at_301 rfl (by decide) ?_
     refine s_iconst (pc' := 305) (z := (1 : Int32)) A at_304 rfl (by decide) ?_
     refine s_goto (pc' := 309) A at_305 (by decide) (by decide) ?_
     refine s_istore (pc' := 311) (Ls' := #[iv q0, iv q1, iv q2, jv q3, S2, jv q4, S2, jv q5, S2, iv ia, iv ib, iv ic, iv 1, iv la, iv 0, iv lc, rv b191, iv 1, iv 0, iv ia, jv q4, S2, jv q3, S2, iv 1]) A at_309 rfl rfl ?_
     refine s_iload (pc' := 313) A at_311 rfl rfl ?_
     refine s_ifN (pc' := 316) A at_313 rfl (by decide) ?_
     refine s_aload (pc' := 318) A at_316 rfl rfl rfl ?_
     refine s_iload (pc' := 320) A at_318 rfl rfl ?_
     by_cases hs320 : ic = ib
     ·
      refine s_virtual (pc' := 323) (y := y4_remembers) (argsL := [(.int ib)]) (rest := []) (z := y4_remembers) A E258 (remembers0 l Z a0 hw n0 h255 A.size b191 b202 b201 ic lc q3 q4 q5 ia la q4 q5 q3 ib ⟨E258, F259, F260, ⟨E267, F268, F269, F270, F271, F272⟩, ⟨E273, F274, F275, F276, F277, F278⟩, ne261, ne262, ne263, ge264, ge265, ge266⟩ nib hs320) (w41 hw) (w42 hw) (nf_same (C := "") (w44 hw)) (w44 hw) (w43 hw) (w7 hw) (w45 hw) (by decide) pd__I_Z rfl (W := 0) (by decide) (by decide) (Nat.le_of_eq rfl) (by decide) (by decide) rfl rfl at_320 rfl fun T h294 v295 A Q296 => ?_
      obtain ⟨rfl, eh⟩ := Q296
      rw [eh] at A
      refine Wp.stk (st' := [(.int (1 : Int32))]) rfl ?_
      refine s_iload (pc' := 325) A at_323 rfl rfl ?_
      refine s_iload (pc' := 327) A at_325 rfl rfl ?_
      refine s_icmpY (pc' := 342) A at_327 (teq hs320.symm).1 (by decide) (by decide) ?_
      refine s_iconst (pc' := 343) (z := (1 : Int32)) A at_342 rfl (by decide) ?_
      refine s_goto (pc' := 347) A at_343 (by decide) (by decide) ?_
      refine s_icmpN (pc' := 350) A at_347 rfl (by decide) ?_
      refine s_iconst (pc' := 351) (z := (1 : Int32)) A at_350 rfl (by decide) ?_
      refine s_goto (pc' := 355) A at_351 (by decide) (by decide) ?_
      refine s_istore (pc' := 357) (Ls' := #[iv q0, iv q1, iv q2, jv q3, S2, jv q4, S2, jv q5, S2, iv ia, iv ib, iv ic, iv 1, iv la, iv 0, iv lc, rv b191, iv 1, iv 0, iv ia, jv q4, S2, jv q3, S2, iv 1]) A at_355 rfl rfl ?_
      refine s_iload (pc' := 359) A at_357 rfl rfl ?_
      refine s_ifN (pc' := 362) A at_359 rfl (by decide) ?_
      refine s_iload (pc' := 364) A at_362 rfl rfl ?_
      refine s_ifN (pc' := 367) A at_364 rfl (by decide) ?_
      refine s_iload (pc' := 369) A at_367 rfl rfl ?_
      refine s_iload (pc' := 371) A at_369 rfl rfl ?_
      refine s_icmpY (pc' := 407) A at_371 (teq hs274.symm).1 (by decide) (by decide) ?_
      refine s_iload (pc' := 409) A at_407 rfl rfl ?_
      exact r_bool A rfl (by decide) at_409 (by decide) (by decide) (rfl)
     ·
      by_cases hs320b : ia = ib
      ·
       refine s_virtual (pc' := 323) (y := y4_remembers) (argsL := [(.int ib)]) (rest := []) (z := y4_remembers) A E258 (remembers1 l Z a0 hw n0 h255 A.size b191 b202 b201 ic lc q3 q4 q5 ia la q4 q5 q3 ib ⟨E258, F259, F260, ⟨E267, F268, F269, F270, F271, F272⟩, ⟨E273, F274, F275, F276, F277, F278⟩, ne261, ne262, ne263, ge264, ge265, ge266⟩ nib hs320 hs320b) (w41 hw) (w42 hw) (nf_same (C := "") (w44 hw)) (w44 hw) (w43 hw) (w7 hw) (w45 hw) (by decide) pd__I_Z rfl (W := 0) (by decide) (by decide) (Nat.le_of_eq rfl) (by decide) (by decide) rfl rfl at_320 rfl fun T h297 v298 A Q299 => ?_
       obtain ⟨rfl, eh⟩ := Q299
       rw [eh] at A
       refine Wp.stk (st' := [(.int (1 : Int32))]) rfl ?_
       refine s_iload (pc' := 325) A at_323 rfl rfl ?_
       refine s_iload (pc' := 327) A at_325 rfl rfl ?_
       refine s_icmpN (pc' := 330) A at_327 rfl (feq (fun q => hs320 q.symm)).1 ?_
       refine s_iload (pc' := 332) A at_330 rfl rfl ?_
       refine s_ifN (pc' := 335) A at_332 rfl (by decide) ?_
       refine s_iload (pc' := 337) A at_335 rfl rfl ?_
       refine s_iload (pc' := 339) A at_337 rfl rfl ?_
       refine s_icmpN (pc' := 342) A at_339 rfl (teq hs320b.symm).2 ?_
       refine s_iconst (pc' := 343) (z := (1 : Int32)) A at_342 rfl (by decide) ?_
       refine s_goto (pc' := 347) A at_343 (by decide) (by decide) ?_
       refine s_icmpN (pc' := 350) A at_347 rfl (by decide) ?_
       refine s_iconst (pc' := 351) (z := (1 : Int32)) A at_350 rfl (by decide) ?_
       refine s_goto (pc' := 355) A at_351 (by decide) (by decide) ?_
       refine s_istore (pc' := 357) (Ls' := #[iv q0, iv q1, iv q2, jv q3, S2, jv q4, S2, jv q5, S2, iv ia, iv ib, iv ic, iv 1, iv la, iv 0, iv lc, rv b191, iv 1, iv 0, iv ia, jv q4, S2, jv q3, S2, iv 1]) A at_355 rfl rfl ?_
       refine s_iload (pc' := 359) A at_357 rfl rfl ?_
       refine s_ifN (pc' := 362) A at_359 rfl (by decide) ?_
       refine s_iload (pc' := 364) A at_362 rfl rfl ?_
       refine s_ifN (pc' := 367) A at_364 rfl (by decide) ?_
       refine s_iload (pc' := 369) A at_367 rfl rfl ?_
       refine s_iload (pc' := 371) A at_369 rfl rfl ?_
       refine s_icmpY (pc' := 407) A at_371 (teq hs274.symm).1 (by decide) (by decide) ?_
       refine s_iload (pc' := 409) A at_407 rfl rfl ?_
       exact r_bool A rfl (by decide) at_409 (by decide) (by decide) (rfl)
      ·
       refine s_virtual (pc' := 323) (y := y4_remembers) (argsL := [(.int ib)]) (rest := []) (z := y4_remembers) A E258 (remembers2 l Z a0 hw n0 h255 A.size b191 b202 b201 ic lc q3 q4 q5 ia la q4 q5 q3 ib ⟨E258, F259, F260, ⟨E267, F268, F269, F270, F271, F272⟩, ⟨E273, F274, F275, F276, F277, F278⟩, ne261, ne262, ne263, ge264, ge265, ge266⟩ nib hs320 hs320b) (w41 hw) (w42 hw) (nf_same (C := "") (w44 hw)) (w44 hw) (w43 hw) (w7 hw) (w45 hw) (by decide) pd__I_Z rfl (W := 0) (by decide) (by decide) (Nat.le_of_eq rfl) (by decide) (by decide) rfl rfl at_320 rfl fun T h300 v301 A Q302 => ?_
       obtain ⟨rfl, eh⟩ := Q302
       rw [eh] at A
       refine Wp.stk (st' := [(.int (0 : Int32))]) rfl ?_
       refine s_iload (pc' := 325) A at_323 rfl rfl ?_
       refine s_iload (pc' := 327) A at_325 rfl rfl ?_
       refine s_icmpN (pc' := 330) A at_327 rfl (feq (fun q => hs320 q.symm)).1 ?_
       refine s_iload (pc' := 332) A at_330 rfl rfl ?_
       refine s_ifN (pc' := 335) A at_332 rfl (by decide) ?_
       refine s_iload (pc' := 337) A at_335 rfl rfl ?_
       refine s_iload (pc' := 339) A at_337 rfl rfl ?_
       refine s_icmpY (pc' := 346) A at_339 (feq (fun q => hs320b q.symm)).2 (by decide) (by decide) ?_
       refine s_iconst (pc' := 347) (z := (0 : Int32)) A at_346 rfl (by decide) ?_
       refine s_icmpN (pc' := 350) A at_347 rfl (by decide) ?_
       refine s_iconst (pc' := 351) (z := (1 : Int32)) A at_350 rfl (by decide) ?_
       refine s_goto (pc' := 355) A at_351 (by decide) (by decide) ?_
       refine s_istore (pc' := 357) (Ls' := #[iv q0, iv q1, iv q2, jv q3, S2, jv q4, S2, jv q5, S2, iv ia, iv ib, iv ic, iv 1, iv la, iv 0, iv lc, rv b191, iv 1, iv 0, iv ia, jv q4, S2, jv q3, S2, iv 1]) A at_355 rfl rfl ?_
       refine s_iload (pc' := 359) A at_357 rfl rfl ?_
       refine s_ifN (pc' := 362) A at_359 rfl (by decide) ?_
       refine s_iload (pc' := 364) A at_362 rfl rfl ?_
       refine s_ifN (pc' := 367) A at_364 rfl (by decide) ?_
       refine s_iload (pc' := 369) A at_367 rfl rfl ?_
       refine s_iload (pc' := 371) A at_369 rfl rfl ?_
       refine s_icmpY (pc' := 407) A at_371 (teq hs274.symm).1 (by decide) (by decide) ?_
       refine s_iload (pc' := 409) A at_407 rfl rfl ?_
       exact r_bool A rfl (by decide) at_409 (by decide) (by decide) (rfl)
    ·
     refine s_virtual (pc' := 277) (y := y4_remembers) (argsL := [(.int ia)]) (rest := []) (z := y4_remembers) A E258 (remembers1 l Z a0 hw n0 h255 A.size b191 b202 b201 ic lc q3 q4 q5 ia la q4 q5 q3 ia ⟨E258, F259, F260, ⟨E267, F268, F269, F270, F271, F272⟩, ⟨E273, F274, F275, F276, F277, F278⟩, ne261, ne262, ne263, ge264, ge265, ge266⟩ nia hs274 rfl) (w41 hw) (w42 hw) (nf_same (C := "") (w44 hw)) (w44 hw) (w43 hw) (w7 hw) (w45 hw) (by decide) pd__I_Z rfl (W := 0) (by decide) (by decide) (Nat.le_of_eq rfl) (by decide) (by decide) rfl rfl at_274 rfl fun T h303 v304 A Q305 => ?_
     obtain ⟨rfl, eh⟩ := Q305
     rw [eh] at A
     refine Wp.stk (st' := [(.int (1 : Int32))]) rfl ?_
     refine s_iload (pc' := 279) A at_277 rfl rfl ?_
     refine s_iload (pc' := 281) A at_279 rfl rfl ?_
     refine s_icmpN (pc' := 284) A at_281 rfl (feq (fun q => hs274 q.symm)).1 ?_
     refine s_iload (pc' := 286) A at_284 rfl rfl ?_
     refine s_ifN (pc' := 289) A at_286 rfl (by decide) ?_
     refine s_iload (pc' := 291) A at_289 rfl rfl ?_
     refine s_iload (pc' := 293) A at_291 rfl rfl ?_
     refine s_icmpN (pc' := 296) A at_293 rfl (teq (rfl : ia = ia)).2 ?_
     refine s_iconst (pc' := 297) (z := (1 : Int32)) A at_296 rfl (by decide) ?_
     refine s_goto (pc' := 301) A at_297 (by decide) (by decide) ?_
     refine s_icmpN (pc' := 304) A at_301 rfl (by decide) ?_
     refine s_iconst (pc' := 305) (z := (1 : Int32)) A at_304 rfl (by decide) ?_
     refine s_goto (pc' := 309) A at_305 (by decide) (by decide) ?_
     refine s_istore (pc' := 311) (Ls' := #[iv q0, iv q1, iv q2, jv q3, S2, jv q4, S2, jv q5, S2, iv ia, iv ib, iv ic, iv 1, iv la, iv 0, iv lc, rv b191, iv 1, iv 0, iv ia, jv q4, S2, jv q3, S2, iv 1]) A at_309 rfl rfl ?_
     refine s_iload (pc' := 313) A at_311 rfl rfl ?_
     refine s_ifN (pc' := 316) A at_313 rfl (by decide) ?_
     refine s_aload (pc' := 318) A at_316 rfl rfl rfl ?_
     refine s_iload (pc' := 320) A at_318 rfl rfl ?_
     by_cases hs320 : ic = ib
     ·
      refine s_virtual (pc' := 323) (y := y4_remembers) (argsL := [(.int ib)]) (rest := []) (z := y4_remembers) A E258 (remembers0 l Z a0 hw n0 h255 A.size b191 b202 b201 ic lc q3 q4 q5 ia la q4 q5 q3 ib ⟨E258, F259, F260, ⟨E267, F268, F269, F270, F271, F272⟩, ⟨E273, F274, F275, F276, F277, F278⟩, ne261, ne262, ne263, ge264, ge265, ge266⟩ nib hs320) (w41 hw) (w42 hw) (nf_same (C := "") (w44 hw)) (w44 hw) (w43 hw) (w7 hw) (w45 hw) (by decide) pd__I_Z rfl (W := 0) (by decide) (by decide) (Nat.le_of_eq rfl) (by decide) (by decide) rfl rfl at_320 rfl fun T h306 v307 A Q308 => ?_
      obtain ⟨rfl, eh⟩ := Q308
      rw [eh] at A
      refine Wp.stk (st' := [(.int (1 : Int32))]) rfl ?_
      refine s_iload (pc' := 325) A at_323 rfl rfl ?_
      refine s_iload (pc' := 327) A at_325 rfl rfl ?_
      refine s_icmpY (pc' := 342) A at_327 (teq hs320.symm).1 (by decide) (by decide) ?_
      refine s_iconst (pc' := 343) (z := (1 : Int32)) A at_342 rfl (by decide) ?_
      refine s_goto (pc' := 347) A at_343 (by decide) (by decide) ?_
      refine s_icmpN (pc' := 350) A at_347 rfl (by decide) ?_
      refine s_iconst (pc' := 351) (z := (1 : Int32)) A at_350 rfl (by decide) ?_
      refine s_goto (pc' := 355) A at_351 (by decide) (by decide) ?_
      refine s_istore (pc' := 357) (Ls' := #[iv q0, iv q1, iv q2, jv q3, S2, jv q4, S2, jv q5, S2, iv ia, iv ib, iv ic, iv 1, iv la, iv 0, iv lc, rv b191, iv 1, iv 0, iv ia, jv q4, S2, jv q3, S2, iv 1]) A at_355 rfl rfl ?_
      refine s_iload (pc' := 359) A at_357 rfl rfl ?_
      refine s_ifN (pc' := 362) A at_359 rfl (by decide) ?_
      refine s_iload (pc' := 364) A at_362 rfl rfl ?_
      refine s_ifN (pc' := 367) A at_364 rfl (by decide) ?_
      refine s_iload (pc' := 369) A at_367 rfl rfl ?_
      refine s_iload (pc' := 371) A at_369 rfl rfl ?_
      refine s_icmpN (pc' := 374) A at_371 rfl (feq (fun q => hs274 q.symm)).1 ?_
      refine s_aload (pc' := 376) A at_374 rfl rfl rfl ?_
      refine s_iload (pc' := 378) A at_376 rfl rfl ?_
      refine s_virtual (pc' := 381) (y := y5_highest) (argsL := [(.int ia)]) (rest := []) (z := y5_highest) A E258 (highest1 l Z a0 hw n0 h255 A.size b191 b202 b201 ic lc q3 q4 q5 ia la q4 q5 q3 ia ⟨E258, F259, F260, ⟨E267, F268, F269, F270, F271, F272⟩, ⟨E273, F274, F275, F276, F277, F278⟩, ne261, ne262, ne263, ge264, ge265, ge266⟩ nia (fun q => (fun q => hs274 q.symm) q.symm) rfl) (w50 hw) (w51 hw) (nf_same (C := "") (w53 hw)) (w53 hw) (w52 hw) (w7 hw) (w54 hw) (by decide) pd__I_J rfl (W := 0) (by decide) (by decide) (Nat.le_of_eq rfl) (by decide) (by decide) rfl rfl at_378 rfl fun T h309 v310 A Q311 => ?_
      obtain ⟨rfl, eh⟩ := Q311
      rw [eh] at A
      refine Wp.stk (st' := [(.long q4)]) rfl ?_
      refine s_lload (pc' := 383) A at_381 rfl rfl ?_
      refine s_lcmp (pc' := 384) A at_383 rfl ?_
      refine s_ifN (pc' := 387) A at_384 rfl ((if0 _ _).trans (teq ((lw_eq q4 q4).2 (rfl : q4 = q4))).2) ?_
      refine s_aload (pc' := 389) A at_387 rfl rfl rfl ?_
      refine s_iload (pc' := 391) A at_389 rfl rfl ?_
      refine s_virtual (pc' := 394) (y := y7_order) (argsL := [(.int ia)]) (rest := []) (z := y7_order) A E258 (order1 l Z a0 hw n0 h255 A.size b191 b202 b201 ic lc q3 q4 q5 ia la q4 q5 q3 ia ⟨E258, F259, F260, ⟨E267, F268, F269, F270, F271, F272⟩, ⟨E273, F274, F275, F276, F277, F278⟩, ne261, ne262, ne263, ge264, ge265, ge266⟩ nia (fun q => (fun q => hs274 q.symm) q.symm) rfl) (w60 hw) (w61 hw) (nf_same (C := "") (w63 hw)) (w63 hw) (w62 hw) (w7 hw) (w64 hw) (by decide) pd__I_J rfl (W := 0) (by decide) (by decide) (Nat.le_of_eq rfl) (by decide) (by decide) rfl rfl at_391 rfl fun T h312 v313 A Q314 => ?_
      obtain ⟨rfl, eh⟩ := Q314
      rw [eh] at A
      refine Wp.stk (st' := [(.long q3)]) rfl ?_
      refine s_lload (pc' := 396) A at_394 rfl rfl ?_
      refine s_lcmp (pc' := 397) A at_396 rfl ?_
      refine s_ifN (pc' := 400) A at_397 rfl ((if0 _ _).trans (teq ((lw_eq q3 q3).2 (rfl : q3 = q3))).2) ?_
      refine s_iconst (pc' := 401) (z := (1 : Int32)) A at_400 rfl (by decide) ?_
      refine s_goto (pc' := 405) A at_401 (by decide) (by decide) ?_
      refine s_istore (pc' := 407) (Ls' := #[iv q0, iv q1, iv q2, jv q3, S2, jv q4, S2, jv q5, S2, iv ia, iv ib, iv ic, iv 1, iv la, iv 0, iv lc, rv b191, iv 1, iv 0, iv ia, jv q4, S2, jv q3, S2, iv 1]) A at_405 rfl rfl ?_
      refine s_iload (pc' := 409) A at_407 rfl rfl ?_
      exact r_bool A rfl (by decide) at_409 (by decide) (by decide) (rfl)
     ·
      by_cases hs320b : ia = ib
      ·
       refine s_virtual (pc' := 323) (y := y4_remembers) (argsL := [(.int ib)]) (rest := []) (z := y4_remembers) A E258 (remembers1 l Z a0 hw n0 h255 A.size b191 b202 b201 ic lc q3 q4 q5 ia la q4 q5 q3 ib ⟨E258, F259, F260, ⟨E267, F268, F269, F270, F271, F272⟩, ⟨E273, F274, F275, F276, F277, F278⟩, ne261, ne262, ne263, ge264, ge265, ge266⟩ nib hs320 hs320b) (w41 hw) (w42 hw) (nf_same (C := "") (w44 hw)) (w44 hw) (w43 hw) (w7 hw) (w45 hw) (by decide) pd__I_Z rfl (W := 0) (by decide) (by decide) (Nat.le_of_eq rfl) (by decide) (by decide) rfl rfl at_320 rfl fun T h315 v316 A Q317 => ?_
       obtain ⟨rfl, eh⟩ := Q317
       rw [eh] at A
       refine Wp.stk (st' := [(.int (1 : Int32))]) rfl ?_
       refine s_iload (pc' := 325) A at_323 rfl rfl ?_
       refine s_iload (pc' := 327) A at_325 rfl rfl ?_
       refine s_icmpN (pc' := 330) A at_327 rfl (feq (fun q => hs320 q.symm)).1 ?_
       refine s_iload (pc' := 332) A at_330 rfl rfl ?_
       refine s_ifN (pc' := 335) A at_332 rfl (by decide) ?_
       refine s_iload (pc' := 337) A at_335 rfl rfl ?_
       refine s_iload (pc' := 339) A at_337 rfl rfl ?_
       refine s_icmpN (pc' := 342) A at_339 rfl (teq hs320b.symm).2 ?_
       refine s_iconst (pc' := 343) (z := (1 : Int32)) A at_342 rfl (by decide) ?_
       refine s_goto (pc' := 347) A at_343 (by decide) (by decide) ?_
       refine s_icmpN (pc' := 350) A at_347 rfl (by decide) ?_
       refine s_iconst (pc' := 351) (z := (1 : Int32)) A at_350 rfl (by decide) ?_
       refine s_goto (pc' := 355) A at_351 (by decide) (by decide) ?_
       refine s_istore (pc' := 357) (Ls' := #[iv q0, iv q1, iv q2, jv q3, S2, jv q4, S2, jv q5, S2, iv ia, iv ib, iv ic, iv 1, iv la, iv 0, iv lc, rv b191, iv 1, iv 0, iv ia, jv q4, S2, jv q3, S2, iv 1]) A at_355 rfl rfl ?_
       refine s_iload (pc' := 359) A at_357 rfl rfl ?_
       refine s_ifN (pc' := 362) A at_359 rfl (by decide) ?_
       refine s_iload (pc' := 364) A at_362 rfl rfl ?_
       refine s_ifN (pc' := 367) A at_364 rfl (by decide) ?_
       refine s_iload (pc' := 369) A at_367 rfl rfl ?_
       refine s_iload (pc' := 371) A at_369 rfl rfl ?_
       refine s_icmpN (pc' := 374) A at_371 rfl (feq (fun q => hs274 q.symm)).1 ?_
       refine s_aload (pc' := 376) A at_374 rfl rfl rfl ?_
       refine s_iload (pc' := 378) A at_376 rfl rfl ?_
       refine s_virtual (pc' := 381) (y := y5_highest) (argsL := [(.int ia)]) (rest := []) (z := y5_highest) A E258 (highest1 l Z a0 hw n0 h255 A.size b191 b202 b201 ic lc q3 q4 q5 ia la q4 q5 q3 ia ⟨E258, F259, F260, ⟨E267, F268, F269, F270, F271, F272⟩, ⟨E273, F274, F275, F276, F277, F278⟩, ne261, ne262, ne263, ge264, ge265, ge266⟩ nia (fun q => (fun q => hs274 q.symm) q.symm) rfl) (w50 hw) (w51 hw) (nf_same (C := "") (w53 hw)) (w53 hw) (w52 hw) (w7 hw) (w54 hw) (by decide) pd__I_J rfl (W := 0) (by decide) (by decide) (Nat.le_of_eq rfl) (by decide) (by decide) rfl rfl at_378 rfl fun T h318 v319 A Q320 => ?_
       obtain ⟨rfl, eh⟩ := Q320
       rw [eh] at A
       refine Wp.stk (st' := [(.long q4)]) rfl ?_
       refine s_lload (pc' := 383) A at_381 rfl rfl ?_
       refine s_lcmp (pc' := 384) A at_383 rfl ?_
       refine s_ifN (pc' := 387) A at_384 rfl ((if0 _ _).trans (teq ((lw_eq q4 q4).2 (rfl : q4 = q4))).2) ?_
       refine s_aload (pc' := 389) A at_387 rfl rfl rfl ?_
       refine s_iload (pc' := 391) A at_389 rfl rfl ?_
       refine s_virtual (pc' := 394) (y := y7_order) (argsL := [(.int ia)]) (rest := []) (z := y7_order) A E258 (order1 l Z a0 hw n0 h255 A.size b191 b202 b201 ic lc q3 q4 q5 ia la q4 q5 q3 ia ⟨E258, F259, F260, ⟨E267, F268, F269, F270, F271, F272⟩, ⟨E273, F274, F275, F276, F277, F278⟩, ne261, ne262, ne263, ge264, ge265, ge266⟩ nia (fun q => (fun q => hs274 q.symm) q.symm) rfl) (w60 hw) (w61 hw) (nf_same (C := "") (w63 hw)) (w63 hw) (w62 hw) (w7 hw) (w64 hw) (by decide) pd__I_J rfl (W := 0) (by decide) (by decide) (Nat.le_of_eq rfl) (by decide) (by decide) rfl rfl at_391 rfl fun T h321 v322 A Q323 => ?_
       obtain ⟨rfl, eh⟩ := Q323
       rw [eh] at A
       refine Wp.stk (st' := [(.long q3)]) rfl ?_
       refine s_lload (pc' := 396) A at_394 rfl rfl ?_
       refine s_lcmp (pc' := 397) A at_396 rfl ?_
       refine s_ifN (pc' := 400) A at_397 rfl ((if0 _ _).trans (teq ((lw_eq q3 q3).2 (rfl : q3 = q3))).2) ?_
       refine s_iconst (pc' := 401) (z := (1 : Int32)) A at_400 rfl (by decide) ?_
       refine s_goto (pc' := 405) A at_401 (by decide) (by decide) ?_
       refine s_istore (pc' := 407) (Ls' := #[iv q0, iv q1, iv q2, jv q3, S2, jv q4, S2, jv q5, S2, iv ia, iv ib, iv ic, iv 1, iv la, iv 0, iv lc, rv b191, iv 1, iv 0, iv ia, jv q4, S2, jv q3, S2, iv 1]) A at_405 rfl rfl ?_
       refine s_iload (pc' := 409) A at_407 rfl rfl ?_
       exact r_bool A rfl (by decide) at_409 (by decide) (by decide) (rfl)
      ·
       refine s_virtual (pc' := 323) (y := y4_remembers) (argsL := [(.int ib)]) (rest := []) (z := y4_remembers) A E258 (remembers2 l Z a0 hw n0 h255 A.size b191 b202 b201 ic lc q3 q4 q5 ia la q4 q5 q3 ib ⟨E258, F259, F260, ⟨E267, F268, F269, F270, F271, F272⟩, ⟨E273, F274, F275, F276, F277, F278⟩, ne261, ne262, ne263, ge264, ge265, ge266⟩ nib hs320 hs320b) (w41 hw) (w42 hw) (nf_same (C := "") (w44 hw)) (w44 hw) (w43 hw) (w7 hw) (w45 hw) (by decide) pd__I_Z rfl (W := 0) (by decide) (by decide) (Nat.le_of_eq rfl) (by decide) (by decide) rfl rfl at_320 rfl fun T h324 v325 A Q326 => ?_
       obtain ⟨rfl, eh⟩ := Q326
       rw [eh] at A
       refine Wp.stk (st' := [(.int (0 : Int32))]) rfl ?_
       refine s_iload (pc' := 325) A at_323 rfl rfl ?_
       refine s_iload (pc' := 327) A at_325 rfl rfl ?_
       refine s_icmpN (pc' := 330) A at_327 rfl (feq (fun q => hs320 q.symm)).1 ?_
       refine s_iload (pc' := 332) A at_330 rfl rfl ?_
       refine s_ifN (pc' := 335) A at_332 rfl (by decide) ?_
       refine s_iload (pc' := 337) A at_335 rfl rfl ?_
       refine s_iload (pc' := 339) A at_337 rfl rfl ?_
       refine s_icmpY (pc' := 346) A at_339 (feq (fun q => hs320b q.symm)).2 (by decide) (by decide) ?_
       refine s_iconst (pc' := 347) (z := (0 : Int32)) A at_346 rfl (by decide) ?_
       refine s_icmpN (pc' := 350) A at_347 rfl (by decide) ?_
       refine s_iconst (pc' := 351) (z := (1 : Int32)) A at_350 rfl (by decide) ?_
       refine s_goto (pc' := 355) A at_351 (by decide) (by decide) ?_
       refine s_istore (pc' := 357) (Ls' := #[iv q0, iv q1, iv q2, jv q3, S2, jv q4, S2, jv q5, S2, iv ia, iv ib, iv ic, iv 1, iv la, iv 0, iv lc, rv b191, iv 1, iv 0, iv ia, jv q4, S2, jv q3, S2, iv 1]) A at_355 rfl rfl ?_
       refine s_iload (pc' := 359) A at_357 rfl rfl ?_
       refine s_ifN (pc' := 362) A at_359 rfl (by decide) ?_
       refine s_iload (pc' := 364) A at_362 rfl rfl ?_
       refine s_ifN (pc' := 367) A at_364 rfl (by decide) ?_
       refine s_iload (pc' := 369) A at_367 rfl rfl ?_
       refine s_iload (pc' := 371) A at_369 rfl rfl ?_
       refine s_icmpN (pc' := 374) A at_371 rfl (feq (fun q => hs274 q.symm)).1 ?_
       refine s_aload (pc' := 376) A at_374 rfl rfl rfl ?_
       refine s_iload (pc' := 378) A at_376 rfl rfl ?_
       refine s_virtual (pc' := 381) (y := y5_highest) (argsL := [(.int ia)]) (rest := []) (z := y5_highest) A E258 (highest1 l Z a0 hw n0 h255 A.size b191 b202 b201 ic lc q3 q4 q5 ia la q4 q5 q3 ia ⟨E258, F259, F260, ⟨E267, F268, F269, F270, F271, F272⟩, ⟨E273, F274, F275, F276, F277, F278⟩, ne261, ne262, ne263, ge264, ge265, ge266⟩ nia (fun q => (fun q => hs274 q.symm) q.symm) rfl) (w50 hw) (w51 hw) (nf_same (C := "") (w53 hw)) (w53 hw) (w52 hw) (w7 hw) (w54 hw) (by decide) pd__I_J rfl (W := 0) (by decide) (by decide) (Nat.le_of_eq rfl) (by decide) (by decide) rfl rfl at_378 rfl fun T h327 v328 A Q329 => ?_
       obtain ⟨rfl, eh⟩ := Q329
       rw [eh] at A
       refine Wp.stk (st' := [(.long q4)]) rfl ?_
       refine s_lload (pc' := 383) A at_381 rfl rfl ?_
       refine s_lcmp (pc' := 384) A at_383 rfl ?_
       refine s_ifN (pc' := 387) A at_384 rfl ((if0 _ _).trans (teq ((lw_eq q4 q4).2 (rfl : q4 = q4))).2) ?_
       refine s_aload (pc' := 389) A at_387 rfl rfl rfl ?_
       refine s_iload (pc' := 391) A at_389 rfl rfl ?_
       refine s_virtual (pc' := 394) (y := y7_order) (argsL := [(.int ia)]) (rest := []) (z := y7_order) A E258 (order1 l Z a0 hw n0 h255 A.size b191 b202 b201 ic lc q3 q4 q5 ia la q4 q5 q3 ia ⟨E258, F259, F260, ⟨E267, F268, F269, F270, F271, F272⟩, ⟨E273, F274, F275, F276, F277, F278⟩, ne261, ne262, ne263, ge264, ge265, ge266⟩ nia (fun q => (fun q => hs274 q.symm) q.symm) rfl) (w60 hw) (w61 hw) (nf_same (C := "") (w63 hw)) (w63 hw) (w62 hw) (w7 hw) (w64 hw) (by decide) pd__I_J rfl (W := 0) (by decide) (by decide) (Nat.le_of_eq rfl) (by decide) (by decide) rfl rfl at_391 rfl fun T h330 v331 A Q332 => ?_
       obtain ⟨rfl, eh⟩ := Q332
       rw [eh] at A
       refine Wp.stk (st' := [(.long q3)]) rfl ?_
       refine s_lload (pc' := 396) A at_394 rfl rfl ?_
       refine s_lcmp (pc' := 397) A at_396 rfl ?_
       refine s_ifN (pc' := 400) A at_397 rfl ((if0 _ _).trans (teq ((lw_eq q3 q3).2 (rfl : q3 = q3))).2) ?_
       refine s_iconst (pc' := 401) (z := (1 : Int32)) A at_400 rfl (by decide) ?_
       refine s_goto (pc' := 405) A at_401 (by decide) (by decide) ?_
       refine s_istore (pc' := 407) (Ls' := #[iv q0, iv q1, iv q2, jv q3, S2, jv q4, S2, jv q5, S2, iv ia, iv ib, iv ic, iv 1, iv la, iv 0, iv lc, rv b191, iv 1, iv 0, iv ia, jv q4, S2, jv q3, S2, iv 1]) A at_405 rfl rfl ?_
       refine s_iload (pc' := 409) A at_407 rfl rfl ?_
       exact r_bool A rfl (by decide) at_409 (by decide) (by decide) (rfl)
   ·
    refine s_ifN (pc' := 53) A at_50 rfl ((if0 _ _).trans (feq hc50_1).1) ?_
    refine s_iconst (pc' := 54) (z := (1 : Int32)) A at_53 rfl (by decide) ?_
    refine s_goto (pc' := 58) A at_54 (by decide) (by decide) ?_
    refine s_istore (pc' := 60) (Ls' := #[iv q0, iv q1, iv q2, jv q3, S2, jv q4, S2, jv q5, S2, iv ia, iv ib, iv ic, iv 1, iv la, iv 1, U0, U0, U0, U0, U0, U0, U0, U0, U0, U0]) A at_58 rfl rfl ?_
    refine s_iloadN (pc' := 61) A at_60 rfl rfl ?_
    refine s_iconst (pc' := 62) (z := (4 : Int32)) A at_61 rfl (by decide) ?_
    refine s_iushr (pc' := 63) (z := (ush q2 (4 : Int32))) A at_62 rfl rfl ?_
    refine s_iconst (pc' := 64) (z := (1 : Int32)) A at_63 rfl (by decide) ?_
    refine s_iand (pc' := 65) (z := ((ush q2 (4 : Int32)) &&& (1 : Int32))) A at_64 rfl rfl ?_
    suffices dm65 : ∀ lc : Int32, (lc = 0 ∨ lc = 1) → Wp p e below s n0 room_1.cells room_1.slots (fun v h => v = some (.int 1)) (T.setTop (mkF m 73 #[iv q0, iv q1, iv q2, jv q3, S2, jv q4, S2, jv q5, S2, iv ia, iv ib, iv ic, iv 1, iv la, iv 1, U0, U0, U0, U0, U0, U0, U0, U0, U0, U0] [.int lc])) by
     by_cases hc65_1 : ((ush q2 (4 : Int32)) &&& (1 : Int32)) = (0 : Int32)
     ·
      refine s_ifY (pc' := 72) A at_65 ((if0 _ _).trans (teq hc65_1).1) (by decide) (by decide) ?_
      refine s_iconst (pc' := 73) (z := (0 : Int32)) A at_72 rfl (by decide) ?_
      exact dm65 _ (Or.inl rfl)
     ·
      refine s_ifN (pc' := 68) A at_65 rfl ((if0 _ _).trans (feq hc65_1).1) ?_
      refine s_iconst (pc' := 69) (z := (1 : Int32)) A at_68 rfl (by decide) ?_
      refine s_goto (pc' := 73) A at_69 (by decide) (by decide) ?_
      exact dm65 _ (Or.inr rfl)
    intro lc hlc
    refine s_istore (pc' := 75) (Ls' := #[iv q0, iv q1, iv q2, jv q3, S2, jv q4, S2, jv q5, S2, iv ia, iv ib, iv ic, iv 1, iv la, iv 1, iv lc, U0, U0, U0, U0, U0, U0, U0, U0, U0]) A at_73 rfl rfl ?_
    refine s_new (pc' := 78) A (w5 hw) (w6 hw) (w7 hw) (by decide) (by decide) at_75 rfl fun T h333 b334 A g335 ge336 X337 E338 D339 => ?_
    have F340 : Fld Z h333 b334 "com/example/wirefram/wirefram/sequence/SessionsLeft" "last" "Lcom/example/wirefram/wirefram/sequence/SessionsLeft$Left;" .null := D339 (Or.inl (w24 hw)) (ty := (.object "com/example/wirefram/wirefram/sequence/SessionsLeft$Left")) (by decide)
    have F341 : Fld Z h333 b334 "com/example/wirefram/wirefram/sequence/SessionsLeft" "before" "Lcom/example/wirefram/wirefram/sequence/SessionsLeft$Left;" .null := D339 (Or.inl (w26 hw)) (ty := (.object "com/example/wirefram/wirefram/sequence/SessionsLeft$Left")) (by decide)
    refine s_dup (pc' := 79) A at_78 rfl rfl ?_
    refine s_special (pc' := 82) (y := y1_init) (argsL := []) (rest := [(.ref b334)]) A (ss_new l Z a0 hw n0 h333 A.size b334 E338 F340 F341 ge336) rfl (w8 hw) (w9 hw) (w7 hw) (w10 hw) (by decide) pd___V rfl (W := 1) (by decide) (by decide) (Nat.le_of_eq rfl) (by decide) (by decide) rfl rfl at_79 rfl fun T h346 v347 A Q348 => ?_
    obtain ⟨rfl, K342, b344, b345, H343⟩ := Q348
    obtain ⟨E349, F350, F351, ⟨E358, F359, F360, F361, F362, F363⟩, ⟨E364, F365, F366, F367, F368, F369⟩, ne352, ne353, ne354, ge355, ge356, ge357⟩ := H343
    refine Wp.stk (st' := [(.ref b334)]) rfl ?_
    refine s_astore (pc' := 84) (Ls' := #[iv q0, iv q1, iv q2, jv q3, S2, jv q4, S2, jv q5, S2, iv ia, iv ib, iv ic, iv 1, iv la, iv 1, iv lc, rv b334, U0, U0, U0, U0, U0, U0, U0, U0]) A at_82 rfl rfl rfl ?_
    refine s_iload (pc' := 86) A at_84 rfl rfl ?_
    refine s_iconst (pc' := 87) (z := (1 : Int32)) A at_86 rfl (by decide) ?_
    refine s_icmpN (pc' := 90) A at_87 rfl (by decide) ?_
    refine s_aload (pc' := 92) A at_90 rfl rfl rfl ?_
    refine s_iload (pc' := 94) A at_92 rfl rfl ?_
    refine s_iload (pc' := 96) A at_94 rfl rfl ?_
    refine s_lload (pc' := 98) A at_96 rfl rfl ?_
    refine s_lload (pc' := 100) A at_98 rfl rfl ?_
    refine s_lloadN (pc' := 101) A at_100 rfl rfl ?_
    refine s_virtual (pc' := 104) (y := y2_leave) (argsL := [(.int ia), (.int la), (.long q4), (.long q5), (.long q3)]) (rest := []) (z := y2_leave) A E349 (leave0 l Z a0 hw n0 h346 A.size b334 b344 b345 (-1 : Int32) (0 : Int32) (0 : Int64) (0 : Int64) (0 : Int64) (-1 : Int32) (0 : Int32) (0 : Int64) (0 : Int64) (0 : Int64) ia la q4 q5 q3 ⟨E349, F350, F351, ⟨E358, F359, F360, F361, F362, F363⟩, ⟨E364, F365, F366, F367, F368, F369⟩, ne352, ne353, ne354, ge355, ge356, ge357⟩ hla rfl) (w27 hw) (w28 hw) (nf_same (C := "") (w30 hw)) (w30 hw) (w29 hw) (w7 hw) (w31 hw) (by decide) pd__IZJJJ_V rfl (W := 0) (by decide) (by decide) (Nat.le_of_eq rfl) (by decide) (by decide) rfl rfl at_101 rfl fun T h372 v373 A Q374 => ?_
    obtain ⟨rfl, K370, H371⟩ := Q374
    obtain ⟨E375, F376, F377, ⟨E384, F385, F386, F387, F388, F389⟩, ⟨E390, F391, F392, F393, F394, F395⟩, ne378, ne379, ne380, ge381, ge382, ge383⟩ := H371
    refine Wp.stk (st' := []) rfl ?_
    refine s_iload (pc' := 106) A at_104 rfl rfl ?_
    refine s_iconst (pc' := 107) (z := (2 : Int32)) A at_106 rfl (by decide) ?_
    refine s_icmpY (pc' := 124) A at_107 (by decide) (by decide) (by decide) ?_
    refine s_aload (pc' := 126) A at_124 rfl rfl rfl ?_
    refine s_iload (pc' := 128) A at_126 rfl rfl ?_
    refine s_iload (pc' := 130) A at_128 rfl rfl ?_
    refine s_lloadN (pc' := 131) A at_130 rfl rfl ?_
    refine s_lload (pc' := 133) A at_131 rfl rfl ?_
    refine s_lload (pc' := 135) A at_133 rfl rfl ?_
    refine s_virtual (pc' := 138) (y := y2_leave) (argsL := [(.int ic), (.int lc), (.long q3), (.long q4), (.long q5)]) (rest := []) (z := y2_leave) A E375 (leave1 l Z a0 hw n0 h372 A.size b334 b344 b345 ia la q4 q5 q3 (-1 : Int32) (0 : Int32) (0 : Int64) (0 : Int64) (0 : Int64) ic lc q3 q4 q5 ⟨E375, F376, F377, ⟨E384, F385, F386, F387, F388, F389⟩, ⟨E390, F391, F392, F393, F394, F395⟩, ne378, ne379, ne380, ge381, ge382, ge383⟩ hlc nia rfl) (w27 hw) (w28 hw) (nf_same (C := "") (w30 hw)) (w30 hw) (w29 hw) (w7 hw) (w31 hw) (by decide) pd__IZJJJ_V rfl (W := 0) (by decide) (by decide) (Nat.le_of_eq rfl) (by decide) (by decide) rfl rfl at_135 rfl fun T h398 v399 A Q400 => ?_
    obtain ⟨rfl, K396, H397⟩ := Q400
    obtain ⟨E401, F402, F403, ⟨E410, F411, F412, F413, F414, F415⟩, ⟨E416, F417, F418, F419, F420, F421⟩, ne404, ne405, ne406, ge407, ge408, ge409⟩ := H397
    refine Wp.stk (st' := []) rfl ?_
    refine s_iload (pc' := 140) A at_138 rfl rfl ?_
    refine s_iconst (pc' := 141) (z := (1 : Int32)) A at_140 rfl (by decide) ?_
    refine s_icmpN (pc' := 144) A at_141 rfl (by decide) ?_
    refine s_iconst (pc' := 145) (z := (1 : Int32)) A at_144 rfl (by decide) ?_
    refine s_goto (pc' := 149) A at_145 (by decide) (by decide) ?_
    refine s_istore (pc' := 151) (Ls' := #[iv q0, iv q1, iv q2, jv q3, S2, jv q4, S2, jv q5, S2, iv ia, iv ib, iv ic, iv 1, iv la, iv 1, iv lc, rv b334, iv 1, U0, U0, U0, U0, U0, U0, U0]) A at_149 rfl rfl ?_
    refine s_iload (pc' := 153) A at_151 rfl rfl ?_
    refine s_iconst (pc' := 154) (z := (2 : Int32)) A at_153 rfl (by decide) ?_
    refine s_icmpY (pc' := 166) A at_154 (by decide) (by decide) (by decide) ?_
    refine s_iconst (pc' := 167) (z := (0 : Int32)) A at_166 rfl (by decide) ?_
    refine s_istore (pc' := 169) (Ls' := #[iv q0, iv q1, iv q2, jv q3, S2, jv q4, S2, jv q5, S2, iv ia, iv ib, iv ic, iv 1, iv la, iv 1, iv lc, rv b334, iv 1, iv 0, U0, U0, U0, U0, U0, U0]) A at_167 rfl rfl ?_
    refine s_iload (pc' := 171) A at_169 rfl rfl ?_
    refine s_ifY (pc' := 179) A at_171 (by decide) (by decide) (by decide) ?_
    refine s_iload (pc' := 181) A at_179 rfl rfl ?_
    refine s_istore (pc' := 183) (Ls' := #[iv q0, iv q1, iv q2, jv q3, S2, jv q4, S2, jv q5, S2, iv ia, iv ib, iv ic, iv 1, iv la, iv 1, iv lc, rv b334, iv 1, iv 0, iv ia, U0, U0, U0, U0, U0]) A at_181 rfl rfl ?_
    refine s_iload (pc' := 185) A at_183 rfl rfl ?_
    refine s_ifY (pc' := 193) A at_185 (by decide) (by decide) (by decide) ?_
    refine s_lload (pc' := 195) A at_193 rfl rfl ?_
    refine s_lstore (pc' := 197) (Ls' := #[iv q0, iv q1, iv q2, jv q3, S2, jv q4, S2, jv q5, S2, iv ia, iv ib, iv ic, iv 1, iv la, iv 1, iv lc, rv b334, iv 1, iv 0, iv ia, jv q4, S2, U0, U0, U0]) A at_195 rfl rfl ?_
    refine s_iload (pc' := 199) A at_197 rfl rfl ?_
    refine s_ifY (pc' := 207) A at_199 (by decide) (by decide) (by decide) ?_
    refine s_lloadN (pc' := 208) A at_207 rfl rfl ?_
    refine s_lstore (pc' := 210) (Ls' := #[iv q0, iv q1, iv q2, jv q3, S2, jv q4, S2, jv q5, S2, iv ia, iv ib, iv ic, iv 1, iv la, iv 1, iv lc, rv b334, iv 1, iv 0, iv ia, jv q4, S2, jv q3, S2, U0]) A at_208 rfl rfl ?_
    refine s_aload (pc' := 212) A at_210 rfl rfl rfl ?_
    refine s_iload (pc' := 214) A at_212 rfl rfl ?_
    refine s_virtual (pc' := 217) (y := y4_remembers) (argsL := [(.int ic)]) (rest := []) (z := y4_remembers) A E401 (remembers0 l Z a0 hw n0 h398 A.size b334 b345 b344 ic lc q3 q4 q5 ia la q4 q5 q3 ic ⟨E401, F402, F403, ⟨E410, F411, F412, F413, F414, F415⟩, ⟨E416, F417, F418, F419, F420, F421⟩, ne404, ne405, ne406, ge407, ge408, ge409⟩ nic rfl) (w41 hw) (w42 hw) (nf_same (C := "") (w44 hw)) (w44 hw) (w43 hw) (w7 hw) (w45 hw) (by decide) pd__I_Z rfl (W := 0) (by decide) (by decide) (Nat.le_of_eq rfl) (by decide) (by decide) rfl rfl at_214 rfl fun T h422 v423 A Q424 => ?_
    obtain ⟨rfl, eh⟩ := Q424
    rw [eh] at A
    refine Wp.stk (st' := [(.int (1 : Int32))]) rfl ?_
    refine s_ifN (pc' := 220) A at_217 rfl (by decide) ?_
    refine s_aload (pc' := 222) A at_220 rfl rfl rfl ?_
    refine s_iload (pc' := 224) A at_222 rfl rfl ?_
    refine s_virtual (pc' := 227) (y := y5_highest) (argsL := [(.int ic)]) (rest := []) (z := y5_highest) A E401 (highest0 l Z a0 hw n0 h398 A.size b334 b345 b344 ic lc q3 q4 q5 ia la q4 q5 q3 ic ⟨E401, F402, F403, ⟨E410, F411, F412, F413, F414, F415⟩, ⟨E416, F417, F418, F419, F420, F421⟩, ne404, ne405, ne406, ge407, ge408, ge409⟩ nic rfl) (w50 hw) (w51 hw) (nf_same (C := "") (w53 hw)) (w53 hw) (w52 hw) (w7 hw) (w54 hw) (by decide) pd__I_J rfl (W := 0) (by decide) (by decide) (Nat.le_of_eq rfl) (by decide) (by decide) rfl rfl at_224 rfl fun T h425 v426 A Q427 => ?_
    obtain ⟨rfl, eh⟩ := Q427
    rw [eh] at A
    refine Wp.stk (st' := [(.long q3)]) rfl ?_
    refine s_lloadN (pc' := 228) A at_227 rfl rfl ?_
    refine s_lcmp (pc' := 229) A at_228 rfl ?_
    refine s_ifN (pc' := 232) A at_229 rfl ((if0 _ _).trans (teq ((lw_eq q3 q3).2 (rfl : q3 = q3))).2) ?_
    refine s_aload (pc' := 234) A at_232 rfl rfl rfl ?_
    refine s_iload (pc' := 236) A at_234 rfl rfl ?_
    refine s_virtual (pc' := 239) (y := y6_note) (argsL := [(.int ic)]) (rest := []) (z := y6_note) A E401 (note0 l Z a0 hw n0 h398 A.size b334 b345 b344 ic lc q3 q4 q5 ia la q4 q5 q3 ic ⟨E401, F402, F403, ⟨E410, F411, F412, F413, F414, F415⟩, ⟨E416, F417, F418, F419, F420, F421⟩, ne404, ne405, ne406, ge407, ge408, ge409⟩ nic rfl) (w55 hw) (w56 hw) (nf_same (C := "") (w58 hw)) (w58 hw) (w57 hw) (w7 hw) (w59 hw) (by decide) pd__I_J rfl (W := 0) (by decide) (by decide) (Nat.le_of_eq rfl) (by decide) (by decide) rfl rfl at_236 rfl fun T h428 v429 A Q430 => ?_
    obtain ⟨rfl, eh⟩ := Q430
    rw [eh] at A
    refine Wp.stk (st' := [(.long q4)]) rfl ?_
    refine s_lload (pc' := 241) A at_239 rfl rfl ?_
    refine s_lcmp (pc' := 242) A at_241 rfl ?_
    refine s_ifN (pc' := 245) A at_242 rfl ((if0 _ _).trans (teq ((lw_eq q4 q4).2 (rfl : q4 = q4))).2) ?_
    refine s_aload (pc' := 247) A at_245 rfl rfl rfl ?_
    refine s_iload (pc' := 249) A at_247 rfl rfl ?_
    refine s_virtual (pc' := 252) (y := y7_order) (argsL := [(.int ic)]) (rest := []) (z := y7_order) A E401 (order0 l Z a0 hw n0 h398 A.size b334 b345 b344 ic lc q3 q4 q5 ia la q4 q5 q3 ic ⟨E401, F402, F403, ⟨E410, F411, F412, F413, F414, F415⟩, ⟨E416, F417, F418, F419, F420, F421⟩, ne404, ne405, ne406, ge407, ge408, ge409⟩ nic rfl) (w60 hw) (w61 hw) (nf_same (C := "") (w63 hw)) (w63 hw) (w62 hw) (w7 hw) (w64 hw) (by decide) pd__I_J rfl (W := 0) (by decide) (by decide) (Nat.le_of_eq rfl) (by decide) (by decide) rfl rfl at_249 rfl fun T h431 v432 A Q433 => ?_
    obtain ⟨rfl, eh⟩ := Q433
    rw [eh] at A
    refine Wp.stk (st' := [(.long q5)]) rfl ?_
    refine s_lload (pc' := 254) A at_252 rfl rfl ?_
    refine s_lcmp (pc' := 255) A at_254 rfl ?_
    refine s_ifN (pc' := 258) A at_255 rfl ((if0 _ _).trans (teq ((lw_eq q5 q5).2 (rfl : q5 = q5))).2) ?_
    refine s_iconst (pc' := 259) (z := (1 : Int32)) A at_258 rfl (by decide) ?_
    refine s_goto (pc' := 263) A at_259 (by decide) (by decide) ?_
    refine s_istore (pc' := 265) (Ls' := #[iv q0, iv q1, iv q2, jv q3, S2, jv q4, S2, jv q5, S2, iv ia, iv ib, iv ic, iv 1, iv la, iv 1, iv lc, rv b334, iv 1, iv 0, iv ia, jv q4, S2, jv q3, S2, iv 1]) A at_263 rfl rfl ?_
    refine s_iload (pc' := 267) A at_265 rfl rfl ?_
    refine s_ifN (pc' := 270) A at_267 rfl (by decide) ?_
    refine s_aload (pc' := 272) A at_270 rfl rfl rfl ?_
    refine s_iload (pc' := 274) A at_272 rfl rfl ?_
    by_cases hs274 : ic = ia
    ·
     refine s_virtual (pc' := 277) (y := y4_remembers) (argsL := [(.int ia)]) (rest := []) (z := y4_remembers) A E401 (remembers0 l Z a0 hw n0 h398 A.size b334 b345 b344 ic lc q3 q4 q5 ia la q4 q5 q3 ia ⟨E401, F402, F403, ⟨E410, F411, F412, F413, F414, F415⟩, ⟨E416, F417, F418, F419, F420, F421⟩, ne404, ne405, ne406, ge407, ge408, ge409⟩ nia hs274) (w41 hw) (w42 hw) (nf_same (C := "") (w44 hw)) (w44 hw) (w43 hw) (w7 hw) (w45 hw) (by decide) pd__I_Z rfl (W := 0) (by decide) (by decide) (Nat.le_of_eq rfl) (by decide) (by decide) rfl rfl at_274 rfl fun T h434 v435 A Q436 => ?_
     obtain ⟨rfl, eh⟩ := Q436
     rw [eh] at A
     refine Wp.stk (st' := [(.int (1 : Int32))]) rfl ?_
     refine s_iload (pc' := 279) A at_277 rfl rfl ?_
     refine s_iload (pc' := 281) A at_279 rfl rfl ?_
     refine s_icmpY (pc' := 296) A at_281 (teq hs274.symm).1 (by decide) (by decide) ?_
     refine s_iconst (pc' := 297) (z := (1 : Int32)) A at_296 rfl (by decide) ?_
     refine s_goto (pc' := 301) A at_297 (by decide) (by decide) ?_
     refine s_icmpN (pc' := 304) A at_301 rfl (by decide) ?_
     refine s_iconst (pc' := 305) (z := (1 : Int32)) A at_304 rfl (by decide) ?_
     refine s_goto (pc' := 309) A at_305 (by decide) (by decide) ?_
     refine s_istore (pc' := 311) (Ls' := #[iv q0, iv q1, iv q2, jv q3, S2, jv q4, S2, jv q5, S2, iv ia, iv ib, iv ic, iv 1, iv la, iv 1, iv lc, rv b334, iv 1, iv 0, iv ia, jv q4, S2, jv q3, S2, iv 1]) A at_309 rfl rfl ?_
     refine s_iload (pc' := 313) A at_311 rfl rfl ?_
     refine s_ifN (pc' := 316) A at_313 rfl (by decide) ?_
     refine s_aload (pc' := 318) A at_316 rfl rfl rfl ?_
     refine s_iload (pc' := 320) A at_318 rfl rfl ?_
     by_cases hs320 : ic = ib
     ·
      refine s_virtual (pc' := 323) (y := y4_remembers) (argsL := [(.int ib)]) (rest := []) (z := y4_remembers) A E401 (remembers0 l Z a0 hw n0 h398 A.size b334 b345 b344 ic lc q3 q4 q5 ia la q4 q5 q3 ib ⟨E401, F402, F403, ⟨E410, F411, F412, F413, F414, F415⟩, ⟨E416, F417, F418, F419, F420, F421⟩, ne404, ne405, ne406, ge407, ge408, ge409⟩ nib hs320) (w41 hw) (w42 hw) (nf_same (C := "") (w44 hw)) (w44 hw) (w43 hw) (w7 hw) (w45 hw) (by decide) pd__I_Z rfl (W := 0) (by decide) (by decide) (Nat.le_of_eq rfl) (by decide) (by decide) rfl rfl at_320 rfl fun T h437 v438 A Q439 => ?_
      obtain ⟨rfl, eh⟩ := Q439
      rw [eh] at A
      refine Wp.stk (st' := [(.int (1 : Int32))]) rfl ?_
      refine s_iload (pc' := 325) A at_323 rfl rfl ?_
      refine s_iload (pc' := 327) A at_325 rfl rfl ?_
      refine s_icmpY (pc' := 342) A at_327 (teq hs320.symm).1 (by decide) (by decide) ?_
      refine s_iconst (pc' := 343) (z := (1 : Int32)) A at_342 rfl (by decide) ?_
      refine s_goto (pc' := 347) A at_343 (by decide) (by decide) ?_
      refine s_icmpN (pc' := 350) A at_347 rfl (by decide) ?_
      refine s_iconst (pc' := 351) (z := (1 : Int32)) A at_350 rfl (by decide) ?_
      refine s_goto (pc' := 355) A at_351 (by decide) (by decide) ?_
      refine s_istore (pc' := 357) (Ls' := #[iv q0, iv q1, iv q2, jv q3, S2, jv q4, S2, jv q5, S2, iv ia, iv ib, iv ic, iv 1, iv la, iv 1, iv lc, rv b334, iv 1, iv 0, iv ia, jv q4, S2, jv q3, S2, iv 1]) A at_355 rfl rfl ?_
      refine s_iload (pc' := 359) A at_357 rfl rfl ?_
      refine s_ifN (pc' := 362) A at_359 rfl (by decide) ?_
      refine s_iload (pc' := 364) A at_362 rfl rfl ?_
      refine s_ifN (pc' := 367) A at_364 rfl (by decide) ?_
      refine s_iload (pc' := 369) A at_367 rfl rfl ?_
      refine s_iload (pc' := 371) A at_369 rfl rfl ?_
      refine s_icmpY (pc' := 407) A at_371 (teq hs274.symm).1 (by decide) (by decide) ?_
      refine s_iload (pc' := 409) A at_407 rfl rfl ?_
      exact r_bool A rfl (by decide) at_409 (by decide) (by decide) (rfl)
     ·
      by_cases hs320b : ia = ib
      ·
       refine s_virtual (pc' := 323) (y := y4_remembers) (argsL := [(.int ib)]) (rest := []) (z := y4_remembers) A E401 (remembers1 l Z a0 hw n0 h398 A.size b334 b345 b344 ic lc q3 q4 q5 ia la q4 q5 q3 ib ⟨E401, F402, F403, ⟨E410, F411, F412, F413, F414, F415⟩, ⟨E416, F417, F418, F419, F420, F421⟩, ne404, ne405, ne406, ge407, ge408, ge409⟩ nib hs320 hs320b) (w41 hw) (w42 hw) (nf_same (C := "") (w44 hw)) (w44 hw) (w43 hw) (w7 hw) (w45 hw) (by decide) pd__I_Z rfl (W := 0) (by decide) (by decide) (Nat.le_of_eq rfl) (by decide) (by decide) rfl rfl at_320 rfl fun T h440 v441 A Q442 => ?_
       obtain ⟨rfl, eh⟩ := Q442
       rw [eh] at A
       refine Wp.stk (st' := [(.int (1 : Int32))]) rfl ?_
       refine s_iload (pc' := 325) A at_323 rfl rfl ?_
       refine s_iload (pc' := 327) A at_325 rfl rfl ?_
       refine s_icmpN (pc' := 330) A at_327 rfl (feq (fun q => hs320 q.symm)).1 ?_
       refine s_iload (pc' := 332) A at_330 rfl rfl ?_
       refine s_ifN (pc' := 335) A at_332 rfl (by decide) ?_
       refine s_iload (pc' := 337) A at_335 rfl rfl ?_
       refine s_iload (pc' := 339) A at_337 rfl rfl ?_
       refine s_icmpN (pc' := 342) A at_339 rfl (teq hs320b.symm).2 ?_
       refine s_iconst (pc' := 343) (z := (1 : Int32)) A at_342 rfl (by decide) ?_
       refine s_goto (pc' := 347) A at_343 (by decide) (by decide) ?_
       refine s_icmpN (pc' := 350) A at_347 rfl (by decide) ?_
       refine s_iconst (pc' := 351) (z := (1 : Int32)) A at_350 rfl (by decide) ?_
       refine s_goto (pc' := 355) A at_351 (by decide) (by decide) ?_
       refine s_istore (pc' := 357) (Ls' := #[iv q0, iv q1, iv q2, jv q3, S2, jv q4, S2, jv q5, S2, iv ia, iv ib, iv ic, iv 1, iv la, iv 1, iv lc, rv b334, iv 1, iv 0, iv ia, jv q4, S2, jv q3, S2, iv 1]) A at_355 rfl rfl ?_
       refine s_iload (pc' := 359) A at_357 rfl rfl ?_
       refine s_ifN (pc' := 362) A at_359 rfl (by decide) ?_
       refine s_iload (pc' := 364) A at_362 rfl rfl ?_
       refine s_ifN (pc' := 367) A at_364 rfl (by decide) ?_
       refine s_iload (pc' := 369) A at_367 rfl rfl ?_
       refine s_iload (pc' := 371) A at_369 rfl rfl ?_
       refine s_icmpY (pc' := 407) A at_371 (teq hs274.symm).1 (by decide) (by decide) ?_
       refine s_iload (pc' := 409) A at_407 rfl rfl ?_
       exact r_bool A rfl (by decide) at_409 (by decide) (by decide) (rfl)
      ·
       refine s_virtual (pc' := 323) (y := y4_remembers) (argsL := [(.int ib)]) (rest := []) (z := y4_remembers) A E401 (remembers2 l Z a0 hw n0 h398 A.size b334 b345 b344 ic lc q3 q4 q5 ia la q4 q5 q3 ib ⟨E401, F402, F403, ⟨E410, F411, F412, F413, F414, F415⟩, ⟨E416, F417, F418, F419, F420, F421⟩, ne404, ne405, ne406, ge407, ge408, ge409⟩ nib hs320 hs320b) (w41 hw) (w42 hw) (nf_same (C := "") (w44 hw)) (w44 hw) (w43 hw) (w7 hw) (w45 hw) (by decide) pd__I_Z rfl (W := 0) (by decide) (by decide) (Nat.le_of_eq rfl) (by decide) (by decide) rfl rfl at_320 rfl fun T h443 v444 A Q445 => ?_
       obtain ⟨rfl, eh⟩ := Q445
       rw [eh] at A
       refine Wp.stk (st' := [(.int (0 : Int32))]) rfl ?_
       refine s_iload (pc' := 325) A at_323 rfl rfl ?_
       refine s_iload (pc' := 327) A at_325 rfl rfl ?_
       refine s_icmpN (pc' := 330) A at_327 rfl (feq (fun q => hs320 q.symm)).1 ?_
       refine s_iload (pc' := 332) A at_330 rfl rfl ?_
       refine s_ifN (pc' := 335) A at_332 rfl (by decide) ?_
       refine s_iload (pc' := 337) A at_335 rfl rfl ?_
       refine s_iload (pc' := 339) A at_337 rfl rfl ?_
       refine s_icmpY (pc' := 346) A at_339 (feq (fun q => hs320b q.symm)).2 (by decide) (by decide) ?_
       refine s_iconst (pc' := 347) (z := (0 : Int32)) A at_346 rfl (by decide) ?_
       refine s_icmpN (pc' := 350) A at_347 rfl (by decide) ?_
       refine s_iconst (pc' := 351) (z := (1 : Int32)) A at_350 rfl (by decide) ?_
       refine s_goto (pc' := 355) A at_351 (by decide) (by decide) ?_
       refine s_istore (pc' := 357) (Ls' := #[iv q0, iv q1, iv q2, jv q3, S2, jv q4, S2, jv q5, S2, iv ia, iv ib, iv ic, iv 1, iv la, iv 1, iv lc, rv b334, iv 1, iv 0, iv ia, jv q4, S2, jv q3, S2, iv 1]) A at_355 rfl rfl ?_
       refine s_iload (pc' := 359) A at_357 rfl rfl ?_
       refine s_ifN (pc' := 362) A at_359 rfl (by decide) ?_
       refine s_iload (pc' := 364) A at_362 rfl rfl ?_
       refine s_ifN (pc' := 367) A at_364 rfl (by decide) ?_
       refine s_iload (pc' := 369) A at_367 rfl rfl ?_
       refine s_iload (pc' := 371) A at_369 rfl rfl ?_
       refine s_icmpY (pc' := 407) A at_371 (teq hs274.symm).1 (by decide) (by decide) ?_
       refine s_iload (pc' := 409) A at_407 rfl rfl ?_
       exact r_bool A rfl (by decide) at_409 (by decide) (by decide) (rfl)
    ·
     refine s_virtual (pc' := 277) (y := y4_remembers) (argsL := [(.int ia)]) (rest := []) (z := y4_remembers) A E401 (remembers1 l Z a0 hw n0 h398 A.size b334 b345 b344 ic lc q3 q4 q5 ia la q4 q5 q3 ia ⟨E401, F402, F403, ⟨E410, F411, F412, F413, F414, F415⟩, ⟨E416, F417, F418, F419, F420, F421⟩, ne404, ne405, ne406, ge407, ge408, ge409⟩ nia hs274 rfl) (w41 hw) (w42 hw) (nf_same (C := "") (w44 hw)) (w44 hw) (w43 hw) (w7 hw) (w45 hw) (by decide) pd__I_Z rfl (W := 0) (by decide) (by decide) (Nat.le_of_eq rfl) (by decide) (by decide) rfl rfl at_274 rfl fun T h446 v447 A Q448 => ?_
     obtain ⟨rfl, eh⟩ := Q448
     rw [eh] at A
     refine Wp.stk (st' := [(.int (1 : Int32))]) rfl ?_
     refine s_iload (pc' := 279) A at_277 rfl rfl ?_
     refine s_iload (pc' := 281) A at_279 rfl rfl ?_
     refine s_icmpN (pc' := 284) A at_281 rfl (feq (fun q => hs274 q.symm)).1 ?_
     refine s_iload (pc' := 286) A at_284 rfl rfl ?_
     refine s_ifN (pc' := 289) A at_286 rfl (by decide) ?_
     refine s_iload (pc' := 291) A at_289 rfl rfl ?_
     refine s_iload (pc' := 293) A at_291 rfl rfl ?_
     refine s_icmpN (pc' := 296) A at_293 rfl (teq (rfl : ia = ia)).2 ?_
     refine s_iconst (pc' := 297) (z := (1 : Int32)) A at_296 rfl (by decide) ?_
     refine s_goto (pc' := 301) A at_297 (by decide) (by decide) ?_
     refine s_icmpN (pc' := 304) A at_301 rfl (by decide) ?_
     refine s_iconst (pc' := 305) (z := (1 : Int32)) A at_304 rfl (by decide) ?_
     refine s_goto (pc' := 309) A at_305 (by decide) (by decide) ?_
     refine s_istore (pc' := 311) (Ls' := #[iv q0, iv q1, iv q2, jv q3, S2, jv q4, S2, jv q5, S2, iv ia, iv ib, iv ic, iv 1, iv la, iv 1, iv lc, rv b334, iv 1, iv 0, iv ia, jv q4, S2, jv q3, S2, iv 1]) A at_309 rfl rfl ?_
     refine s_iload (pc' := 313) A at_311 rfl rfl ?_
     refine s_ifN (pc' := 316) A at_313 rfl (by decide) ?_
     refine s_aload (pc' := 318) A at_316 rfl rfl rfl ?_
     refine s_iload (pc' := 320) A at_318 rfl rfl ?_
     by_cases hs320 : ic = ib
     ·
      refine s_virtual (pc' := 323) (y := y4_remembers) (argsL := [(.int ib)]) (rest := []) (z := y4_remembers) A E401 (remembers0 l Z a0 hw n0 h398 A.size b334 b345 b344 ic lc q3 q4 q5 ia la q4 q5 q3 ib ⟨E401, F402, F403, ⟨E410, F411, F412, F413, F414, F415⟩, ⟨E416, F417, F418, F419, F420, F421⟩, ne404, ne405, ne406, ge407, ge408, ge409⟩ nib hs320) (w41 hw) (w42 hw) (nf_same (C := "") (w44 hw)) (w44 hw) (w43 hw) (w7 hw) (w45 hw) (by decide) pd__I_Z rfl (W := 0) (by decide) (by decide) (Nat.le_of_eq rfl) (by decide) (by decide) rfl rfl at_320 rfl fun T h449 v450 A Q451 => ?_
      obtain ⟨rfl, eh⟩ := Q451
      rw [eh] at A
      refine Wp.stk (st' := [(.int (1 : Int32))]) rfl ?_
      refine s_iload (pc' := 325) A at_323 rfl rfl ?_
      refine s_iload (pc' := 327) A at_325 rfl rfl ?_
      refine s_icmpY (pc' := 342) A at_327 (teq hs320.symm).1 (by decide) (by decide) ?_
      refine s_iconst (pc' := 343) (z := (1 : Int32)) A at_342 rfl (by decide) ?_
      refine s_goto (pc' := 347) A at_343 (by decide) (by decide) ?_
      refine s_icmpN (pc' := 350) A at_347 rfl (by decide) ?_
      refine s_iconst (pc' := 351) (z := (1 : Int32)) A at_350 rfl (by decide) ?_
      refine s_goto (pc' := 355) A at_351 (by decide) (by decide) ?_
      refine s_istore (pc' := 357) (Ls' := #[iv q0, iv q1, iv q2, jv q3, S2, jv q4, S2, jv q5, S2, iv ia, iv ib, iv ic, iv 1, iv la, iv 1, iv lc, rv b334, iv 1, iv 0, iv ia, jv q4, S2, jv q3, S2, iv 1]) A at_355 rfl rfl ?_
      refine s_iload (pc' := 359) A at_357 rfl rfl ?_
      refine s_ifN (pc' := 362) A at_359 rfl (by decide) ?_
      refine s_iload (pc' := 364) A at_362 rfl rfl ?_
      refine s_ifN (pc' := 367) A at_364 rfl (by decide) ?_
      refine s_iload (pc' := 369) A at_367 rfl rfl ?_
      refine s_iload (pc' := 371) A at_369 rfl rfl ?_
      refine s_icmpN (pc' := 374) A at_371 rfl (feq (fun q => hs274 q.symm)).1 ?_
      refine s_aload (pc' := 376) A at_374 rfl rfl rfl ?_
      refine s_iload (pc' := 378) A at_376 rfl rfl ?_
      refine s_virtual (pc' := 381) (y := y5_highest) (argsL := [(.int ia)]) (rest := []) (z := y5_highest) A E401 (highest1 l Z a0 hw n0 h398 A.size b334 b345 b344 ic lc q3 q4 q5 ia la q4 q5 q3 ia ⟨E401, F402, F403, ⟨E410, F411, F412, F413, F414, F415⟩, ⟨E416, F417, F418, F419, F420, F421⟩, ne404, ne405, ne406, ge407, ge408, ge409⟩ nia (fun q => (fun q => hs274 q.symm) q.symm) rfl) (w50 hw) (w51 hw) (nf_same (C := "") (w53 hw)) (w53 hw) (w52 hw) (w7 hw) (w54 hw) (by decide) pd__I_J rfl (W := 0) (by decide) (by decide) (Nat.le_of_eq rfl) (by decide) (by decide) rfl rfl at_378 rfl fun T h452 v453 A Q454 => ?_
      obtain ⟨rfl, eh⟩ := Q454
      rw [eh] at A
      refine Wp.stk (st' := [(.long q4)]) rfl ?_
      refine s_lload (pc' := 383) A at_381 rfl rfl ?_
      refine s_lcmp (pc' := 384) A at_383 rfl ?_
      refine s_ifN (pc' := 387) A at_384 rfl ((if0 _ _).trans (teq ((lw_eq q4 q4).2 (rfl : q4 = q4))).2) ?_
      refine s_aload (pc' := 389) A at_387 rfl rfl rfl ?_
      refine s_iload (pc' := 391) A at_389 rfl rfl ?_
      refine s_virtual (pc' := 394) (y := y7_order) (argsL := [(.int ia)]) (rest := []) (z := y7_order) A E401 (order1 l Z a0 hw n0 h398 A.size b334 b345 b344 ic lc q3 q4 q5 ia la q4 q5 q3 ia ⟨E401, F402, F403, ⟨E410, F411, F412, F413, F414, F415⟩, ⟨E416, F417, F418, F419, F420, F421⟩, ne404, ne405, ne406, ge407, ge408, ge409⟩ nia (fun q => (fun q => hs274 q.symm) q.symm) rfl) (w60 hw) (w61 hw) (nf_same (C := "") (w63 hw)) (w63 hw) (w62 hw) (w7 hw) (w64 hw) (by decide) pd__I_J rfl (W := 0) (by decide) (by decide) (Nat.le_of_eq rfl) (by decide) (by decide) rfl rfl at_391 rfl fun T h455 v456 A Q457 => ?_
      obtain ⟨rfl, eh⟩ := Q457
      rw [eh] at A
      refine Wp.stk (st' := [(.long q3)]) rfl ?_
      refine s_lload (pc' := 396) A at_394 rfl rfl ?_
      refine s_lcmp (pc' := 397) A at_396 rfl ?_
      refine s_ifN (pc' := 400) A at_397 rfl ((if0 _ _).trans (teq ((lw_eq q3 q3).2 (rfl : q3 = q3))).2) ?_
      refine s_iconst (pc' := 401) (z := (1 : Int32)) A at_400 rfl (by decide) ?_
      refine s_goto (pc' := 405) A at_401 (by decide) (by decide) ?_
      refine s_istore (pc' := 407) (Ls' := #[iv q0, iv q1, iv q2, jv q3, S2, jv q4, S2, jv q5, S2, iv ia, iv ib, iv ic, iv 1, iv la, iv 1, iv lc, rv b334, iv 1, iv 0, iv ia, jv q4, S2, jv q3, S2, iv 1]) A at_405 rfl rfl ?_
      refine s_iload (pc' := 409) A at_407 rfl rfl ?_
      exact r_bool A rfl (by decide) at_409 (by decide) (by decide) (rfl)
     ·
      by_cases hs320b : ia = ib
      ·
       refine s_virtual (pc' := 323) (y := y4_remembers) (argsL := [(.int ib)]) (rest := []) (z := y4_remembers) A E401 (remembers1 l Z a0 hw n0 h398 A.size b334 b345 b344 ic lc q3 q4 q5 ia la q4 q5 q3 ib ⟨E401, F402, F403, ⟨E410, F411, F412, F413, F414, F415⟩, ⟨E416, F417, F418, F419, F420, F421⟩, ne404, ne405, ne406, ge407, ge408, ge409⟩ nib hs320 hs320b) (w41 hw) (w42 hw) (nf_same (C := "") (w44 hw)) (w44 hw) (w43 hw) (w7 hw) (w45 hw) (by decide) pd__I_Z rfl (W := 0) (by decide) (by decide) (Nat.le_of_eq rfl) (by decide) (by decide) rfl rfl at_320 rfl fun T h458 v459 A Q460 => ?_
       obtain ⟨rfl, eh⟩ := Q460
       rw [eh] at A
       refine Wp.stk (st' := [(.int (1 : Int32))]) rfl ?_
       refine s_iload (pc' := 325) A at_323 rfl rfl ?_
       refine s_iload (pc' := 327) A at_325 rfl rfl ?_
       refine s_icmpN (pc' := 330) A at_327 rfl (feq (fun q => hs320 q.symm)).1 ?_
       refine s_iload (pc' := 332) A at_330 rfl rfl ?_
       refine s_ifN (pc' := 335) A at_332 rfl (by decide) ?_
       refine s_iload (pc' := 337) A at_335 rfl rfl ?_
       refine s_iload (pc' := 339) A at_337 rfl rfl ?_
       refine s_icmpN (pc' := 342) A at_339 rfl (teq hs320b.symm).2 ?_
       refine s_iconst (pc' := 343) (z := (1 : Int32)) A at_342 rfl (by decide) ?_
       refine s_goto (pc' := 347) A at_343 (by decide) (by decide) ?_
       refine s_icmpN (pc' := 350) A at_347 rfl (by decide) ?_
       refine s_iconst (pc' := 351) (z := (1 : Int32)) A at_350 rfl (by decide) ?_
       refine s_goto (pc' := 355) A at_351 (by decide) (by decide) ?_
       refine s_istore (pc' := 357) (Ls' := #[iv q0, iv q1, iv q2, jv q3, S2, jv q4, S2, jv q5, S2, iv ia, iv ib, iv ic, iv 1, iv la, iv 1, iv lc, rv b334, iv 1, iv 0, iv ia, jv q4, S2, jv q3, S2, iv 1]) A at_355 rfl rfl ?_
       refine s_iload (pc' := 359) A at_357 rfl rfl ?_
       refine s_ifN (pc' := 362) A at_359 rfl (by decide) ?_
       refine s_iload (pc' := 364) A at_362 rfl rfl ?_
       refine s_ifN (pc' := 367) A at_364 rfl (by decide) ?_
       refine s_iload (pc' := 369) A at_367 rfl rfl ?_
       refine s_iload (pc' := 371) A at_369 rfl rfl ?_
       refine s_icmpN (pc' := 374) A at_371 rfl (feq (fun q => hs274 q.symm)).1 ?_
       refine s_aload (pc' := 376) A at_374 rfl rfl rfl ?_
       refine s_iload (pc' := 378) A at_376 rfl rfl ?_
       refine s_virtual (pc' := 381) (y := y5_highest) (argsL := [(.int ia)]) (rest := []) (z := y5_highest) A E401 (highest1 l Z a0 hw n0 h398 A.size b334 b345 b344 ic lc q3 q4 q5 ia la q4 q5 q3 ia ⟨E401, F402, F403, ⟨E410, F411, F412, F413, F414, F415⟩, ⟨E416, F417, F418, F419, F420, F421⟩, ne404, ne405, ne406, ge407, ge408, ge409⟩ nia (fun q => (fun q => hs274 q.symm) q.symm) rfl) (w50 hw) (w51 hw) (nf_same (C := "") (w53 hw)) (w53 hw) (w52 hw) (w7 hw) (w54 hw) (by decide) pd__I_J rfl (W := 0) (by decide) (by decide) (Nat.le_of_eq rfl) (by decide) (by decide) rfl rfl at_378 rfl fun T h461 v462 A Q463 => ?_
       obtain ⟨rfl, eh⟩ := Q463
       rw [eh] at A
       refine Wp.stk (st' := [(.long q4)]) rfl ?_
       refine s_lload (pc' := 383) A at_381 rfl rfl ?_
       refine s_lcmp (pc' := 384) A at_383 rfl ?_
       refine s_ifN (pc' := 387) A at_384 rfl ((if0 _ _).trans (teq ((lw_eq q4 q4).2 (rfl : q4 = q4))).2) ?_
       refine s_aload (pc' := 389) A at_387 rfl rfl rfl ?_
       refine s_iload (pc' := 391) A at_389 rfl rfl ?_
       refine s_virtual (pc' := 394) (y := y7_order) (argsL := [(.int ia)]) (rest := []) (z := y7_order) A E401 (order1 l Z a0 hw n0 h398 A.size b334 b345 b344 ic lc q3 q4 q5 ia la q4 q5 q3 ia ⟨E401, F402, F403, ⟨E410, F411, F412, F413, F414, F415⟩, ⟨E416, F417, F418, F419, F420, F421⟩, ne404, ne405, ne406, ge407, ge408, ge409⟩ nia (fun q => (fun q => hs274 q.symm) q.symm) rfl) (w60 hw) (w61 hw) (nf_same (C := "") (w63 hw)) (w63 hw) (w62 hw) (w7 hw) (w64 hw) (by decide) pd__I_J rfl (W := 0) (by decide) (by decide) (Nat.le_of_eq rfl) (by decide) (by decide) rfl rfl at_391 rfl fun T h464 v465 A Q466 => ?_
       obtain ⟨rfl, eh⟩ := Q466
       rw [eh] at A
       refine Wp.stk (st' := [(.long q3)]) rfl ?_
       refine s_lload (pc' := 396) A at_394 rfl rfl ?_
       refine s_lcmp (pc' := 397) A at_396 rfl ?_
       refine s_ifN (pc' := 400) A at_397 rfl ((if0 _ _).trans (teq ((lw_eq q3 q3).2 (rfl : q3 = q3))).2) ?_
       refine s_iconst (pc' := 401) (z := (1 : Int32)) A at_400 rfl (by decide) ?_
       refine s_goto (pc' := 405) A at_401 (by decide) (by decide) ?_
       refine s_istore (pc' := 407) (Ls' := #[iv q0, iv q1, iv q2, jv q3, S2, jv q4, S2, jv q5, S2, iv ia, iv ib, iv ic, iv 1, iv la, iv 1, iv lc, rv b334, iv 1, iv 0, iv ia, jv q4, S2, jv q3, S2, iv 1]) A at_405 rfl rfl ?_
       refine s_iload (pc' := 409) A at_407 rfl rfl ?_
       exact r_bool A rfl (by decide) at_409 (by decide) (by decide) (rfl)
      ·
       refine s_virtual (pc' := 323) (y := y4_remembers) (argsL := [(.int ib)]) (rest := []) (z := y4_remembers) A E401 (remembers2 l Z a0 hw n0 h398 A.size b334 b345 b344 ic lc q3 q4 q5 ia la q4 q5 q3 ib ⟨E401, F402, F403, ⟨E410, F411, F412, F413, F414, F415⟩, ⟨E416, F417, F418, F419, F420, F421⟩, ne404, ne405, ne406, ge407, ge408, ge409⟩ nib hs320 hs320b) (w41 hw) (w42 hw) (nf_same (C := "") (w44 hw)) (w44 hw) (w43 hw) (w7 hw) (w45 hw) (by decide) pd__I_Z rfl (W := 0) (by decide) (by decide) (Nat.le_of_eq rfl) (by decide) (by decide) rfl rfl at_320 rfl fun T h467 v468 A Q469 => ?_
       obtain ⟨rfl, eh⟩ := Q469
       rw [eh] at A
       refine Wp.stk (st' := [(.int (0 : Int32))]) rfl ?_
       refine s_iload (pc' := 325) A at_323 rfl rfl ?_
       refine s_iload (pc' := 327) A at_325 rfl rfl ?_
       refine s_icmpN (pc' := 330) A at_327 rfl (feq (fun q => hs320 q.symm)).1 ?_
       refine s_iload (pc' := 332) A at_330 rfl rfl ?_
       refine s_ifN (pc' := 335) A at_332 rfl (by decide) ?_
       refine s_iload (pc' := 337) A at_335 rfl rfl ?_
       refine s_iload (pc' := 339) A at_337 rfl rfl ?_
       refine s_icmpY (pc' := 346) A at_339 (feq (fun q => hs320b q.symm)).2 (by decide) (by decide) ?_
       refine s_iconst (pc' := 347) (z := (0 : Int32)) A at_346 rfl (by decide) ?_
       refine s_icmpN (pc' := 350) A at_347 rfl (by decide) ?_
       refine s_iconst (pc' := 351) (z := (1 : Int32)) A at_350 rfl (by decide) ?_
       refine s_goto (pc' := 355) A at_351 (by decide) (by decide) ?_
       refine s_istore (pc' := 357) (Ls' := #[iv q0, iv q1, iv q2, jv q3, S2, jv q4, S2, jv q5, S2, iv ia, iv ib, iv ic, iv 1, iv la, iv 1, iv lc, rv b334, iv 1, iv 0, iv ia, jv q4, S2, jv q3, S2, iv 1]) A at_355 rfl rfl ?_
       refine s_iload (pc' := 359) A at_357 rfl rfl ?_
       refine s_ifN (pc' := 362) A at_359 rfl (by decide) ?_
       refine s_iload (pc' := 364) A at_362 rfl rfl ?_
       refine s_ifN (pc' := 367) A at_364 rfl (by decide) ?_
       refine s_iload (pc' := 369) A at_367 rfl rfl ?_
       refine s_iload (pc' := 371) A at_369 rfl rfl ?_
       refine s_icmpN (pc' := 374) A at_371 rfl (feq (fun q => hs274 q.symm)).1 ?_
       refine s_aload (pc' := 376) A at_374 rfl rfl rfl ?_
       refine s_iload (pc' := 378) A at_376 rfl rfl ?_
       refine s_virtual (pc' := 381) (y := y5_highest) (argsL := [(.int ia)]) (rest := []) (z := y5_highest) A E401 (highest1 l Z a0 hw n0 h398 A.size b334 b345 b344 ic lc q3 q4 q5 ia la q4 q5 q3 ia ⟨E401, F402, F403, ⟨E410, F411, F412, F413, F414, F415⟩, ⟨E416, F417, F418, F419, F420, F421⟩, ne404, ne405, ne406, ge407, ge408, ge409⟩ nia (fun q => (fun q => hs274 q.symm) q.symm) rfl) (w50 hw) (w51 hw) (nf_same (C := "") (w53 hw)) (w53 hw) (w52 hw) (w7 hw) (w54 hw) (by decide) pd__I_J rfl (W := 0) (by decide) (by decide) (Nat.le_of_eq rfl) (by decide) (by decide) rfl rfl at_378 rfl fun T h470 v471 A Q472 => ?_
       obtain ⟨rfl, eh⟩ := Q472
       rw [eh] at A
       refine Wp.stk (st' := [(.long q4)]) rfl ?_
       refine s_lload (pc' := 383) A at_381 rfl rfl ?_
       refine s_lcmp (pc' := 384) A at_383 rfl ?_
       refine s_ifN (pc' := 387) A at_384 rfl ((if0 _ _).trans (teq ((lw_eq q4 q4).2 (rfl : q4 = q4))).2) ?_
       refine s_aload (pc' := 389) A at_387 rfl rfl rfl ?_
       refine s_iload (pc' := 391) A at_389 rfl rfl ?_
       refine s_virtual (pc' := 394) (y := y7_order) (argsL := [(.int ia)]) (rest := []) (z := y7_order) A E401 (order1 l Z a0 hw n0 h398 A.size b334 b345 b344 ic lc q3 q4 q5 ia la q4 q5 q3 ia ⟨E401, F402, F403, ⟨E410, F411, F412, F413, F414, F415⟩, ⟨E416, F417, F418, F419, F420, F421⟩, ne404, ne405, ne406, ge407, ge408, ge409⟩ nia (fun q => (fun q => hs274 q.symm) q.symm) rfl) (w60 hw) (w61 hw) (nf_same (C := "") (w63 hw)) (w63 hw) (w62 hw) (w7 hw) (w64 hw) (by decide) pd__I_J rfl (W := 0) (by decide) (by decide) (Nat.le_of_eq rfl) (by decide) (by decide) rfl rfl at_391 rfl fun T h473 v474 A Q475 => ?_
       obtain ⟨rfl, eh⟩ := Q475
       rw [eh] at A
       refine Wp.stk (st' := [(.long q3)]) rfl ?_
       refine s_lload (pc' := 396) A at_394 rfl rfl ?_
       refine s_lcmp (pc' := 397) A at_396 rfl ?_
       refine s_ifN (pc' := 400) A at_397 rfl ((if0 _ _).trans (teq ((lw_eq q3 q3).2 (rfl : q3 = q3))).2) ?_
       refine s_iconst (pc' := 401) (z := (1 : Int32)) A at_400 rfl (by decide) ?_
       refine s_goto (pc' := 405) A at_401 (by decide) (by decide) ?_
       refine s_istore (pc' := 407) (Ls' := #[iv q0, iv q1, iv q2, jv q3, S2, jv q4, S2, jv q5, S2, iv ia, iv ib, iv ic, iv 1, iv la, iv 1, iv lc, rv b334, iv 1, iv 0, iv ia, jv q4, S2, jv q3, S2, iv 1]) A at_405 rfl rfl ?_
       refine s_iload (pc' := 409) A at_407 rfl rfl ?_
       exact r_bool A rfl (by decide) at_409 (by decide) (by decide) (rfl)
  ·
   refine s_istore (pc' := 30) (Ls' := #[iv q0, iv q1, iv q2, jv q3, S2, jv q4, S2, jv q5, S2, iv ia, iv ib, iv ic, iv 2, U0, U0, U0, U0, U0, U0, U0, U0, U0, U0, U0, U0]) A at_28 rfl rfl ?_
   refine s_iloadN (pc' := 31) A at_30 rfl rfl ?_
   refine s_iconst (pc' := 32) (z := (2 : Int32)) A at_31 rfl (by decide) ?_
   refine s_iushr (pc' := 33) (z := (ush q2 (2 : Int32))) A at_32 rfl rfl ?_
   refine s_iconst (pc' := 34) (z := (1 : Int32)) A at_33 rfl (by decide) ?_
   refine s_iand (pc' := 35) (z := ((ush q2 (2 : Int32)) &&& (1 : Int32))) A at_34 rfl rfl ?_
   suffices dm35 : ∀ la : Int32, (la = 0 ∨ la = 1) → Wp p e below s n0 room_1.cells room_1.slots (fun v h => v = some (.int 1)) (T.setTop (mkF m 43 #[iv q0, iv q1, iv q2, jv q3, S2, jv q4, S2, jv q5, S2, iv ia, iv ib, iv ic, iv 2, U0, U0, U0, U0, U0, U0, U0, U0, U0, U0, U0, U0] [.int la])) by
    by_cases hc35_1 : ((ush q2 (2 : Int32)) &&& (1 : Int32)) = (0 : Int32)
    ·
     refine s_ifY (pc' := 42) A at_35 ((if0 _ _).trans (teq hc35_1).1) (by decide) (by decide) ?_
     refine s_iconst (pc' := 43) (z := (0 : Int32)) A at_42 rfl (by decide) ?_
     exact dm35 _ (Or.inl rfl)
    ·
     refine s_ifN (pc' := 38) A at_35 rfl ((if0 _ _).trans (feq hc35_1).1) ?_
     refine s_iconst (pc' := 39) (z := (1 : Int32)) A at_38 rfl (by decide) ?_
     refine s_goto (pc' := 43) A at_39 (by decide) (by decide) ?_
     exact dm35 _ (Or.inr rfl)
   intro la hla
   refine s_istore (pc' := 45) (Ls' := #[iv q0, iv q1, iv q2, jv q3, S2, jv q4, S2, jv q5, S2, iv ia, iv ib, iv ic, iv 2, iv la, U0, U0, U0, U0, U0, U0, U0, U0, U0, U0, U0]) A at_43 rfl rfl ?_
   refine s_iloadN (pc' := 46) A at_45 rfl rfl ?_
   refine s_iconst (pc' := 47) (z := (3 : Int32)) A at_46 rfl (by decide) ?_
   refine s_iushr (pc' := 48) (z := (ush q2 (3 : Int32))) A at_47 rfl rfl ?_
   refine s_iconst (pc' := 49) (z := (1 : Int32)) A at_48 rfl (by decide) ?_
   refine s_iand (pc' := 50) (z := ((ush q2 (3 : Int32)) &&& (1 : Int32))) A at_49 rfl rfl ?_
   by_cases hc50_1 : ((ush q2 (3 : Int32)) &&& (1 : Int32)) = (0 : Int32)
   ·
    refine s_ifY (pc' := 57) A at_50 ((if0 _ _).trans (teq hc50_1).1) (by decide) (by decide) ?_
    refine s_iconst (pc' := 58) (z := (0 : Int32)) A at_57 rfl (by decide) ?_
    refine s_istore (pc' := 60) (Ls' := #[iv q0, iv q1, iv q2, jv q3, S2, jv q4, S2, jv q5, S2, iv ia, iv ib, iv ic, iv 2, iv la, iv 0, U0, U0, U0, U0, U0, U0, U0, U0, U0, U0]) A at_58 rfl rfl ?_
    refine s_iloadN (pc' := 61) A at_60 rfl rfl ?_
    refine s_iconst (pc' := 62) (z := (4 : Int32)) A at_61 rfl (by decide) ?_
    refine s_iushr (pc' := 63) (z := (ush q2 (4 : Int32))) A at_62 rfl rfl ?_
    refine s_iconst (pc' := 64) (z := (1 : Int32)) A at_63 rfl (by decide) ?_
    refine s_iand (pc' := 65) (z := ((ush q2 (4 : Int32)) &&& (1 : Int32))) A at_64 rfl rfl ?_
    suffices dm65 : ∀ lc : Int32, (lc = 0 ∨ lc = 1) → Wp p e below s n0 room_1.cells room_1.slots (fun v h => v = some (.int 1)) (T.setTop (mkF m 73 #[iv q0, iv q1, iv q2, jv q3, S2, jv q4, S2, jv q5, S2, iv ia, iv ib, iv ic, iv 2, iv la, iv 0, U0, U0, U0, U0, U0, U0, U0, U0, U0, U0] [.int lc])) by
     by_cases hc65_1 : ((ush q2 (4 : Int32)) &&& (1 : Int32)) = (0 : Int32)
     ·
      refine s_ifY (pc' := 72) A at_65 ((if0 _ _).trans (teq hc65_1).1) (by decide) (by decide) ?_
      refine s_iconst (pc' := 73) (z := (0 : Int32)) A at_72 rfl (by decide) ?_
      exact dm65 _ (Or.inl rfl)
     ·
      refine s_ifN (pc' := 68) A at_65 rfl ((if0 _ _).trans (feq hc65_1).1) ?_
      refine s_iconst (pc' := 69) (z := (1 : Int32)) A at_68 rfl (by decide) ?_
      refine s_goto (pc' := 73) A at_69 (by decide) (by decide) ?_
      exact dm65 _ (Or.inr rfl)
    intro lc hlc
    refine s_istore (pc' := 75) (Ls' := #[iv q0, iv q1, iv q2, jv q3, S2, jv q4, S2, jv q5, S2, iv ia, iv ib, iv ic, iv 2, iv la, iv 0, iv lc, U0, U0, U0, U0, U0, U0, U0, U0, U0]) A at_73 rfl rfl ?_
    refine s_new (pc' := 78) A (w5 hw) (w6 hw) (w7 hw) (by decide) (by decide) at_75 rfl fun T h476 b477 A g478 ge479 X480 E481 D482 => ?_
    have F483 : Fld Z h476 b477 "com/example/wirefram/wirefram/sequence/SessionsLeft" "last" "Lcom/example/wirefram/wirefram/sequence/SessionsLeft$Left;" .null := D482 (Or.inl (w24 hw)) (ty := (.object "com/example/wirefram/wirefram/sequence/SessionsLeft$Left")) (by decide)
    have F484 : Fld Z h476 b477 "com/example/wirefram/wirefram/sequence/SessionsLeft" "before" "Lcom/example/wirefram/wirefram/sequence/SessionsLeft$Left;" .null := D482 (Or.inl (w26 hw)) (ty := (.object "com/example/wirefram/wirefram/sequence/SessionsLeft$Left")) (by decide)
    refine s_dup (pc' := 79) A at_78 rfl rfl ?_
    refine s_special (pc' := 82) (y := y1_init) (argsL := []) (rest := [(.ref b477)]) A (ss_new l Z a0 hw n0 h476 A.size b477 E481 F483 F484 ge479) rfl (w8 hw) (w9 hw) (w7 hw) (w10 hw) (by decide) pd___V rfl (W := 1) (by decide) (by decide) (Nat.le_of_eq rfl) (by decide) (by decide) rfl rfl at_79 rfl fun T h489 v490 A Q491 => ?_
    obtain ⟨rfl, K485, b487, b488, H486⟩ := Q491
    obtain ⟨E492, F493, F494, ⟨E501, F502, F503, F504, F505, F506⟩, ⟨E507, F508, F509, F510, F511, F512⟩, ne495, ne496, ne497, ge498, ge499, ge500⟩ := H486
    refine Wp.stk (st' := [(.ref b477)]) rfl ?_
    refine s_astore (pc' := 84) (Ls' := #[iv q0, iv q1, iv q2, jv q3, S2, jv q4, S2, jv q5, S2, iv ia, iv ib, iv ic, iv 2, iv la, iv 0, iv lc, rv b477, U0, U0, U0, U0, U0, U0, U0, U0]) A at_82 rfl rfl rfl ?_
    refine s_iload (pc' := 86) A at_84 rfl rfl ?_
    refine s_iconst (pc' := 87) (z := (1 : Int32)) A at_86 rfl (by decide) ?_
    refine s_icmpN (pc' := 90) A at_87 rfl (by decide) ?_
    refine s_aload (pc' := 92) A at_90 rfl rfl rfl ?_
    refine s_iload (pc' := 94) A at_92 rfl rfl ?_
    refine s_iload (pc' := 96) A at_94 rfl rfl ?_
    refine s_lload (pc' := 98) A at_96 rfl rfl ?_
    refine s_lload (pc' := 100) A at_98 rfl rfl ?_
    refine s_lloadN (pc' := 101) A at_100 rfl rfl ?_
    refine s_virtual (pc' := 104) (y := y2_leave) (argsL := [(.int ia), (.int la), (.long q4), (.long q5), (.long q3)]) (rest := []) (z := y2_leave) A E492 (leave0 l Z a0 hw n0 h489 A.size b477 b487 b488 (-1 : Int32) (0 : Int32) (0 : Int64) (0 : Int64) (0 : Int64) (-1 : Int32) (0 : Int32) (0 : Int64) (0 : Int64) (0 : Int64) ia la q4 q5 q3 ⟨E492, F493, F494, ⟨E501, F502, F503, F504, F505, F506⟩, ⟨E507, F508, F509, F510, F511, F512⟩, ne495, ne496, ne497, ge498, ge499, ge500⟩ hla rfl) (w27 hw) (w28 hw) (nf_same (C := "") (w30 hw)) (w30 hw) (w29 hw) (w7 hw) (w31 hw) (by decide) pd__IZJJJ_V rfl (W := 0) (by decide) (by decide) (Nat.le_of_eq rfl) (by decide) (by decide) rfl rfl at_101 rfl fun T h515 v516 A Q517 => ?_
    obtain ⟨rfl, K513, H514⟩ := Q517
    obtain ⟨E518, F519, F520, ⟨E527, F528, F529, F530, F531, F532⟩, ⟨E533, F534, F535, F536, F537, F538⟩, ne521, ne522, ne523, ge524, ge525, ge526⟩ := H514
    refine Wp.stk (st' := []) rfl ?_
    refine s_iload (pc' := 106) A at_104 rfl rfl ?_
    refine s_iconst (pc' := 107) (z := (2 : Int32)) A at_106 rfl (by decide) ?_
    refine s_icmpN (pc' := 110) A at_107 rfl (by decide) ?_
    refine s_aload (pc' := 112) A at_110 rfl rfl rfl ?_
    refine s_iload (pc' := 114) A at_112 rfl rfl ?_
    refine s_iload (pc' := 116) A at_114 rfl rfl ?_
    refine s_lload (pc' := 118) A at_116 rfl rfl ?_
    refine s_lloadN (pc' := 119) A at_118 rfl rfl ?_
    refine s_lload (pc' := 121) A at_119 rfl rfl ?_
    refine s_virtual (pc' := 124) (y := y2_leave) (argsL := [(.int ib), (.int (0 : Int32)), (.long q5), (.long q3), (.long q4)]) (rest := []) (z := y2_leave) A E518 (leave1 l Z a0 hw n0 h515 A.size b477 b487 b488 ia la q4 q5 q3 (-1 : Int32) (0 : Int32) (0 : Int64) (0 : Int64) (0 : Int64) ib (0 : Int32) q5 q3 q4 ⟨E518, F519, F520, ⟨E527, F528, F529, F530, F531, F532⟩, ⟨E533, F534, F535, F536, F537, F538⟩, ne521, ne522, ne523, ge524, ge525, ge526⟩ (Or.inl rfl) nia rfl) (w27 hw) (w28 hw) (nf_same (C := "") (w30 hw)) (w30 hw) (w29 hw) (w7 hw) (w31 hw) (by decide) pd__IZJJJ_V rfl (W := 0) (by decide) (by decide) (Nat.le_of_eq rfl) (by decide) (by decide) rfl rfl at_121 rfl fun T h541 v542 A Q543 => ?_
    obtain ⟨rfl, K539, H540⟩ := Q543
    obtain ⟨E544, F545, F546, ⟨E553, F554, F555, F556, F557, F558⟩, ⟨E559, F560, F561, F562, F563, F564⟩, ne547, ne548, ne549, ge550, ge551, ge552⟩ := H540
    refine Wp.stk (st' := []) rfl ?_
    refine s_aload (pc' := 126) A at_124 rfl rfl rfl ?_
    refine s_iload (pc' := 128) A at_126 rfl rfl ?_
    refine s_iload (pc' := 130) A at_128 rfl rfl ?_
    refine s_lloadN (pc' := 131) A at_130 rfl rfl ?_
    refine s_lload (pc' := 133) A at_131 rfl rfl ?_
    refine s_lload (pc' := 135) A at_133 rfl rfl ?_
    refine s_virtual (pc' := 138) (y := y2_leave) (argsL := [(.int ic), (.int lc), (.long q3), (.long q4), (.long q5)]) (rest := []) (z := y2_leave) A E544 (leave2 l Z a0 hw n0 h541 A.size b477 b488 b487 ib (0 : Int32) q5 q3 q4 ia la q4 q5 q3 ic lc q3 q4 q5 ⟨E544, F545, F546, ⟨E553, F554, F555, F556, F557, F558⟩, ⟨E559, F560, F561, F562, F563, F564⟩, ne547, ne548, ne549, ge550, ge551, ge552⟩ hlc nib nia rfl) (w27 hw) (w28 hw) (nf_same (C := "") (w30 hw)) (w30 hw) (w29 hw) (w7 hw) (w31 hw) (by decide) pd__IZJJJ_V rfl (W := 0) (by decide) (by decide) (Nat.le_of_eq rfl) (by decide) (by decide) rfl rfl at_135 rfl fun T h567 v568 A Q569 => ?_
    obtain ⟨rfl, K565, H566⟩ := Q569
    obtain ⟨E570, F571, F572, ⟨E579, F580, F581, F582, F583, F584⟩, ⟨E585, F586, F587, F588, F589, F590⟩, ne573, ne574, ne575, ge576, ge577, ge578⟩ := H566
    refine Wp.stk (st' := []) rfl ?_
    refine s_iload (pc' := 140) A at_138 rfl rfl ?_
    refine s_iconst (pc' := 141) (z := (1 : Int32)) A at_140 rfl (by decide) ?_
    refine s_icmpN (pc' := 144) A at_141 rfl (by decide) ?_
    refine s_iconst (pc' := 145) (z := (1 : Int32)) A at_144 rfl (by decide) ?_
    refine s_goto (pc' := 149) A at_145 (by decide) (by decide) ?_
    refine s_istore (pc' := 151) (Ls' := #[iv q0, iv q1, iv q2, jv q3, S2, jv q4, S2, jv q5, S2, iv ia, iv ib, iv ic, iv 2, iv la, iv 0, iv lc, rv b477, iv 1, U0, U0, U0, U0, U0, U0, U0]) A at_149 rfl rfl ?_
    refine s_iload (pc' := 153) A at_151 rfl rfl ?_
    refine s_iconst (pc' := 154) (z := (2 : Int32)) A at_153 rfl (by decide) ?_
    refine s_icmpN (pc' := 157) A at_154 rfl (by decide) ?_
    refine s_iload (pc' := 159) A at_157 rfl rfl ?_
    refine s_ifN (pc' := 162) A at_159 rfl (by decide) ?_
    refine s_iconst (pc' := 163) (z := (1 : Int32)) A at_162 rfl (by decide) ?_
    refine s_goto (pc' := 167) A at_163 (by decide) (by decide) ?_
    refine s_istore (pc' := 169) (Ls' := #[iv q0, iv q1, iv q2, jv q3, S2, jv q4, S2, jv q5, S2, iv ia, iv ib, iv ic, iv 2, iv la, iv 0, iv lc, rv b477, iv 1, iv 1, U0, U0, U0, U0, U0, U0]) A at_167 rfl rfl ?_
    refine s_iload (pc' := 171) A at_169 rfl rfl ?_
    refine s_ifN (pc' := 174) A at_171 rfl (by decide) ?_
    refine s_iload (pc' := 176) A at_174 rfl rfl ?_
    refine s_goto (pc' := 181) A at_176 (by decide) (by decide) ?_
    refine s_istore (pc' := 183) (Ls' := #[iv q0, iv q1, iv q2, jv q3, S2, jv q4, S2, jv q5, S2, iv ia, iv ib, iv ic, iv 2, iv la, iv 0, iv lc, rv b477, iv 1, iv 1, iv ib, U0, U0, U0, U0, U0]) A at_181 rfl rfl ?_
    refine s_iload (pc' := 185) A at_183 rfl rfl ?_
    refine s_ifN (pc' := 188) A at_185 rfl (by decide) ?_
    refine s_lload (pc' := 190) A at_188 rfl rfl ?_
    refine s_goto (pc' := 195) A at_190 (by decide) (by decide) ?_
    refine s_lstore (pc' := 197) (Ls' := #[iv q0, iv q1, iv q2, jv q3, S2, jv q4, S2, jv q5, S2, iv ia, iv ib, iv ic, iv 2, iv la, iv 0, iv lc, rv b477, iv 1, iv 1, iv ib, jv q5, S2, U0, U0, U0]) A at_195 rfl rfl ?_
    refine s_iload (pc' := 199) A at_197 rfl rfl ?_
    refine s_ifN (pc' := 202) A at_199 rfl (by decide) ?_
    refine s_lload (pc' := 204) A at_202 rfl rfl ?_
    refine s_goto (pc' := 208) A at_204 (by decide) (by decide) ?_
    refine s_lstore (pc' := 210) (Ls' := #[iv q0, iv q1, iv q2, jv q3, S2, jv q4, S2, jv q5, S2, iv ia, iv ib, iv ic, iv 2, iv la, iv 0, iv lc, rv b477, iv 1, iv 1, iv ib, jv q5, S2, jv q4, S2, U0]) A at_208 rfl rfl ?_
    refine s_aload (pc' := 212) A at_210 rfl rfl rfl ?_
    refine s_iload (pc' := 214) A at_212 rfl rfl ?_
    refine s_virtual (pc' := 217) (y := y4_remembers) (argsL := [(.int ic)]) (rest := []) (z := y4_remembers) A E570 (remembers0 l Z a0 hw n0 h567 A.size b477 b487 b488 ic lc q3 q4 q5 ib (0 : Int32) q5 q3 q4 ic ⟨E570, F571, F572, ⟨E579, F580, F581, F582, F583, F584⟩, ⟨E585, F586, F587, F588, F589, F590⟩, ne573, ne574, ne575, ge576, ge577, ge578⟩ nic rfl) (w41 hw) (w42 hw) (nf_same (C := "") (w44 hw)) (w44 hw) (w43 hw) (w7 hw) (w45 hw) (by decide) pd__I_Z rfl (W := 0) (by decide) (by decide) (Nat.le_of_eq rfl) (by decide) (by decide) rfl rfl at_214 rfl fun T h591 v592 A Q593 => ?_
    obtain ⟨rfl, eh⟩ := Q593
    rw [eh] at A
    refine Wp.stk (st' := [(.int (1 : Int32))]) rfl ?_
    refine s_ifN (pc' := 220) A at_217 rfl (by decide) ?_
    refine s_aload (pc' := 222) A at_220 rfl rfl rfl ?_
    refine s_iload (pc' := 224) A at_222 rfl rfl ?_
    refine s_virtual (pc' := 227) (y := y5_highest) (argsL := [(.int ic)]) (rest := []) (z := y5_highest) A E570 (highest0 l Z a0 hw n0 h567 A.size b477 b487 b488 ic lc q3 q4 q5 ib (0 : Int32) q5 q3 q4 ic ⟨E570, F571, F572, ⟨E579, F580, F581, F582, F583, F584⟩, ⟨E585, F586, F587, F588, F589, F590⟩, ne573, ne574, ne575, ge576, ge577, ge578⟩ nic rfl) (w50 hw) (w51 hw) (nf_same (C := "") (w53 hw)) (w53 hw) (w52 hw) (w7 hw) (w54 hw) (by decide) pd__I_J rfl (W := 0) (by decide) (by decide) (Nat.le_of_eq rfl) (by decide) (by decide) rfl rfl at_224 rfl fun T h594 v595 A Q596 => ?_
    obtain ⟨rfl, eh⟩ := Q596
    rw [eh] at A
    refine Wp.stk (st' := [(.long q3)]) rfl ?_
    refine s_lloadN (pc' := 228) A at_227 rfl rfl ?_
    refine s_lcmp (pc' := 229) A at_228 rfl ?_
    refine s_ifN (pc' := 232) A at_229 rfl ((if0 _ _).trans (teq ((lw_eq q3 q3).2 (rfl : q3 = q3))).2) ?_
    refine s_aload (pc' := 234) A at_232 rfl rfl rfl ?_
    refine s_iload (pc' := 236) A at_234 rfl rfl ?_
    refine s_virtual (pc' := 239) (y := y6_note) (argsL := [(.int ic)]) (rest := []) (z := y6_note) A E570 (note0 l Z a0 hw n0 h567 A.size b477 b487 b488 ic lc q3 q4 q5 ib (0 : Int32) q5 q3 q4 ic ⟨E570, F571, F572, ⟨E579, F580, F581, F582, F583, F584⟩, ⟨E585, F586, F587, F588, F589, F590⟩, ne573, ne574, ne575, ge576, ge577, ge578⟩ nic rfl) (w55 hw) (w56 hw) (nf_same (C := "") (w58 hw)) (w58 hw) (w57 hw) (w7 hw) (w59 hw) (by decide) pd__I_J rfl (W := 0) (by decide) (by decide) (Nat.le_of_eq rfl) (by decide) (by decide) rfl rfl at_236 rfl fun T h597 v598 A Q599 => ?_
    obtain ⟨rfl, eh⟩ := Q599
    rw [eh] at A
    refine Wp.stk (st' := [(.long q4)]) rfl ?_
    refine s_lload (pc' := 241) A at_239 rfl rfl ?_
    refine s_lcmp (pc' := 242) A at_241 rfl ?_
    refine s_ifN (pc' := 245) A at_242 rfl ((if0 _ _).trans (teq ((lw_eq q4 q4).2 (rfl : q4 = q4))).2) ?_
    refine s_aload (pc' := 247) A at_245 rfl rfl rfl ?_
    refine s_iload (pc' := 249) A at_247 rfl rfl ?_
    refine s_virtual (pc' := 252) (y := y7_order) (argsL := [(.int ic)]) (rest := []) (z := y7_order) A E570 (order0 l Z a0 hw n0 h567 A.size b477 b487 b488 ic lc q3 q4 q5 ib (0 : Int32) q5 q3 q4 ic ⟨E570, F571, F572, ⟨E579, F580, F581, F582, F583, F584⟩, ⟨E585, F586, F587, F588, F589, F590⟩, ne573, ne574, ne575, ge576, ge577, ge578⟩ nic rfl) (w60 hw) (w61 hw) (nf_same (C := "") (w63 hw)) (w63 hw) (w62 hw) (w7 hw) (w64 hw) (by decide) pd__I_J rfl (W := 0) (by decide) (by decide) (Nat.le_of_eq rfl) (by decide) (by decide) rfl rfl at_249 rfl fun T h600 v601 A Q602 => ?_
    obtain ⟨rfl, eh⟩ := Q602
    rw [eh] at A
    refine Wp.stk (st' := [(.long q5)]) rfl ?_
    refine s_lload (pc' := 254) A at_252 rfl rfl ?_
    refine s_lcmp (pc' := 255) A at_254 rfl ?_
    refine s_ifN (pc' := 258) A at_255 rfl ((if0 _ _).trans (teq ((lw_eq q5 q5).2 (rfl : q5 = q5))).2) ?_
    refine s_iconst (pc' := 259) (z := (1 : Int32)) A at_258 rfl (by decide) ?_
    refine s_goto (pc' := 263) A at_259 (by decide) (by decide) ?_
    refine s_istore (pc' := 265) (Ls' := #[iv q0, iv q1, iv q2, jv q3, S2, jv q4, S2, jv q5, S2, iv ia, iv ib, iv ic, iv 2, iv la, iv 0, iv lc, rv b477, iv 1, iv 1, iv ib, jv q5, S2, jv q4, S2, iv 1]) A at_263 rfl rfl ?_
    refine s_iload (pc' := 267) A at_265 rfl rfl ?_
    refine s_ifN (pc' := 270) A at_267 rfl (by decide) ?_
    refine s_aload (pc' := 272) A at_270 rfl rfl rfl ?_
    refine s_iload (pc' := 274) A at_272 rfl rfl ?_
    by_cases hs274 : ic = ia
    ·
     refine s_virtual (pc' := 277) (y := y4_remembers) (argsL := [(.int ia)]) (rest := []) (z := y4_remembers) A E570 (remembers0 l Z a0 hw n0 h567 A.size b477 b487 b488 ic lc q3 q4 q5 ib (0 : Int32) q5 q3 q4 ia ⟨E570, F571, F572, ⟨E579, F580, F581, F582, F583, F584⟩, ⟨E585, F586, F587, F588, F589, F590⟩, ne573, ne574, ne575, ge576, ge577, ge578⟩ nia hs274) (w41 hw) (w42 hw) (nf_same (C := "") (w44 hw)) (w44 hw) (w43 hw) (w7 hw) (w45 hw) (by decide) pd__I_Z rfl (W := 0) (by decide) (by decide) (Nat.le_of_eq rfl) (by decide) (by decide) rfl rfl at_274 rfl fun T h603 v604 A Q605 => ?_
     obtain ⟨rfl, eh⟩ := Q605
     rw [eh] at A
     refine Wp.stk (st' := [(.int (1 : Int32))]) rfl ?_
     refine s_iload (pc' := 279) A at_277 rfl rfl ?_
     refine s_iload (pc' := 281) A at_279 rfl rfl ?_
     refine s_icmpY (pc' := 296) A at_281 (teq hs274.symm).1 (by decide) (by decide) ?_
     refine s_iconst (pc' := 297) (z := (1 : Int32)) A at_296 rfl (by decide) ?_
     refine s_goto (pc' := 301) A at_297 (by decide) (by decide) ?_
     refine s_icmpN (pc' := 304) A at_301 rfl (by decide) ?_
     refine s_iconst (pc' := 305) (z := (1 : Int32)) A at_304 rfl (by decide) ?_
     refine s_goto (pc' := 309) A at_305 (by decide) (by decide) ?_
     refine s_istore (pc' := 311) (Ls' := #[iv q0, iv q1, iv q2, jv q3, S2, jv q4, S2, jv q5, S2, iv ia, iv ib, iv ic, iv 2, iv la, iv 0, iv lc, rv b477, iv 1, iv 1, iv ib, jv q5, S2, jv q4, S2, iv 1]) A at_309 rfl rfl ?_
     refine s_iload (pc' := 313) A at_311 rfl rfl ?_
     refine s_ifN (pc' := 316) A at_313 rfl (by decide) ?_
     refine s_aload (pc' := 318) A at_316 rfl rfl rfl ?_
     refine s_iload (pc' := 320) A at_318 rfl rfl ?_
     by_cases hs320 : ic = ib
     ·
      refine s_virtual (pc' := 323) (y := y4_remembers) (argsL := [(.int ib)]) (rest := []) (z := y4_remembers) A E570 (remembers0 l Z a0 hw n0 h567 A.size b477 b487 b488 ic lc q3 q4 q5 ib (0 : Int32) q5 q3 q4 ib ⟨E570, F571, F572, ⟨E579, F580, F581, F582, F583, F584⟩, ⟨E585, F586, F587, F588, F589, F590⟩, ne573, ne574, ne575, ge576, ge577, ge578⟩ nib hs320) (w41 hw) (w42 hw) (nf_same (C := "") (w44 hw)) (w44 hw) (w43 hw) (w7 hw) (w45 hw) (by decide) pd__I_Z rfl (W := 0) (by decide) (by decide) (Nat.le_of_eq rfl) (by decide) (by decide) rfl rfl at_320 rfl fun T h606 v607 A Q608 => ?_
      obtain ⟨rfl, eh⟩ := Q608
      rw [eh] at A
      refine Wp.stk (st' := [(.int (1 : Int32))]) rfl ?_
      refine s_iload (pc' := 325) A at_323 rfl rfl ?_
      refine s_iload (pc' := 327) A at_325 rfl rfl ?_
      refine s_icmpY (pc' := 342) A at_327 (teq hs320.symm).1 (by decide) (by decide) ?_
      refine s_iconst (pc' := 343) (z := (1 : Int32)) A at_342 rfl (by decide) ?_
      refine s_goto (pc' := 347) A at_343 (by decide) (by decide) ?_
      refine s_icmpN (pc' := 350) A at_347 rfl (by decide) ?_
      refine s_iconst (pc' := 351) (z := (1 : Int32)) A at_350 rfl (by decide) ?_
      refine s_goto (pc' := 355) A at_351 (by decide) (by decide) ?_
      refine s_istore (pc' := 357) (Ls' := #[iv q0, iv q1, iv q2, jv q3, S2, jv q4, S2, jv q5, S2, iv ia, iv ib, iv ic, iv 2, iv la, iv 0, iv lc, rv b477, iv 1, iv 1, iv ib, jv q5, S2, jv q4, S2, iv 1]) A at_355 rfl rfl ?_
      refine s_iload (pc' := 359) A at_357 rfl rfl ?_
      refine s_ifN (pc' := 362) A at_359 rfl (by decide) ?_
      refine s_iload (pc' := 364) A at_362 rfl rfl ?_
      refine s_ifN (pc' := 367) A at_364 rfl (by decide) ?_
      refine s_iload (pc' := 369) A at_367 rfl rfl ?_
      refine s_iload (pc' := 371) A at_369 rfl rfl ?_
      refine s_icmpY (pc' := 407) A at_371 (teq hs320.symm).1 (by decide) (by decide) ?_
      refine s_iload (pc' := 409) A at_407 rfl rfl ?_
      exact r_bool A rfl (by decide) at_409 (by decide) (by decide) (rfl)
     ·
      refine s_virtual (pc' := 323) (y := y4_remembers) (argsL := [(.int ib)]) (rest := []) (z := y4_remembers) A E570 (remembers1 l Z a0 hw n0 h567 A.size b477 b487 b488 ic lc q3 q4 q5 ib (0 : Int32) q5 q3 q4 ib ⟨E570, F571, F572, ⟨E579, F580, F581, F582, F583, F584⟩, ⟨E585, F586, F587, F588, F589, F590⟩, ne573, ne574, ne575, ge576, ge577, ge578⟩ nib hs320 rfl) (w41 hw) (w42 hw) (nf_same (C := "") (w44 hw)) (w44 hw) (w43 hw) (w7 hw) (w45 hw) (by decide) pd__I_Z rfl (W := 0) (by decide) (by decide) (Nat.le_of_eq rfl) (by decide) (by decide) rfl rfl at_320 rfl fun T h609 v610 A Q611 => ?_
      obtain ⟨rfl, eh⟩ := Q611
      rw [eh] at A
      refine Wp.stk (st' := [(.int (1 : Int32))]) rfl ?_
      refine s_iload (pc' := 325) A at_323 rfl rfl ?_
      refine s_iload (pc' := 327) A at_325 rfl rfl ?_
      refine s_icmpN (pc' := 330) A at_327 rfl (feq (fun q => hs320 q.symm)).1 ?_
      refine s_iload (pc' := 332) A at_330 rfl rfl ?_
      refine s_ifN (pc' := 335) A at_332 rfl (by decide) ?_
      refine s_iload (pc' := 337) A at_335 rfl rfl ?_
      refine s_iload (pc' := 339) A at_337 rfl rfl ?_
      refine s_icmpN (pc' := 342) A at_339 rfl (teq (rfl : ib = ib)).2 ?_
      refine s_iconst (pc' := 343) (z := (1 : Int32)) A at_342 rfl (by decide) ?_
      refine s_goto (pc' := 347) A at_343 (by decide) (by decide) ?_
      refine s_icmpN (pc' := 350) A at_347 rfl (by decide) ?_
      refine s_iconst (pc' := 351) (z := (1 : Int32)) A at_350 rfl (by decide) ?_
      refine s_goto (pc' := 355) A at_351 (by decide) (by decide) ?_
      refine s_istore (pc' := 357) (Ls' := #[iv q0, iv q1, iv q2, jv q3, S2, jv q4, S2, jv q5, S2, iv ia, iv ib, iv ic, iv 2, iv la, iv 0, iv lc, rv b477, iv 1, iv 1, iv ib, jv q5, S2, jv q4, S2, iv 1]) A at_355 rfl rfl ?_
      refine s_iload (pc' := 359) A at_357 rfl rfl ?_
      refine s_ifN (pc' := 362) A at_359 rfl (by decide) ?_
      refine s_iload (pc' := 364) A at_362 rfl rfl ?_
      refine s_ifN (pc' := 367) A at_364 rfl (by decide) ?_
      refine s_iload (pc' := 369) A at_367 rfl rfl ?_
      refine s_iload (pc' := 371) A at_369 rfl rfl ?_
      refine s_icmpN (pc' := 374) A at_371 rfl (feq (fun q => hs320 q.symm)).1 ?_
      refine s_aload (pc' := 376) A at_374 rfl rfl rfl ?_
      refine s_iload (pc' := 378) A at_376 rfl rfl ?_
      refine s_virtual (pc' := 381) (y := y5_highest) (argsL := [(.int ib)]) (rest := []) (z := y5_highest) A E570 (highest1 l Z a0 hw n0 h567 A.size b477 b487 b488 ic lc q3 q4 q5 ib (0 : Int32) q5 q3 q4 ib ⟨E570, F571, F572, ⟨E579, F580, F581, F582, F583, F584⟩, ⟨E585, F586, F587, F588, F589, F590⟩, ne573, ne574, ne575, ge576, ge577, ge578⟩ nib (fun q => (fun q => hs320 q.symm) q.symm) rfl) (w50 hw) (w51 hw) (nf_same (C := "") (w53 hw)) (w53 hw) (w52 hw) (w7 hw) (w54 hw) (by decide) pd__I_J rfl (W := 0) (by decide) (by decide) (Nat.le_of_eq rfl) (by decide) (by decide) rfl rfl at_378 rfl fun T h612 v613 A Q614 => ?_
      obtain ⟨rfl, eh⟩ := Q614
      rw [eh] at A
      refine Wp.stk (st' := [(.long q5)]) rfl ?_
      refine s_lload (pc' := 383) A at_381 rfl rfl ?_
      refine s_lcmp (pc' := 384) A at_383 rfl ?_
      refine s_ifN (pc' := 387) A at_384 rfl ((if0 _ _).trans (teq ((lw_eq q5 q5).2 (rfl : q5 = q5))).2) ?_
      refine s_aload (pc' := 389) A at_387 rfl rfl rfl ?_
      refine s_iload (pc' := 391) A at_389 rfl rfl ?_
      refine s_virtual (pc' := 394) (y := y7_order) (argsL := [(.int ib)]) (rest := []) (z := y7_order) A E570 (order1 l Z a0 hw n0 h567 A.size b477 b487 b488 ic lc q3 q4 q5 ib (0 : Int32) q5 q3 q4 ib ⟨E570, F571, F572, ⟨E579, F580, F581, F582, F583, F584⟩, ⟨E585, F586, F587, F588, F589, F590⟩, ne573, ne574, ne575, ge576, ge577, ge578⟩ nib (fun q => (fun q => hs320 q.symm) q.symm) rfl) (w60 hw) (w61 hw) (nf_same (C := "") (w63 hw)) (w63 hw) (w62 hw) (w7 hw) (w64 hw) (by decide) pd__I_J rfl (W := 0) (by decide) (by decide) (Nat.le_of_eq rfl) (by decide) (by decide) rfl rfl at_391 rfl fun T h615 v616 A Q617 => ?_
      obtain ⟨rfl, eh⟩ := Q617
      rw [eh] at A
      refine Wp.stk (st' := [(.long q4)]) rfl ?_
      refine s_lload (pc' := 396) A at_394 rfl rfl ?_
      refine s_lcmp (pc' := 397) A at_396 rfl ?_
      refine s_ifN (pc' := 400) A at_397 rfl ((if0 _ _).trans (teq ((lw_eq q4 q4).2 (rfl : q4 = q4))).2) ?_
      refine s_iconst (pc' := 401) (z := (1 : Int32)) A at_400 rfl (by decide) ?_
      refine s_goto (pc' := 405) A at_401 (by decide) (by decide) ?_
      refine s_istore (pc' := 407) (Ls' := #[iv q0, iv q1, iv q2, jv q3, S2, jv q4, S2, jv q5, S2, iv ia, iv ib, iv ic, iv 2, iv la, iv 0, iv lc, rv b477, iv 1, iv 1, iv ib, jv q5, S2, jv q4, S2, iv 1]) A at_405 rfl rfl ?_
      refine s_iload (pc' := 409) A at_407 rfl rfl ?_
      exact r_bool A rfl (by decide) at_409 (by decide) (by decide) (rfl)
    ·
     by_cases hs274b : ib = ia
     ·
      refine s_virtual (pc' := 277) (y := y4_remembers) (argsL := [(.int ia)]) (rest := []) (z := y4_remembers) A E570 (remembers1 l Z a0 hw n0 h567 A.size b477 b487 b488 ic lc q3 q4 q5 ib (0 : Int32) q5 q3 q4 ia ⟨E570, F571, F572, ⟨E579, F580, F581, F582, F583, F584⟩, ⟨E585, F586, F587, F588, F589, F590⟩, ne573, ne574, ne575, ge576, ge577, ge578⟩ nia hs274 hs274b) (w41 hw) (w42 hw) (nf_same (C := "") (w44 hw)) (w44 hw) (w43 hw) (w7 hw) (w45 hw) (by decide) pd__I_Z rfl (W := 0) (by decide) (by decide) (Nat.le_of_eq rfl) (by decide) (by decide) rfl rfl at_274 rfl fun T h618 v619 A Q620 => ?_
      obtain ⟨rfl, eh⟩ := Q620
      rw [eh] at A
      refine Wp.stk (st' := [(.int (1 : Int32))]) rfl ?_
      refine s_iload (pc' := 279) A at_277 rfl rfl ?_
      refine s_iload (pc' := 281) A at_279 rfl rfl ?_
      refine s_icmpN (pc' := 284) A at_281 rfl (feq (fun q => hs274 q.symm)).1 ?_
      refine s_iload (pc' := 286) A at_284 rfl rfl ?_
      refine s_ifN (pc' := 289) A at_286 rfl (by decide) ?_
      refine s_iload (pc' := 291) A at_289 rfl rfl ?_
      refine s_iload (pc' := 293) A at_291 rfl rfl ?_
      refine s_icmpN (pc' := 296) A at_293 rfl (teq hs274b.symm).2 ?_
      refine s_iconst (pc' := 297) (z := (1 : Int32)) A at_296 rfl (by decide) ?_
      refine s_goto (pc' := 301) A at_297 (by decide) (by decide) ?_
      refine s_icmpN (pc' := 304) A at_301 rfl (by decide) ?_
      refine s_iconst (pc' := 305) (z := (1 : Int32)) A at_304 rfl (by decide) ?_
      refine s_goto (pc' := 309) A at_305 (by decide) (by decide) ?_
      refine s_istore (pc' := 311) (Ls' := #[iv q0, iv q1, iv q2, jv q3, S2, jv q4, S2, jv q5, S2, iv ia, iv ib, iv ic, iv 2, iv la, iv 0, iv lc, rv b477, iv 1, iv 1, iv ib, jv q5, S2, jv q4, S2, iv 1]) A at_309 rfl rfl ?_
      refine s_iload (pc' := 313) A at_311 rfl rfl ?_
      refine s_ifN (pc' := 316) A at_313 rfl (by decide) ?_
      refine s_aload (pc' := 318) A at_316 rfl rfl rfl ?_
      refine s_iload (pc' := 320) A at_318 rfl rfl ?_
      by_cases hs320 : ic = ib
      ·
       refine s_virtual (pc' := 323) (y := y4_remembers) (argsL := [(.int ib)]) (rest := []) (z := y4_remembers) A E570 (remembers0 l Z a0 hw n0 h567 A.size b477 b487 b488 ic lc q3 q4 q5 ib (0 : Int32) q5 q3 q4 ib ⟨E570, F571, F572, ⟨E579, F580, F581, F582, F583, F584⟩, ⟨E585, F586, F587, F588, F589, F590⟩, ne573, ne574, ne575, ge576, ge577, ge578⟩ nib hs320) (w41 hw) (w42 hw) (nf_same (C := "") (w44 hw)) (w44 hw) (w43 hw) (w7 hw) (w45 hw) (by decide) pd__I_Z rfl (W := 0) (by decide) (by decide) (Nat.le_of_eq rfl) (by decide) (by decide) rfl rfl at_320 rfl fun T h621 v622 A Q623 => ?_
       obtain ⟨rfl, eh⟩ := Q623
       rw [eh] at A
       refine Wp.stk (st' := [(.int (1 : Int32))]) rfl ?_
       refine s_iload (pc' := 325) A at_323 rfl rfl ?_
       refine s_iload (pc' := 327) A at_325 rfl rfl ?_
       refine s_icmpY (pc' := 342) A at_327 (teq hs320.symm).1 (by decide) (by decide) ?_
       refine s_iconst (pc' := 343) (z := (1 : Int32)) A at_342 rfl (by decide) ?_
       refine s_goto (pc' := 347) A at_343 (by decide) (by decide) ?_
       refine s_icmpN (pc' := 350) A at_347 rfl (by decide) ?_
       refine s_iconst (pc' := 351) (z := (1 : Int32)) A at_350 rfl (by decide) ?_
       refine s_goto (pc' := 355) A at_351 (by decide) (by decide) ?_
       refine s_istore (pc' := 357) (Ls' := #[iv q0, iv q1, iv q2, jv q3, S2, jv q4, S2, jv q5, S2, iv ia, iv ib, iv ic, iv 2, iv la, iv 0, iv lc, rv b477, iv 1, iv 1, iv ib, jv q5, S2, jv q4, S2, iv 1]) A at_355 rfl rfl ?_
       refine s_iload (pc' := 359) A at_357 rfl rfl ?_
       refine s_ifN (pc' := 362) A at_359 rfl (by decide) ?_
       refine s_iload (pc' := 364) A at_362 rfl rfl ?_
       refine s_ifN (pc' := 367) A at_364 rfl (by decide) ?_
       refine s_iload (pc' := 369) A at_367 rfl rfl ?_
       refine s_iload (pc' := 371) A at_369 rfl rfl ?_
       refine s_icmpY (pc' := 407) A at_371 (teq hs320.symm).1 (by decide) (by decide) ?_
       refine s_iload (pc' := 409) A at_407 rfl rfl ?_
       exact r_bool A rfl (by decide) at_409 (by decide) (by decide) (rfl)
      ·
       refine s_virtual (pc' := 323) (y := y4_remembers) (argsL := [(.int ib)]) (rest := []) (z := y4_remembers) A E570 (remembers1 l Z a0 hw n0 h567 A.size b477 b487 b488 ic lc q3 q4 q5 ib (0 : Int32) q5 q3 q4 ib ⟨E570, F571, F572, ⟨E579, F580, F581, F582, F583, F584⟩, ⟨E585, F586, F587, F588, F589, F590⟩, ne573, ne574, ne575, ge576, ge577, ge578⟩ nib hs320 rfl) (w41 hw) (w42 hw) (nf_same (C := "") (w44 hw)) (w44 hw) (w43 hw) (w7 hw) (w45 hw) (by decide) pd__I_Z rfl (W := 0) (by decide) (by decide) (Nat.le_of_eq rfl) (by decide) (by decide) rfl rfl at_320 rfl fun T h624 v625 A Q626 => ?_
       obtain ⟨rfl, eh⟩ := Q626
       rw [eh] at A
       refine Wp.stk (st' := [(.int (1 : Int32))]) rfl ?_
       refine s_iload (pc' := 325) A at_323 rfl rfl ?_
       refine s_iload (pc' := 327) A at_325 rfl rfl ?_
       refine s_icmpN (pc' := 330) A at_327 rfl (feq (fun q => hs320 q.symm)).1 ?_
       refine s_iload (pc' := 332) A at_330 rfl rfl ?_
       refine s_ifN (pc' := 335) A at_332 rfl (by decide) ?_
       refine s_iload (pc' := 337) A at_335 rfl rfl ?_
       refine s_iload (pc' := 339) A at_337 rfl rfl ?_
       refine s_icmpN (pc' := 342) A at_339 rfl (teq (rfl : ib = ib)).2 ?_
       refine s_iconst (pc' := 343) (z := (1 : Int32)) A at_342 rfl (by decide) ?_
       refine s_goto (pc' := 347) A at_343 (by decide) (by decide) ?_
       refine s_icmpN (pc' := 350) A at_347 rfl (by decide) ?_
       refine s_iconst (pc' := 351) (z := (1 : Int32)) A at_350 rfl (by decide) ?_
       refine s_goto (pc' := 355) A at_351 (by decide) (by decide) ?_
       refine s_istore (pc' := 357) (Ls' := #[iv q0, iv q1, iv q2, jv q3, S2, jv q4, S2, jv q5, S2, iv ia, iv ib, iv ic, iv 2, iv la, iv 0, iv lc, rv b477, iv 1, iv 1, iv ib, jv q5, S2, jv q4, S2, iv 1]) A at_355 rfl rfl ?_
       refine s_iload (pc' := 359) A at_357 rfl rfl ?_
       refine s_ifN (pc' := 362) A at_359 rfl (by decide) ?_
       refine s_iload (pc' := 364) A at_362 rfl rfl ?_
       refine s_ifN (pc' := 367) A at_364 rfl (by decide) ?_
       refine s_iload (pc' := 369) A at_367 rfl rfl ?_
       refine s_iload (pc' := 371) A at_369 rfl rfl ?_
       refine s_icmpN (pc' := 374) A at_371 rfl (feq (fun q => hs320 q.symm)).1 ?_
       refine s_aload (pc' := 376) A at_374 rfl rfl rfl ?_
       refine s_iload (pc' := 378) A at_376 rfl rfl ?_
       refine s_virtual (pc' := 381) (y := y5_highest) (argsL := [(.int ib)]) (rest := []) (z := y5_highest) A E570 (highest1 l Z a0 hw n0 h567 A.size b477 b487 b488 ic lc q3 q4 q5 ib (0 : Int32) q5 q3 q4 ib ⟨E570, F571, F572, ⟨E579, F580, F581, F582, F583, F584⟩, ⟨E585, F586, F587, F588, F589, F590⟩, ne573, ne574, ne575, ge576, ge577, ge578⟩ nib (fun q => (fun q => hs320 q.symm) q.symm) rfl) (w50 hw) (w51 hw) (nf_same (C := "") (w53 hw)) (w53 hw) (w52 hw) (w7 hw) (w54 hw) (by decide) pd__I_J rfl (W := 0) (by decide) (by decide) (Nat.le_of_eq rfl) (by decide) (by decide) rfl rfl at_378 rfl fun T h627 v628 A Q629 => ?_
       obtain ⟨rfl, eh⟩ := Q629
       rw [eh] at A
       refine Wp.stk (st' := [(.long q5)]) rfl ?_
       refine s_lload (pc' := 383) A at_381 rfl rfl ?_
       refine s_lcmp (pc' := 384) A at_383 rfl ?_
       refine s_ifN (pc' := 387) A at_384 rfl ((if0 _ _).trans (teq ((lw_eq q5 q5).2 (rfl : q5 = q5))).2) ?_
       refine s_aload (pc' := 389) A at_387 rfl rfl rfl ?_
       refine s_iload (pc' := 391) A at_389 rfl rfl ?_
       refine s_virtual (pc' := 394) (y := y7_order) (argsL := [(.int ib)]) (rest := []) (z := y7_order) A E570 (order1 l Z a0 hw n0 h567 A.size b477 b487 b488 ic lc q3 q4 q5 ib (0 : Int32) q5 q3 q4 ib ⟨E570, F571, F572, ⟨E579, F580, F581, F582, F583, F584⟩, ⟨E585, F586, F587, F588, F589, F590⟩, ne573, ne574, ne575, ge576, ge577, ge578⟩ nib (fun q => (fun q => hs320 q.symm) q.symm) rfl) (w60 hw) (w61 hw) (nf_same (C := "") (w63 hw)) (w63 hw) (w62 hw) (w7 hw) (w64 hw) (by decide) pd__I_J rfl (W := 0) (by decide) (by decide) (Nat.le_of_eq rfl) (by decide) (by decide) rfl rfl at_391 rfl fun T h630 v631 A Q632 => ?_
       obtain ⟨rfl, eh⟩ := Q632
       rw [eh] at A
       refine Wp.stk (st' := [(.long q4)]) rfl ?_
       refine s_lload (pc' := 396) A at_394 rfl rfl ?_
       refine s_lcmp (pc' := 397) A at_396 rfl ?_
       refine s_ifN (pc' := 400) A at_397 rfl ((if0 _ _).trans (teq ((lw_eq q4 q4).2 (rfl : q4 = q4))).2) ?_
       refine s_iconst (pc' := 401) (z := (1 : Int32)) A at_400 rfl (by decide) ?_
       refine s_goto (pc' := 405) A at_401 (by decide) (by decide) ?_
       refine s_istore (pc' := 407) (Ls' := #[iv q0, iv q1, iv q2, jv q3, S2, jv q4, S2, jv q5, S2, iv ia, iv ib, iv ic, iv 2, iv la, iv 0, iv lc, rv b477, iv 1, iv 1, iv ib, jv q5, S2, jv q4, S2, iv 1]) A at_405 rfl rfl ?_
       refine s_iload (pc' := 409) A at_407 rfl rfl ?_
       exact r_bool A rfl (by decide) at_409 (by decide) (by decide) (rfl)
     ·
      refine s_virtual (pc' := 277) (y := y4_remembers) (argsL := [(.int ia)]) (rest := []) (z := y4_remembers) A E570 (remembers2 l Z a0 hw n0 h567 A.size b477 b487 b488 ic lc q3 q4 q5 ib (0 : Int32) q5 q3 q4 ia ⟨E570, F571, F572, ⟨E579, F580, F581, F582, F583, F584⟩, ⟨E585, F586, F587, F588, F589, F590⟩, ne573, ne574, ne575, ge576, ge577, ge578⟩ nia hs274 hs274b) (w41 hw) (w42 hw) (nf_same (C := "") (w44 hw)) (w44 hw) (w43 hw) (w7 hw) (w45 hw) (by decide) pd__I_Z rfl (W := 0) (by decide) (by decide) (Nat.le_of_eq rfl) (by decide) (by decide) rfl rfl at_274 rfl fun T h633 v634 A Q635 => ?_
      obtain ⟨rfl, eh⟩ := Q635
      rw [eh] at A
      refine Wp.stk (st' := [(.int (0 : Int32))]) rfl ?_
      refine s_iload (pc' := 279) A at_277 rfl rfl ?_
      refine s_iload (pc' := 281) A at_279 rfl rfl ?_
      refine s_icmpN (pc' := 284) A at_281 rfl (feq (fun q => hs274 q.symm)).1 ?_
      refine s_iload (pc' := 286) A at_284 rfl rfl ?_
      refine s_ifN (pc' := 289) A at_286 rfl (by decide) ?_
      refine s_iload (pc' := 291) A at_289 rfl rfl ?_
      refine s_iload (pc' := 293) A at_291 rfl rfl ?_
      refine s_icmpY (pc' := 300) A at_293 (feq (fun q => hs274b q.symm)).2 (by decide) (by decide) ?_
      refine s_iconst (pc' := 301) (z := (0 : Int32)) A at_300 rfl (by decide) ?_
      refine s_icmpN (pc' := 304) A at_301 rfl (by decide) ?_
      refine s_iconst (pc' := 305) (z := (1 : Int32)) A at_304 rfl (by decide) ?_
      refine s_goto (pc' := 309) A at_305 (by decide) (by decide) ?_
      refine s_istore (pc' := 311) (Ls' := #[iv q0, iv q1, iv q2, jv q3, S2, jv q4, S2, jv q5, S2, iv ia, iv ib, iv ic, iv 2, iv la, iv 0, iv lc, rv b477, iv 1, iv 1, iv ib, jv q5, S2, jv q4, S2, iv 1]) A at_309 rfl rfl ?_
      refine s_iload (pc' := 313) A at_311 rfl rfl ?_
      refine s_ifN (pc' := 316) A at_313 rfl (by decide) ?_
      refine s_aload (pc' := 318) A at_316 rfl rfl rfl ?_
      refine s_iload (pc' := 320) A at_318 rfl rfl ?_
      by_cases hs320 : ic = ib
      ·
       refine s_virtual (pc' := 323) (y := y4_remembers) (argsL := [(.int ib)]) (rest := []) (z := y4_remembers) A E570 (remembers0 l Z a0 hw n0 h567 A.size b477 b487 b488 ic lc q3 q4 q5 ib (0 : Int32) q5 q3 q4 ib ⟨E570, F571, F572, ⟨E579, F580, F581, F582, F583, F584⟩, ⟨E585, F586, F587, F588, F589, F590⟩, ne573, ne574, ne575, ge576, ge577, ge578⟩ nib hs320) (w41 hw) (w42 hw) (nf_same (C := "") (w44 hw)) (w44 hw) (w43 hw) (w7 hw) (w45 hw) (by decide) pd__I_Z rfl (W := 0) (by decide) (by decide) (Nat.le_of_eq rfl) (by decide) (by decide) rfl rfl at_320 rfl fun T h636 v637 A Q638 => ?_
       obtain ⟨rfl, eh⟩ := Q638
       rw [eh] at A
       refine Wp.stk (st' := [(.int (1 : Int32))]) rfl ?_
       refine s_iload (pc' := 325) A at_323 rfl rfl ?_
       refine s_iload (pc' := 327) A at_325 rfl rfl ?_
       refine s_icmpY (pc' := 342) A at_327 (teq hs320.symm).1 (by decide) (by decide) ?_
       refine s_iconst (pc' := 343) (z := (1 : Int32)) A at_342 rfl (by decide) ?_
       refine s_goto (pc' := 347) A at_343 (by decide) (by decide) ?_
       refine s_icmpN (pc' := 350) A at_347 rfl (by decide) ?_
       refine s_iconst (pc' := 351) (z := (1 : Int32)) A at_350 rfl (by decide) ?_
       refine s_goto (pc' := 355) A at_351 (by decide) (by decide) ?_
       refine s_istore (pc' := 357) (Ls' := #[iv q0, iv q1, iv q2, jv q3, S2, jv q4, S2, jv q5, S2, iv ia, iv ib, iv ic, iv 2, iv la, iv 0, iv lc, rv b477, iv 1, iv 1, iv ib, jv q5, S2, jv q4, S2, iv 1]) A at_355 rfl rfl ?_
       refine s_iload (pc' := 359) A at_357 rfl rfl ?_
       refine s_ifN (pc' := 362) A at_359 rfl (by decide) ?_
       refine s_iload (pc' := 364) A at_362 rfl rfl ?_
       refine s_ifN (pc' := 367) A at_364 rfl (by decide) ?_
       refine s_iload (pc' := 369) A at_367 rfl rfl ?_
       refine s_iload (pc' := 371) A at_369 rfl rfl ?_
       refine s_icmpY (pc' := 407) A at_371 (teq hs320.symm).1 (by decide) (by decide) ?_
       refine s_iload (pc' := 409) A at_407 rfl rfl ?_
       exact r_bool A rfl (by decide) at_409 (by decide) (by decide) (rfl)
      ·
       refine s_virtual (pc' := 323) (y := y4_remembers) (argsL := [(.int ib)]) (rest := []) (z := y4_remembers) A E570 (remembers1 l Z a0 hw n0 h567 A.size b477 b487 b488 ic lc q3 q4 q5 ib (0 : Int32) q5 q3 q4 ib ⟨E570, F571, F572, ⟨E579, F580, F581, F582, F583, F584⟩, ⟨E585, F586, F587, F588, F589, F590⟩, ne573, ne574, ne575, ge576, ge577, ge578⟩ nib hs320 rfl) (w41 hw) (w42 hw) (nf_same (C := "") (w44 hw)) (w44 hw) (w43 hw) (w7 hw) (w45 hw) (by decide) pd__I_Z rfl (W := 0) (by decide) (by decide) (Nat.le_of_eq rfl) (by decide) (by decide) rfl rfl at_320 rfl fun T h639 v640 A Q641 => ?_
       obtain ⟨rfl, eh⟩ := Q641
       rw [eh] at A
       refine Wp.stk (st' := [(.int (1 : Int32))]) rfl ?_
       refine s_iload (pc' := 325) A at_323 rfl rfl ?_
       refine s_iload (pc' := 327) A at_325 rfl rfl ?_
       refine s_icmpN (pc' := 330) A at_327 rfl (feq (fun q => hs320 q.symm)).1 ?_
       refine s_iload (pc' := 332) A at_330 rfl rfl ?_
       refine s_ifN (pc' := 335) A at_332 rfl (by decide) ?_
       refine s_iload (pc' := 337) A at_335 rfl rfl ?_
       refine s_iload (pc' := 339) A at_337 rfl rfl ?_
       refine s_icmpN (pc' := 342) A at_339 rfl (teq (rfl : ib = ib)).2 ?_
       refine s_iconst (pc' := 343) (z := (1 : Int32)) A at_342 rfl (by decide) ?_
       refine s_goto (pc' := 347) A at_343 (by decide) (by decide) ?_
       refine s_icmpN (pc' := 350) A at_347 rfl (by decide) ?_
       refine s_iconst (pc' := 351) (z := (1 : Int32)) A at_350 rfl (by decide) ?_
       refine s_goto (pc' := 355) A at_351 (by decide) (by decide) ?_
       refine s_istore (pc' := 357) (Ls' := #[iv q0, iv q1, iv q2, jv q3, S2, jv q4, S2, jv q5, S2, iv ia, iv ib, iv ic, iv 2, iv la, iv 0, iv lc, rv b477, iv 1, iv 1, iv ib, jv q5, S2, jv q4, S2, iv 1]) A at_355 rfl rfl ?_
       refine s_iload (pc' := 359) A at_357 rfl rfl ?_
       refine s_ifN (pc' := 362) A at_359 rfl (by decide) ?_
       refine s_iload (pc' := 364) A at_362 rfl rfl ?_
       refine s_ifN (pc' := 367) A at_364 rfl (by decide) ?_
       refine s_iload (pc' := 369) A at_367 rfl rfl ?_
       refine s_iload (pc' := 371) A at_369 rfl rfl ?_
       refine s_icmpN (pc' := 374) A at_371 rfl (feq (fun q => hs320 q.symm)).1 ?_
       refine s_aload (pc' := 376) A at_374 rfl rfl rfl ?_
       refine s_iload (pc' := 378) A at_376 rfl rfl ?_
       refine s_virtual (pc' := 381) (y := y5_highest) (argsL := [(.int ib)]) (rest := []) (z := y5_highest) A E570 (highest1 l Z a0 hw n0 h567 A.size b477 b487 b488 ic lc q3 q4 q5 ib (0 : Int32) q5 q3 q4 ib ⟨E570, F571, F572, ⟨E579, F580, F581, F582, F583, F584⟩, ⟨E585, F586, F587, F588, F589, F590⟩, ne573, ne574, ne575, ge576, ge577, ge578⟩ nib (fun q => (fun q => hs320 q.symm) q.symm) rfl) (w50 hw) (w51 hw) (nf_same (C := "") (w53 hw)) (w53 hw) (w52 hw) (w7 hw) (w54 hw) (by decide) pd__I_J rfl (W := 0) (by decide) (by decide) (Nat.le_of_eq rfl) (by decide) (by decide) rfl rfl at_378 rfl fun T h642 v643 A Q644 => ?_
       obtain ⟨rfl, eh⟩ := Q644
       rw [eh] at A
       refine Wp.stk (st' := [(.long q5)]) rfl ?_
       refine s_lload (pc' := 383) A at_381 rfl rfl ?_
       refine s_lcmp (pc' := 384) A at_383 rfl ?_
       refine s_ifN (pc' := 387) A at_384 rfl ((if0 _ _).trans (teq ((lw_eq q5 q5).2 (rfl : q5 = q5))).2) ?_
       refine s_aload (pc' := 389) A at_387 rfl rfl rfl ?_
       refine s_iload (pc' := 391) A at_389 rfl rfl ?_
       refine s_virtual (pc' := 394) (y := y7_order) (argsL := [(.int ib)]) (rest := []) (z := y7_order) A E570 (order1 l Z a0 hw n0 h567 A.size b477 b487 b488 ic lc q3 q4 q5 ib (0 : Int32) q5 q3 q4 ib ⟨E570, F571, F572, ⟨E579, F580, F581, F582, F583, F584⟩, ⟨E585, F586, F587, F588, F589, F590⟩, ne573, ne574, ne575, ge576, ge577, ge578⟩ nib (fun q => (fun q => hs320 q.symm) q.symm) rfl) (w60 hw) (w61 hw) (nf_same (C := "") (w63 hw)) (w63 hw) (w62 hw) (w7 hw) (w64 hw) (by decide) pd__I_J rfl (W := 0) (by decide) (by decide) (Nat.le_of_eq rfl) (by decide) (by decide) rfl rfl at_391 rfl fun T h645 v646 A Q647 => ?_
       obtain ⟨rfl, eh⟩ := Q647
       rw [eh] at A
       refine Wp.stk (st' := [(.long q4)]) rfl ?_
       refine s_lload (pc' := 396) A at_394 rfl rfl ?_
       refine s_lcmp (pc' := 397) A at_396 rfl ?_
       refine s_ifN (pc' := 400) A at_397 rfl ((if0 _ _).trans (teq ((lw_eq q4 q4).2 (rfl : q4 = q4))).2) ?_
       refine s_iconst (pc' := 401) (z := (1 : Int32)) A at_400 rfl (by decide) ?_
       refine s_goto (pc' := 405) A at_401 (by decide) (by decide) ?_
       refine s_istore (pc' := 407) (Ls' := #[iv q0, iv q1, iv q2, jv q3, S2, jv q4, S2, jv q5, S2, iv ia, iv ib, iv ic, iv 2, iv la, iv 0, iv lc, rv b477, iv 1, iv 1, iv ib, jv q5, S2, jv q4, S2, iv 1]) A at_405 rfl rfl ?_
       refine s_iload (pc' := 409) A at_407 rfl rfl ?_
       exact r_bool A rfl (by decide) at_409 (by decide) (by decide) (rfl)
   ·
    refine s_ifN (pc' := 53) A at_50 rfl ((if0 _ _).trans (feq hc50_1).1) ?_
    refine s_iconst (pc' := 54) (z := (1 : Int32)) A at_53 rfl (by decide) ?_
    refine s_goto (pc' := 58) A at_54 (by decide) (by decide) ?_
    refine s_istore (pc' := 60) (Ls' := #[iv q0, iv q1, iv q2, jv q3, S2, jv q4, S2, jv q5, S2, iv ia, iv ib, iv ic, iv 2, iv la, iv 1, U0, U0, U0, U0, U0, U0, U0, U0, U0, U0]) A at_58 rfl rfl ?_
    refine s_iloadN (pc' := 61) A at_60 rfl rfl ?_
    refine s_iconst (pc' := 62) (z := (4 : Int32)) A at_61 rfl (by decide) ?_
    refine s_iushr (pc' := 63) (z := (ush q2 (4 : Int32))) A at_62 rfl rfl ?_
    refine s_iconst (pc' := 64) (z := (1 : Int32)) A at_63 rfl (by decide) ?_
    refine s_iand (pc' := 65) (z := ((ush q2 (4 : Int32)) &&& (1 : Int32))) A at_64 rfl rfl ?_
    suffices dm65 : ∀ lc : Int32, (lc = 0 ∨ lc = 1) → Wp p e below s n0 room_1.cells room_1.slots (fun v h => v = some (.int 1)) (T.setTop (mkF m 73 #[iv q0, iv q1, iv q2, jv q3, S2, jv q4, S2, jv q5, S2, iv ia, iv ib, iv ic, iv 2, iv la, iv 1, U0, U0, U0, U0, U0, U0, U0, U0, U0, U0] [.int lc])) by
     by_cases hc65_1 : ((ush q2 (4 : Int32)) &&& (1 : Int32)) = (0 : Int32)
     ·
      refine s_ifY (pc' := 72) A at_65 ((if0 _ _).trans (teq hc65_1).1) (by decide) (by decide) ?_
      refine s_iconst (pc' := 73) (z := (0 : Int32)) A at_72 rfl (by decide) ?_
      exact dm65 _ (Or.inl rfl)
     ·
      refine s_ifN (pc' := 68) A at_65 rfl ((if0 _ _).trans (feq hc65_1).1) ?_
      refine s_iconst (pc' := 69) (z := (1 : Int32)) A at_68 rfl (by decide) ?_
      refine s_goto (pc' := 73) A at_69 (by decide) (by decide) ?_
      exact dm65 _ (Or.inr rfl)
    intro lc hlc
    refine s_istore (pc' := 75) (Ls' := #[iv q0, iv q1, iv q2, jv q3, S2, jv q4, S2, jv q5, S2, iv ia, iv ib, iv ic, iv 2, iv la, iv 1, iv lc, U0, U0, U0, U0, U0, U0, U0, U0, U0]) A at_73 rfl rfl ?_
    refine s_new (pc' := 78) A (w5 hw) (w6 hw) (w7 hw) (by decide) (by decide) at_75 rfl fun T h648 b649 A g650 ge651 X652 E653 D654 => ?_
    have F655 : Fld Z h648 b649 "com/example/wirefram/wirefram/sequence/SessionsLeft" "last" "Lcom/example/wirefram/wirefram/sequence/SessionsLeft$Left;" .null := D654 (Or.inl (w24 hw)) (ty := (.object "com/example/wirefram/wirefram/sequence/SessionsLeft$Left")) (by decide)
    have F656 : Fld Z h648 b649 "com/example/wirefram/wirefram/sequence/SessionsLeft" "before" "Lcom/example/wirefram/wirefram/sequence/SessionsLeft$Left;" .null := D654 (Or.inl (w26 hw)) (ty := (.object "com/example/wirefram/wirefram/sequence/SessionsLeft$Left")) (by decide)
    refine s_dup (pc' := 79) A at_78 rfl rfl ?_
    refine s_special (pc' := 82) (y := y1_init) (argsL := []) (rest := [(.ref b649)]) A (ss_new l Z a0 hw n0 h648 A.size b649 E653 F655 F656 ge651) rfl (w8 hw) (w9 hw) (w7 hw) (w10 hw) (by decide) pd___V rfl (W := 1) (by decide) (by decide) (Nat.le_of_eq rfl) (by decide) (by decide) rfl rfl at_79 rfl fun T h661 v662 A Q663 => ?_
    obtain ⟨rfl, K657, b659, b660, H658⟩ := Q663
    obtain ⟨E664, F665, F666, ⟨E673, F674, F675, F676, F677, F678⟩, ⟨E679, F680, F681, F682, F683, F684⟩, ne667, ne668, ne669, ge670, ge671, ge672⟩ := H658
    refine Wp.stk (st' := [(.ref b649)]) rfl ?_
    refine s_astore (pc' := 84) (Ls' := #[iv q0, iv q1, iv q2, jv q3, S2, jv q4, S2, jv q5, S2, iv ia, iv ib, iv ic, iv 2, iv la, iv 1, iv lc, rv b649, U0, U0, U0, U0, U0, U0, U0, U0]) A at_82 rfl rfl rfl ?_
    refine s_iload (pc' := 86) A at_84 rfl rfl ?_
    refine s_iconst (pc' := 87) (z := (1 : Int32)) A at_86 rfl (by decide) ?_
    refine s_icmpN (pc' := 90) A at_87 rfl (by decide) ?_
    refine s_aload (pc' := 92) A at_90 rfl rfl rfl ?_
    refine s_iload (pc' := 94) A at_92 rfl rfl ?_
    refine s_iload (pc' := 96) A at_94 rfl rfl ?_
    refine s_lload (pc' := 98) A at_96 rfl rfl ?_
    refine s_lload (pc' := 100) A at_98 rfl rfl ?_
    refine s_lloadN (pc' := 101) A at_100 rfl rfl ?_
    refine s_virtual (pc' := 104) (y := y2_leave) (argsL := [(.int ia), (.int la), (.long q4), (.long q5), (.long q3)]) (rest := []) (z := y2_leave) A E664 (leave0 l Z a0 hw n0 h661 A.size b649 b659 b660 (-1 : Int32) (0 : Int32) (0 : Int64) (0 : Int64) (0 : Int64) (-1 : Int32) (0 : Int32) (0 : Int64) (0 : Int64) (0 : Int64) ia la q4 q5 q3 ⟨E664, F665, F666, ⟨E673, F674, F675, F676, F677, F678⟩, ⟨E679, F680, F681, F682, F683, F684⟩, ne667, ne668, ne669, ge670, ge671, ge672⟩ hla rfl) (w27 hw) (w28 hw) (nf_same (C := "") (w30 hw)) (w30 hw) (w29 hw) (w7 hw) (w31 hw) (by decide) pd__IZJJJ_V rfl (W := 0) (by decide) (by decide) (Nat.le_of_eq rfl) (by decide) (by decide) rfl rfl at_101 rfl fun T h687 v688 A Q689 => ?_
    obtain ⟨rfl, K685, H686⟩ := Q689
    obtain ⟨E690, F691, F692, ⟨E699, F700, F701, F702, F703, F704⟩, ⟨E705, F706, F707, F708, F709, F710⟩, ne693, ne694, ne695, ge696, ge697, ge698⟩ := H686
    refine Wp.stk (st' := []) rfl ?_
    refine s_iload (pc' := 106) A at_104 rfl rfl ?_
    refine s_iconst (pc' := 107) (z := (2 : Int32)) A at_106 rfl (by decide) ?_
    refine s_icmpN (pc' := 110) A at_107 rfl (by decide) ?_
    refine s_aload (pc' := 112) A at_110 rfl rfl rfl ?_
    refine s_iload (pc' := 114) A at_112 rfl rfl ?_
    refine s_iload (pc' := 116) A at_114 rfl rfl ?_
    refine s_lload (pc' := 118) A at_116 rfl rfl ?_
    refine s_lloadN (pc' := 119) A at_118 rfl rfl ?_
    refine s_lload (pc' := 121) A at_119 rfl rfl ?_
    refine s_virtual (pc' := 124) (y := y2_leave) (argsL := [(.int ib), (.int (1 : Int32)), (.long q5), (.long q3), (.long q4)]) (rest := []) (z := y2_leave) A E690 (leave1 l Z a0 hw n0 h687 A.size b649 b659 b660 ia la q4 q5 q3 (-1 : Int32) (0 : Int32) (0 : Int64) (0 : Int64) (0 : Int64) ib (1 : Int32) q5 q3 q4 ⟨E690, F691, F692, ⟨E699, F700, F701, F702, F703, F704⟩, ⟨E705, F706, F707, F708, F709, F710⟩, ne693, ne694, ne695, ge696, ge697, ge698⟩ (Or.inr rfl) nia rfl) (w27 hw) (w28 hw) (nf_same (C := "") (w30 hw)) (w30 hw) (w29 hw) (w7 hw) (w31 hw) (by decide) pd__IZJJJ_V rfl (W := 0) (by decide) (by decide) (Nat.le_of_eq rfl) (by decide) (by decide) rfl rfl at_121 rfl fun T h713 v714 A Q715 => ?_
    obtain ⟨rfl, K711, H712⟩ := Q715
    obtain ⟨E716, F717, F718, ⟨E725, F726, F727, F728, F729, F730⟩, ⟨E731, F732, F733, F734, F735, F736⟩, ne719, ne720, ne721, ge722, ge723, ge724⟩ := H712
    refine Wp.stk (st' := []) rfl ?_
    refine s_aload (pc' := 126) A at_124 rfl rfl rfl ?_
    refine s_iload (pc' := 128) A at_126 rfl rfl ?_
    refine s_iload (pc' := 130) A at_128 rfl rfl ?_
    refine s_lloadN (pc' := 131) A at_130 rfl rfl ?_
    refine s_lload (pc' := 133) A at_131 rfl rfl ?_
    refine s_lload (pc' := 135) A at_133 rfl rfl ?_
    refine s_virtual (pc' := 138) (y := y2_leave) (argsL := [(.int ic), (.int lc), (.long q3), (.long q4), (.long q5)]) (rest := []) (z := y2_leave) A E716 (leave3 l Z a0 hw n0 h713 A.size b649 b660 b659 ib (1 : Int32) q5 q3 q4 ia la q4 q5 q3 ic lc q3 q4 q5 ⟨E716, F717, F718, ⟨E725, F726, F727, F728, F729, F730⟩, ⟨E731, F732, F733, F734, F735, F736⟩, ne719, ne720, ne721, ge722, ge723, ge724⟩ hlc nib nia (by decide)) (w27 hw) (w28 hw) (nf_same (C := "") (w30 hw)) (w30 hw) (w29 hw) (w7 hw) (w31 hw) (by decide) pd__IZJJJ_V rfl (W := 0) (by decide) (by decide) (Nat.le_of_eq rfl) (by decide) (by decide) rfl rfl at_135 rfl fun T h739 v740 A Q741 => ?_
    obtain ⟨rfl, K737, H738⟩ := Q741
    obtain ⟨E742, F743, F744, ⟨E751, F752, F753, F754, F755, F756⟩, ⟨E757, F758, F759, F760, F761, F762⟩, ne745, ne746, ne747, ge748, ge749, ge750⟩ := H738
    refine Wp.stk (st' := []) rfl ?_
    refine s_iload (pc' := 140) A at_138 rfl rfl ?_
    refine s_iconst (pc' := 141) (z := (1 : Int32)) A at_140 rfl (by decide) ?_
    refine s_icmpN (pc' := 144) A at_141 rfl (by decide) ?_
    refine s_iconst (pc' := 145) (z := (1 : Int32)) A at_144 rfl (by decide) ?_
    refine s_goto (pc' := 149) A at_145 (by decide) (by decide) ?_
    refine s_istore (pc' := 151) (Ls' := #[iv q0, iv q1, iv q2, jv q3, S2, jv q4, S2, jv q5, S2, iv ia, iv ib, iv ic, iv 2, iv la, iv 1, iv lc, rv b649, iv 1, U0, U0, U0, U0, U0, U0, U0]) A at_149 rfl rfl ?_
    refine s_iload (pc' := 153) A at_151 rfl rfl ?_
    refine s_iconst (pc' := 154) (z := (2 : Int32)) A at_153 rfl (by decide) ?_
    refine s_icmpN (pc' := 157) A at_154 rfl (by decide) ?_
    refine s_iload (pc' := 159) A at_157 rfl rfl ?_
    refine s_ifY (pc' := 166) A at_159 (by decide) (by decide) (by decide) ?_
    refine s_iconst (pc' := 167) (z := (0 : Int32)) A at_166 rfl (by decide) ?_
    refine s_istore (pc' := 169) (Ls' := #[iv q0, iv q1, iv q2, jv q3, S2, jv q4, S2, jv q5, S2, iv ia, iv ib, iv ic, iv 2, iv la, iv 1, iv lc, rv b649, iv 1, iv 0, U0, U0, U0, U0, U0, U0]) A at_167 rfl rfl ?_
    refine s_iload (pc' := 171) A at_169 rfl rfl ?_
    refine s_ifY (pc' := 179) A at_171 (by decide) (by decide) (by decide) ?_
    refine s_iload (pc' := 181) A at_179 rfl rfl ?_
    refine s_istore (pc' := 183) (Ls' := #[iv q0, iv q1, iv q2, jv q3, S2, jv q4, S2, jv q5, S2, iv ia, iv ib, iv ic, iv 2, iv la, iv 1, iv lc, rv b649, iv 1, iv 0, iv ia, U0, U0, U0, U0, U0]) A at_181 rfl rfl ?_
    refine s_iload (pc' := 185) A at_183 rfl rfl ?_
    refine s_ifY (pc' := 193) A at_185 (by decide) (by decide) (by decide) ?_
    refine s_lload (pc' := 195) A at_193 rfl rfl ?_
    refine s_lstore (pc' := 197) (Ls' := #[iv q0, iv q1, iv q2, jv q3, S2, jv q4, S2, jv q5, S2, iv ia, iv ib, iv ic, iv 2, iv la, iv 1, iv lc, rv b649, iv 1, iv 0, iv ia, jv q4, S2, U0, U0, U0]) A at_195 rfl rfl ?_
    refine s_iload (pc' := 199) A at_197 rfl rfl ?_
    refine s_ifY (pc' := 207) A at_199 (by decide) (by decide) (by decide) ?_
    refine s_lloadN (pc' := 208) A at_207 rfl rfl ?_
    refine s_lstore (pc' := 210) (Ls' := #[iv q0, iv q1, iv q2, jv q3, S2, jv q4, S2, jv q5, S2, iv ia, iv ib, iv ic, iv 2, iv la, iv 1, iv lc, rv b649, iv 1, iv 0, iv ia, jv q4, S2, jv q3, S2, U0]) A at_208 rfl rfl ?_
    refine s_aload (pc' := 212) A at_210 rfl rfl rfl ?_
    refine s_iload (pc' := 214) A at_212 rfl rfl ?_
    refine s_virtual (pc' := 217) (y := y4_remembers) (argsL := [(.int ic)]) (rest := []) (z := y4_remembers) A E742 (remembers0 l Z a0 hw n0 h739 A.size b649 b660 b659 ic lc q3 q4 q5 ia la q4 q5 q3 ic ⟨E742, F743, F744, ⟨E751, F752, F753, F754, F755, F756⟩, ⟨E757, F758, F759, F760, F761, F762⟩, ne745, ne746, ne747, ge748, ge749, ge750⟩ nic rfl) (w41 hw) (w42 hw) (nf_same (C := "") (w44 hw)) (w44 hw) (w43 hw) (w7 hw) (w45 hw) (by decide) pd__I_Z rfl (W := 0) (by decide) (by decide) (Nat.le_of_eq rfl) (by decide) (by decide) rfl rfl at_214 rfl fun T h763 v764 A Q765 => ?_
    obtain ⟨rfl, eh⟩ := Q765
    rw [eh] at A
    refine Wp.stk (st' := [(.int (1 : Int32))]) rfl ?_
    refine s_ifN (pc' := 220) A at_217 rfl (by decide) ?_
    refine s_aload (pc' := 222) A at_220 rfl rfl rfl ?_
    refine s_iload (pc' := 224) A at_222 rfl rfl ?_
    refine s_virtual (pc' := 227) (y := y5_highest) (argsL := [(.int ic)]) (rest := []) (z := y5_highest) A E742 (highest0 l Z a0 hw n0 h739 A.size b649 b660 b659 ic lc q3 q4 q5 ia la q4 q5 q3 ic ⟨E742, F743, F744, ⟨E751, F752, F753, F754, F755, F756⟩, ⟨E757, F758, F759, F760, F761, F762⟩, ne745, ne746, ne747, ge748, ge749, ge750⟩ nic rfl) (w50 hw) (w51 hw) (nf_same (C := "") (w53 hw)) (w53 hw) (w52 hw) (w7 hw) (w54 hw) (by decide) pd__I_J rfl (W := 0) (by decide) (by decide) (Nat.le_of_eq rfl) (by decide) (by decide) rfl rfl at_224 rfl fun T h766 v767 A Q768 => ?_
    obtain ⟨rfl, eh⟩ := Q768
    rw [eh] at A
    refine Wp.stk (st' := [(.long q3)]) rfl ?_
    refine s_lloadN (pc' := 228) A at_227 rfl rfl ?_
    refine s_lcmp (pc' := 229) A at_228 rfl ?_
    refine s_ifN (pc' := 232) A at_229 rfl ((if0 _ _).trans (teq ((lw_eq q3 q3).2 (rfl : q3 = q3))).2) ?_
    refine s_aload (pc' := 234) A at_232 rfl rfl rfl ?_
    refine s_iload (pc' := 236) A at_234 rfl rfl ?_
    refine s_virtual (pc' := 239) (y := y6_note) (argsL := [(.int ic)]) (rest := []) (z := y6_note) A E742 (note0 l Z a0 hw n0 h739 A.size b649 b660 b659 ic lc q3 q4 q5 ia la q4 q5 q3 ic ⟨E742, F743, F744, ⟨E751, F752, F753, F754, F755, F756⟩, ⟨E757, F758, F759, F760, F761, F762⟩, ne745, ne746, ne747, ge748, ge749, ge750⟩ nic rfl) (w55 hw) (w56 hw) (nf_same (C := "") (w58 hw)) (w58 hw) (w57 hw) (w7 hw) (w59 hw) (by decide) pd__I_J rfl (W := 0) (by decide) (by decide) (Nat.le_of_eq rfl) (by decide) (by decide) rfl rfl at_236 rfl fun T h769 v770 A Q771 => ?_
    obtain ⟨rfl, eh⟩ := Q771
    rw [eh] at A
    refine Wp.stk (st' := [(.long q4)]) rfl ?_
    refine s_lload (pc' := 241) A at_239 rfl rfl ?_
    refine s_lcmp (pc' := 242) A at_241 rfl ?_
    refine s_ifN (pc' := 245) A at_242 rfl ((if0 _ _).trans (teq ((lw_eq q4 q4).2 (rfl : q4 = q4))).2) ?_
    refine s_aload (pc' := 247) A at_245 rfl rfl rfl ?_
    refine s_iload (pc' := 249) A at_247 rfl rfl ?_
    refine s_virtual (pc' := 252) (y := y7_order) (argsL := [(.int ic)]) (rest := []) (z := y7_order) A E742 (order0 l Z a0 hw n0 h739 A.size b649 b660 b659 ic lc q3 q4 q5 ia la q4 q5 q3 ic ⟨E742, F743, F744, ⟨E751, F752, F753, F754, F755, F756⟩, ⟨E757, F758, F759, F760, F761, F762⟩, ne745, ne746, ne747, ge748, ge749, ge750⟩ nic rfl) (w60 hw) (w61 hw) (nf_same (C := "") (w63 hw)) (w63 hw) (w62 hw) (w7 hw) (w64 hw) (by decide) pd__I_J rfl (W := 0) (by decide) (by decide) (Nat.le_of_eq rfl) (by decide) (by decide) rfl rfl at_249 rfl fun T h772 v773 A Q774 => ?_
    obtain ⟨rfl, eh⟩ := Q774
    rw [eh] at A
    refine Wp.stk (st' := [(.long q5)]) rfl ?_
    refine s_lload (pc' := 254) A at_252 rfl rfl ?_
    refine s_lcmp (pc' := 255) A at_254 rfl ?_
    refine s_ifN (pc' := 258) A at_255 rfl ((if0 _ _).trans (teq ((lw_eq q5 q5).2 (rfl : q5 = q5))).2) ?_
    refine s_iconst (pc' := 259) (z := (1 : Int32)) A at_258 rfl (by decide) ?_
    refine s_goto (pc' := 263) A at_259 (by decide) (by decide) ?_
    refine s_istore (pc' := 265) (Ls' := #[iv q0, iv q1, iv q2, jv q3, S2, jv q4, S2, jv q5, S2, iv ia, iv ib, iv ic, iv 2, iv la, iv 1, iv lc, rv b649, iv 1, iv 0, iv ia, jv q4, S2, jv q3, S2, iv 1]) A at_263 rfl rfl ?_
    refine s_iload (pc' := 267) A at_265 rfl rfl ?_
    refine s_ifN (pc' := 270) A at_267 rfl (by decide) ?_
    refine s_aload (pc' := 272) A at_270 rfl rfl rfl ?_
    refine s_iload (pc' := 274) A at_272 rfl rfl ?_
    by_cases hs274 : ic = ia
    ·
     refine s_virtual (pc' := 277) (y := y4_remembers) (argsL := [(.int ia)]) (rest := []) (z := y4_remembers) A E742 (remembers0 l Z a0 hw n0 h739 A.size b649 b660 b659 ic lc q3 q4 q5 ia la q4 q5 q3 ia ⟨E742, F743, F744, ⟨E751, F752, F753, F754, F755, F756⟩, ⟨E757, F758, F759, F760, F761, F762⟩, ne745, ne746, ne747, ge748, ge749, ge750⟩ nia hs274) (w41 hw) (w42 hw) (nf_same (C := "") (w44 hw)) (w44 hw) (w43 hw) (w7 hw) (w45 hw) (by decide) pd__I_Z rfl (W := 0) (by decide) (by decide) (Nat.le_of_eq rfl) (by decide) (by decide) rfl rfl at_274 rfl fun T h775 v776 A Q777 => ?_
     obtain ⟨rfl, eh⟩ := Q777
     rw [eh] at A
     refine Wp.stk (st' := [(.int (1 : Int32))]) rfl ?_
     refine s_iload (pc' := 279) A at_277 rfl rfl ?_
     refine s_iload (pc' := 281) A at_279 rfl rfl ?_
     refine s_icmpY (pc' := 296) A at_281 (teq hs274.symm).1 (by decide) (by decide) ?_
     refine s_iconst (pc' := 297) (z := (1 : Int32)) A at_296 rfl (by decide) ?_
     refine s_goto (pc' := 301) A at_297 (by decide) (by decide) ?_
     refine s_icmpN (pc' := 304) A at_301 rfl (by decide) ?_
     refine s_iconst (pc' := 305) (z := (1 : Int32)) A at_304 rfl (by decide) ?_
     refine s_goto (pc' := 309) A at_305 (by decide) (by decide) ?_
     refine s_istore (pc' := 311) (Ls' := #[iv q0, iv q1, iv q2, jv q3, S2, jv q4, S2, jv q5, S2, iv ia, iv ib, iv ic, iv 2, iv la, iv 1, iv lc, rv b649, iv 1, iv 0, iv ia, jv q4, S2, jv q3, S2, iv 1]) A at_309 rfl rfl ?_
     refine s_iload (pc' := 313) A at_311 rfl rfl ?_
     refine s_ifN (pc' := 316) A at_313 rfl (by decide) ?_
     refine s_aload (pc' := 318) A at_316 rfl rfl rfl ?_
     refine s_iload (pc' := 320) A at_318 rfl rfl ?_
     by_cases hs320 : ic = ib
     ·
      refine s_virtual (pc' := 323) (y := y4_remembers) (argsL := [(.int ib)]) (rest := []) (z := y4_remembers) A E742 (remembers0 l Z a0 hw n0 h739 A.size b649 b660 b659 ic lc q3 q4 q5 ia la q4 q5 q3 ib ⟨E742, F743, F744, ⟨E751, F752, F753, F754, F755, F756⟩, ⟨E757, F758, F759, F760, F761, F762⟩, ne745, ne746, ne747, ge748, ge749, ge750⟩ nib hs320) (w41 hw) (w42 hw) (nf_same (C := "") (w44 hw)) (w44 hw) (w43 hw) (w7 hw) (w45 hw) (by decide) pd__I_Z rfl (W := 0) (by decide) (by decide) (Nat.le_of_eq rfl) (by decide) (by decide) rfl rfl at_320 rfl fun T h778 v779 A Q780 => ?_
      obtain ⟨rfl, eh⟩ := Q780
      rw [eh] at A
      refine Wp.stk (st' := [(.int (1 : Int32))]) rfl ?_
      refine s_iload (pc' := 325) A at_323 rfl rfl ?_
      refine s_iload (pc' := 327) A at_325 rfl rfl ?_
      refine s_icmpY (pc' := 342) A at_327 (teq hs320.symm).1 (by decide) (by decide) ?_
      refine s_iconst (pc' := 343) (z := (1 : Int32)) A at_342 rfl (by decide) ?_
      refine s_goto (pc' := 347) A at_343 (by decide) (by decide) ?_
      refine s_icmpN (pc' := 350) A at_347 rfl (by decide) ?_
      refine s_iconst (pc' := 351) (z := (1 : Int32)) A at_350 rfl (by decide) ?_
      refine s_goto (pc' := 355) A at_351 (by decide) (by decide) ?_
      refine s_istore (pc' := 357) (Ls' := #[iv q0, iv q1, iv q2, jv q3, S2, jv q4, S2, jv q5, S2, iv ia, iv ib, iv ic, iv 2, iv la, iv 1, iv lc, rv b649, iv 1, iv 0, iv ia, jv q4, S2, jv q3, S2, iv 1]) A at_355 rfl rfl ?_
      refine s_iload (pc' := 359) A at_357 rfl rfl ?_
      refine s_ifN (pc' := 362) A at_359 rfl (by decide) ?_
      refine s_iload (pc' := 364) A at_362 rfl rfl ?_
      refine s_ifN (pc' := 367) A at_364 rfl (by decide) ?_
      refine s_iload (pc' := 369) A at_367 rfl rfl ?_
      refine s_iload (pc' := 371) A at_369 rfl rfl ?_
      refine s_icmpY (pc' := 407) A at_371 (teq hs274.symm).1 (by decide) (by decide) ?_
      refine s_iload (pc' := 409) A at_407 rfl rfl ?_
      exact r_bool A rfl (by decide) at_409 (by decide) (by decide) (rfl)
     ·
      by_cases hs320b : ia = ib
      ·
       refine s_virtual (pc' := 323) (y := y4_remembers) (argsL := [(.int ib)]) (rest := []) (z := y4_remembers) A E742 (remembers1 l Z a0 hw n0 h739 A.size b649 b660 b659 ic lc q3 q4 q5 ia la q4 q5 q3 ib ⟨E742, F743, F744, ⟨E751, F752, F753, F754, F755, F756⟩, ⟨E757, F758, F759, F760, F761, F762⟩, ne745, ne746, ne747, ge748, ge749, ge750⟩ nib hs320 hs320b) (w41 hw) (w42 hw) (nf_same (C := "") (w44 hw)) (w44 hw) (w43 hw) (w7 hw) (w45 hw) (by decide) pd__I_Z rfl (W := 0) (by decide) (by decide) (Nat.le_of_eq rfl) (by decide) (by decide) rfl rfl at_320 rfl fun T h781 v782 A Q783 => ?_
       obtain ⟨rfl, eh⟩ := Q783
       rw [eh] at A
       refine Wp.stk (st' := [(.int (1 : Int32))]) rfl ?_
       refine s_iload (pc' := 325) A at_323 rfl rfl ?_
       refine s_iload (pc' := 327) A at_325 rfl rfl ?_
       refine s_icmpN (pc' := 330) A at_327 rfl (feq (fun q => hs320 q.symm)).1 ?_
       refine s_iload (pc' := 332) A at_330 rfl rfl ?_
       refine s_ifN (pc' := 335) A at_332 rfl (by decide) ?_
       refine s_iload (pc' := 337) A at_335 rfl rfl ?_
       refine s_iload (pc' := 339) A at_337 rfl rfl ?_
       refine s_icmpN (pc' := 342) A at_339 rfl (teq hs320b.symm).2 ?_
       refine s_iconst (pc' := 343) (z := (1 : Int32)) A at_342 rfl (by decide) ?_
       refine s_goto (pc' := 347) A at_343 (by decide) (by decide) ?_
       refine s_icmpN (pc' := 350) A at_347 rfl (by decide) ?_
       refine s_iconst (pc' := 351) (z := (1 : Int32)) A at_350 rfl (by decide) ?_
       refine s_goto (pc' := 355) A at_351 (by decide) (by decide) ?_
       refine s_istore (pc' := 357) (Ls' := #[iv q0, iv q1, iv q2, jv q3, S2, jv q4, S2, jv q5, S2, iv ia, iv ib, iv ic, iv 2, iv la, iv 1, iv lc, rv b649, iv 1, iv 0, iv ia, jv q4, S2, jv q3, S2, iv 1]) A at_355 rfl rfl ?_
       refine s_iload (pc' := 359) A at_357 rfl rfl ?_
       refine s_ifN (pc' := 362) A at_359 rfl (by decide) ?_
       refine s_iload (pc' := 364) A at_362 rfl rfl ?_
       refine s_ifN (pc' := 367) A at_364 rfl (by decide) ?_
       refine s_iload (pc' := 369) A at_367 rfl rfl ?_
       refine s_iload (pc' := 371) A at_369 rfl rfl ?_
       refine s_icmpY (pc' := 407) A at_371 (teq hs274.symm).1 (by decide) (by decide) ?_
       refine s_iload (pc' := 409) A at_407 rfl rfl ?_
       exact r_bool A rfl (by decide) at_409 (by decide) (by decide) (rfl)
      ·
       refine s_virtual (pc' := 323) (y := y4_remembers) (argsL := [(.int ib)]) (rest := []) (z := y4_remembers) A E742 (remembers2 l Z a0 hw n0 h739 A.size b649 b660 b659 ic lc q3 q4 q5 ia la q4 q5 q3 ib ⟨E742, F743, F744, ⟨E751, F752, F753, F754, F755, F756⟩, ⟨E757, F758, F759, F760, F761, F762⟩, ne745, ne746, ne747, ge748, ge749, ge750⟩ nib hs320 hs320b) (w41 hw) (w42 hw) (nf_same (C := "") (w44 hw)) (w44 hw) (w43 hw) (w7 hw) (w45 hw) (by decide) pd__I_Z rfl (W := 0) (by decide) (by decide) (Nat.le_of_eq rfl) (by decide) (by decide) rfl rfl at_320 rfl fun T h784 v785 A Q786 => ?_
       obtain ⟨rfl, eh⟩ := Q786
       rw [eh] at A
       refine Wp.stk (st' := [(.int (0 : Int32))]) rfl ?_
       refine s_iload (pc' := 325) A at_323 rfl rfl ?_
       refine s_iload (pc' := 327) A at_325 rfl rfl ?_
       refine s_icmpN (pc' := 330) A at_327 rfl (feq (fun q => hs320 q.symm)).1 ?_
       refine s_iload (pc' := 332) A at_330 rfl rfl ?_
       refine s_ifN (pc' := 335) A at_332 rfl (by decide) ?_
       refine s_iload (pc' := 337) A at_335 rfl rfl ?_
       refine s_iload (pc' := 339) A at_337 rfl rfl ?_
       refine s_icmpY (pc' := 346) A at_339 (feq (fun q => hs320b q.symm)).2 (by decide) (by decide) ?_
       refine s_iconst (pc' := 347) (z := (0 : Int32)) A at_346 rfl (by decide) ?_
       refine s_icmpN (pc' := 350) A at_347 rfl (by decide) ?_
       refine s_iconst (pc' := 351) (z := (1 : Int32)) A at_350 rfl (by decide) ?_
       refine s_goto (pc' := 355) A at_351 (by decide) (by decide) ?_
       refine s_istore (pc' := 357) (Ls' := #[iv q0, iv q1, iv q2, jv q3, S2, jv q4, S2, jv q5, S2, iv ia, iv ib, iv ic, iv 2, iv la, iv 1, iv lc, rv b649, iv 1, iv 0, iv ia, jv q4, S2, jv q3, S2, iv 1]) A at_355 rfl rfl ?_
       refine s_iload (pc' := 359) A at_357 rfl rfl ?_
       refine s_ifN (pc' := 362) A at_359 rfl (by decide) ?_
       refine s_iload (pc' := 364) A at_362 rfl rfl ?_
       refine s_ifN (pc' := 367) A at_364 rfl (by decide) ?_
       refine s_iload (pc' := 369) A at_367 rfl rfl ?_
       refine s_iload (pc' := 371) A at_369 rfl rfl ?_
       refine s_icmpY (pc' := 407) A at_371 (teq hs274.symm).1 (by decide) (by decide) ?_
       refine s_iload (pc' := 409) A at_407 rfl rfl ?_
       exact r_bool A rfl (by decide) at_409 (by decide) (by decide) (rfl)
    ·
     refine s_virtual (pc' := 277) (y := y4_remembers) (argsL := [(.int ia)]) (rest := []) (z := y4_remembers) A E742 (remembers1 l Z a0 hw n0 h739 A.size b649 b660 b659 ic lc q3 q4 q5 ia la q4 q5 q3 ia ⟨E742, F743, F744, ⟨E751, F752, F753, F754, F755, F756⟩, ⟨E757, F758, F759, F760, F761, F762⟩, ne745, ne746, ne747, ge748, ge749, ge750⟩ nia hs274 rfl) (w41 hw) (w42 hw) (nf_same (C := "") (w44 hw)) (w44 hw) (w43 hw) (w7 hw) (w45 hw) (by decide) pd__I_Z rfl (W := 0) (by decide) (by decide) (Nat.le_of_eq rfl) (by decide) (by decide) rfl rfl at_274 rfl fun T h787 v788 A Q789 => ?_
     obtain ⟨rfl, eh⟩ := Q789
     rw [eh] at A
     refine Wp.stk (st' := [(.int (1 : Int32))]) rfl ?_
     refine s_iload (pc' := 279) A at_277 rfl rfl ?_
     refine s_iload (pc' := 281) A at_279 rfl rfl ?_
     refine s_icmpN (pc' := 284) A at_281 rfl (feq (fun q => hs274 q.symm)).1 ?_
     refine s_iload (pc' := 286) A at_284 rfl rfl ?_
     refine s_ifN (pc' := 289) A at_286 rfl (by decide) ?_
     refine s_iload (pc' := 291) A at_289 rfl rfl ?_
     refine s_iload (pc' := 293) A at_291 rfl rfl ?_
     refine s_icmpN (pc' := 296) A at_293 rfl (teq (rfl : ia = ia)).2 ?_
     refine s_iconst (pc' := 297) (z := (1 : Int32)) A at_296 rfl (by decide) ?_
     refine s_goto (pc' := 301) A at_297 (by decide) (by decide) ?_
     refine s_icmpN (pc' := 304) A at_301 rfl (by decide) ?_
     refine s_iconst (pc' := 305) (z := (1 : Int32)) A at_304 rfl (by decide) ?_
     refine s_goto (pc' := 309) A at_305 (by decide) (by decide) ?_
     refine s_istore (pc' := 311) (Ls' := #[iv q0, iv q1, iv q2, jv q3, S2, jv q4, S2, jv q5, S2, iv ia, iv ib, iv ic, iv 2, iv la, iv 1, iv lc, rv b649, iv 1, iv 0, iv ia, jv q4, S2, jv q3, S2, iv 1]) A at_309 rfl rfl ?_
     refine s_iload (pc' := 313) A at_311 rfl rfl ?_
     refine s_ifN (pc' := 316) A at_313 rfl (by decide) ?_
     refine s_aload (pc' := 318) A at_316 rfl rfl rfl ?_
     refine s_iload (pc' := 320) A at_318 rfl rfl ?_
     by_cases hs320 : ic = ib
     ·
      refine s_virtual (pc' := 323) (y := y4_remembers) (argsL := [(.int ib)]) (rest := []) (z := y4_remembers) A E742 (remembers0 l Z a0 hw n0 h739 A.size b649 b660 b659 ic lc q3 q4 q5 ia la q4 q5 q3 ib ⟨E742, F743, F744, ⟨E751, F752, F753, F754, F755, F756⟩, ⟨E757, F758, F759, F760, F761, F762⟩, ne745, ne746, ne747, ge748, ge749, ge750⟩ nib hs320) (w41 hw) (w42 hw) (nf_same (C := "") (w44 hw)) (w44 hw) (w43 hw) (w7 hw) (w45 hw) (by decide) pd__I_Z rfl (W := 0) (by decide) (by decide) (Nat.le_of_eq rfl) (by decide) (by decide) rfl rfl at_320 rfl fun T h790 v791 A Q792 => ?_
      obtain ⟨rfl, eh⟩ := Q792
      rw [eh] at A
      refine Wp.stk (st' := [(.int (1 : Int32))]) rfl ?_
      refine s_iload (pc' := 325) A at_323 rfl rfl ?_
      refine s_iload (pc' := 327) A at_325 rfl rfl ?_
      refine s_icmpY (pc' := 342) A at_327 (teq hs320.symm).1 (by decide) (by decide) ?_
      refine s_iconst (pc' := 343) (z := (1 : Int32)) A at_342 rfl (by decide) ?_
      refine s_goto (pc' := 347) A at_343 (by decide) (by decide) ?_
      refine s_icmpN (pc' := 350) A at_347 rfl (by decide) ?_
      refine s_iconst (pc' := 351) (z := (1 : Int32)) A at_350 rfl (by decide) ?_
      refine s_goto (pc' := 355) A at_351 (by decide) (by decide) ?_
      refine s_istore (pc' := 357) (Ls' := #[iv q0, iv q1, iv q2, jv q3, S2, jv q4, S2, jv q5, S2, iv ia, iv ib, iv ic, iv 2, iv la, iv 1, iv lc, rv b649, iv 1, iv 0, iv ia, jv q4, S2, jv q3, S2, iv 1]) A at_355 rfl rfl ?_
      refine s_iload (pc' := 359) A at_357 rfl rfl ?_
      refine s_ifN (pc' := 362) A at_359 rfl (by decide) ?_
      refine s_iload (pc' := 364) A at_362 rfl rfl ?_
      refine s_ifN (pc' := 367) A at_364 rfl (by decide) ?_
      refine s_iload (pc' := 369) A at_367 rfl rfl ?_
      refine s_iload (pc' := 371) A at_369 rfl rfl ?_
      refine s_icmpN (pc' := 374) A at_371 rfl (feq (fun q => hs274 q.symm)).1 ?_
      refine s_aload (pc' := 376) A at_374 rfl rfl rfl ?_
      refine s_iload (pc' := 378) A at_376 rfl rfl ?_
      refine s_virtual (pc' := 381) (y := y5_highest) (argsL := [(.int ia)]) (rest := []) (z := y5_highest) A E742 (highest1 l Z a0 hw n0 h739 A.size b649 b660 b659 ic lc q3 q4 q5 ia la q4 q5 q3 ia ⟨E742, F743, F744, ⟨E751, F752, F753, F754, F755, F756⟩, ⟨E757, F758, F759, F760, F761, F762⟩, ne745, ne746, ne747, ge748, ge749, ge750⟩ nia (fun q => (fun q => hs274 q.symm) q.symm) rfl) (w50 hw) (w51 hw) (nf_same (C := "") (w53 hw)) (w53 hw) (w52 hw) (w7 hw) (w54 hw) (by decide) pd__I_J rfl (W := 0) (by decide) (by decide) (Nat.le_of_eq rfl) (by decide) (by decide) rfl rfl at_378 rfl fun T h793 v794 A Q795 => ?_
      obtain ⟨rfl, eh⟩ := Q795
      rw [eh] at A
      refine Wp.stk (st' := [(.long q4)]) rfl ?_
      refine s_lload (pc' := 383) A at_381 rfl rfl ?_
      refine s_lcmp (pc' := 384) A at_383 rfl ?_
      refine s_ifN (pc' := 387) A at_384 rfl ((if0 _ _).trans (teq ((lw_eq q4 q4).2 (rfl : q4 = q4))).2) ?_
      refine s_aload (pc' := 389) A at_387 rfl rfl rfl ?_
      refine s_iload (pc' := 391) A at_389 rfl rfl ?_
      refine s_virtual (pc' := 394) (y := y7_order) (argsL := [(.int ia)]) (rest := []) (z := y7_order) A E742 (order1 l Z a0 hw n0 h739 A.size b649 b660 b659 ic lc q3 q4 q5 ia la q4 q5 q3 ia ⟨E742, F743, F744, ⟨E751, F752, F753, F754, F755, F756⟩, ⟨E757, F758, F759, F760, F761, F762⟩, ne745, ne746, ne747, ge748, ge749, ge750⟩ nia (fun q => (fun q => hs274 q.symm) q.symm) rfl) (w60 hw) (w61 hw) (nf_same (C := "") (w63 hw)) (w63 hw) (w62 hw) (w7 hw) (w64 hw) (by decide) pd__I_J rfl (W := 0) (by decide) (by decide) (Nat.le_of_eq rfl) (by decide) (by decide) rfl rfl at_391 rfl fun T h796 v797 A Q798 => ?_
      obtain ⟨rfl, eh⟩ := Q798
      rw [eh] at A
      refine Wp.stk (st' := [(.long q3)]) rfl ?_
      refine s_lload (pc' := 396) A at_394 rfl rfl ?_
      refine s_lcmp (pc' := 397) A at_396 rfl ?_
      refine s_ifN (pc' := 400) A at_397 rfl ((if0 _ _).trans (teq ((lw_eq q3 q3).2 (rfl : q3 = q3))).2) ?_
      refine s_iconst (pc' := 401) (z := (1 : Int32)) A at_400 rfl (by decide) ?_
      refine s_goto (pc' := 405) A at_401 (by decide) (by decide) ?_
      refine s_istore (pc' := 407) (Ls' := #[iv q0, iv q1, iv q2, jv q3, S2, jv q4, S2, jv q5, S2, iv ia, iv ib, iv ic, iv 2, iv la, iv 1, iv lc, rv b649, iv 1, iv 0, iv ia, jv q4, S2, jv q3, S2, iv 1]) A at_405 rfl rfl ?_
      refine s_iload (pc' := 409) A at_407 rfl rfl ?_
      exact r_bool A rfl (by decide) at_409 (by decide) (by decide) (rfl)
     ·
      by_cases hs320b : ia = ib
      ·
       refine s_virtual (pc' := 323) (y := y4_remembers) (argsL := [(.int ib)]) (rest := []) (z := y4_remembers) A E742 (remembers1 l Z a0 hw n0 h739 A.size b649 b660 b659 ic lc q3 q4 q5 ia la q4 q5 q3 ib ⟨E742, F743, F744, ⟨E751, F752, F753, F754, F755, F756⟩, ⟨E757, F758, F759, F760, F761, F762⟩, ne745, ne746, ne747, ge748, ge749, ge750⟩ nib hs320 hs320b) (w41 hw) (w42 hw) (nf_same (C := "") (w44 hw)) (w44 hw) (w43 hw) (w7 hw) (w45 hw) (by decide) pd__I_Z rfl (W := 0) (by decide) (by decide) (Nat.le_of_eq rfl) (by decide) (by decide) rfl rfl at_320 rfl fun T h799 v800 A Q801 => ?_
       obtain ⟨rfl, eh⟩ := Q801
       rw [eh] at A
       refine Wp.stk (st' := [(.int (1 : Int32))]) rfl ?_
       refine s_iload (pc' := 325) A at_323 rfl rfl ?_
       refine s_iload (pc' := 327) A at_325 rfl rfl ?_
       refine s_icmpN (pc' := 330) A at_327 rfl (feq (fun q => hs320 q.symm)).1 ?_
       refine s_iload (pc' := 332) A at_330 rfl rfl ?_
       refine s_ifN (pc' := 335) A at_332 rfl (by decide) ?_
       refine s_iload (pc' := 337) A at_335 rfl rfl ?_
       refine s_iload (pc' := 339) A at_337 rfl rfl ?_
       refine s_icmpN (pc' := 342) A at_339 rfl (teq hs320b.symm).2 ?_
       refine s_iconst (pc' := 343) (z := (1 : Int32)) A at_342 rfl (by decide) ?_
       refine s_goto (pc' := 347) A at_343 (by decide) (by decide) ?_
       refine s_icmpN (pc' := 350) A at_347 rfl (by decide) ?_
       refine s_iconst (pc' := 351) (z := (1 : Int32)) A at_350 rfl (by decide) ?_
       refine s_goto (pc' := 355) A at_351 (by decide) (by decide) ?_
       refine s_istore (pc' := 357) (Ls' := #[iv q0, iv q1, iv q2, jv q3, S2, jv q4, S2, jv q5, S2, iv ia, iv ib, iv ic, iv 2, iv la, iv 1, iv lc, rv b649, iv 1, iv 0, iv ia, jv q4, S2, jv q3, S2, iv 1]) A at_355 rfl rfl ?_
       refine s_iload (pc' := 359) A at_357 rfl rfl ?_
       refine s_ifN (pc' := 362) A at_359 rfl (by decide) ?_
       refine s_iload (pc' := 364) A at_362 rfl rfl ?_
       refine s_ifN (pc' := 367) A at_364 rfl (by decide) ?_
       refine s_iload (pc' := 369) A at_367 rfl rfl ?_
       refine s_iload (pc' := 371) A at_369 rfl rfl ?_
       refine s_icmpN (pc' := 374) A at_371 rfl (feq (fun q => hs274 q.symm)).1 ?_
       refine s_aload (pc' := 376) A at_374 rfl rfl rfl ?_
       refine s_iload (pc' := 378) A at_376 rfl rfl ?_
       refine s_virtual (pc' := 381) (y := y5_highest) (argsL := [(.int ia)]) (rest := []) (z := y5_highest) A E742 (highest1 l Z a0 hw n0 h739 A.size b649 b660 b659 ic lc q3 q4 q5 ia la q4 q5 q3 ia ⟨E742, F743, F744, ⟨E751, F752, F753, F754, F755, F756⟩, ⟨E757, F758, F759, F760, F761, F762⟩, ne745, ne746, ne747, ge748, ge749, ge750⟩ nia (fun q => (fun q => hs274 q.symm) q.symm) rfl) (w50 hw) (w51 hw) (nf_same (C := "") (w53 hw)) (w53 hw) (w52 hw) (w7 hw) (w54 hw) (by decide) pd__I_J rfl (W := 0) (by decide) (by decide) (Nat.le_of_eq rfl) (by decide) (by decide) rfl rfl at_378 rfl fun T h802 v803 A Q804 => ?_
       obtain ⟨rfl, eh⟩ := Q804
       rw [eh] at A
       refine Wp.stk (st' := [(.long q4)]) rfl ?_
       refine s_lload (pc' := 383) A at_381 rfl rfl ?_
       refine s_lcmp (pc' := 384) A at_383 rfl ?_
       refine s_ifN (pc' := 387) A at_384 rfl ((if0 _ _).trans (teq ((lw_eq q4 q4).2 (rfl : q4 = q4))).2) ?_
       refine s_aload (pc' := 389) A at_387 rfl rfl rfl ?_
       refine s_iload (pc' := 391) A at_389 rfl rfl ?_
       refine s_virtual (pc' := 394) (y := y7_order) (argsL := [(.int ia)]) (rest := []) (z := y7_order) A E742 (order1 l Z a0 hw n0 h739 A.size b649 b660 b659 ic lc q3 q4 q5 ia la q4 q5 q3 ia ⟨E742, F743, F744, ⟨E751, F752, F753, F754, F755, F756⟩, ⟨E757, F758, F759, F760, F761, F762⟩, ne745, ne746, ne747, ge748, ge749, ge750⟩ nia (fun q => (fun q => hs274 q.symm) q.symm) rfl) (w60 hw) (w61 hw) (nf_same (C := "") (w63 hw)) (w63 hw) (w62 hw) (w7 hw) (w64 hw) (by decide) pd__I_J rfl (W := 0) (by decide) (by decide) (Nat.le_of_eq rfl) (by decide) (by decide) rfl rfl at_391 rfl fun T h805 v806 A Q807 => ?_
       obtain ⟨rfl, eh⟩ := Q807
       rw [eh] at A
       refine Wp.stk (st' := [(.long q3)]) rfl ?_
       refine s_lload (pc' := 396) A at_394 rfl rfl ?_
       refine s_lcmp (pc' := 397) A at_396 rfl ?_
       refine s_ifN (pc' := 400) A at_397 rfl ((if0 _ _).trans (teq ((lw_eq q3 q3).2 (rfl : q3 = q3))).2) ?_
       refine s_iconst (pc' := 401) (z := (1 : Int32)) A at_400 rfl (by decide) ?_
       refine s_goto (pc' := 405) A at_401 (by decide) (by decide) ?_
       refine s_istore (pc' := 407) (Ls' := #[iv q0, iv q1, iv q2, jv q3, S2, jv q4, S2, jv q5, S2, iv ia, iv ib, iv ic, iv 2, iv la, iv 1, iv lc, rv b649, iv 1, iv 0, iv ia, jv q4, S2, jv q3, S2, iv 1]) A at_405 rfl rfl ?_
       refine s_iload (pc' := 409) A at_407 rfl rfl ?_
       exact r_bool A rfl (by decide) at_409 (by decide) (by decide) (rfl)
      ·
       refine s_virtual (pc' := 323) (y := y4_remembers) (argsL := [(.int ib)]) (rest := []) (z := y4_remembers) A E742 (remembers2 l Z a0 hw n0 h739 A.size b649 b660 b659 ic lc q3 q4 q5 ia la q4 q5 q3 ib ⟨E742, F743, F744, ⟨E751, F752, F753, F754, F755, F756⟩, ⟨E757, F758, F759, F760, F761, F762⟩, ne745, ne746, ne747, ge748, ge749, ge750⟩ nib hs320 hs320b) (w41 hw) (w42 hw) (nf_same (C := "") (w44 hw)) (w44 hw) (w43 hw) (w7 hw) (w45 hw) (by decide) pd__I_Z rfl (W := 0) (by decide) (by decide) (Nat.le_of_eq rfl) (by decide) (by decide) rfl rfl at_320 rfl fun T h808 v809 A Q810 => ?_
       obtain ⟨rfl, eh⟩ := Q810
       rw [eh] at A
       refine Wp.stk (st' := [(.int (0 : Int32))]) rfl ?_
       refine s_iload (pc' := 325) A at_323 rfl rfl ?_
       refine s_iload (pc' := 327) A at_325 rfl rfl ?_
       refine s_icmpN (pc' := 330) A at_327 rfl (feq (fun q => hs320 q.symm)).1 ?_
       refine s_iload (pc' := 332) A at_330 rfl rfl ?_
       refine s_ifN (pc' := 335) A at_332 rfl (by decide) ?_
       refine s_iload (pc' := 337) A at_335 rfl rfl ?_
       refine s_iload (pc' := 339) A at_337 rfl rfl ?_
       refine s_icmpY (pc' := 346) A at_339 (feq (fun q => hs320b q.symm)).2 (by decide) (by decide) ?_
       refine s_iconst (pc' := 347) (z := (0 : Int32)) A at_346 rfl (by decide) ?_
       refine s_icmpN (pc' := 350) A at_347 rfl (by decide) ?_
       refine s_iconst (pc' := 351) (z := (1 : Int32)) A at_350 rfl (by decide) ?_
       refine s_goto (pc' := 355) A at_351 (by decide) (by decide) ?_
       refine s_istore (pc' := 357) (Ls' := #[iv q0, iv q1, iv q2, jv q3, S2, jv q4, S2, jv q5, S2, iv ia, iv ib, iv ic, iv 2, iv la, iv 1, iv lc, rv b649, iv 1, iv 0, iv ia, jv q4, S2, jv q3, S2, iv 1]) A at_355 rfl rfl ?_
       refine s_iload (pc' := 359) A at_357 rfl rfl ?_
       refine s_ifN (pc' := 362) A at_359 rfl (by decide) ?_
       refine s_iload (pc' := 364) A at_362 rfl rfl ?_
       refine s_ifN (pc' := 367) A at_364 rfl (by decide) ?_
       refine s_iload (pc' := 369) A at_367 rfl rfl ?_
       refine s_iload (pc' := 371) A at_369 rfl rfl ?_
       refine s_icmpN (pc' := 374) A at_371 rfl (feq (fun q => hs274 q.symm)).1 ?_
       refine s_aload (pc' := 376) A at_374 rfl rfl rfl ?_
       refine s_iload (pc' := 378) A at_376 rfl rfl ?_
       refine s_virtual (pc' := 381) (y := y5_highest) (argsL := [(.int ia)]) (rest := []) (z := y5_highest) A E742 (highest1 l Z a0 hw n0 h739 A.size b649 b660 b659 ic lc q3 q4 q5 ia la q4 q5 q3 ia ⟨E742, F743, F744, ⟨E751, F752, F753, F754, F755, F756⟩, ⟨E757, F758, F759, F760, F761, F762⟩, ne745, ne746, ne747, ge748, ge749, ge750⟩ nia (fun q => (fun q => hs274 q.symm) q.symm) rfl) (w50 hw) (w51 hw) (nf_same (C := "") (w53 hw)) (w53 hw) (w52 hw) (w7 hw) (w54 hw) (by decide) pd__I_J rfl (W := 0) (by decide) (by decide) (Nat.le_of_eq rfl) (by decide) (by decide) rfl rfl at_378 rfl fun T h811 v812 A Q813 => ?_
       obtain ⟨rfl, eh⟩ := Q813
       rw [eh] at A
       refine Wp.stk (st' := [(.long q4)]) rfl ?_
       refine s_lload (pc' := 383) A at_381 rfl rfl ?_
       refine s_lcmp (pc' := 384) A at_383 rfl ?_
       refine s_ifN (pc' := 387) A at_384 rfl ((if0 _ _).trans (teq ((lw_eq q4 q4).2 (rfl : q4 = q4))).2) ?_
       refine s_aload (pc' := 389) A at_387 rfl rfl rfl ?_
       refine s_iload (pc' := 391) A at_389 rfl rfl ?_
       refine s_virtual (pc' := 394) (y := y7_order) (argsL := [(.int ia)]) (rest := []) (z := y7_order) A E742 (order1 l Z a0 hw n0 h739 A.size b649 b660 b659 ic lc q3 q4 q5 ia la q4 q5 q3 ia ⟨E742, F743, F744, ⟨E751, F752, F753, F754, F755, F756⟩, ⟨E757, F758, F759, F760, F761, F762⟩, ne745, ne746, ne747, ge748, ge749, ge750⟩ nia (fun q => (fun q => hs274 q.symm) q.symm) rfl) (w60 hw) (w61 hw) (nf_same (C := "") (w63 hw)) (w63 hw) (w62 hw) (w7 hw) (w64 hw) (by decide) pd__I_J rfl (W := 0) (by decide) (by decide) (Nat.le_of_eq rfl) (by decide) (by decide) rfl rfl at_391 rfl fun T h814 v815 A Q816 => ?_
       obtain ⟨rfl, eh⟩ := Q816
       rw [eh] at A
       refine Wp.stk (st' := [(.long q3)]) rfl ?_
       refine s_lload (pc' := 396) A at_394 rfl rfl ?_
       refine s_lcmp (pc' := 397) A at_396 rfl ?_
       refine s_ifN (pc' := 400) A at_397 rfl ((if0 _ _).trans (teq ((lw_eq q3 q3).2 (rfl : q3 = q3))).2) ?_
       refine s_iconst (pc' := 401) (z := (1 : Int32)) A at_400 rfl (by decide) ?_
       refine s_goto (pc' := 405) A at_401 (by decide) (by decide) ?_
       refine s_istore (pc' := 407) (Ls' := #[iv q0, iv q1, iv q2, jv q3, S2, jv q4, S2, jv q5, S2, iv ia, iv ib, iv ic, iv 2, iv la, iv 1, iv lc, rv b649, iv 1, iv 0, iv ia, jv q4, S2, jv q3, S2, iv 1]) A at_405 rfl rfl ?_
       refine s_iload (pc' := 409) A at_407 rfl rfl ?_
       exact r_bool A rfl (by decide) at_409 (by decide) (by decide) (rfl)
set_option maxRecDepth 65536 in
set_option maxHeartbeats 40000000 in
theorem comes_1 {Post : Tables → Env → Array Value → State → Outcome → State → Prop} (hpost : ∀ tb e args s v u, (limb_1_1.after args s (.returned v) u = true ∧ limb_1_2.after args s (.returned v) u = true ∧ True) → FrameEnd s (.returned v) u (Jvm.fieldLocs frame_1_writes args s ++ Jvm.arrayLocs frame_1_arrays args s ++ Jvm.staticLocs frame_1_statics s) 16 128 → Post tb e args s (.returned v) u) :
    ArmFor flags0 classFile x code maxLocals ret World_1 tables_1 room_1 Calls_1 rest_1 Pre_1 Post := by
  intro l hfl _ _ p e ha hc hk s m args below hf hA hF happ hP
  obtain ⟨hcalls, hrest, hpre⟩ := hP
  obtain ⟨-, -, -, hnamed, -, -, -, hat⟩ := (Spec.applies_iff hf).mp happ
  obtain ⟨hg, hn⟩ := and_e (Cond.before_iff.mp (show (Jvm.Cond.and given_1 narrow_1).before args s = true from hpre))
  obtain ⟨hcnt, hg⟩ := and_e hg
  obtain ⟨w0, w1, w2, w3, w4, w5, rfl⟩ : ∃ w0 w1 w2 w3 w4 w5 : Value, args = #[w0, w1, w2, w3, w4, w5] := by
    have hs : args.size = 6 := by simpa [Cond.value, given_1] using hcnt
    obtain ⟨L⟩ := args
    match L, hs with
    | [w0, w1, w2, w3, w4, w5], _ => exact ⟨w0, w1, w2, w3, w4, w5, rfl⟩
  have hw := fun d (hd : d ∈ tables_1) => atoms_spec (ws := Jvm.Cond.code x code maxLocals ret :: tables_1) hat d (List.mem_cons_of_mem _ hd)
  have hfit : Fit s := fun {y c} hc i hi => by
    obtain ⟨ha, rfl⟩ := Array.getElem?_eq_some_iff.mp hc
    have q := List.all_eq_true.mp ((Array.all_eq_true_iff_forall_mem.mp hF) _ (Array.getElem_mem ha)) i (List.mem_range.mpr hi)
    simpa [Array.getElem?_eq_getElem hi] using q
  obtain ⟨g0, hg⟩ := and_e hg
  obtain ⟨x0, e0⟩ := is_v g0
  obtain rfl : w0 = (.int x0) := Option.some.inj e0
  obtain ⟨g1, hg⟩ := and_e hg
  obtain ⟨x1, e1⟩ := is_v g1
  obtain rfl : w1 = (.int x1) := Option.some.inj e1
  obtain ⟨g2, hg⟩ := and_e hg
  obtain ⟨x2, e2⟩ := is_v g2
  obtain rfl : w2 = (.int x2) := Option.some.inj e2
  obtain ⟨g3, hg⟩ := and_e hg
  obtain ⟨x3, e3⟩ := isL_v g3
  obtain rfl : w3 = (.long x3) := Option.some.inj e3
  obtain ⟨g4, hg⟩ := and_e hg
  obtain ⟨x4, e4⟩ := isL_v g4
  obtain rfl : w4 = (.long x4) := Option.some.inj e4
  obtain ⟨x5, e5⟩ := isL_v hg
  obtain rfl : w5 = (.long x5) := Option.some.inj e5
  obtain ⟨n, o, h1, h2, h3, _, L, rfl, ⟨N, rfl⟩, hq⟩ := rm0 l s _ hw s.heap.size s.heap (Nat.le_refl _) x0 x1 x2 x3 x4 x5 tables_1 p e ha hc hk s m _ below hf ((Spec.applies_iff_loose hf).mp happ).1 ⟨rfl, State.Warmed39.refl s, rfl⟩ trivial
  refine ⟨n, _, h1, h2, h3, hpost _ _ _ _ _ _ ⟨Cond.after_iff.mpr rfl, Cond.after_iff.mpr (eq_i res_at (Term.int_eval (1)) rfl), trivial⟩ ⟨hq.1, hq.2.1, (hq.2.2.sift fun y hy => Or.inr (N y hy)).mono (by decide) (by decide)⟩⟩
theorem main_1_1 : Claimed_1_1 := comes_1 fun _ _ _ _ _ _ h hF => ⟨h.1, hF⟩
theorem main_1_2 : Claimed_1_2 := comes_1 fun _ _ _ _ _ _ h hF => ⟨h.2.1, hF⟩
end Jvm.Pilot.@@N@@
namespace Jvm.Pilot.@@N@@
open Jvm Jvm.ClassFile Sem Op Lib Jvm.Free Jvm.Stand Jvm.Pilot.@@N@@.Jvm.D
/-! MADE BY PROGRAM (witnessworld.py) out of the Statement's table words and the real class files: 11 classes; the members and pool entries that the words name. The judged class is class 1, her method 1. -/
namespace start1
open Jvm.ClassFile
def u (s : String) : CpInfo := .utf8 (stringToUtf16 s)
/-- a pool by its gaps: so many unusable entries, then the entry; so many at the end -/
def gap : Nat → List CpInfo → List CpInfo
  | 0, r => r
  | n + 1, r => .unusable :: gap n r
def poolList (es : List (Nat × CpInfo)) (last : Nat) : List CpInfo := es.foldr (fun e r => gap e.1 (e.2 :: r)) (gap last [])
def pool (es : List (Nat × CpInfo)) (last : Nat) : Array CpInfo := ⟨poolList es last⟩
def fileOf (pool : Array CpInfo) (this : Nat) (attrs : Array Attribute := #[]) (ms : Array MethodInfo := #[]) (fl : Nat := 33) (sup : Nat := 0) (ifs : Array Nat := #[]) (fds : Array FieldInfo := #[]) : ClassFile where
  minorVersion := 0
  majorVersion := 65
  constantPool := pool
  accessFlags := fl
  thisClass := this
  superClass := sup
  interfaces := ifs
  fields := fds
  methods := ms
  attributes := attrs
def plain (name : String) (sup : Option ClassId) : Class where
  name := name
  kind := .ordinary
  loader := none
  accessFlags := 33
  super := sup
  interfaces := #[]
  cf := none
  fields := #[]
  methods := #[]
  instanceTypes := #[]
  staticTypes := #[]
  resolved := #[]
  callSites := []
  init := .initialized
  statics := none
  mirror := none

def pool0 : Array CpInfo := pool [(5, u "<init>"), (0, u "()V"), (1, .class_ 10), (1, u "java/lang/Object")] 113

def k0c0 : Code := { maxStack := 0, maxLocals := 1, code := object_method_1_code, exceptionTable := #[], attributes := #[] }
def k0m0 : Method := { name := "<init>", desc := "()V", sig := { parameters := [], returnType := none }, accessFlags := 1, code := some k0c0 }
/-- java/lang/Object -/
def k0 : Class := { plain "java/lang/Object" none with
  accessFlags := 33
  interfaces := #[]
  cf := some (fileOf pool0 8 #[] #[{ accessFlags := 1, nameIndex := 5, descriptorIndex := 6, attributes := #[] }] 33 0 #[] #[])
  fields := #[]
  methods := #[k0m0]
  instanceTypes := #[]
  staticTypes := #[]
  resolved := Array.replicate 124 none
  statics := none }

def pool1 : Array CpInfo := pool [(2, .class_ 4), (0, .nameAndType 5 6), (0, u "java/lang/Object"), (0, u "<init>"), (0, u "()V"), (0, .integer 65535), (0, .methodref 9 10), (0, .class_ 11), (0, .nameAndType 12 13), (0, u "java/lang/Math"), (0, u "min"), (0, u "(II)I"), (0, .class_ 15), (0, u "com/example/wirefram/wirefram/sequence/SessionsLeft"), (0, .methodref 14 3), (0, .methodref 14 18), (0, .nameAndType 19 20), (0, u "leave"), (0, u "(IZJJJ)V"), (0, .methodref 14 22), (0, .nameAndType 23 24), (0, u "remembers"), (0, u "(I)Z"), (0, .methodref 14 26), (0, .nameAndType 27 28), (0, u "highest"), (0, u "(I)J"), (0, .methodref 14 30), (0, .nameAndType 31 28), (0, u "note"), (0, .methodref 14 33), (0, .nameAndType 34 28), (0, u "order"), (0, .class_ 36), (0, u "com/example/wirefram/wirefram/sequence/SessionsLeftLeavePinLaw"), (2, u "law"), (0, u "(IIIJJJ)Z")] 3

def k1m0 : Method := { name := "<init>", desc := "()V", sig := { parameters := [], returnType := none }, accessFlags := 1, code := none }
def k1c1 : Code := { maxStack := 9, maxLocals := 25, code := code, exceptionTable := #[], attributes := #[] }
def k1m1 : Method := { name := "law", desc := "(IIIJJJ)Z", sig := { parameters := [.int, .int, .int, .long, .long, .long], returnType := some .boolean }, accessFlags := 9, code := some k1c1 }
/-- com/example/wirefram/wirefram/sequence/SessionsLeftLeavePinLaw -/
def k1 : Class := { plain "com/example/wirefram/wirefram/sequence/SessionsLeftLeavePinLaw" (some 0) with
  accessFlags := 49
  interfaces := #[]
  cf := some (fileOf pool1 35 #[] #[{ accessFlags := 1, nameIndex := 5, descriptorIndex := 6, attributes := #[] }, { accessFlags := 9, nameIndex := 39, descriptorIndex := 40, attributes := #[] }] 49 2 #[] #[])
  fields := #[]
  methods := #[k1m0, k1m1]
  instanceTypes := #[]
  staticTypes := #[]
  resolved := Array.replicate 44 none
  statics := none }

def pool2 : Array CpInfo := pool [(1, .class_ 2), (0, u "java/lang/Math"), (1, .class_ 6), (1, u "java/lang/Object"), (0, u "<init>"), (0, u "()V"), (89, .class_ 100), (1, u "java/lang/Math$RandomNumberGeneratorHolder"), (71, u "negativeZeroFloatBits"), (0, u "J"), (2, u "negativeZeroDoubleBits"), (24, u "min"), (43, u "$assertionsDisabled"), (0, u "Z"), (88, u "(II)I"), (2, u "twoToTheDoubleScaleDown"), (0, u "D"), (4, u "twoToTheDoubleScaleUp"), (9, u "E"), (3, u "PI"), (2, u "TAU"), (2, u "DEGREES_TO_RADIANS"), (0, u "RADIANS_TO_DEGREES")] 94

def k2m0 : Method := { name := "<init>", desc := "()V", sig := { parameters := [], returnType := none }, accessFlags := 2, code := none }
def k2c1 : Code := { maxStack := 2, maxLocals := 2, code := jdk_29_method_69_code, exceptionTable := #[], attributes := #[] }
def k2m1 : Method := { name := "min", desc := "(II)I", sig := { parameters := [.int, .int], returnType := some .int }, accessFlags := 9, code := some k2c1 }
/-- java/lang/Math -/
def k2 : Class := { plain "java/lang/Math" (some 0) with
  accessFlags := 49
  interfaces := #[]
  cf := some (fileOf pool2 1 #[.nestMembers #[98]] #[{ accessFlags := 2, nameIndex := 7, descriptorIndex := 8, attributes := #[] }, { accessFlags := 9, nameIndex := 201, descriptorIndex := 335, attributes := #[] }] 49 4 #[] #[{ accessFlags := 25, nameIndex := 354, descriptorIndex := 339, attributes := #[] }, { accessFlags := 25, nameIndex := 358, descriptorIndex := 339, attributes := #[] }, { accessFlags := 25, nameIndex := 361, descriptorIndex := 339, attributes := #[] }, { accessFlags := 26, nameIndex := 364, descriptorIndex := 339, attributes := #[] }, { accessFlags := 26, nameIndex := 365, descriptorIndex := 339, attributes := #[] }, { accessFlags := 26, nameIndex := 172, descriptorIndex := 173, attributes := #[] }, { accessFlags := 26, nameIndex := 176, descriptorIndex := 173, attributes := #[] }, { accessFlags := 8, nameIndex := 344, descriptorIndex := 339, attributes := #[] }, { accessFlags := 8, nameIndex := 338, descriptorIndex := 339, attributes := #[] }, { accessFlags := 4120, nameIndex := 245, descriptorIndex := 246, attributes := #[] }])
  fields := #[{ name := "E", type := .double, accessFlags := 25, slot := 0, constantValue := 0 }, { name := "PI", type := .double, accessFlags := 25, slot := 1, constantValue := 0 }, { name := "TAU", type := .double, accessFlags := 25, slot := 2, constantValue := 0 }, { name := "DEGREES_TO_RADIANS", type := .double, accessFlags := 26, slot := 3, constantValue := 0 }, { name := "RADIANS_TO_DEGREES", type := .double, accessFlags := 26, slot := 4, constantValue := 0 }, { name := "negativeZeroFloatBits", type := .long, accessFlags := 26, slot := 5, constantValue := 0 }, { name := "negativeZeroDoubleBits", type := .long, accessFlags := 26, slot := 6, constantValue := 0 }, { name := "twoToTheDoubleScaleUp", type := .double, accessFlags := 8, slot := 7, constantValue := 0 }, { name := "twoToTheDoubleScaleDown", type := .double, accessFlags := 8, slot := 8, constantValue := 0 }, { name := "$assertionsDisabled", type := .boolean, accessFlags := 4120, slot := 9, constantValue := 0 }]
  methods := #[k2m0, k2m1]
  instanceTypes := #[]
  staticTypes := #[.double, .double, .double, .double, .double, .long, .long, .double, .double, .boolean]
  resolved := Array.replicate 460 none
  statics := none }

def pool3 : Array CpInfo := pool [(1, .methodref 2 3), (0, .class_ 4), (0, .nameAndType 5 6), (0, u "java/lang/Object"), (0, u "<init>"), (0, u "()V"), (0, .class_ 8), (0, u "com/example/wirefram/wirefram/sequence/SessionsLeft$Left"), (0, .methodref 7 3), (0, .fieldref 11 12), (0, .class_ 13), (0, .nameAndType 14 15), (0, u "com/example/wirefram/wirefram/sequence/SessionsLeft"), (0, u "last"), (0, u "Lcom/example/wirefram/wirefram/sequence/SessionsLeft$Left;"), (0, .fieldref 11 17), (0, .nameAndType 18 15), (0, u "before"), (0, .methodref 11 20), (0, .nameAndType 21 22), (0, u "find"), (0, u "(I)Lcom/example/wirefram/wirefram/sequence/SessionsLeft$Left;"), (4, u "leave"), (0, u "(IZJJJ)V"), (0, .fieldref 7 30), (0, .nameAndType 31 32), (0, u "id"), (0, u "I"), (0, .fieldref 7 34), (0, .nameAndType 35 36), (0, u "lone"), (0, u "Z"), (0, .fieldref 7 38), (0, .nameAndType 39 40), (0, u "highest"), (0, u "J"), (0, .fieldref 7 42), (0, .nameAndType 43 40), (0, u "note"), (0, .fieldref 7 45), (0, .nameAndType 46 40), (0, u "order"), (0, u "NONE"), (2, u "NO_NOTE"), (2, u "remembers"), (0, u "(I)Z"), (2, u "(I)J")] 7

def k3c0 : Code := { maxStack := 3, maxLocals := 1, code := prog_84_method_1_code, exceptionTable := #[], attributes := #[] }
def k3m0 : Method := { name := "<init>", desc := "()V", sig := { parameters := [], returnType := none }, accessFlags := 0, code := some k3c0 }
def k3c1 : Code := { maxStack := 2, maxLocals := 2, code := prog_84_method_2_code, exceptionTable := #[], attributes := #[] }
def k3m1 : Method := { name := "remembers", desc := "(I)Z", sig := { parameters := [.int], returnType := some .boolean }, accessFlags := 0, code := some k3c1 }
def k3c2 : Code := { maxStack := 3, maxLocals := 10, code := prog_84_method_4_code, exceptionTable := #[], attributes := #[] }
def k3m2 : Method := { name := "leave", desc := "(IZJJJ)V", sig := { parameters := [.int, .boolean, .long, .long, .long], returnType := none }, accessFlags := 0, code := some k3c2 }
def k3c3 : Code := { maxStack := 2, maxLocals := 2, code := prog_84_method_5_code, exceptionTable := #[], attributes := #[] }
def k3m3 : Method := { name := "highest", desc := "(I)J", sig := { parameters := [.int], returnType := some .long }, accessFlags := 0, code := some k3c3 }
def k3c4 : Code := { maxStack := 2, maxLocals := 2, code := prog_84_method_6_code, exceptionTable := #[], attributes := #[] }
def k3m4 : Method := { name := "note", desc := "(I)J", sig := { parameters := [.int], returnType := some .long }, accessFlags := 0, code := some k3c4 }
def k3c5 : Code := { maxStack := 2, maxLocals := 2, code := prog_84_method_7_code, exceptionTable := #[], attributes := #[] }
def k3m5 : Method := { name := "order", desc := "(I)J", sig := { parameters := [.int], returnType := some .long }, accessFlags := 0, code := some k3c5 }
def k3c6 : Code := { maxStack := 2, maxLocals := 2, code := prog_84_method_9_code, exceptionTable := #[], attributes := #[] }
def k3m6 : Method := { name := "find", desc := "(I)Lcom/example/wirefram/wirefram/sequence/SessionsLeft$Left;", sig := { parameters := [.int], returnType := some (.object "com/example/wirefram/wirefram/sequence/SessionsLeft$Left") }, accessFlags := 2, code := some k3c6 }
/-- com/example/wirefram/wirefram/sequence/SessionsLeft -/
def k3 : Class := { plain "com/example/wirefram/wirefram/sequence/SessionsLeft" (some 0) with
  accessFlags := 32
  interfaces := #[]
  cf := some (fileOf pool3 11 #[.nestMembers #[7]] #[{ accessFlags := 0, nameIndex := 5, descriptorIndex := 6, attributes := #[] }, { accessFlags := 0, nameIndex := 53, descriptorIndex := 54, attributes := #[] }, { accessFlags := 0, nameIndex := 27, descriptorIndex := 28, attributes := #[] }, { accessFlags := 0, nameIndex := 39, descriptorIndex := 57, attributes := #[] }, { accessFlags := 0, nameIndex := 43, descriptorIndex := 57, attributes := #[] }, { accessFlags := 0, nameIndex := 46, descriptorIndex := 57, attributes := #[] }, { accessFlags := 2, nameIndex := 21, descriptorIndex := 22, attributes := #[] }] 32 2 #[] #[{ accessFlags := 24, nameIndex := 47, descriptorIndex := 32, attributes := #[] }, { accessFlags := 24, nameIndex := 50, descriptorIndex := 40, attributes := #[] }, { accessFlags := 2, nameIndex := 14, descriptorIndex := 15, attributes := #[] }, { accessFlags := 2, nameIndex := 18, descriptorIndex := 15, attributes := #[] }])
  fields := #[{ name := "NONE", type := .int, accessFlags := 24, slot := 0, constantValue := 0 }, { name := "NO_NOTE", type := .long, accessFlags := 24, slot := 1, constantValue := 0 }, { name := "last", type := (.object "com/example/wirefram/wirefram/sequence/SessionsLeft$Left"), accessFlags := 2, slot := 0, constantValue := 0 }, { name := "before", type := (.object "com/example/wirefram/wirefram/sequence/SessionsLeft$Left"), accessFlags := 2, slot := 1, constantValue := 0 }]
  methods := #[k3m0, k3m1, k3m2, k3m3, k3m4, k3m5, k3m6]
  instanceTypes := #[(.object "com/example/wirefram/wirefram/sequence/SessionsLeft$Left"), (.object "com/example/wirefram/wirefram/sequence/SessionsLeft$Left")]
  staticTypes := #[.int, .long]
  resolved := ((Array.replicate 65 none).setIfInBounds 7 (some (.cls 4))).setIfInBounds 9 (some (.method ⟨4, 0⟩))
  statics := none }

def pool4 : Array CpInfo := pool [(1, .class_ 2), (0, u "com/example/wirefram/wirefram/sequence/SessionsLeft"), (0, .methodref 4 5), (0, .class_ 6), (0, .nameAndType 7 8), (0, u "java/lang/Object"), (0, u "<init>"), (0, u "()V"), (0, .fieldref 10 11), (0, .class_ 12), (0, .nameAndType 13 14), (0, u "com/example/wirefram/wirefram/sequence/SessionsLeft$Left"), (0, u "id"), (0, u "I"), (0, u "lone"), (0, u "Z"), (0, u "highest"), (0, u "J"), (0, u "note"), (0, u "order")] 7

def k4c0 : Code := { maxStack := 2, maxLocals := 1, code := prog_85_method_1_code, exceptionTable := #[], attributes := #[] }
def k4m0 : Method := { name := "<init>", desc := "()V", sig := { parameters := [], returnType := none }, accessFlags := 2, code := some k4c0 }
/-- com/example/wirefram/wirefram/sequence/SessionsLeft$Left -/
def k4 : Class := { plain "com/example/wirefram/wirefram/sequence/SessionsLeft$Left" (some 0) with
  accessFlags := 32
  interfaces := #[]
  cf := some (fileOf pool4 10 #[.nestHost 1] #[{ accessFlags := 2, nameIndex := 7, descriptorIndex := 8, attributes := #[] }] 32 4 #[] #[{ accessFlags := 0, nameIndex := 13, descriptorIndex := 14, attributes := #[] }, { accessFlags := 0, nameIndex := 15, descriptorIndex := 16, attributes := #[] }, { accessFlags := 0, nameIndex := 17, descriptorIndex := 18, attributes := #[] }, { accessFlags := 0, nameIndex := 19, descriptorIndex := 18, attributes := #[] }, { accessFlags := 0, nameIndex := 20, descriptorIndex := 18, attributes := #[] }])
  fields := #[{ name := "id", type := .int, accessFlags := 0, slot := 0, constantValue := 0 }, { name := "lone", type := .boolean, accessFlags := 0, slot := 1, constantValue := 0 }, { name := "highest", type := .long, accessFlags := 0, slot := 2, constantValue := 0 }, { name := "note", type := .long, accessFlags := 0, slot := 3, constantValue := 0 }, { name := "order", type := .long, accessFlags := 0, slot := 4, constantValue := 0 }]
  methods := #[k4m0]
  instanceTypes := #[.int, .boolean, .long, .long, .long]
  staticTypes := #[]
  resolved := Array.replicate 28 none
  statics := none }

def pool5 : Array CpInfo := pool [(1, u "java/lang/Cloneable"), (0, .class_ 1), (0, u "java/lang/Object"), (0, .class_ 3)] 3

/-- java/lang/Cloneable -/
def k5 : Class := { plain "java/lang/Cloneable" (some 0) with
  accessFlags := 1537
  interfaces := #[]
  cf := some (fileOf pool5 2 #[] #[] 1537 4 #[] #[])
  fields := #[]
  methods := #[]
  instanceTypes := #[]
  staticTypes := #[]
  resolved := Array.replicate 8 none
  statics := none }

def pool6 : Array CpInfo := pool [(1, u "java/io/Serializable"), (0, .class_ 1), (0, u "java/lang/Object"), (0, .class_ 3)] 3

/-- java/io/Serializable -/
def k6 : Class := { plain "java/io/Serializable" (some 0) with
  accessFlags := 1537
  interfaces := #[]
  cf := some (fileOf pool6 2 #[] #[] 1537 4 #[] #[])
  fields := #[]
  methods := #[]
  instanceTypes := #[]
  staticTypes := #[]
  resolved := Array.replicate 8 none
  statics := none }

/-- the primitive byte -/
def k7 : Class := { plain "byte" none with kind := .primitive 'B', accessFlags := 0x411 }
/-- [B -/
def k8 : Class := { plain "[B" (some 0) with kind := .array 7 .byte, interfaces := #[5, 6], accessFlags := 1041 }

/-- the primitive int -/
def k9 : Class := { plain "int" none with kind := .primitive 'I', accessFlags := 0x411 }
/-- [I -/
def k10 : Class := { plain "[I" (some 0) with kind := .array 9 .int, interfaces := #[5, 6], accessFlags := 1041 }

def heap : Heap := #[]
def classes : Array Class := #[k0, k1, k2, k3, k4, k5, k6, k7, k8, k9, k10]
def interned : List (Array UInt16 × Addr) := []
def slotsUsed : Nat := 0
def theMethod : MethodId := ⟨1, 1⟩
def args0 : Array Value := #[.int 1, .int 2, .int 3, .long 1, .long 2, .long 3]
def aboutOver (below : List Frame) : State where
  vm := { classes := classes, interned := interned.toArray }
  heap := heap
  slotsUsed := slotsUsed
  threads := #[{ frames := .invoking theMethod args0 :: below }]
def below0 : List Frame := [.native { method := ⟨0, 0⟩, args := #[] }]
def about1 : State := aboutOver below0
def p0 : Program := .bare "" "" ""
def e0 : Env := launch0.env 0 0 0
theorem w_frames : about1.frames = Frame.invoking theMethod args0 :: below0 := rfl
set_option maxRecDepth 65536 in
theorem w_args : argsFit about1.vm theMethod args0 = true := by decide +kernel
set_option maxRecDepth 65536 in
theorem w_heap : heapFits about1 = true := by decide +kernel
set_option maxRecDepth 65536 in
theorem w_runnable : about1.curStatus? = some .runnable := by decide +kernel
set_option maxRecDepth 65536 in
theorem w_alone : about1.alone = true := by decide +kernel
set_option maxRecDepth 65536 in
theorem w_named : about1.methodNamed? x = some theMethod := by decide +kernel
set_option maxRecDepth 65536 in
theorem w_hears : about1.hears theMethod below0 = true := by decide +kernel
set_option maxRecDepth 65536 in
theorem w_ripe : about1.ripe theMethod args0 below0 = true := by decide +kernel
theorem w_running : about1.status = .running := rfl
set_option maxRecDepth 65536 in
theorem w_room : about1.hasRoom e0.platform room_1 = true :=
  launch0.hasRoom_least _ room_1 (by decide +kernel) (by decide +kernel) (by decide +kernel) (by decide +kernel) (by decide +kernel) (by decide +kernel)
theorem allAtoms_all (ts : List Jvm.Cond) (a : Array Jvm.Value) (st : Jvm.State) : (allAtoms ts).before a st = ts.all (fun c => c.before a st) := by
  induction ts with
  | nil => rfl
  | cons c t ih =>
    show (Jvm.Cond.and c (allAtoms t)).before a st = _
    rw [Jvm.Cond.before_and, ih, List.all_cons]
def words1 : List Jvm.Cond := Jvm.Cond.code x code maxLocals ret :: tables_1
/-- a 'code' word, met by the world's own term for the bytes: nothing is compared byte by byte -/
theorem code_word {y : MethodName} {bytes : ByteArray} {mx : Nat} {rt : Option FieldType} {a : Array Value} {s : State} {m : MethodId} {meth : Method} {c : Code} (h1 : s.methodNamed? y = some m) (h2 : s.vm.method? m = some meth) (h3 : meth.code = some c) (h4 : c.code = bytes)
    (h5 : (c.maxLocals == mx && c.exceptionTable.isEmpty && decide (c.maxStack ≤ mostOperands) && decide (meth.sig.returnType = rt) && !meth.locks && decide (parseMethodDescriptor y.desc = some meth.sig)) = true) : (Jvm.Cond.code y bytes mx rt).before a s = true := by
  simp only [Bool.and_eq_true, beq_iff_eq, Bool.not_eq_true', decide_eq_true_eq] at h5
  obtain ⟨⟨⟨⟨⟨g1, g2⟩, g3⟩, g4⟩, g5⟩, g6⟩ := h5
  simp [Cond.before, Cond.holds, Cond.value, h1, h2, h3, h4, g1, g2, g3, g4, g5, g6]
def isCode : Jvm.Cond → Bool
  | .code _ _ _ _ => true
  | _ => false
theorem all_split {L : List Jvm.Cond} {P : Jvm.Cond → Bool} (h1 : L.all (fun c => isCode c || P c) = true) (h2 : ∀ c ∈ L.filter isCode, P c = true) : L.all P = true := by
  refine List.all_eq_true.mpr fun c hc => ?_
  have h := List.all_eq_true.mp h1 c hc
  rcases Bool.eq_false_or_eq_true (isCode c) with hi | hi
  · exact h2 c (List.mem_filter.mpr ⟨hc, hi⟩)
  · simpa [hi] using h
set_option maxRecDepth 65536 in
theorem w_c0 : (Jvm.Cond.code x code maxLocals ret).before args0 about1 = true := code_word (m := ⟨1, 1⟩) (meth := k1m1) (c := k1c1) (by decide +kernel) rfl rfl rfl (by decide +kernel)
set_option maxRecDepth 65536 in
theorem w_c1 : (Jvm.Cond.code ({ cls := "java/lang/Math", name := "min", desc := "(II)I" } : Jvm.MethodName) jdk_29_method_69_code (2 : Nat) (Option.some Jvm.ClassFile.FieldType.int)).before args0 about1 = true := code_word (m := ⟨2, 1⟩) (meth := k2m1) (c := k2c1) (by decide +kernel) rfl rfl rfl (by decide +kernel)
set_option maxRecDepth 65536 in
theorem w_c2 : (Jvm.Cond.code ({ cls := "com/example/wirefram/wirefram/sequence/SessionsLeft", name := "<init>", desc := "()V" } : Jvm.MethodName) prog_84_method_1_code (1 : Nat) (Option.none : Option Jvm.ClassFile.FieldType)).before args0 about1 = true := code_word (m := ⟨3, 0⟩) (meth := k3m0) (c := k3c0) (by decide +kernel) rfl rfl rfl (by decide +kernel)
set_option maxRecDepth 65536 in
theorem w_c3 : (Jvm.Cond.code ({ cls := "java/lang/Object", name := "<init>", desc := "()V" } : Jvm.MethodName) object_method_1_code (1 : Nat) (Option.none : Option Jvm.ClassFile.FieldType)).before args0 about1 = true := code_word (m := ⟨0, 0⟩) (meth := k0m0) (c := k0c0) (by decide +kernel) rfl rfl rfl (by decide +kernel)
set_option maxRecDepth 65536 in
theorem w_c4 : (Jvm.Cond.code ({ cls := "com/example/wirefram/wirefram/sequence/SessionsLeft$Left", name := "<init>", desc := "()V" } : Jvm.MethodName) prog_85_method_1_code (1 : Nat) (Option.none : Option Jvm.ClassFile.FieldType)).before args0 about1 = true := code_word (m := ⟨4, 0⟩) (meth := k4m0) (c := k4c0) (by decide +kernel) rfl rfl rfl (by decide +kernel)
set_option maxRecDepth 65536 in
theorem w_c5 : (Jvm.Cond.code ({ cls := "com/example/wirefram/wirefram/sequence/SessionsLeft", name := "leave", desc := "(IZJJJ)V" } : Jvm.MethodName) prog_84_method_4_code (10 : Nat) (Option.none : Option Jvm.ClassFile.FieldType)).before args0 about1 = true := code_word (m := ⟨3, 2⟩) (meth := k3m2) (c := k3c2) (by decide +kernel) rfl rfl rfl (by decide +kernel)
set_option maxRecDepth 65536 in
theorem w_c6 : (Jvm.Cond.code ({ cls := "com/example/wirefram/wirefram/sequence/SessionsLeft", name := "remembers", desc := "(I)Z" } : Jvm.MethodName) prog_84_method_2_code (2 : Nat) (Option.some Jvm.ClassFile.FieldType.boolean)).before args0 about1 = true := code_word (m := ⟨3, 1⟩) (meth := k3m1) (c := k3c1) (by decide +kernel) rfl rfl rfl (by decide +kernel)
set_option maxRecDepth 65536 in
theorem w_c7 : (Jvm.Cond.code ({ cls := "com/example/wirefram/wirefram/sequence/SessionsLeft", name := "find", desc := "(I)Lcom/example/wirefram/wirefram/sequence/SessionsLeft$Left;" } : Jvm.MethodName) prog_84_method_9_code (2 : Nat) (Option.some (Jvm.ClassFile.FieldType.object "com/example/wirefram/wirefram/sequence/SessionsLeft$Left"))).before args0 about1 = true := code_word (m := ⟨3, 6⟩) (meth := k3m6) (c := k3c6) (by decide +kernel) rfl rfl rfl (by decide +kernel)
set_option maxRecDepth 65536 in
theorem w_c8 : (Jvm.Cond.code ({ cls := "com/example/wirefram/wirefram/sequence/SessionsLeft", name := "highest", desc := "(I)J" } : Jvm.MethodName) prog_84_method_5_code (2 : Nat) (Option.some Jvm.ClassFile.FieldType.long)).before args0 about1 = true := code_word (m := ⟨3, 3⟩) (meth := k3m3) (c := k3c3) (by decide +kernel) rfl rfl rfl (by decide +kernel)
set_option maxRecDepth 65536 in
theorem w_c9 : (Jvm.Cond.code ({ cls := "com/example/wirefram/wirefram/sequence/SessionsLeft", name := "note", desc := "(I)J" } : Jvm.MethodName) prog_84_method_6_code (2 : Nat) (Option.some Jvm.ClassFile.FieldType.long)).before args0 about1 = true := code_word (m := ⟨3, 4⟩) (meth := k3m4) (c := k3c4) (by decide +kernel) rfl rfl rfl (by decide +kernel)
set_option maxRecDepth 65536 in
theorem w_c10 : (Jvm.Cond.code ({ cls := "com/example/wirefram/wirefram/sequence/SessionsLeft", name := "order", desc := "(I)J" } : Jvm.MethodName) prog_84_method_7_code (2 : Nat) (Option.some Jvm.ClassFile.FieldType.long)).before args0 about1 = true := code_word (m := ⟨3, 5⟩) (meth := k3m5) (c := k3c5) (by decide +kernel) rfl rfl rfl (by decide +kernel)
def codes1 : List Jvm.Cond := [Jvm.Cond.code x code maxLocals ret, Jvm.Cond.code ({ cls := "java/lang/Math", name := "min", desc := "(II)I" } : Jvm.MethodName) jdk_29_method_69_code (2 : Nat) (Option.some Jvm.ClassFile.FieldType.int), Jvm.Cond.code ({ cls := "com/example/wirefram/wirefram/sequence/SessionsLeft", name := "<init>", desc := "()V" } : Jvm.MethodName) prog_84_method_1_code (1 : Nat) (Option.none : Option Jvm.ClassFile.FieldType), Jvm.Cond.code ({ cls := "java/lang/Object", name := "<init>", desc := "()V" } : Jvm.MethodName) object_method_1_code (1 : Nat) (Option.none : Option Jvm.ClassFile.FieldType), Jvm.Cond.code ({ cls := "com/example/wirefram/wirefram/sequence/SessionsLeft$Left", name := "<init>", desc := "()V" } : Jvm.MethodName) prog_85_method_1_code (1 : Nat) (Option.none : Option Jvm.ClassFile.FieldType), Jvm.Cond.code ({ cls := "com/example/wirefram/wirefram/sequence/SessionsLeft", name := "leave", desc := "(IZJJJ)V" } : Jvm.MethodName) prog_84_method_4_code (10 : Nat) (Option.none : Option Jvm.ClassFile.FieldType), Jvm.Cond.code ({ cls := "com/example/wirefram/wirefram/sequence/SessionsLeft", name := "remembers", desc := "(I)Z" } : Jvm.MethodName) prog_84_method_2_code (2 : Nat) (Option.some Jvm.ClassFile.FieldType.boolean), Jvm.Cond.code ({ cls := "com/example/wirefram/wirefram/sequence/SessionsLeft", name := "find", desc := "(I)Lcom/example/wirefram/wirefram/sequence/SessionsLeft$Left;" } : Jvm.MethodName) prog_84_method_9_code (2 : Nat) (Option.some (Jvm.ClassFile.FieldType.object "com/example/wirefram/wirefram/sequence/SessionsLeft$Left")), Jvm.Cond.code ({ cls := "com/example/wirefram/wirefram/sequence/SessionsLeft", name := "highest", desc := "(I)J" } : Jvm.MethodName) prog_84_method_5_code (2 : Nat) (Option.some Jvm.ClassFile.FieldType.long), Jvm.Cond.code ({ cls := "com/example/wirefram/wirefram/sequence/SessionsLeft", name := "note", desc := "(I)J" } : Jvm.MethodName) prog_84_method_6_code (2 : Nat) (Option.some Jvm.ClassFile.FieldType.long), Jvm.Cond.code ({ cls := "com/example/wirefram/wirefram/sequence/SessionsLeft", name := "order", desc := "(I)J" } : Jvm.MethodName) prog_84_method_7_code (2 : Nat) (Option.some Jvm.ClassFile.FieldType.long)]
set_option maxRecDepth 65536 in
theorem codes_eq : words1.filter isCode = codes1 := rfl
theorem w_codes : ∀ c ∈ words1.filter isCode, c.before args0 about1 = true := by
  rw [codes_eq]
  intro c hc
  simp only [codes1, List.mem_cons, List.not_mem_nil, or_false] at hc
  rcases hc with rfl | rfl | rfl | rfl | rfl | rfl | rfl | rfl | rfl | rfl | rfl
  · exact w_c0
  · exact w_c1
  · exact w_c2
  · exact w_c3
  · exact w_c4
  · exact w_c5
  · exact w_c6
  · exact w_c7
  · exact w_c8
  · exact w_c9
  · exact w_c10
set_option maxRecDepth 65536 in
theorem w_t1 : (words1.take 24).all (fun c => isCode c || c.before args0 about1) = true := by decide +kernel
set_option maxRecDepth 65536 in
theorem w_t2 : ((words1.drop 24).take 24).all (fun c => isCode c || c.before args0 about1) = true := by decide +kernel
set_option maxRecDepth 65536 in
theorem w_t3 : ((words1.drop 24).drop 24).all (fun c => isCode c || c.before args0 about1) = true := by decide +kernel
theorem w_tables : (allAtoms (Jvm.Cond.code x code maxLocals ret :: tables_1)).before args0 about1 = true := by
  rw [allAtoms_all]
  show words1.all (fun c => c.before args0 about1) = true
  refine all_split ?_ w_codes
  rw [← List.take_append_drop 24 words1, List.all_append, w_t1, ← List.take_append_drop 24 (words1.drop 24), List.all_append, w_t2, w_t3]
  rfl
set_option maxRecDepth 65536 in
theorem w_case : (Jvm.Cond.and given_1 narrow_1).before args0 about1 = true := by decide +kernel
theorem w_applies : (headSpec (Jvm.Cond.code x code maxLocals ret :: tables_1) room_1).applies x e0.platform about1 = true :=
  (Spec.applies_iff w_frames).mpr ⟨w_running, w_runnable, w_alone, w_named, w_hears, w_ripe, w_room, w_tables⟩
theorem atStart : AtStart classFile x code maxLocals ret World_1 tables_1 room_1 Calls_1 rest_1 Pre_1 launch0 p0 e0 about1 theMethod args0 below0 :=
  ⟨lists_1, trivial, launch0.admits_env _ _ _, launch0.least_env, fairChoices_fair.cas, fairChoices_fair.clock, w_frames, w_args, w_heap, w_applies, trivial, trivial, w_case⟩
end start1
theorem witness_1 : WitnessClaimed_1 := ⟨start1.p0, start1.e0, start1.about1, start1.theMethod, start1.args0, start1.below0, start1.atStart⟩
end Jvm.Pilot.@@N@@
