import JvmDerived
import JvmDerived.Pilot.@@N@@Statement
import JvmDerived.Pilot.@@N@@Code
set_option linter.unusedVariables false
set_option linter.unusedSimpArgs false
namespace Jvm.Ow
open Sem ClassFile Op Lib Jvm.Stand Jvm.Free Jvm.LawKit Jvm.RoadKit
abbrev jv (x : Int64) : Slot := .val (.long x)
abbrev U0 : Slot := .unset
abbrev S2 : Slot := .second
def ush (x y : Int32) : Int32 := (x.toUInt32 >>> (y &&& 31).toUInt32).toInt32
def ushL (x : Int64) (y : Int32) : Int64 := (x.toUInt64 >>> (y &&& 0x3f).toInt64.toUInt64).toInt64
def On (l : Launch) (Z : State) (n0 : Nat) (own : String) (bytes : ByteArray) (maxL : Nat) (ret : Option FieldType) (R : Room) (p : Program) (e : Env) (s : State) (m : MethodId) (args : Array Value) (below : List Frame) (meth : Method) (c : Code) (T : State) (h : Heap) (k n : Nat) : Prop :=
  ∃ locs, Stand p l e R s m args below meth c T locs k n ∧ Fr n0 locs ∧ T.heap = h ∧ p.tables.exec = Jvm.exec ∧ Z.Warmed39 s.vm ∧ c.code = bytes ∧ c.maxLocals = maxL ∧ s.vm.findClass own = some m.cls ∧ meth.sig.returnType = ret ∧ meth.locks = false ∧ n0 ≤ s.heap.size
def Wp (p : Program) (e : Env) (below : List Frame) (s : State) (n0 ck cs : Nat) (Q : Option Value → Heap → Prop) (U : State) : Prop :=
  ∃ t o, Steps p.tables e below U t ∧ t.status = .running ∧ Ended t below o ∧ ∃ v L, o = .returned v ∧ (Fr n0 L ∧ Q v t.heap) ∧ FrameEnd s o t L ck cs
def Met (l : Launch) (Z : State) (n0 : Nat) (y : MethodName) (bytes : ByteArray) (maxL : Nat) (ret : Option FieldType) (rm : Room) (as : Array Value) (h : Heap) (Q : Option Value → Heap → Prop) : Prop :=
  ∀ ws, MetFree l y (head1 (Cond.code y bytes maxL ret :: ws) rm) (fun a U => a = as ∧ Z.Warmed39 U.vm ∧ U.heap = h) (fun _ _ _ _ _ => True) (fun _ U o U' => ∃ v L, o = .returned v ∧ (Fr n0 L ∧ Q v U'.heap) ∧ FrameEnd U o U' L rm.cells rm.slots)
/-- an array of the component type ty, whose components are vs -/
def AA (Z : State) (h : Heap) (a : Addr) (ty : FieldType) (vs : List Value) : Prop := ∃ c : Cell, Arr Z h a c ty ∧ c.slots = vs.toArray ∧ vs.length < 2147483648
section Kit
variable {l : Launch} {Z : State} {n0 : Nat} {own : String} {bytes : ByteArray} {maxL : Nat} {ret : Option FieldType} {R : Room} {p : Program} {e : Env} {s : State} {m : MethodId} {args : Array Value} {below : List Frame} {meth : Method} {c : Code} {T : State} {h h' : Heap} {k n ck cs : Nat} {Q : Option Value → Heap → Prop} {pc pc' : Nat} {Ls Ls' : Array Slot} {st : List Value} {a0 : Array Value} {a b : Addr} {ty : FieldType} {vs : List Value} {sl : Nat} {v w : Value} {ws : List Addr}
theorem AA.ext (F : AA Z h a ty vs) (E : Ext h h') : AA Z h' a ty vs := by obtain ⟨c, A, r⟩ := F; exact ⟨c, A.ext E, r⟩
theorem AA.other (F : AA Z h b ty vs) (W : Wr h h' a sl v) (q : b ≠ a) : AA Z h' b ty vs := by obtain ⟨c, A, r⟩ := F; exact ⟨c, A.other W q, r⟩
theorem AA.keep (F : AA Z h a ty vs) (K : Keep h h' ws) (q : a ∉ ws) : AA Z h' a ty vs := by obtain ⟨c, A, r⟩ := F; exact ⟨c, ⟨K.2.1 a c A.1 q, A.2⟩, r⟩
theorem AA.set (F : AA Z h a ty vs) (W : Wr h h' a sl v) : AA Z h' a ty (vs.set sl v) := by
  obtain ⟨c, A, r1, r2⟩ := F
  exact ⟨_, A.same W, by simp [Cell.setSlot, r1], by simpa using r2⟩
theorem AA.lt (F : AA Z h a ty vs) : a < h.size := by obtain ⟨c, A, -⟩ := F; exact A.lt
theorem AA.len (F : AA Z h a ty vs) : vs.length < 2147483648 := F.choose_spec.2.2
theorem AA.cast {vs' : List Value} (F : AA Z h a ty vs) (q : vs = vs') : AA Z h a ty vs' := q ▸ F
theorem Fld.cast {C f d : String} (F : Fld Z h a C f d v) (q : v = w) : Fld Z h a C f d w := q ▸ F
theorem AA.new {cA : ClassId} {z : Int32} {i : Nat} (A : Arr Z h a (newA cA ty z) ty) (hz : z.toInt = (i : Int)) : AA Z h a ty (List.replicate i (defaultValue ty)) := by
  have q : z.toNatClampNeg = i := by show z.toInt.toNat = i; omega
  have := z.toInt_lt
  refine ⟨_, A, ?_, ?_⟩
  · simp [newA, q]
  · simp; omega
theorem AA.ne_exa {C : String} {kk : Nat} (F : AA Z h a ty vs) (E : Exa Z h b C) (wi : (Cond.instantiable C kk).before a0 Z = true) : b ≠ a := by obtain ⟨c, A, -⟩ := F; exact ne_arr E wi A
theorem lt_ne {x y z : Nat} (q : x < y) (r : y = z) : x ≠ z := by omega
theorem le_eq {x y z : Nat} (q : x ≤ y) (r : y = z) : x ≤ z := by omega
theorem On.size(A : On l Z n0 own bytes maxL ret R p e s m args below meth c T h k n) : n0 ≤ h.size := by
  obtain ⟨locs, X, N, eT, hx, hZ, hby, hml, hown, hret, hlk, hsz⟩ := A
  have := X.same.2.1
  subst eT
  exact Nat.le_trans hsz this
theorem Wp.goo {U U' : State} (f : ∀ t, Steps p.tables e below U' t → Steps p.tables e below U t) (K : Wp p e below s n0 ck cs Q U') : Wp p e below s n0 ck cs Q U := by
  obtain ⟨t, o, q, r⟩ := K; exact ⟨t, o, f t q, r⟩
theorem Wp.cast {g g' : JFrame} (q : g = g') (K : Wp p e below s n0 ck cs Q (T.setTop g')) : Wp p e below s n0 ck cs Q (T.setTop g) := q ▸ K
theorem Wp.stk {st' : List Value} (q : st = st') (K : Wp p e below s n0 ck cs Q (T.setTop (mkF m pc Ls st'))) : Wp p e below s n0 ck cs Q (T.setTop (mkF m pc Ls st)) := q ▸ K
theorem Wp.mono {Q' : Option Value → Heap → Prop} {U : State} (K : Wp p e below s n0 ck cs Q U) (q : ∀ v h, Q v h → Q' v h) : Wp p e below s n0 ck cs Q' U := by
  obtain ⟨t, o, h1, h2, h3, v, L, h4, ⟨h5, h6⟩, h7⟩ := K; exact ⟨t, o, h1, h2, h3, v, L, h4, ⟨h5, q _ _ h6⟩, h7⟩
theorem met_intro {y : MethodName} {rm : Room} {as : Array Value} (hpl : plainFor y = true) (ho : y.cls = own) (hsz : n0 ≤ h.size)
    (body : ∀ p e s m below meth c T, On l Z n0 own bytes maxL ret rm p e s m as below meth c T h 0 0 → meth.name = y.name → Wp p e below s n0 rm.cells rm.slots Q (T.setTop (entryFrame m as maxL))) : Met l Z n0 y bytes maxL ret rm as h Q := by
  subst ho
  intro ws
  refine MetFree.of_bodySF hpl hisR ?_
  intro p e s m args below meth c s₁ Bd hml0 hP hK
  obtain ⟨rfl, hZ, hh⟩ := hP
  have X0 : Stand p l e rm s m args below meth c s₁ [] 0 0 := Stand.of_body Bd
  have e0 : s₁.heap = h := by rw [← hh, Bd.state]; rfl
  exact body p e s m below meth c s₁ ⟨[], X0, Fr.nil n0, e0, Bd.exec, hZ, Bd.bytes, hml0, findClass_of_methodNamed Bd.named, Bd.returns, Bd.notSynchronized, by rw [hh]; exact hsz⟩ (name_of_methodNamed Bd.named Bd.method).1
theorem Met.mono {y : MethodName} {rm : Room} {as : Array Value} {Q' : Option Value → Heap → Prop} (M : Met l Z n0 y bytes maxL ret rm as h Q) (q : ∀ v h, Q v h → Q' v h) : Met l Z n0 y bytes maxL ret rm as h Q' := by
  intro ws p e ha hc hk s m args below hf happ hP hK
  obtain ⟨n, o, h1, h2, h3, v, L, h4, ⟨h5, h6⟩, h7⟩ := M ws p e ha hc hk s m args below hf happ hP hK
  exact ⟨n, o, h1, h2, h3, v, L, h4, ⟨h5, q _ _ h6⟩, h7⟩
theorem s_iloadN (A : On l Z n0 own bytes maxL ret R p e s m args below meth c T h k n) {i : Fin 4} {z : Int32} (hd : decode bytes pc = .ok (.iload_n i, 1)) (hp : pc + 1 = pc') (hl : Ls[i.val]? = some (.val (.int z))) (K : Wp p e below s n0 ck cs Q (T.setTop (mkF m pc' Ls (.int z :: st)))) : Wp p e below s n0 ck cs Q (T.setTop (mkF m pc Ls st)) := by
  obtain ⟨locs, X, N, eT, hx, hZ, hby, hml, hown, hret, hlk, hsz⟩ := A
  subst hp
  exact K.goo fun t q => XS.iloadN X.here hx rfl (hb hby hd) hl q
theorem s_lloadN (A : On l Z n0 own bytes maxL ret R p e s m args below meth c T h k n) {i : Fin 4} {z : Int64} (hd : decode bytes pc = .ok (.lload_n i, 1)) (hp : pc + 1 = pc') (hl : Ls[i.val]? = some (.val (.long z))) (K : Wp p e below s n0 ck cs Q (T.setTop (mkF m pc' Ls (.long z :: st)))) : Wp p e below s n0 ck cs Q (T.setTop (mkF m pc Ls st)) := by
  obtain ⟨locs, X, N, eT, hx, hZ, hby, hml, hown, hret, hlk, hsz⟩ := A
  subst hp
  exact K.goo fun t q => XS.lloadN X.here hx rfl (hb hby hd) hl q
theorem s_aloadN (A : On l Z n0 own bytes maxL ret R p e s m args below meth c T h k n) {i : Fin 4} (hd : decode bytes pc = .ok (.aload_n i, 1)) (hp : pc + 1 = pc') (hl : Ls[i.val]? = some (.val v)) (hv : v.isRef = true) (K : Wp p e below s n0 ck cs Q (T.setTop (mkF m pc' Ls (v :: st)))) : Wp p e below s n0 ck cs Q (T.setTop (mkF m pc Ls st)) := by
  obtain ⟨locs, X, N, eT, hx, hZ, hby, hml, hown, hret, hlk, hsz⟩ := A
  subst hp
  exact K.goo fun t q => XS.aloadN X.here hx rfl (hb hby hd) hl hv q
theorem s_istoreN (A : On l Z n0 own bytes maxL ret R p e s m args below meth c T h k n) {i : Fin 4} {z : Int32} (hd : decode bytes pc = .ok (.istore_n i, 1)) (hp : pc + 1 = pc') (hl : storeLocals Ls i.val (.int z) = some Ls') (K : Wp p e below s n0 ck cs Q (T.setTop (mkF m pc' Ls' st))) : Wp p e below s n0 ck cs Q (T.setTop (mkF m pc Ls (.int z :: st))) := by
  obtain ⟨locs, X, N, eT, hx, hZ, hby, hml, hown, hret, hlk, hsz⟩ := A
  subst hp
  exact K.goo fun t q => XS.istoreN X.here hx rfl (hb hby hd) rfl hl q
theorem s_lstoreN (A : On l Z n0 own bytes maxL ret R p e s m args below meth c T h k n) {i : Fin 4} {z : Int64} (hd : decode bytes pc = .ok (.lstore_n i, 1)) (hp : pc + 1 = pc') (hl : storeLocals Ls i.val (.long z) = some Ls') (K : Wp p e below s n0 ck cs Q (T.setTop (mkF m pc' Ls' st))) : Wp p e below s n0 ck cs Q (T.setTop (mkF m pc Ls (.long z :: st))) := by
  obtain ⟨locs, X, N, eT, hx, hZ, hby, hml, hown, hret, hlk, hsz⟩ := A
  subst hp
  exact K.goo fun t q => XS.lstoreN X.here hx rfl (hb hby hd) rfl hl q
theorem s_astoreN (A : On l Z n0 own bytes maxL ret R p e s m args below meth c T h k n) {i : Fin 4} (hd : decode bytes pc = .ok (.astore_n i, 1)) (hp : pc + 1 = pc') (hv : v.isRef = true) (hl : storeLocals Ls i.val v = some Ls') (K : Wp p e below s n0 ck cs Q (T.setTop (mkF m pc' Ls' st))) : Wp p e below s n0 ck cs Q (T.setTop (mkF m pc Ls (v :: st))) := by
  obtain ⟨locs, X, N, eT, hx, hZ, hby, hml, hown, hret, hlk, hsz⟩ := A
  subst hp
  exact K.goo fun t q => XS.astoreN X.here hx rfl (hb hby hd) rfl hv hl q
theorem s_iload (A : On l Z n0 own bytes maxL ret R p e s m args below meth c T h k n) {i : Nat} {z : Int32} (hd : decode bytes pc = .ok (.iload i, 2)) (hp : pc + 2 = pc') (hl : Ls[i]? = some (.val (.int z))) (K : Wp p e below s n0 ck cs Q (T.setTop (mkF m pc' Ls (.int z :: st)))) : Wp p e below s n0 ck cs Q (T.setTop (mkF m pc Ls st)) := by
  obtain ⟨locs, X, N, eT, hx, hZ, hby, hml, hown, hret, hlk, hsz⟩ := A
  subst hp
  exact K.goo fun t q => XS.iload X.here hx rfl (hb hby hd) hl q
theorem s_lload (A : On l Z n0 own bytes maxL ret R p e s m args below meth c T h k n) {i : Nat} {z : Int64} (hd : decode bytes pc = .ok (.lload i, 2)) (hp : pc + 2 = pc') (hl : Ls[i]? = some (.val (.long z))) (K : Wp p e below s n0 ck cs Q (T.setTop (mkF m pc' Ls (.long z :: st)))) : Wp p e below s n0 ck cs Q (T.setTop (mkF m pc Ls st)) := by
  obtain ⟨locs, X, N, eT, hx, hZ, hby, hml, hown, hret, hlk, hsz⟩ := A
  subst hp
  exact K.goo fun t q => XS.lload X.here hx rfl (hb hby hd) hl q
theorem s_aload (A : On l Z n0 own bytes maxL ret R p e s m args below meth c T h k n) {i : Nat} (hd : decode bytes pc = .ok (.aload i, 2)) (hp : pc + 2 = pc') (hl : Ls[i]? = some (.val v)) (hv : v.isRef = true) (K : Wp p e below s n0 ck cs Q (T.setTop (mkF m pc' Ls (v :: st)))) : Wp p e below s n0 ck cs Q (T.setTop (mkF m pc Ls st)) := by
  obtain ⟨locs, X, N, eT, hx, hZ, hby, hml, hown, hret, hlk, hsz⟩ := A
  subst hp
  exact K.goo fun t q => XS.aload X.here hx rfl (hb hby hd) hl hv q
theorem s_istore (A : On l Z n0 own bytes maxL ret R p e s m args below meth c T h k n) {i : Nat} {z : Int32} (hd : decode bytes pc = .ok (.istore i, 2)) (hp : pc + 2 = pc') (hl : storeLocals Ls i (.int z) = some Ls') (K : Wp p e below s n0 ck cs Q (T.setTop (mkF m pc' Ls' st))) : Wp p e below s n0 ck cs Q (T.setTop (mkF m pc Ls (.int z :: st))) := by
  obtain ⟨locs, X, N, eT, hx, hZ, hby, hml, hown, hret, hlk, hsz⟩ := A
  subst hp
  exact K.goo fun t q => XS.istore X.here hx rfl (hb hby hd) rfl hl q
theorem s_lstore (A : On l Z n0 own bytes maxL ret R p e s m args below meth c T h k n) {i : Nat} {z : Int64} (hd : decode bytes pc = .ok (.lstore i, 2)) (hp : pc + 2 = pc') (hl : storeLocals Ls i (.long z) = some Ls') (K : Wp p e below s n0 ck cs Q (T.setTop (mkF m pc' Ls' st))) : Wp p e below s n0 ck cs Q (T.setTop (mkF m pc Ls (.long z :: st))) := by
  obtain ⟨locs, X, N, eT, hx, hZ, hby, hml, hown, hret, hlk, hsz⟩ := A
  subst hp
  exact K.goo fun t q => XS.lstore X.here hx rfl (hb hby hd) rfl hl q
theorem s_astore (A : On l Z n0 own bytes maxL ret R p e s m args below meth c T h k n) {i : Nat} (hd : decode bytes pc = .ok (.astore i, 2)) (hp : pc + 2 = pc') (hv : v.isRef = true) (hl : storeLocals Ls i v = some Ls') (K : Wp p e below s n0 ck cs Q (T.setTop (mkF m pc' Ls' st))) : Wp p e below s n0 ck cs Q (T.setTop (mkF m pc Ls (v :: st))) := by
  obtain ⟨locs, X, N, eT, hx, hZ, hby, hml, hown, hret, hlk, hsz⟩ := A
  subst hp
  exact K.goo fun t q => XS.astore X.here hx rfl (hb hby hd) rfl hv hl q
theorem s_iconst (A : On l Z n0 own bytes maxL ret R p e s m args below meth c T h k n) {i : Int} {z : Int32} (hd : decode bytes pc = .ok (.iconst i, 1)) (hp : pc + 1 = pc') (hz : Int32.ofInt i = z) (K : Wp p e below s n0 ck cs Q (T.setTop (mkF m pc' Ls (.int z :: st)))) : Wp p e below s n0 ck cs Q (T.setTop (mkF m pc Ls st)) := by
  obtain ⟨locs, X, N, eT, hx, hZ, hby, hml, hown, hret, hlk, hsz⟩ := A
  subst hp
  subst hz
  exact K.goo fun t q => XS.iconst X.here hx rfl (hb hby hd) q
theorem s_bipush (A : On l Z n0 own bytes maxL ret R p e s m args below meth c T h k n) {i : Int} {z : Int32} (hd : decode bytes pc = .ok (.bipush i, 2)) (hp : pc + 2 = pc') (hz : (Int8.ofInt i).toInt32 = z) (K : Wp p e below s n0 ck cs Q (T.setTop (mkF m pc' Ls (.int z :: st)))) : Wp p e below s n0 ck cs Q (T.setTop (mkF m pc Ls st)) := by
  obtain ⟨locs, X, N, eT, hx, hZ, hby, hml, hown, hret, hlk, hsz⟩ := A
  subst hp
  subst hz
  exact K.goo fun t q => XS.bipush X.here hx rfl (hb hby hd) q
theorem s_sipush (A : On l Z n0 own bytes maxL ret R p e s m args below meth c T h k n) {i : Int} {z : Int32} (hd : decode bytes pc = .ok (.sipush i, 3)) (hp : pc + 3 = pc') (hz : (Int16.ofInt i).toInt32 = z) (K : Wp p e below s n0 ck cs Q (T.setTop (mkF m pc' Ls (.int z :: st)))) : Wp p e below s n0 ck cs Q (T.setTop (mkF m pc Ls st)) := by
  obtain ⟨locs, X, N, eT, hx, hZ, hby, hml, hown, hret, hlk, hsz⟩ := A
  subst hp
  subst hz
  exact K.goo fun t q => XS.sipush X.here hx rfl (hb hby hd) q
theorem s_lconst (A : On l Z n0 own bytes maxL ret R p e s m args below meth c T h k n) {i : Fin 2} {z : Int64} (hd : decode bytes pc = .ok (.lconst i, 1)) (hp : pc + 1 = pc') (hz : Int64.ofNat i = z) (K : Wp p e below s n0 ck cs Q (T.setTop (mkF m pc' Ls (.long z :: st)))) : Wp p e below s n0 ck cs Q (T.setTop (mkF m pc Ls st)) := by
  obtain ⟨locs, X, N, eT, hx, hZ, hby, hml, hown, hret, hlk, hsz⟩ := A
  subst hp
  subst hz
  exact K.goo fun t q => XS.lconst X.here hx rfl (hb hby hd) q
theorem s_aconstNull (A : On l Z n0 own bytes maxL ret R p e s m args below meth c T h k n)  (hd : decode bytes pc = .ok (.aconst_null, 1)) (hp : pc + 1 = pc') (K : Wp p e below s n0 ck cs Q (T.setTop (mkF m pc' Ls (.null :: st)))) : Wp p e below s n0 ck cs Q (T.setTop (mkF m pc Ls st)) := by
  obtain ⟨locs, X, N, eT, hx, hZ, hby, hml, hown, hret, hlk, hsz⟩ := A
  subst hp
  exact K.goo fun t q => XS.aconstNull X.here hx rfl (hb hby hd) q
theorem s_iadd (A : On l Z n0 own bytes maxL ret R p e s m args below meth c T h k n) {x y z : Int32} (hd : decode bytes pc = .ok (.iadd, 1)) (hp : pc + 1 = pc') (hz : x + y = z) (K : Wp p e below s n0 ck cs Q (T.setTop (mkF m pc' Ls (.int z :: st)))) : Wp p e below s n0 ck cs Q (T.setTop (mkF m pc Ls (.int y :: .int x :: st))) := by
  obtain ⟨locs, X, N, eT, hx, hZ, hby, hml, hown, hret, hlk, hsz⟩ := A
  subst hp
  subst hz
  exact K.goo fun t q => XS.iadd X.here hx rfl (hb hby hd) rfl q
theorem s_ladd (A : On l Z n0 own bytes maxL ret R p e s m args below meth c T h k n) {x y z : Int64} (hd : decode bytes pc = .ok (.ladd, 1)) (hp : pc + 1 = pc') (hz : x + y = z) (K : Wp p e below s n0 ck cs Q (T.setTop (mkF m pc' Ls (.long z :: st)))) : Wp p e below s n0 ck cs Q (T.setTop (mkF m pc Ls (.long y :: .long x :: st))) := by
  obtain ⟨locs, X, N, eT, hx, hZ, hby, hml, hown, hret, hlk, hsz⟩ := A
  subst hp
  subst hz
  exact K.goo fun t q => XS.ladd X.here hx rfl (hb hby hd) rfl q
theorem s_isub (A : On l Z n0 own bytes maxL ret R p e s m args below meth c T h k n) {x y z : Int32} (hd : decode bytes pc = .ok (.isub, 1)) (hp : pc + 1 = pc') (hz : x - y = z) (K : Wp p e below s n0 ck cs Q (T.setTop (mkF m pc' Ls (.int z :: st)))) : Wp p e below s n0 ck cs Q (T.setTop (mkF m pc Ls (.int y :: .int x :: st))) := by
  obtain ⟨locs, X, N, eT, hx, hZ, hby, hml, hown, hret, hlk, hsz⟩ := A
  subst hp
  subst hz
  exact K.goo fun t q => XS.isub X.here hx rfl (hb hby hd) rfl q
theorem s_lsub (A : On l Z n0 own bytes maxL ret R p e s m args below meth c T h k n) {x y z : Int64} (hd : decode bytes pc = .ok (.lsub, 1)) (hp : pc + 1 = pc') (hz : x - y = z) (K : Wp p e below s n0 ck cs Q (T.setTop (mkF m pc' Ls (.long z :: st)))) : Wp p e below s n0 ck cs Q (T.setTop (mkF m pc Ls (.long y :: .long x :: st))) := by
  obtain ⟨locs, X, N, eT, hx, hZ, hby, hml, hown, hret, hlk, hsz⟩ := A
  subst hp
  subst hz
  exact K.goo fun t q => XS.lsub X.here hx rfl (hb hby hd) rfl q
theorem s_imul (A : On l Z n0 own bytes maxL ret R p e s m args below meth c T h k n) {x y z : Int32} (hd : decode bytes pc = .ok (.imul, 1)) (hp : pc + 1 = pc') (hz : x * y = z) (K : Wp p e below s n0 ck cs Q (T.setTop (mkF m pc' Ls (.int z :: st)))) : Wp p e below s n0 ck cs Q (T.setTop (mkF m pc Ls (.int y :: .int x :: st))) := by
  obtain ⟨locs, X, N, eT, hx, hZ, hby, hml, hown, hret, hlk, hsz⟩ := A
  subst hp
  subst hz
  exact K.goo fun t q => XS.imul X.here hx rfl (hb hby hd) rfl q
theorem s_lmul (A : On l Z n0 own bytes maxL ret R p e s m args below meth c T h k n) {x y z : Int64} (hd : decode bytes pc = .ok (.lmul, 1)) (hp : pc + 1 = pc') (hz : x * y = z) (K : Wp p e below s n0 ck cs Q (T.setTop (mkF m pc' Ls (.long z :: st)))) : Wp p e below s n0 ck cs Q (T.setTop (mkF m pc Ls (.long y :: .long x :: st))) := by
  obtain ⟨locs, X, N, eT, hx, hZ, hby, hml, hown, hret, hlk, hsz⟩ := A
  subst hp
  subst hz
  exact K.goo fun t q => XS.lmul X.here hx rfl (hb hby hd) rfl q
theorem s_iand (A : On l Z n0 own bytes maxL ret R p e s m args below meth c T h k n) {x y z : Int32} (hd : decode bytes pc = .ok (.iand, 1)) (hp : pc + 1 = pc') (hz : x &&& y = z) (K : Wp p e below s n0 ck cs Q (T.setTop (mkF m pc' Ls (.int z :: st)))) : Wp p e below s n0 ck cs Q (T.setTop (mkF m pc Ls (.int y :: .int x :: st))) := by
  obtain ⟨locs, X, N, eT, hx, hZ, hby, hml, hown, hret, hlk, hsz⟩ := A
  subst hp
  subst hz
  exact K.goo fun t q => XS.iand X.here hx rfl (hb hby hd) rfl q
theorem s_land (A : On l Z n0 own bytes maxL ret R p e s m args below meth c T h k n) {x y z : Int64} (hd : decode bytes pc = .ok (.land, 1)) (hp : pc + 1 = pc') (hz : x &&& y = z) (K : Wp p e below s n0 ck cs Q (T.setTop (mkF m pc' Ls (.long z :: st)))) : Wp p e below s n0 ck cs Q (T.setTop (mkF m pc Ls (.long y :: .long x :: st))) := by
  obtain ⟨locs, X, N, eT, hx, hZ, hby, hml, hown, hret, hlk, hsz⟩ := A
  subst hp
  subst hz
  exact K.goo fun t q => XS.land X.here hx rfl (hb hby hd) rfl q
theorem s_ior (A : On l Z n0 own bytes maxL ret R p e s m args below meth c T h k n) {x y z : Int32} (hd : decode bytes pc = .ok (.ior, 1)) (hp : pc + 1 = pc') (hz : x ||| y = z) (K : Wp p e below s n0 ck cs Q (T.setTop (mkF m pc' Ls (.int z :: st)))) : Wp p e below s n0 ck cs Q (T.setTop (mkF m pc Ls (.int y :: .int x :: st))) := by
  obtain ⟨locs, X, N, eT, hx, hZ, hby, hml, hown, hret, hlk, hsz⟩ := A
  subst hp
  subst hz
  exact K.goo fun t q => XS.ior X.here hx rfl (hb hby hd) rfl q
theorem s_lor (A : On l Z n0 own bytes maxL ret R p e s m args below meth c T h k n) {x y z : Int64} (hd : decode bytes pc = .ok (.lor, 1)) (hp : pc + 1 = pc') (hz : x ||| y = z) (K : Wp p e below s n0 ck cs Q (T.setTop (mkF m pc' Ls (.long z :: st)))) : Wp p e below s n0 ck cs Q (T.setTop (mkF m pc Ls (.long y :: .long x :: st))) := by
  obtain ⟨locs, X, N, eT, hx, hZ, hby, hml, hown, hret, hlk, hsz⟩ := A
  subst hp
  subst hz
  exact K.goo fun t q => XS.lor X.here hx rfl (hb hby hd) rfl q
theorem s_ixor (A : On l Z n0 own bytes maxL ret R p e s m args below meth c T h k n) {x y z : Int32} (hd : decode bytes pc = .ok (.ixor, 1)) (hp : pc + 1 = pc') (hz : x ^^^ y = z) (K : Wp p e below s n0 ck cs Q (T.setTop (mkF m pc' Ls (.int z :: st)))) : Wp p e below s n0 ck cs Q (T.setTop (mkF m pc Ls (.int y :: .int x :: st))) := by
  obtain ⟨locs, X, N, eT, hx, hZ, hby, hml, hown, hret, hlk, hsz⟩ := A
  subst hp
  subst hz
  exact K.goo fun t q => XS.ixor X.here hx rfl (hb hby hd) rfl q
theorem s_lxor (A : On l Z n0 own bytes maxL ret R p e s m args below meth c T h k n) {x y z : Int64} (hd : decode bytes pc = .ok (.lxor, 1)) (hp : pc + 1 = pc') (hz : x ^^^ y = z) (K : Wp p e below s n0 ck cs Q (T.setTop (mkF m pc' Ls (.long z :: st)))) : Wp p e below s n0 ck cs Q (T.setTop (mkF m pc Ls (.long y :: .long x :: st))) := by
  obtain ⟨locs, X, N, eT, hx, hZ, hby, hml, hown, hret, hlk, hsz⟩ := A
  subst hp
  subst hz
  exact K.goo fun t q => XS.lxor X.here hx rfl (hb hby hd) rfl q
theorem s_idiv (A : On l Z n0 own bytes maxL ret R p e s m args below meth c T h k n) {x y z : Int32} (hd : decode bytes pc = .ok (.idiv, 1)) (hp : pc + 1 = pc') (hy : y ≠ 0) (hz : x / y = z) (K : Wp p e below s n0 ck cs Q (T.setTop (mkF m pc' Ls (.int z :: st)))) : Wp p e below s n0 ck cs Q (T.setTop (mkF m pc Ls (.int y :: .int x :: st))) := by
  obtain ⟨locs, X, N, eT, hx, hZ, hby, hml, hown, hret, hlk, hsz⟩ := A
  subst hp
  subst hz
  exact K.goo fun t q => XS.idiv X.here hx rfl (hb hby hd) rfl hy q
theorem s_ldiv (A : On l Z n0 own bytes maxL ret R p e s m args below meth c T h k n) {x y z : Int64} (hd : decode bytes pc = .ok (.ldiv, 1)) (hp : pc + 1 = pc') (hy : y ≠ 0) (hz : x / y = z) (K : Wp p e below s n0 ck cs Q (T.setTop (mkF m pc' Ls (.long z :: st)))) : Wp p e below s n0 ck cs Q (T.setTop (mkF m pc Ls (.long y :: .long x :: st))) := by
  obtain ⟨locs, X, N, eT, hx, hZ, hby, hml, hown, hret, hlk, hsz⟩ := A
  subst hp
  subst hz
  exact K.goo fun t q => XS.ldiv X.here hx rfl (hb hby hd) rfl hy q
theorem s_irem (A : On l Z n0 own bytes maxL ret R p e s m args below meth c T h k n) {x y z : Int32} (hd : decode bytes pc = .ok (.irem, 1)) (hp : pc + 1 = pc') (hy : y ≠ 0) (hz : x % y = z) (K : Wp p e below s n0 ck cs Q (T.setTop (mkF m pc' Ls (.int z :: st)))) : Wp p e below s n0 ck cs Q (T.setTop (mkF m pc Ls (.int y :: .int x :: st))) := by
  obtain ⟨locs, X, N, eT, hx, hZ, hby, hml, hown, hret, hlk, hsz⟩ := A
  subst hp
  subst hz
  exact K.goo fun t q => iremM X hx rfl (hb hby hd) rfl hy q
theorem s_ineg (A : On l Z n0 own bytes maxL ret R p e s m args below meth c T h k n) {x z : Int32} (hd : decode bytes pc = .ok (.ineg, 1)) (hp : pc + 1 = pc') (hz : -x = z) (K : Wp p e below s n0 ck cs Q (T.setTop (mkF m pc' Ls (.int z :: st)))) : Wp p e below s n0 ck cs Q (T.setTop (mkF m pc Ls (.int x :: st))) := by
  obtain ⟨locs, X, N, eT, hx, hZ, hby, hml, hown, hret, hlk, hsz⟩ := A
  subst hp
  subst hz
  exact K.goo fun t q => XS.ineg X.here hx rfl (hb hby hd) rfl q
theorem s_ishl (A : On l Z n0 own bytes maxL ret R p e s m args below meth c T h k n) {x y z : Int32} (hd : decode bytes pc = .ok (.ishl, 1)) (hp : pc + 1 = pc') (hz : x <<< (y &&& 31) = z) (K : Wp p e below s n0 ck cs Q (T.setTop (mkF m pc' Ls (.int z :: st)))) : Wp p e below s n0 ck cs Q (T.setTop (mkF m pc Ls (.int y :: .int x :: st))) := by
  obtain ⟨locs, X, N, eT, hx, hZ, hby, hml, hown, hret, hlk, hsz⟩ := A
  subst hp
  subst hz
  exact K.goo fun t q => XS.ishl X.here hx rfl (hb hby hd) rfl q
theorem s_ishr (A : On l Z n0 own bytes maxL ret R p e s m args below meth c T h k n) {x y z : Int32} (hd : decode bytes pc = .ok (.ishr, 1)) (hp : pc + 1 = pc') (hz : x >>> (y &&& 31) = z) (K : Wp p e below s n0 ck cs Q (T.setTop (mkF m pc' Ls (.int z :: st)))) : Wp p e below s n0 ck cs Q (T.setTop (mkF m pc Ls (.int y :: .int x :: st))) := by
  obtain ⟨locs, X, N, eT, hx, hZ, hby, hml, hown, hret, hlk, hsz⟩ := A
  subst hp
  subst hz
  exact K.goo fun t q => XS.ishr X.here hx rfl (hb hby hd) rfl q
theorem s_iushr (A : On l Z n0 own bytes maxL ret R p e s m args below meth c T h k n) {x y z : Int32} (hd : decode bytes pc = .ok (.iushr, 1)) (hp : pc + 1 = pc') (hz : ush x y = z) (K : Wp p e below s n0 ck cs Q (T.setTop (mkF m pc' Ls (.int z :: st)))) : Wp p e below s n0 ck cs Q (T.setTop (mkF m pc Ls (.int y :: .int x :: st))) := by
  obtain ⟨locs, X, N, eT, hx, hZ, hby, hml, hown, hret, hlk, hsz⟩ := A
  subst hp
  subst hz
  exact K.goo fun t q => XS.iushr X.here hx rfl (hb hby hd) rfl q
theorem s_lshl (A : On l Z n0 own bytes maxL ret R p e s m args below meth c T h k n) {x z : Int64} {y : Int32} (hd : decode bytes pc = .ok (.lshl, 1)) (hp : pc + 1 = pc') (hz : x <<< (y &&& 0x3f).toInt64 = z) (K : Wp p e below s n0 ck cs Q (T.setTop (mkF m pc' Ls (.long z :: st)))) : Wp p e below s n0 ck cs Q (T.setTop (mkF m pc Ls (.int y :: .long x :: st))) := by
  obtain ⟨locs, X, N, eT, hx, hZ, hby, hml, hown, hret, hlk, hsz⟩ := A
  subst hp
  subst hz
  exact K.goo fun t q => XS.lshl X.here hx rfl (hb hby hd) rfl q
theorem s_lshr (A : On l Z n0 own bytes maxL ret R p e s m args below meth c T h k n) {x z : Int64} {y : Int32} (hd : decode bytes pc = .ok (.lshr, 1)) (hp : pc + 1 = pc') (hz : x >>> (y &&& 0x3f).toInt64 = z) (K : Wp p e below s n0 ck cs Q (T.setTop (mkF m pc' Ls (.long z :: st)))) : Wp p e below s n0 ck cs Q (T.setTop (mkF m pc Ls (.int y :: .long x :: st))) := by
  obtain ⟨locs, X, N, eT, hx, hZ, hby, hml, hown, hret, hlk, hsz⟩ := A
  subst hp
  subst hz
  exact K.goo fun t q => XS.lshr X.here hx rfl (hb hby hd) rfl q
theorem s_lushr (A : On l Z n0 own bytes maxL ret R p e s m args below meth c T h k n) {x z : Int64} {y : Int32} (hd : decode bytes pc = .ok (.lushr, 1)) (hp : pc + 1 = pc') (hz : ushL x y = z) (K : Wp p e below s n0 ck cs Q (T.setTop (mkF m pc' Ls (.long z :: st)))) : Wp p e below s n0 ck cs Q (T.setTop (mkF m pc Ls (.int y :: .long x :: st))) := by
  obtain ⟨locs, X, N, eT, hx, hZ, hby, hml, hown, hret, hlk, hsz⟩ := A
  subst hp
  subst hz
  exact K.goo fun t q => XS.lushr X.here hx rfl (hb hby hd) rfl q
theorem s_lcmp (A : On l Z n0 own bytes maxL ret R p e s m args below meth c T h k n) {x y : Int64} (hd : decode bytes pc = .ok (.lcmp, 1)) (hp : pc + 1 = pc') (K : Wp p e below s n0 ck cs Q (T.setTop (mkF m pc' Ls (.int (lcmpW x y) :: st)))) : Wp p e below s n0 ck cs Q (T.setTop (mkF m pc Ls (.long y :: .long x :: st))) := by
  obtain ⟨locs, X, N, eT, hx, hZ, hby, hml, hown, hret, hlk, hsz⟩ := A
  subst hp
  exact K.goo fun t q => XS.lcmp X.here hx rfl (hb hby hd) rfl q
theorem s_i2l (A : On l Z n0 own bytes maxL ret R p e s m args below meth c T h k n) {x : Int32} {z : Int64} (hd : decode bytes pc = .ok (.i2l, 1)) (hp : pc + 1 = pc') (hz : x.toInt64 = z) (K : Wp p e below s n0 ck cs Q (T.setTop (mkF m pc' Ls (.long z :: st)))) : Wp p e below s n0 ck cs Q (T.setTop (mkF m pc Ls (.int x :: st))) := by
  obtain ⟨locs, X, N, eT, hx, hZ, hby, hml, hown, hret, hlk, hsz⟩ := A
  subst hp
  subst hz
  exact K.goo fun t q => XS.i2l X.here hx rfl (hb hby hd) rfl q
theorem s_l2i (A : On l Z n0 own bytes maxL ret R p e s m args below meth c T h k n) {x : Int64} {z : Int32} (hd : decode bytes pc = .ok (.l2i, 1)) (hp : pc + 1 = pc') (hz : x.toInt32 = z) (K : Wp p e below s n0 ck cs Q (T.setTop (mkF m pc' Ls (.int z :: st)))) : Wp p e below s n0 ck cs Q (T.setTop (mkF m pc Ls (.long x :: st))) := by
  obtain ⟨locs, X, N, eT, hx, hZ, hby, hml, hown, hret, hlk, hsz⟩ := A
  subst hp
  subst hz
  exact K.goo fun t q => XS.l2i X.here hx rfl (hb hby hd) rfl q
theorem s_i2b (A : On l Z n0 own bytes maxL ret R p e s m args below meth c T h k n) {x z : Int32} (hd : decode bytes pc = .ok (.i2b, 1)) (hp : pc + 1 = pc') (hz : x.toInt8.toInt32 = z) (K : Wp p e below s n0 ck cs Q (T.setTop (mkF m pc' Ls (.int z :: st)))) : Wp p e below s n0 ck cs Q (T.setTop (mkF m pc Ls (.int x :: st))) := by
  obtain ⟨locs, X, N, eT, hx, hZ, hby, hml, hown, hret, hlk, hsz⟩ := A
  subst hp
  subst hz
  exact K.goo fun t q => XS.i2b X.here hx rfl (hb hby hd) rfl q
theorem s_dup (A : On l Z n0 own bytes maxL ret R p e s m args below meth c T h k n)  (hd : decode bytes pc = .ok (.dup, 1)) (hp : pc + 1 = pc') (hc : v.category = 1) (K : Wp p e below s n0 ck cs Q (T.setTop (mkF m pc' Ls (v :: v :: st)))) : Wp p e below s n0 ck cs Q (T.setTop (mkF m pc Ls (v :: st))) := by
  obtain ⟨locs, X, N, eT, hx, hZ, hby, hml, hown, hret, hlk, hsz⟩ := A
  subst hp
  exact K.goo fun t q => XS.dup X.here hx rfl (hb hby hd) rfl hc q
theorem s_dup2 (A : On l Z n0 own bytes maxL ret R p e s m args below meth c T h k n)  (hd : decode bytes pc = .ok (.dup2, 1)) (hp : pc + 1 = pc') (hc : v.category = 1) (hc' : w.category = 1) (K : Wp p e below s n0 ck cs Q (T.setTop (mkF m pc' Ls (v :: w :: v :: w :: st)))) : Wp p e below s n0 ck cs Q (T.setTop (mkF m pc Ls (v :: w :: st))) := by
  obtain ⟨locs, X, N, eT, hx, hZ, hby, hml, hown, hret, hlk, hsz⟩ := A
  subst hp
  exact K.goo fun t q => XT.dup2 X.here hx rfl (hb hby hd) rfl hc hc' q
theorem s_dup2L (A : On l Z n0 own bytes maxL ret R p e s m args below meth c T h k n) {x : Int64} (hd : decode bytes pc = .ok (.dup2, 1)) (hp : pc + 1 = pc') (K : Wp p e below s n0 ck cs Q (T.setTop (mkF m pc' Ls (.long x :: .long x :: st)))) : Wp p e below s n0 ck cs Q (T.setTop (mkF m pc Ls (.long x :: st))) := by
  obtain ⟨locs, X, N, eT, hx, hZ, hby, hml, hown, hret, hlk, hsz⟩ := A
  subst hp
  exact K.goo fun t q => XT.dup2L X.here hx rfl (hb hby hd) rfl q
theorem s_dupX1 (A : On l Z n0 own bytes maxL ret R p e s m args below meth c T h k n)  (hd : decode bytes pc = .ok (.dup_x1, 1)) (hp : pc + 1 = pc') (hc : v.category = 1) (hc' : w.category = 1) (K : Wp p e below s n0 ck cs Q (T.setTop (mkF m pc' Ls (v :: w :: v :: st)))) : Wp p e below s n0 ck cs Q (T.setTop (mkF m pc Ls (v :: w :: st))) := by
  obtain ⟨locs, X, N, eT, hx, hZ, hby, hml, hown, hret, hlk, hsz⟩ := A
  subst hp
  exact K.goo fun t q => XS.dupX1 X.here hx rfl (hb hby hd) rfl hc hc' q
theorem s_dup2X1L (A : On l Z n0 own bytes maxL ret R p e s m args below meth c T h k n) {x : Int64} (hd : decode bytes pc = .ok (.dup2_x1, 1)) (hp : pc + 1 = pc') (hc' : w.category = 1) (K : Wp p e below s n0 ck cs Q (T.setTop (mkF m pc' Ls (.long x :: w :: .long x :: st)))) : Wp p e below s n0 ck cs Q (T.setTop (mkF m pc Ls (.long x :: w :: st))) := by
  obtain ⟨locs, X, N, eT, hx, hZ, hby, hml, hown, hret, hlk, hsz⟩ := A
  subst hp
  refine K.goo fun t q => ?_
  jvm_step X.here [X.here.top, hx, (hb hby hd), Value.category, hc']
  exact ⟨hc', q⟩
theorem s_pop (A : On l Z n0 own bytes maxL ret R p e s m args below meth c T h k n)  (hd : decode bytes pc = .ok (.pop, 1)) (hp : pc + 1 = pc') (hc : v.category = 1) (K : Wp p e below s n0 ck cs Q (T.setTop (mkF m pc' Ls st))) : Wp p e below s n0 ck cs Q (T.setTop (mkF m pc Ls (v :: st))) := by
  obtain ⟨locs, X, N, eT, hx, hZ, hby, hml, hown, hret, hlk, hsz⟩ := A
  subst hp
  exact K.goo fun t q => XS.pop X.here hx rfl (hb hby hd) rfl hc q
theorem s_pop2L (A : On l Z n0 own bytes maxL ret R p e s m args below meth c T h k n) {x : Int64} (hd : decode bytes pc = .ok (.pop2, 1)) (hp : pc + 1 = pc') (K : Wp p e below s n0 ck cs Q (T.setTop (mkF m pc' Ls st))) : Wp p e below s n0 ck cs Q (T.setTop (mkF m pc Ls (.long x :: st))) := by
  obtain ⟨locs, X, N, eT, hx, hZ, hby, hml, hown, hret, hlk, hsz⟩ := A
  subst hp
  refine K.goo fun t q => ?_
  jvm_step X.here [X.here.top, hx, (hb hby hd), Value.category]
  exact q
theorem s_iinc (A : On l Z n0 own bytes maxL ret R p e s m args below meth c T h k n) {i : Nat} {j : Int} {x z : Int32} (hd : decode bytes pc = .ok (.iinc i j, 3)) (hp : pc + 3 = pc') (hl : Ls[i]? = some (.val (.int x))) (hz : x + Int32.ofInt j = z) (hs : storeLocals Ls i (.int z) = some Ls') (K : Wp p e below s n0 ck cs Q (T.setTop (mkF m pc' Ls' st))) : Wp p e below s n0 ck cs Q (T.setTop (mkF m pc Ls st)) := by
  obtain ⟨locs, X, N, eT, hx, hZ, hby, hml, hown, hret, hlk, hsz⟩ := A
  subst hp
  subst hz
  exact K.goo fun t q => XS.iinc X.here hx rfl (hb hby hd) hl hs q
theorem s_goto (A : On l Z n0 own bytes maxL ret R p e s m args below meth c T h k n)  {o : Int} (hd : decode bytes pc = .ok (.goto o, 3))  (ho : 0 ≤ (pc : Int) + o) (hp : ((pc : Int) + o).toNat = pc') (K : Wp p e below s n0 ck cs Q (T.setTop (mkF m pc' Ls st))) : Wp p e below s n0 ck cs Q (T.setTop (mkF m pc Ls st)) := by
  obtain ⟨locs, X, N, eT, hx, hZ, hby, hml, hown, hret, hlk, hsz⟩ := A
  exact K.goo fun t q => XS.goto X.here hx rfl (pc0 := pc) rfl (hb hby hd) ho hp q
theorem s_ifY (A : On l Z n0 own bytes maxL ret R p e s m args below meth c T h k n) {cd : ClassFile.Cond} {x : Int32} {o : Int} (hd : decode bytes pc = .ok (.ifCond cd o, 3)) (hc : ifCond.holds cd x = true) (ho : 0 ≤ (pc : Int) + o) (hp : ((pc : Int) + o).toNat = pc') (K : Wp p e below s n0 ck cs Q (T.setTop (mkF m pc' Ls st))) : Wp p e below s n0 ck cs Q (T.setTop (mkF m pc Ls (.int x :: st))) := by
  obtain ⟨locs, X, N, eT, hx, hZ, hby, hml, hown, hret, hlk, hsz⟩ := A
  exact K.goo fun t q => XS.ifYes X.here hx rfl (pc0 := pc) rfl (hb hby hd) rfl hc ho hp q
theorem s_icmpY (A : On l Z n0 own bytes maxL ret R p e s m args below meth c T h k n) {cd : ClassFile.Cond} {x y : Int32} {o : Int} (hd : decode bytes pc = .ok (.if_icmp cd o, 3)) (hc : if_icmp.holds cd x y = true) (ho : 0 ≤ (pc : Int) + o) (hp : ((pc : Int) + o).toNat = pc') (K : Wp p e below s n0 ck cs Q (T.setTop (mkF m pc' Ls st))) : Wp p e below s n0 ck cs Q (T.setTop (mkF m pc Ls (.int y :: .int x :: st))) := by
  obtain ⟨locs, X, N, eT, hx, hZ, hby, hml, hown, hret, hlk, hsz⟩ := A
  exact K.goo fun t q => XS.icmpYes X.here hx rfl (pc0 := pc) rfl (hb hby hd) rfl hc ho hp q
theorem s_ifnullY (A : On l Z n0 own bytes maxL ret R p e s m args below meth c T h k n)  {o : Int} (hd : decode bytes pc = .ok (.ifnull o, 3))  (ho : 0 ≤ (pc : Int) + o) (hp : ((pc : Int) + o).toNat = pc') (K : Wp p e below s n0 ck cs Q (T.setTop (mkF m pc' Ls st))) : Wp p e below s n0 ck cs Q (T.setTop (mkF m pc Ls (.null :: st))) := by
  obtain ⟨locs, X, N, eT, hx, hZ, hby, hml, hown, hret, hlk, hsz⟩ := A
  exact K.goo fun t q => XS.ifnullYes X.here hx rfl (pc0 := pc) rfl (hb hby hd) rfl ho hp q
theorem s_ifnonnullY (A : On l Z n0 own bytes maxL ret R p e s m args below meth c T h k n)  {o : Int} (hd : decode bytes pc = .ok (.ifnonnull o, 3))  (ho : 0 ≤ (pc : Int) + o) (hp : ((pc : Int) + o).toNat = pc') (K : Wp p e below s n0 ck cs Q (T.setTop (mkF m pc' Ls st))) : Wp p e below s n0 ck cs Q (T.setTop (mkF m pc Ls (.ref b :: st))) := by
  obtain ⟨locs, X, N, eT, hx, hZ, hby, hml, hown, hret, hlk, hsz⟩ := A
  exact K.goo fun t q => XS.ifnonnullYes X.here hx rfl (pc0 := pc) rfl (hb hby hd) rfl ho hp q
theorem s_acmpY (A : On l Z n0 own bytes maxL ret R p e s m args below meth c T h k n) {cd : ACond} {o : Int} (hd : decode bytes pc = .ok (.if_acmp cd o, 3)) (hv : v.isRef = true) (hw : w.isRef = true) (hc : XT.acmp cd v w = true) (ho : 0 ≤ (pc : Int) + o) (hp : ((pc : Int) + o).toNat = pc') (K : Wp p e below s n0 ck cs Q (T.setTop (mkF m pc' Ls st))) : Wp p e below s n0 ck cs Q (T.setTop (mkF m pc Ls (w :: v :: st))) := by
  obtain ⟨locs, X, N, eT, hx, hZ, hby, hml, hown, hret, hlk, hsz⟩ := A
  exact K.goo fun t q => XT.acmpYes X.here hx rfl (pc0 := pc) rfl (hb hby hd) rfl hv hw hc ho hp q
theorem s_ifN (A : On l Z n0 own bytes maxL ret R p e s m args below meth c T h k n) {cd : ClassFile.Cond} {x : Int32} {o : Int} (hd : decode bytes pc = .ok (.ifCond cd o, 3)) (hp : pc + 3 = pc') (hc : ifCond.holds cd x = false) (K : Wp p e below s n0 ck cs Q (T.setTop (mkF m pc' Ls st))) : Wp p e below s n0 ck cs Q (T.setTop (mkF m pc Ls (.int x :: st))) := by
  obtain ⟨locs, X, N, eT, hx, hZ, hby, hml, hown, hret, hlk, hsz⟩ := A
  subst hp
  exact K.goo fun t q => XS.ifNo X.here hx rfl (hb hby hd) rfl hc q
theorem s_icmpN (A : On l Z n0 own bytes maxL ret R p e s m args below meth c T h k n) {cd : ClassFile.Cond} {x y : Int32} {o : Int} (hd : decode bytes pc = .ok (.if_icmp cd o, 3)) (hp : pc + 3 = pc') (hc : if_icmp.holds cd x y = false) (K : Wp p e below s n0 ck cs Q (T.setTop (mkF m pc' Ls st))) : Wp p e below s n0 ck cs Q (T.setTop (mkF m pc Ls (.int y :: .int x :: st))) := by
  obtain ⟨locs, X, N, eT, hx, hZ, hby, hml, hown, hret, hlk, hsz⟩ := A
  subst hp
  exact K.goo fun t q => XS.icmpNo X.here hx rfl (hb hby hd) rfl hc q
theorem s_ifnullN (A : On l Z n0 own bytes maxL ret R p e s m args below meth c T h k n) {o : Int} (hd : decode bytes pc = .ok (.ifnull o, 3)) (hp : pc + 3 = pc') (K : Wp p e below s n0 ck cs Q (T.setTop (mkF m pc' Ls st))) : Wp p e below s n0 ck cs Q (T.setTop (mkF m pc Ls (.ref b :: st))) := by
  obtain ⟨locs, X, N, eT, hx, hZ, hby, hml, hown, hret, hlk, hsz⟩ := A
  subst hp
  exact K.goo fun t q => XS.ifnullNo X.here hx rfl (hb hby hd) rfl q
theorem s_ifnonnullN (A : On l Z n0 own bytes maxL ret R p e s m args below meth c T h k n) {o : Int} (hd : decode bytes pc = .ok (.ifnonnull o, 3)) (hp : pc + 3 = pc') (K : Wp p e below s n0 ck cs Q (T.setTop (mkF m pc' Ls st))) : Wp p e below s n0 ck cs Q (T.setTop (mkF m pc Ls (.null :: st))) := by
  obtain ⟨locs, X, N, eT, hx, hZ, hby, hml, hown, hret, hlk, hsz⟩ := A
  subst hp
  exact K.goo fun t q => XS.ifnonnullNo X.here hx rfl (hb hby hd) rfl q
theorem s_acmpN (A : On l Z n0 own bytes maxL ret R p e s m args below meth c T h k n) {cd : ACond} {o : Int} (hd : decode bytes pc = .ok (.if_acmp cd o, 3)) (hp : pc + 3 = pc') (hv : v.isRef = true) (hw : w.isRef = true) (hc : XT.acmp cd v w = false) (K : Wp p e below s n0 ck cs Q (T.setTop (mkF m pc' Ls st))) : Wp p e below s n0 ck cs Q (T.setTop (mkF m pc Ls (w :: v :: st))) := by
  obtain ⟨locs, X, N, eT, hx, hZ, hby, hml, hown, hret, hlk, hsz⟩ := A
  subst hp
  exact K.goo fun t q => XT.acmpNo X.here hx rfl (hb hby hd) rfl hv hw hc q
theorem s_ldcInt (A : On l Z n0 own bytes maxL ret R p e s m args below meth c T h k n) {i : Nat} {z : Int32} (hd : decode bytes pc = .ok (.ldc i, 2)) (hp : pc + 2 = pc') (w0 : (Cond.constant own i z).before a0 Z = true) (K : Wp p e below s n0 ck cs Q (T.setTop (mkF m pc' Ls (.int z :: st)))) : Wp p e below s n0 ck cs Q (T.setTop (mkF m pc Ls st)) := by
  obtain ⟨locs, X, N, eT, hx, hZ, hby, hml, hown, hret, hlk, hsz⟩ := A
  subst hp
  exact K.goo fun t q => X.ldcInt hx hown (mvT hZ w0) (g := mkF m pc Ls st) rfl (hb hby hd) t q
theorem s_ldcwInt (A : On l Z n0 own bytes maxL ret R p e s m args below meth c T h k n) {i : Nat} {z : Int32} (hd : decode bytes pc = .ok (.ldc_w i, 3)) (hp : pc + 3 = pc') (w0 : (Cond.constant own i z).before a0 Z = true) (K : Wp p e below s n0 ck cs Q (T.setTop (mkF m pc' Ls (.int z :: st)))) : Wp p e below s n0 ck cs Q (T.setTop (mkF m pc Ls st)) := by
  obtain ⟨locs, X, N, eT, hx, hZ, hby, hml, hown, hret, hlk, hsz⟩ := A
  subst hp
  exact K.goo fun t q => X.ldcwInt hx hown (mvT hZ w0) (g := mkF m pc Ls st) rfl (hb hby hd) t q
theorem s_ldc2Long (A : On l Z n0 own bytes maxL ret R p e s m args below meth c T h k n) {i : Nat} {z : Int64} (hd : decode bytes pc = .ok (.ldc2_w i, 3)) (hp : pc + 3 = pc') (w0 : (Cond.constantLong own i z).before a0 Z = true) (K : Wp p e below s n0 ck cs Q (T.setTop (mkF m pc' Ls (.long z :: st)))) : Wp p e below s n0 ck cs Q (T.setTop (mkF m pc Ls st)) := by
  obtain ⟨locs, X, N, eT, hx, hZ, hby, hml, hown, hret, hlk, hsz⟩ := A
  subst hp
  exact K.goo fun t q => X.ldc2Long hx hown (mvT hZ w0) (g := mkF m pc Ls st) rfl (hb hby hd) t q
theorem idx_ok {j : Int32} {i : Nat} (hj : j.toInt = (i : Int)) : j.toNatClampNeg = i := by show j.toInt.toNat = i; omega
theorem idx_in' {j : Int32} {i : Nat} {N : Nat} (hj : j.toInt = (i : Int)) (hi : i < N) : ¬ (j < 0 ∨ N ≤ j.toNatClampNeg) := by
  rw [idx_ok hj, Int32.lt_iff_toInt_lt, hj]
  have : (0 : Int32).toInt = 0 := by decide
  omega
theorem s_getfield (A : On l Z n0 own bytes maxL ret R p e s m args below meth c T h k n) {index : Nat} {R0 O f d host : String} (w0 : (Cond.fieldLink own index R0 f d).before a0 Z = true ∨ (Cond.fieldLinkNest own index R0 f d host).before a0 Z = true) (via : Via Z R0 O f d) (F : Fld Z h a O f d v) (hd : decode bytes pc = .ok (.getfield index, 3)) (hp : pc + 3 = pc') (K : ∀ T' , On l Z n0 own bytes maxL ret R p e s m args below meth c T' h k n → Wp p e below s n0 ck cs Q (T'.setTop (mkF m pc' Ls (v :: st)))) : Wp p e below s n0 ck cs Q (T.setTop (mkF m pc Ls (.ref a :: st))) := by
  obtain ⟨locs, X, N, eT, hx, hZ, hby, hml, hown, hret, hlk, hsz⟩ := A
  subst hp
  obtain ⟨T', X', e', q⟩ := getF X hx hZ hown w0 via eT F (g := mkF m pc Ls (.ref a :: st)) rfl rfl (hb hby hd)
  exact (K T' ⟨_, X', N, e', hx, hZ, hby, hml, hown, hret, hlk, hsz⟩).goo q
theorem s_getstatic (A : On l Z n0 own bytes maxL ret R p e s m args below meth c T h k n) {index : Nat} {R0 O f d host : String} (w0 : (Cond.fieldLink own index R0 f d).before a0 Z = true ∨ (Cond.fieldLinkNest own index R0 f d host).before a0 Z = true) (via : Via Z R0 O f d) (F : Sta Z h O f d v) (hd : decode bytes pc = .ok (.getstatic index, 3)) (hp : pc + 3 = pc') (K : ∀ T' , On l Z n0 own bytes maxL ret R p e s m args below meth c T' h k n → Wp p e below s n0 ck cs Q (T'.setTop (mkF m pc' Ls (v :: st)))) : Wp p e below s n0 ck cs Q (T.setTop (mkF m pc Ls st)) := by
  obtain ⟨locs, X, N, eT, hx, hZ, hby, hml, hown, hret, hlk, hsz⟩ := A
  subst hp
  obtain ⟨T', X', e', q⟩ := getS2 X hx hZ hown w0 via eT F (g := mkF m pc Ls st) rfl (hb hby hd)
  exact (K T' ⟨_, X', N, e', hx, hZ, hby, hml, hown, hret, hlk, hsz⟩).goo q
theorem s_putfield (A : On l Z n0 own bytes maxL ret R p e s m args below meth c T h k n) {index kk : Nat} {R0 O f d host C : String} (w0 : (Cond.fieldLink own index R0 f d).before a0 Z = true ∨ (Cond.fieldLinkNest own index R0 f d host).before a0 Z = true) (via : Via Z R0 O f d) (F : Fld Z h a O f d w) (E : Exa Z h a C) (L : (Cond.lays C O f d).before a0 Z = true ∨ ((Cond.laysFinal C O f d).before a0 Z = true ∧ own = O ∧ meth.name = "<init>")) (wi : (Cond.instantiable C kk).before a0 Z = true) (hty : parseFieldDescriptor d = some ty) (hnar : narrow ty v = v) (hfit : fits ty v = true) (ha : n0 ≤ a) (hd : decode bytes pc = .ok (.putfield index, 3)) (hp : pc + 3 = pc') (K : ∀ T' h', On l Z n0 own bytes maxL ret R p e s m args below meth c T' h' k n → Wr h h' a (Jvm.RoadKit.slotOf Z O f d) v → Wp p e below s n0 ck cs Q (T'.setTop (mkF m pc' Ls st))) : Wp p e below s n0 ck cs Q (T.setTop (mkF m pc Ls (v :: .ref a :: st))) := by
  obtain ⟨locs, X, N, eT, hx, hZ, hby, hml, hown, hret, hlk, hsz⟩ := A
  subst hp
  obtain ⟨T', h', X', e', W, q⟩ := putF X hx hZ hown w0 via eT F E L wi hty hnar hfit (g := mkF m pc Ls (v :: .ref a :: st)) rfl rfl (hb hby hd)
  exact (K T' h' ⟨_, X', Fr.snoc X' N ha, e', hx, hZ, hby, hml, hown, hret, hlk, hsz⟩ W).goo q
theorem s_putfieldN (A : On l Z n0 own bytes maxL ret R p e s m args below meth c T h k n) {index kk : Nat} {R0 O f d C : String} {v' : Value} (w0 : (Cond.fieldLink own index R0 f d).before a0 Z = true) (via : Via Z R0 O f d) (F : Fld Z h a O f d w) (E : Exa Z h a C) (L : (Cond.lays C O f d).before a0 Z = true ∨ ((Cond.laysFinal C O f d).before a0 Z = true ∧ own = O ∧ meth.name = "<init>")) (wi : (Cond.instantiable C kk).before a0 Z = true) (hty : parseFieldDescriptor d = some ty) (hnar : narrow ty v = v') (hfit : fits ty v' = true) (ha : n0 ≤ a) (hd : decode bytes pc = .ok (.putfield index, 3)) (hp : pc + 3 = pc') (K : ∀ T' h', On l Z n0 own bytes maxL ret R p e s m args below meth c T' h' k n → Wr h h' a (Jvm.RoadKit.slotOf Z O f d) v' → Wp p e below s n0 ck cs Q (T'.setTop (mkF m pc' Ls st))) : Wp p e below s n0 ck cs Q (T.setTop (mkF m pc Ls (v :: .ref a :: st))) := by
  obtain ⟨locs, X, N, eT, hx, hZ, hby, hml, hown, hret, hlk, hsz⟩ := A
  subst hp
  obtain ⟨T', h', X', e', W, q⟩ := putFN X hx hZ hown w0 via eT F E L wi hty hnar hfit (g := mkF m pc Ls (v :: .ref a :: st)) rfl rfl (hb hby hd)
  exact (K T' h' ⟨_, X', Fr.snoc X' N ha, e', hx, hZ, hby, hml, hown, hret, hlk, hsz⟩ W).goo q
theorem s_new (A : On l Z n0 own bytes maxL ret R p e s m args below meth c T h k n) {index ns : Nat} {C : String} (w0 : (Cond.classLink own index C).before a0 Z = true) (wi : (Cond.instantiable C ns).before a0 Z = true) (wz : (Cond.initialized C).before a0 Z = true) (hc : k + 1 ≤ R.cells) (hs : n + ns ≤ R.slots) (hd : decode bytes pc = .ok (.new index, 3)) (hp : pc + 3 = pc') (K : ∀ T' h' b, On l Z n0 own bytes maxL ret R p e s m args below meth c T' h' (k + 1) (n + ns) → h.size = b → n0 ≤ b → Ext h h' → Exa Z h' b C → (∀ {O nm d : String} {ty : FieldType}, Laid Z a0 C O nm d → parseFieldDescriptor d = some ty → Fld Z h' b O nm d (defaultValue ty)) → Wp p e below s n0 ck cs Q (T'.setTop (mkF m pc' Ls (.ref b :: st)))) : Wp p e below s n0 ck cs Q (T.setTop (mkF m pc Ls st)) := by
  obtain ⟨locs, X, N, eT, hx, hZ, hby, hml, hown, hret, hlk, hsz⟩ := A
  subst hp
  obtain ⟨T', h', X', e', E, A', D, -, q⟩ := newO X hx hZ hown w0 wi wz eT (g := mkF m pc Ls st) rfl (hb hby hd) hc hs
  have hz : n0 ≤ h.size := by rw [← eT]; exact Nat.le_trans hsz X.same.2.1
  exact (K T' h' _ ⟨_, X', N, e', hx, hZ, hby, hml, hown, hret, hlk, hsz⟩ rfl hz E A' D).goo q
theorem s_newarray (A : On l Z n0 own bytes maxL ret R p e s m args below meth c T h k n) {aty : ArrayType} {dv : Value} {z : Int32} {i cap : Nat} (hty : newarray.typeOf aty = ty) (hdv : defaultValue ty = dv) (wa : (Cond.arrayClass ty).before a0 Z = true) (hz : z.toInt = (i : Int)) (hcap : i ≤ cap) (hbig : cap * 8 ≤ 536870912) (hc : k + 1 ≤ R.cells) (hs : n + cap ≤ R.slots) (hd : decode bytes pc = .ok (.newarray aty, 2)) (hp : pc + 2 = pc') (K : ∀ T' h' b, On l Z n0 own bytes maxL ret R p e s m args below meth c T' h' (k + 1) (n + cap) → h.size = b → n0 ≤ b → Ext h h' → AA Z h' b ty (List.replicate i dv) → Wp p e below s n0 ck cs Q (T'.setTop (mkF m pc' Ls (.ref b :: st)))) : Wp p e below s n0 ck cs Q (T.setTop (mkF m pc Ls (.int z :: st))) := by
  obtain ⟨locs, X, N, eT, hx, hZ, hby, hml, hown, hret, hlk, hsz⟩ := A
  subst hp
  subst hty hdv
  have z0 : ¬ z < 0 := by rw [Int32.lt_iff_toInt_lt, hz]; have : (0 : Int32).toInt = 0 := by decide
                          omega
  obtain ⟨T', h', cA, X', e', E, A', q⟩ := newP X hx hZ wa eT (g := mkF m pc Ls (.int z :: st)) rfl (hb hby hd) rfl z0 (cap := cap) (by rw [idx_ok hz]; exact hcap) hbig hc hs
  have hz' : n0 ≤ h.size := by rw [← eT]; exact Nat.le_trans hsz X.same.2.1
  exact (K T' h' _ ⟨_, X', N, e', hx, hZ, hby, hml, hown, hret, hlk, hsz⟩ rfl hz' E (AA.new A' hz)).goo q
theorem s_iastore (A : On l Z n0 own bytes maxL ret R p e s m args below meth c T h k n) {x : Int32} {j : Int32} {i : Nat} (V : AA Z h a .int vs) (hj : j.toInt = (i : Int)) (hi : i < vs.length) (ha : n0 ≤ a) (hd : decode bytes pc = .ok (.iastore, 1)) (hp : pc + 1 = pc') (K : ∀ T' h', On l Z n0 own bytes maxL ret R p e s m args below meth c T' h' k n → Wr h h' a i (.int x) → AA Z h' a .int (vs.set i (.int x)) → Wp p e below s n0 ck cs Q (T'.setTop (mkF m pc' Ls st))) : Wp p e below s n0 ck cs Q (T.setTop (mkF m pc Ls (.int x :: .int j :: .ref a :: st))) := by
  obtain ⟨locs, X, N, eT, hx, hZ, hby, hml, hown, hret, hlk, hsz⟩ := A
  subst hp
  have V0 := V
  obtain ⟨cl, Ar, r1, r2⟩ := V0
  obtain ⟨T', h', X', e', W, q⟩ := stI X hx hZ eT Ar (j := j) (idx_in' hj (by rw [r1]; simpa using hi)) (g := mkF m pc Ls (.int x :: .int j :: .ref a :: st)) rfl rfl (hb hby hd)
  have W' := W
  rw [idx_ok hj] at W'
  exact (K T' h' ⟨_, X', Fr.snoc X' N ha, e', hx, hZ, hby, hml, hown, hret, hlk, hsz⟩ W' (V.set W')).goo q
theorem s_lastore (A : On l Z n0 own bytes maxL ret R p e s m args below meth c T h k n) {x : Int64} {j : Int32} {i : Nat} (V : AA Z h a .long vs) (hj : j.toInt = (i : Int)) (hi : i < vs.length) (ha : n0 ≤ a) (hd : decode bytes pc = .ok (.lastore, 1)) (hp : pc + 1 = pc') (K : ∀ T' h', On l Z n0 own bytes maxL ret R p e s m args below meth c T' h' k n → Wr h h' a i (.long x) → AA Z h' a .long (vs.set i (.long x)) → Wp p e below s n0 ck cs Q (T'.setTop (mkF m pc' Ls st))) : Wp p e below s n0 ck cs Q (T.setTop (mkF m pc Ls (.long x :: .int j :: .ref a :: st))) := by
  obtain ⟨locs, X, N, eT, hx, hZ, hby, hml, hown, hret, hlk, hsz⟩ := A
  subst hp
  have V0 := V
  obtain ⟨cl, Ar, r1, r2⟩ := V0
  obtain ⟨T', h', X', e', W, q⟩ := stJ X hx hZ eT Ar (j := j) (idx_in' hj (by rw [r1]; simpa using hi)) (g := mkF m pc Ls (.long x :: .int j :: .ref a :: st)) rfl rfl (hb hby hd)
  have W' := W
  rw [idx_ok hj] at W'
  exact (K T' h' ⟨_, X', Fr.snoc X' N ha, e', hx, hZ, hby, hml, hown, hret, hlk, hsz⟩ W' (V.set W')).goo q
theorem s_bastore (A : On l Z n0 own bytes maxL ret R p e s m args below meth c T h k n) {x : Int32} {j : Int32} {i : Nat} (V : AA Z h a .byte vs) (hj : j.toInt = (i : Int)) (hi : i < vs.length) (ha : n0 ≤ a) (hd : decode bytes pc = .ok (.bastore, 1)) (hp : pc + 1 = pc') (K : ∀ T' h', On l Z n0 own bytes maxL ret R p e s m args below meth c T' h' k n → Wr h h' a i (.int x.toInt8.toInt32) → AA Z h' a .byte (vs.set i (.int x.toInt8.toInt32)) → Wp p e below s n0 ck cs Q (T'.setTop (mkF m pc' Ls st))) : Wp p e below s n0 ck cs Q (T.setTop (mkF m pc Ls (.int x :: .int j :: .ref a :: st))) := by
  obtain ⟨locs, X, N, eT, hx, hZ, hby, hml, hown, hret, hlk, hsz⟩ := A
  subst hp
  have V0 := V
  obtain ⟨cl, Ar, r1, r2⟩ := V0
  obtain ⟨T', h', X', e', W, q⟩ := stB X hx hZ eT Ar (j := j) (idx_in' hj (by rw [r1]; simpa using hi)) (g := mkF m pc Ls (.int x :: .int j :: .ref a :: st)) rfl rfl (hb hby hd)
  have W' := W
  rw [idx_ok hj] at W'
  exact (K T' h' ⟨_, X', Fr.snoc X' N ha, e', hx, hZ, hby, hml, hown, hret, hlk, hsz⟩ W' (V.set W')).goo q
theorem s_iaload (A : On l Z n0 own bytes maxL ret R p e s m args below meth c T h k n) {j : Int32} {i : Nat} (V : AA Z h a .int vs) (hj : j.toInt = (i : Int)) (hv : vs[i]? = some v) (hd : decode bytes pc = .ok (.iaload, 1)) (hp : pc + 1 = pc') (K : Wp p e below s n0 ck cs Q (T.setTop (mkF m pc' Ls (v :: st)))) : Wp p e below s n0 ck cs Q (T.setTop (mkF m pc Ls (.int j :: .ref a :: st))) := by
  obtain ⟨locs, X, N, eT, hx, hZ, hby, hml, hown, hret, hlk, hsz⟩ := A
  subst hp
  obtain ⟨cl, Ar, r1, r2⟩ := V
  have hi : i < vs.length := (List.getElem?_eq_some_iff.mp hv).1
  exact K.goo fun t q => X.iaload hx (j := j) (v := v) (by rw [eT]; exact Ar.1) (State.isArrayOf_alike hZ.alike Ar.2.1) Ar.2.2 (idx_in' hj (by rw [r1]; simpa using hi)) (by rw [idx_ok hj, r1]; simpa using hv) (g := mkF m pc Ls (.int j :: .ref a :: st)) rfl rfl (hb hby hd) t q
theorem s_laload (A : On l Z n0 own bytes maxL ret R p e s m args below meth c T h k n) {j : Int32} {i : Nat} (V : AA Z h a .long vs) (hj : j.toInt = (i : Int)) (hv : vs[i]? = some v) (hd : decode bytes pc = .ok (.laload, 1)) (hp : pc + 1 = pc') (K : Wp p e below s n0 ck cs Q (T.setTop (mkF m pc' Ls (v :: st)))) : Wp p e below s n0 ck cs Q (T.setTop (mkF m pc Ls (.int j :: .ref a :: st))) := by
  obtain ⟨locs, X, N, eT, hx, hZ, hby, hml, hown, hret, hlk, hsz⟩ := A
  subst hp
  obtain ⟨cl, Ar, r1, r2⟩ := V
  have hi : i < vs.length := (List.getElem?_eq_some_iff.mp hv).1
  exact K.goo fun t q => X.laload hx (j := j) (v := v) (by rw [eT]; exact Ar.1) (State.isArrayOf_alike hZ.alike Ar.2.1) Ar.2.2 (idx_in' hj (by rw [r1]; simpa using hi)) (by rw [idx_ok hj, r1]; simpa using hv) (g := mkF m pc Ls (.int j :: .ref a :: st)) rfl rfl (hb hby hd) t q
theorem s_baload (A : On l Z n0 own bytes maxL ret R p e s m args below meth c T h k n) {j : Int32} {i : Nat} (V : AA Z h a .byte vs) (hj : j.toInt = (i : Int)) (hv : vs[i]? = some v) (hd : decode bytes pc = .ok (.baload, 1)) (hp : pc + 1 = pc') (K : Wp p e below s n0 ck cs Q (T.setTop (mkF m pc' Ls (v :: st)))) : Wp p e below s n0 ck cs Q (T.setTop (mkF m pc Ls (.int j :: .ref a :: st))) := by
  obtain ⟨locs, X, N, eT, hx, hZ, hby, hml, hown, hret, hlk, hsz⟩ := A
  subst hp
  obtain ⟨cl, Ar, r1, r2⟩ := V
  have hi : i < vs.length := (List.getElem?_eq_some_iff.mp hv).1
  exact K.goo fun t q => X.baloadBytes hx (j := j) (v := v) (by rw [eT]; exact Ar.1) (State.isArrayOf_alike hZ.alike Ar.2.1) Ar.2.2 (idx_in' hj (by rw [r1]; simpa using hi)) (by rw [idx_ok hj, r1]; simpa using hv) (g := mkF m pc Ls (.int j :: .ref a :: st)) rfl rfl (hb hby hd) t q
theorem s_arraylength (A : On l Z n0 own bytes maxL ret R p e s m args below meth c T h k n) {z : Int32} (V : AA Z h a ty vs) (hz : z.toInt = (vs.length : Int)) (hd : decode bytes pc = .ok (.arraylength, 1)) (hp : pc + 1 = pc') (K : Wp p e below s n0 ck cs Q (T.setTop (mkF m pc' Ls (.int z :: st)))) : Wp p e below s n0 ck cs Q (T.setTop (mkF m pc Ls (.ref a :: st))) := by
  obtain ⟨locs, X, N, eT, hx, hZ, hby, hml, hown, hret, hlk, hsz⟩ := A
  subst hp
  obtain ⟨cl, Ar, r1, r2⟩ := V
  have q0 : cl.slots.size.toInt32 = z := by
    rw [r1]; apply Int32.toInt_inj.mp; rw [len_toInt (by simpa using r2), hz]; simp
  exact K.goo fun t q => X.arraylength hx (by rw [eT]; exact Ar.1) (State.isArrayOf_alike hZ.alike Ar.2.1) (g := mkF m pc Ls (.ref a :: st)) rfl rfl (hb hby hd) t (by rw [q0]; exact q)
theorem s_static (A : On l Z n0 own bytes maxL ret R p e s m args below meth c T h k n) {index : Nat} {y : MethodName} {bytes' : ByteArray} {maxL' : Nat} {ret' : Option FieldType} {rm : Room} {argsL rest : List Value} {Q' : Option Value → Heap → Prop} (M : Met l Z n0 y bytes' maxL' ret' rm argsL.toArray h Q') (wl : (Cond.methodLink own index y).before a0 Z = true) (ws : (Cond.static y).before a0 Z = true) (wz : (Cond.initialized y.cls).before a0 Z = true) (wc : (Cond.code y bytes' maxL' ret').before a0 Z = true) (hy : y.cls ≠ "java/lang/invoke/MethodHandle" ∧ y.cls ≠ "java/lang/invoke/VarHandle") {sig : MethodDescriptor} (hsig : parseMethodDescriptor y.desc = some sig) (hlen : argsL.length = sig.parameters.length) {W : Nat} (hf : rm.frames + 1 ≤ R.frames) (hl : W + (maxL' + 11) + rm.locals ≤ R.locals) (hW : (rest.map fun v => v.category).sum ≤ W) (hc : k + rm.cells ≤ R.cells) (hs : n + rm.slots ≤ R.slots) (hLs : Ls.size = maxL) {stk : List Value} (hst : stk = argsL.reverse ++ rest) (hd : decode bytes pc = .ok (.invokestatic index, 3)) (hp : pc + 3 = pc') (K : ∀ T' h' v, On l Z n0 own bytes maxL ret R p e s m args below meth c T' h' (k + rm.cells) (n + rm.slots) → Q' v h' → Wp p e below s n0 ck cs Q (T'.setTop (mkF m pc' Ls (v.toList ++ rest)))) : Wp p e below s n0 ck cs Q (T.setTop (mkF m pc Ls stk)) := by
  obtain ⟨locs, X, N, eT, hx, hZ, hby, hml, hown, hret, hlk, hsz⟩ := A
  subst hp
  obtain ⟨v, _, ⟨T', L', k', n'⟩, -, X', ⟨Lc, ⟨Nq, hQ⟩, l1, l2, l3⟩, q⟩ := Jvm.LawKit.callS X hx (y := y) hown (mvT hZ wl) (mvT hZ ws) (mvT hZ wz) (mvT hZ wc) hy (backOf (Q := fun v h L => Fr n0 L ∧ Q' v h) (W := W) (M []) hZ wc wz hf hl) (g := mkF m pc Ls stk) rfl (by rw [hml]; exact hLs) (argsL := argsL) (rest := rest) (lenOf hsig hlen) hst (by show 2 * 0 + _ ≤ _; simpa using hW) (hb hby hd) (fun _ _ => ⟨rfl, eT, hc, hs⟩)
  dsimp only [Pt.U, Pt.locs, Pt.cells, Pt.slots] at X' l1 l2 l3 q hQ Nq
  subst l1 l2 l3
  exact (K T' T'.heap v ⟨_, X', Fr.app N Nq, rfl, hx, hZ, hby, hml, hown, hret, hlk, hsz⟩ hQ).goo q
theorem s_virtual (A : On l Z n0 own bytes maxL ret R p e s m args below meth c T h k n) {index : Nat} {y : MethodName} {bytes' : ByteArray} {maxL' : Nat} {ret' : Option FieldType} {rm : Room} {argsL rest : List Value} {Q' : Option Value → Heap → Prop} {C : String} {z : MethodName} (E : Exa Z h b C) (M : Met l Z n0 z bytes' maxL' ret' rm (.ref b :: argsL).toArray h Q') (wl : (Cond.methodLink own index y).before a0 Z = true) (wd : (Cond.declares y).before a0 Z = true) (wn : ∀ (args : Array Value) (s : State), Z.Warmed39 s.vm → NotFace s y) (wsel : (Cond.selects C y z).before a0 Z = true) (wim : (Cond.instanceMethod z).before a0 Z = true) (wz : (Cond.initialized z.cls).before a0 Z = true) (wc : (Cond.code z bytes' maxL' ret').before a0 Z = true) (hy : y.cls ≠ "java/lang/invoke/MethodHandle" ∧ y.cls ≠ "java/lang/invoke/VarHandle") {sig : MethodDescriptor} (hsig : parseMethodDescriptor y.desc = some sig) (hlen : argsL.length = sig.parameters.length) {W : Nat} (hf : rm.frames + 1 ≤ R.frames) (hl : W + (maxL' + 11) + rm.locals ≤ R.locals) (hW : (rest.map fun v => v.category).sum ≤ W) (hc : k + rm.cells ≤ R.cells) (hs : n + rm.slots ≤ R.slots) (hLs : Ls.size = maxL) {stk : List Value} (hst : stk = argsL.reverse ++ .ref b :: rest) (hd : decode bytes pc = .ok (.invokevirtual index, 3)) (hp : pc + 3 = pc') (K : ∀ T' h' v, On l Z n0 own bytes maxL ret R p e s m args below meth c T' h' (k + rm.cells) (n + rm.slots) → Q' v h' → Wp p e below s n0 ck cs Q (T'.setTop (mkF m pc' Ls (v.toList ++ rest)))) : Wp p e below s n0 ck cs Q (T.setTop (mkF m pc Ls stk)) := by
  obtain ⟨locs, X, N, eT, hx, hZ, hby, hml, hown, hret, hlk, hsz⟩ := A
  subst hp
  obtain ⟨cq, kq, qa, qb, qc⟩ := isOf hZ eT E
  obtain ⟨v, _, ⟨T', L', k', n'⟩, -, X', ⟨Lc, ⟨Nq, hQ⟩, l1, l2, l3⟩, q⟩ := X.virtualBack hx (y := y) (z := z) hown (mvT hZ wl) (mvT hZ wd) (wn #[] s hZ) (mvT hZ wsel) (mvT hZ wim) hy (backOf (Q := fun v h L => Fr n0 L ∧ Q' v h) (W := W) (M []) hZ wc wz hf hl) qa qc (g := mkF m pc Ls stk) rfl (by rw [hml]; exact hLs) (Steps.refl _) (argsL := argsL) (rest := rest) (lenOf hsig hlen) hst (by show 2 * 0 + _ ≤ _; simpa using hW) (hb hby hd) (fun _ _ => ⟨rfl, eT, hc, hs⟩)
  dsimp only [Pt.U, Pt.locs, Pt.cells, Pt.slots] at X' l1 l2 l3 q hQ Nq
  subst l1 l2 l3
  exact (K T' T'.heap v ⟨_, X', Fr.app N Nq, rfl, hx, hZ, hby, hml, hown, hret, hlk, hsz⟩ hQ).goo (fun t r => q.trans r)
theorem nf_same {y : MethodName} {C : String} (wsel : (Cond.selects y.cls y y).before a0 Z = true) : ∀ (args : Array Value) (s : State), Z.Warmed39 s.vm → NotFace s y := fun args s hZ => notFace_of_selects (args := #[]) (mvT hZ wsel)
theorem s_special (A : On l Z n0 own bytes maxL ret R p e s m args below meth c T h k n) {index : Nat} {y : MethodName} {bytes' : ByteArray} {maxL' : Nat} {rm : Room} {argsL rest : List Value} {Q' : Option Value → Heap → Prop} (M : Met l Z n0 y bytes' maxL' none rm (.ref b :: argsL).toArray h Q') (hy1 : y.name = "<init>") (wl : (Cond.methodLink own index y).before a0 Z = true) (wim : (Cond.instanceMethod y).before a0 Z = true) (wz : (Cond.initialized y.cls).before a0 Z = true) (wc : (Cond.code y bytes' maxL' none).before a0 Z = true) (hy : y.cls ≠ "java/lang/invoke/MethodHandle" ∧ y.cls ≠ "java/lang/invoke/VarHandle") {sig : MethodDescriptor} (hsig : parseMethodDescriptor y.desc = some sig) (hlen : argsL.length = sig.parameters.length) {W : Nat} (hf : rm.frames + 1 ≤ R.frames) (hl : W + (maxL' + 11) + rm.locals ≤ R.locals) (hW : (rest.map fun v => v.category).sum ≤ W) (hc : k + rm.cells ≤ R.cells) (hs : n + rm.slots ≤ R.slots) (hLs : Ls.size = maxL) {stk : List Value} (hst : stk = argsL.reverse ++ .ref b :: rest) (hd : decode bytes pc = .ok (.invokespecial index, 3)) (hp : pc + 3 = pc') (K : ∀ T' h' v, On l Z n0 own bytes maxL ret R p e s m args below meth c T' h' (k + rm.cells) (n + rm.slots) → Q' v h' → Wp p e below s n0 ck cs Q (T'.setTop (mkF m pc' Ls (v.toList ++ rest)))) : Wp p e below s n0 ck cs Q (T.setTop (mkF m pc Ls stk)) := by
  obtain ⟨locs, X, N, eT, hx, hZ, hby, hml, hown, hret, hlk, hsz⟩ := A
  subst hp
  obtain ⟨v, _, ⟨T', L', k', n'⟩, -, X', ⟨Lc, ⟨Nq, hQ⟩, l1, l2, l3⟩, q⟩ := X.specialBack hx (y := y) hy1 hown (mvT hZ wl) (mvT hZ wim) (mvT hZ wc) hy (backOf (Q := fun v h L => Fr n0 L ∧ Q' v h) (W := W) (M []) hZ wc wz hf hl) (g := mkF m pc Ls stk) rfl (by rw [hml]; exact hLs) (Steps.refl _) (a := b) (argsL := argsL) (rest := rest) (lenOf hsig hlen) hst (by show 2 * 0 + _ ≤ _; simpa using hW) (hb hby hd) (fun _ _ => ⟨rfl, eT, hc, hs⟩)
  dsimp only [Pt.U, Pt.locs, Pt.cells, Pt.slots] at X' l1 l2 l3 q hQ Nq
  subst l1 l2 l3
  exact (K T' T'.heap v ⟨_, X', Fr.app N Nq, rfl, hx, hZ, hby, hml, hown, hret, hlk, hsz⟩ hQ).goo (fun t r => q.trans r)
theorem s_private (A : On l Z n0 own bytes maxL ret R p e s m args below meth c T h k n) {index : Nat} {y : MethodName} {bytes' : ByteArray} {maxL' : Nat} {ret' : Option FieldType} {rm : Room} {argsL rest : List Value} {Q' : Option Value → Heap → Prop} {C : String} (E : Exa Z h b C) (M : Met l Z n0 y bytes' maxL' ret' rm (.ref b :: argsL).toArray h Q') (wl : (Cond.methodLink own index y).before a0 Z = true) (wim : (Cond.instanceMethod y).before a0 Z = true) {kk : Nat} (wi : (Cond.instantiable y.cls kk).before a0 Z = true) (wp : (Cond.privateMethod y).before a0 Z = true) (wz : (Cond.initialized y.cls).before a0 Z = true) (wc : (Cond.code y bytes' maxL' ret').before a0 Z = true) (hy : y.cls ≠ "java/lang/invoke/MethodHandle" ∧ y.cls ≠ "java/lang/invoke/VarHandle") {sig : MethodDescriptor} (hsig : parseMethodDescriptor y.desc = some sig) (hlen : argsL.length = sig.parameters.length) {W : Nat} (hf : rm.frames + 1 ≤ R.frames) (hl : W + (maxL' + 11) + rm.locals ≤ R.locals) (hW : (rest.map fun v => v.category).sum ≤ W) (hc : k + rm.cells ≤ R.cells) (hs : n + rm.slots ≤ R.slots) (hLs : Ls.size = maxL) {stk : List Value} (hst : stk = argsL.reverse ++ .ref b :: rest) (hd : decode bytes pc = .ok (.invokevirtual index, 3)) (hp : pc + 3 = pc') (K : ∀ T' h' v, On l Z n0 own bytes maxL ret R p e s m args below meth c T' h' (k + rm.cells) (n + rm.slots) → Q' v h' → Wp p e below s n0 ck cs Q (T'.setTop (mkF m pc' Ls (v.toList ++ rest)))) : Wp p e below s n0 ck cs Q (T.setTop (mkF m pc Ls stk)) := by
  obtain ⟨locs, X, N, eT, hx, hZ, hby, hml, hown, hret, hlk, hsz⟩ := A
  subst hp
  obtain ⟨cq, q0, q1⟩ := E.cell
  obtain ⟨ci, ki, i1, i2, -, i4, -⟩ := Cond.instantiable_spec (show (Cond.instantiable y.cls kk).before args s = true from mvT hZ wi)
  have i5 : ki.isInterface = false := by simp only [Bool.or_eq_false_iff] at i4; exact i4.1
  have hpriv := Cond.privateMethod_at (mvP hZ wp (args := args))
  have hsel := selects_self_of_private (args := args) i1 i2 i5 hpriv (mvT hZ wim) hy
  obtain ⟨v, _, ⟨T', L', k', n'⟩, -, X', ⟨Lc, ⟨Nq, hQ⟩, l1, l2, l3⟩, q⟩ := X.privateBack hx (y := y) hown (mvT hZ wl) (mvT hZ wim) hsel hpriv (mvT hZ wc) hy (backOf (Q := fun v h L => Fr n0 L ∧ Q' v h) (W := W) (M []) hZ wc wz hf hl) (g := mkF m pc Ls stk) rfl (by rw [hml]; exact hLs) (Steps.refl _) (a := b) (by rw [eT]; exact q0) q1 (argsL := argsL) (rest := rest) (lenOf hsig hlen) hst (by show 2 * 0 + _ ≤ _; simpa using hW) (hb hby hd) (fun _ _ => ⟨rfl, eT, hc, hs⟩)
  dsimp only [Pt.U, Pt.locs, Pt.cells, Pt.slots] at X' l1 l2 l3 q hQ Nq
  subst l1 l2 l3
  exact (K T' T'.heap v ⟨_, X', Fr.app N Nq, rfl, hx, hZ, hby, hml, hown, hret, hlk, hsz⟩ hQ).goo (fun t r => q.trans r)
theorem s_initO (A : On l Z n0 own bytes maxL ret R p e s m args below meth c T h k n) {index : Nat} (w1 : (Cond.methodLink own index Lib.objectInit).before a0 Z = true) (w2 : (Cond.instanceMethod Lib.objectInit).before a0 Z = true) (w3 : (Cond.code Lib.objectInit ⟨#[0xb1]⟩ 1 none).before a0 Z = true) {W : Nat} (hf : 1 ≤ R.frames) (hW : (st.map fun v => v.category).sum ≤ W) (hl : W + 12 ≤ R.locals) (hLs : Ls.size = maxL) (hd : decode bytes pc = .ok (.invokespecial index, 3)) (hp : pc + 3 = pc') (K : ∀ T', On l Z n0 own bytes maxL ret R p e s m args below meth c T' h k n → Wp p e below s n0 ck cs Q (T'.setTop (mkF m pc' Ls st))) : Wp p e below s n0 ck cs Q (T.setTop (mkF m pc Ls (.ref a :: st))) := by
  obtain ⟨locs, X, N, eT, hx, hZ, hby, hml, hown, hret, hlk, hsz⟩ := A
  subst hp
  obtain ⟨T', X', e', q⟩ := initO X hx hZ hown w1 w2 w3 eT (g := mkF m pc Ls (.ref a :: st)) rfl (by rw [hml]; exact hLs) rfl (hb hby hd) hf (W := W) (by show 2 * 0 + _ ≤ _; simpa using hW) hl
  exact (K T' ⟨_, X', N, e', hx, hZ, hby, hml, hown, hret, hlk, hsz⟩).goo q
theorem AA.arv (F : AA Z h a ty vs) (fit : ∀ v ∈ vs, fits ty v = true) (dv : Value) : ∃ (kc : ClassId) (z : Int32), z.toInt = (vs.length : Int) ∧ Arv Z h a kc ty z vs dv := by
  obtain ⟨c, A, r1, r2⟩ := F
  have ez : vs.length.toInt32.toInt = (vs.length : Int) := len_toInt r2
  have es : c.slots.size = vs.length := by rw [r1]; simp
  refine ⟨c.cls, vs.length.toInt32, ez, c, A, rfl, ?_, ?_, ?_, ?_⟩
  · rw [es, idx_ok ez]
  · rw [Int32.lt_iff_toInt_lt, ez]; have : (0 : Int32).toInt = 0 := by decide
    omega
  · intro q hq
    rw [es] at hq
    rw [r1]; simp [List.getD_eq_getElem?_getD, hq]
  · intro q hq
    rw [es] at hq
    have : vs.getD q dv = vs[q] := by simp [List.getD_eq_getElem?_getD, hq]
    rw [this]; exact fit _ (List.getElem_mem hq)
theorem aa_of_arv {kc : ClassId} {z : Int32} {dv : Value} (F : Arv Z h a kc ty z vs dv) (hl : z.toInt = (vs.length : Int)) : AA Z h a ty vs := by
  obtain ⟨c, A, q, S, N, H, G⟩ := F
  rw [idx_ok hl] at S
  refine ⟨c, A, ?_, ?_⟩
  · apply Array.ext
    · simp [S]
    · intro i h1 h2
      have := H i h1
      rw [Array.getElem?_eq_getElem h1] at this
      have h3 : i < vs.length := by simpa using h2
      simpa [List.getD_eq_getElem?_getD, h3] using this
  · have := z.toInt_lt; omega
theorem range_map (vs : List Value) (dv : Value) (i N : Nat) (hb : i + N ≤ vs.length) : (List.range N).map (fun q => vs.getD (i + q) dv) = (vs.drop i).take N := by
  apply List.ext_getElem
  · simp; omega
  · intro q h1 h2
    have h3 : q < N := by simpa using h1
    have h4 : i + q < vs.length := by omega
    simp [List.getD_eq_getElem?_getD, h4]
theorem s_arraycopy (A : On l Z n0 own bytes maxL ret R p e s m args below meth c T h k n) {index : Nat} {vd : List Value} {sp dp nn : Int32} {i j cnt : Nat} (w1 : (Cond.methodLink own index Jvm.Stand.acN).before a0 Z = true) (w2 : (Cond.native Jvm.Stand.acN).before a0 Z = true) (w3 : (Cond.static Jvm.Stand.acN).before a0 Z = true) (w4 : (Cond.initialized "java/lang/System").before a0 Z = true) (V : AA Z h a ty vs) (V' : AA Z h b ty vd) (fit : ∀ v ∈ vs, fits ty v = true) (fit' : ∀ v ∈ vd, fits ty v = true) (hpr : refKind ty = false) (hsp : sp.toInt = (i : Int)) (hdp : dp.toInt = (j : Int)) (hnn : nn.toInt = (cnt : Int)) (h4 : i + cnt ≤ vs.length) (h5 : j + cnt ≤ vd.length) (ge : n0 ≤ b) {W : Nat} (hf : 1 ≤ R.frames) (hW : (st.map fun v => v.category).sum ≤ W) (hlo : W + (nativeFrameWords "java/lang/System" "arraycopy" 5 + 11) ≤ R.locals) (hLs : Ls.size = maxL) (hd : decode bytes pc = .ok (.invokestatic index, 3)) (hp : pc + 3 = pc') (K : ∀ T' h', On l Z n0 own bytes maxL ret R p e s m args below meth c T' h' k n → Keep h h' [b] → AA Z h' b ty (vd.take j ++ (vs.drop i).take cnt ++ vd.drop (j + cnt)) → Wp p e below s n0 ck cs Q (T'.setTop (mkF m pc' Ls st))) : Wp p e below s n0 ck cs Q (T.setTop (mkF m pc Ls (.int nn :: .int dp :: .ref b :: .int sp :: .ref a :: st))) := by
  obtain ⟨locs, X, N, eT, hx, hZ, hby, hml, hown, hret, hlk, hsz⟩ := A
  subst hp
  obtain ⟨k1, z1, ez1, A1⟩ := V.arv fit .null
  obtain ⟨k2, z2, ez2, A2⟩ := V'.arv fit' .null
  have neg : ∀ {x : Int32} {q : Nat}, x.toInt = (q : Int) → ¬ x < 0 := fun {x q} hq => by
    rw [Int32.lt_iff_toInt_lt, hq]; have : (0 : Int32).toInt = 0 := by decide
    omega
  obtain ⟨T', h', L, X', e', N', K', A', q⟩ := cpA X hx hZ hown w1 w2 w3 w4 eT A1 A2 (us := (vs.drop i).take cnt) (sp := sp) (dp := dp) (nn := nn) (Or.inl ⟨rfl, hpr⟩) (neg hsp) (neg hdp) (neg hnn) (by rw [idx_ok hsp, idx_ok hnn, idx_ok ez1]; exact h4) (by rw [idx_ok hdp, idx_ok hnn, idx_ok ez2]; exact h5) (by rw [idx_ok hsp, idx_ok hnn]; exact (range_map vs _ i cnt h4).symm) (by rw [idx_ok hdp, idx_ok hnn]; exact h5) N ge (g := mkF m pc Ls (.int nn :: .int dp :: .ref b :: .int sp :: .ref a :: st)) rfl (by rw [hml]; exact hLs) rfl (hb hby hd) hf (W := W) (by show 2 * 0 + _ ≤ _; simpa using hW) hlo
  rw [idx_ok hdp, idx_ok hnn] at A'
  exact (K T' h' ⟨L, X', N', e', hx, hZ, hby, hml, hown, hret, hlk, hsz⟩ K' (aa_of_arv A' (by rw [ez2]; simp; omega))).goo q
theorem r_void (A : On l Z n0 own bytes maxL ret R p e s m args below meth c T h k n) (hr : ret = none) (hd : decode bytes pc = .ok (.return_, 1)) (hk : k ≤ ck) (hn : n ≤ cs) (q : Q none h) : Wp p e below s n0 ck cs Q (T.setTop (mkF m pc Ls [])) := by
  obtain ⟨locs, X, N, eT, hx, hZ, hby, hml, hown, hret, hlk, hsz⟩ := A
  have hR : meth.sig.returnType = none := hret.trans hr
  obtain ⟨fs, h1, hrun, hended, hW, hsame⟩ := X.leave (v := none) (fun _ => rfl) hlk
  exact ⟨_, _, X.returnOut hx hR (hb hby hd) h1, hrun, hended, _, _, rfl, ⟨N, by show Q none T.heap; rw [eT]; exact q⟩, ⟨_, rfl⟩, hW, hsame.mono hk hn⟩
theorem r_val (A : On l Z n0 own bytes maxL ret R p e s m args below meth c T h k n) {i : Instr} {t : FieldType} (hr : ret = some t) (hn0 : narrow t v = v) (hi : (i = .ireturn ∧ (t = .int ∨ t = .boolean ∨ t = .byte ∨ t = .char ∨ t = .short) ∧ ∃ z, v = .int z) ∨ (i = .lreturn ∧ t = .long ∧ ∃ z, v = .long z) ∨ (i = .dreturn ∧ t = .double ∧ ∃ z, v = .double z) ∨ (i = .freturn ∧ t = .float ∧ ∃ z, v = .float z) ∨ (i = .areturn ∧ t.isReference = true ∧ v.isRef = true)) (hd : decode bytes pc = .ok (i, 1)) (hk : k ≤ ck) (hn : n ≤ cs) (q : Q (some v) h) : Wp p e below s n0 ck cs Q (T.setTop (mkF m pc Ls (v :: st))) := by
  obtain ⟨locs, X, N, eT, hx, hZ, hby, hml, hown, hret, hlk, hsz⟩ := A
  have hR : meth.sig.returnType = some t := hret.trans hr
  obtain ⟨fs, h1, hrun, hended, hW, hsame⟩ := X.leave (v := some v) (fun z => by rw [hR] at z; cases z) hlk
  exact ⟨_, _, retOut X hx hR hn0 hi (hb hby hd) h1, hrun, hended, _, _, rfl, ⟨N, by show Q (some v) T.heap; rw [eT]; exact q⟩, ⟨_, rfl⟩, hW, hsame.mono hk hn⟩
theorem r_int (A : On l Z n0 own bytes maxL ret R p e s m args below meth c T h k n) {z : Int32} (hr : ret = some .int) (hd : decode bytes pc = .ok (.ireturn, 1)) (hk : k ≤ ck) (hn : n ≤ cs) (q : Q (some (.int z)) h) : Wp p e below s n0 ck cs Q (T.setTop (mkF m pc Ls (.int z :: st))) := r_val A hr rfl (Or.inl ⟨rfl, Or.inl rfl, _, rfl⟩) hd hk hn q
theorem r_bool (A : On l Z n0 own bytes maxL ret R p e s m args below meth c T h k n) {z : Int32} (hr : ret = some .boolean) (hz : z = 0 ∨ z = 1) (hd : decode bytes pc = .ok (.ireturn, 1)) (hk : k ≤ ck) (hn : n ≤ cs) (q : Q (some (.int z)) h) : Wp p e below s n0 ck cs Q (T.setTop (mkF m pc Ls (.int z :: st))) := r_val A hr (by rcases hz with rfl | rfl <;> rfl) (Or.inl ⟨rfl, Or.inr (Or.inl rfl), _, rfl⟩) hd hk hn q
theorem r_long (A : On l Z n0 own bytes maxL ret R p e s m args below meth c T h k n) {z : Int64} (hr : ret = some .long) (hd : decode bytes pc = .ok (.lreturn, 1)) (hk : k ≤ ck) (hn : n ≤ cs) (q : Q (some (.long z)) h) : Wp p e below s n0 ck cs Q (T.setTop (mkF m pc Ls (.long z :: st))) := r_val A hr rfl (Or.inr (Or.inl ⟨rfl, rfl, _, rfl⟩)) hd hk hn q
theorem r_ref (A : On l Z n0 own bytes maxL ret R p e s m args below meth c T h k n) {t : FieldType} (hr : ret = some t) (ht : t.isReference = true) (hv : v.isRef = true) (hd : decode bytes pc = .ok (.areturn, 1)) (hk : k ≤ ck) (hn : n ≤ cs) (q : Q (some v) h) : Wp p e below s n0 ck cs Q (T.setTop (mkF m pc Ls (v :: st))) := r_val A hr (by cases t <;> first | rfl | cases ht) (Or.inr (Or.inr (Or.inr (Or.inr ⟨rfl, ht, hv⟩)))) hd hk hn q
end Kit
end Jvm.Ow
namespace Jvm.Pilot.@@N@@
open Jvm Jvm.ClassFile Sem Op Lib Jvm.Free Jvm.Stand Jvm.LawKit Jvm.RoadKit Jvm.Ow Bundle Jvm.Pilot.@@N@@.Jvm.D
theorem d8_0 : decode prog_21_method_12_code 0 = .ok (.iload_n 1, 1) := by decide +kernel
theorem d8_1 : decode prog_21_method_12_code 1 = .ok (.ifCond .lt 11, 3) := by decide +kernel
theorem d8_4 : decode prog_21_method_12_code 4 = .ok (.iload_n 1, 1) := by decide +kernel
theorem d8_5 : decode prog_21_method_12_code 5 = .ok (.aload_n 0, 1) := by decide +kernel
theorem d8_6 : decode prog_21_method_12_code 6 = .ok (.getfield 13, 3) := by decide +kernel
theorem w18 {Z : State} {a0 : Array Value} (hw : ∀ d ∈ tables_1, d.before a0 Z = true) : (Jvm.Cond.fieldLink "com/example/keys_into_trees/keysintotrees/index/IntList" (13 : Nat) "com/example/keys_into_trees/keysintotrees/index/IntList" "size" "I").before a0 Z = true := hw _ (List.mem_of_getElem? (i := 18) rfl)
theorem d8_9 : decode prog_21_method_12_code 9 = .ok (.if_icmp .lt 21, 3) := by decide +kernel
theorem d8_30 : decode prog_21_method_12_code 30 = .ok (.return_, 1) := by decide +kernel
abbrev y0_checkIndex : MethodName := ⟨"com/example/keys_into_trees/keysintotrees/index/IntList", "checkIndex", "(I)V"⟩
theorem pn_com_example_keys_into_trees_keysintotrees_index_IntList : plainName "com/example/keys_into_trees/keysintotrees/index/IntList" = true := by first | (simp [plainName, overriddenIn]; done) | decide +kernel
abbrev c0_IntList : String := "com/example/keys_into_trees/keysintotrees/index/IntList"
theorem d1_0 : decode prog_21_method_1_code 0 = .ok (.aload_n 0, 1) := by decide +kernel
theorem d1_1 : decode prog_21_method_1_code 1 = .ok (.invokespecial 1, 3) := by decide +kernel
theorem w8 {Z : State} {a0 : Array Value} (hw : ∀ d ∈ tables_1, d.before a0 Z = true) : (Jvm.Cond.methodLink "com/example/keys_into_trees/keysintotrees/index/IntList" (1 : Nat) ({ cls := "java/lang/Object", name := "<init>", desc := "()V" } : Jvm.MethodName)).before a0 Z = true := hw _ (List.mem_of_getElem? (i := 8) rfl)
theorem w9 {Z : State} {a0 : Array Value} (hw : ∀ d ∈ tables_1, d.before a0 Z = true) : (Jvm.Cond.instanceMethod ({ cls := "java/lang/Object", name := "<init>", desc := "()V" } : Jvm.MethodName)).before a0 Z = true := hw _ (List.mem_of_getElem? (i := 9) rfl)
theorem w10 {Z : State} {a0 : Array Value} (hw : ∀ d ∈ tables_1, d.before a0 Z = true) : (Jvm.Cond.code ({ cls := "java/lang/Object", name := "<init>", desc := "()V" } : Jvm.MethodName) object_method_1_code (1 : Nat) (Option.none : Option Jvm.ClassFile.FieldType)).before a0 Z = true := hw _ (List.mem_of_getElem? (i := 10) rfl)
theorem d1_4 : decode prog_21_method_1_code 4 = .ok (.aload_n 0, 1) := by decide +kernel
theorem d1_5 : decode prog_21_method_1_code 5 = .ok (.bipush 8, 2) := by decide +kernel
theorem d1_7 : decode prog_21_method_1_code 7 = .ok (.newarray .int, 2) := by decide +kernel
theorem w1 {Z : State} {a0 : Array Value} (hw : ∀ d ∈ tables_1, d.before a0 Z = true) : (Jvm.Cond.arrayClass Jvm.ClassFile.FieldType.int).before a0 Z = true := hw _ (List.mem_of_getElem? (i := 1) rfl)
theorem d1_9 : decode prog_21_method_1_code 9 = .ok (.putfield 7, 3) := by decide +kernel
theorem w11 {Z : State} {a0 : Array Value} (hw : ∀ d ∈ tables_1, d.before a0 Z = true) : (Jvm.Cond.fieldLink "com/example/keys_into_trees/keysintotrees/index/IntList" (7 : Nat) "com/example/keys_into_trees/keysintotrees/index/IntList" "values" "[I").before a0 Z = true := hw _ (List.mem_of_getElem? (i := 11) rfl)
theorem w12 {Z : State} {a0 : Array Value} (hw : ∀ d ∈ tables_1, d.before a0 Z = true) : (Jvm.Cond.lays "com/example/keys_into_trees/keysintotrees/index/IntList" "com/example/keys_into_trees/keysintotrees/index/IntList" "values" "[I").before a0 Z = true := hw _ (List.mem_of_getElem? (i := 12) rfl)
theorem w3 {Z : State} {a0 : Array Value} (hw : ∀ d ∈ tables_1, d.before a0 Z = true) : (Jvm.Cond.instantiable "com/example/keys_into_trees/keysintotrees/index/IntList" (2 : Nat)).before a0 Z = true := hw _ (List.mem_of_getElem? (i := 3) rfl)
theorem d1_12 : decode prog_21_method_1_code 12 = .ok (.return_, 1) := by decide +kernel
theorem w19 {Z : State} {a0 : Array Value} (hw : ∀ d ∈ tables_1, d.before a0 Z = true) : (Jvm.Cond.lays "com/example/keys_into_trees/keysintotrees/index/IntList" "com/example/keys_into_trees/keysintotrees/index/IntList" "size" "I").before a0 Z = true := hw _ (List.mem_of_getElem? (i := 19) rfl)
theorem sn_IntList_size_values {Z : State} {a0 : Array Value} (hw : ∀ d ∈ tables_1, d.before a0 Z = true) : Jvm.RoadKit.slotOf Z "com/example/keys_into_trees/keysintotrees/index/IntList" "size" "I" ≠ Jvm.RoadKit.slotOf Z "com/example/keys_into_trees/keysintotrees/index/IntList" "values" "[I" := slot_ne (a0 := a0) (C := "com/example/keys_into_trees/keysintotrees/index/IntList") (Or.inl (w19 hw)) (Or.inl (w12 hw)) (by decide) (t := .int) (t' := (.array .int)) (by decide) (by decide)
abbrev y1_init : MethodName := ⟨"com/example/keys_into_trees/keysintotrees/index/IntList", "<init>", "()V"⟩
theorem d4_0 : decode prog_21_method_2_code 0 = .ok (.aload_n 0, 1) := by decide +kernel
theorem d4_1 : decode prog_21_method_2_code 1 = .ok (.getfield 13, 3) := by decide +kernel
theorem d4_4 : decode prog_21_method_2_code 4 = .ok (.ireturn, 1) := by decide +kernel
abbrev y2_size : MethodName := ⟨"com/example/keys_into_trees/keysintotrees/index/IntList", "size", "()I"⟩
theorem d7_0 : decode prog_21_method_4_code 0 = .ok (.aload_n 0, 1) := by decide +kernel
theorem d7_1 : decode prog_21_method_4_code 1 = .ok (.iload_n 1, 1) := by decide +kernel
theorem d7_2 : decode prog_21_method_4_code 2 = .ok (.invokevirtual 17, 3) := by decide +kernel
theorem w39 {Z : State} {a0 : Array Value} (hw : ∀ d ∈ tables_1, d.before a0 Z = true) : (Jvm.Cond.methodLink "com/example/keys_into_trees/keysintotrees/index/IntList" (17 : Nat) ({ cls := "com/example/keys_into_trees/keysintotrees/index/IntList", name := "checkIndex", desc := "(I)V" } : Jvm.MethodName)).before a0 Z = true := hw _ (List.mem_of_getElem? (i := 39) rfl)
theorem pd__I_V : parseMethodDescriptor "(I)V" = some ⟨[.int], none⟩ := by decide +kernel
theorem w4 {Z : State} {a0 : Array Value} (hw : ∀ d ∈ tables_1, d.before a0 Z = true) : (Jvm.Cond.initialized "com/example/keys_into_trees/keysintotrees/index/IntList").before a0 Z = true := hw _ (List.mem_of_getElem? (i := 4) rfl)
theorem w42 {Z : State} {a0 : Array Value} (hw : ∀ d ∈ tables_1, d.before a0 Z = true) : (Jvm.Cond.code ({ cls := "com/example/keys_into_trees/keysintotrees/index/IntList", name := "checkIndex", desc := "(I)V" } : Jvm.MethodName) prog_21_method_12_code (2 : Nat) (Option.none : Option Jvm.ClassFile.FieldType)).before a0 Z = true := hw _ (List.mem_of_getElem? (i := 42) rfl)
theorem w40 {Z : State} {a0 : Array Value} (hw : ∀ d ∈ tables_1, d.before a0 Z = true) : (Jvm.Cond.instanceMethod ({ cls := "com/example/keys_into_trees/keysintotrees/index/IntList", name := "checkIndex", desc := "(I)V" } : Jvm.MethodName)).before a0 Z = true := hw _ (List.mem_of_getElem? (i := 40) rfl)
theorem w41 {Z : State} {a0 : Array Value} (hw : ∀ d ∈ tables_1, d.before a0 Z = true) : (Jvm.Cond.privateMethod ({ cls := "com/example/keys_into_trees/keysintotrees/index/IntList", name := "checkIndex", desc := "(I)V" } : Jvm.MethodName)).before a0 Z = true := hw _ (List.mem_of_getElem? (i := 41) rfl)
theorem d7_5 : decode prog_21_method_4_code 5 = .ok (.aload_n 0, 1) := by decide +kernel
theorem d7_6 : decode prog_21_method_4_code 6 = .ok (.getfield 7, 3) := by decide +kernel
theorem d7_9 : decode prog_21_method_4_code 9 = .ok (.iload_n 1, 1) := by decide +kernel
theorem d7_10 : decode prog_21_method_4_code 10 = .ok (.iaload, 1) := by decide +kernel
theorem d7_11 : decode prog_21_method_4_code 11 = .ok (.ireturn, 1) := by decide +kernel
abbrev y3_get : MethodName := ⟨"com/example/keys_into_trees/keysintotrees/index/IntList", "get", "(I)I"⟩
theorem d6_0 : decode prog_21_method_7_code 0 = .ok (.aload_n 0, 1) := by decide +kernel
theorem d6_1 : decode prog_21_method_7_code 1 = .ok (.getfield 13, 3) := by decide +kernel
theorem d6_4 : decode prog_21_method_7_code 4 = .ok (.aload_n 0, 1) := by decide +kernel
theorem d6_5 : decode prog_21_method_7_code 5 = .ok (.getfield 7, 3) := by decide +kernel
theorem d6_8 : decode prog_21_method_7_code 8 = .ok (.arraylength, 1) := by decide +kernel
theorem d6_9 : decode prog_21_method_7_code 9 = .ok (.if_icmp .ne 23, 3) := by decide +kernel
theorem d6_32 : decode prog_21_method_7_code 32 = .ok (.aload_n 0, 1) := by decide +kernel
theorem d6_33 : decode prog_21_method_7_code 33 = .ok (.getfield 7, 3) := by decide +kernel
theorem d6_36 : decode prog_21_method_7_code 36 = .ok (.aload_n 0, 1) := by decide +kernel
theorem d6_37 : decode prog_21_method_7_code 37 = .ok (.dup, 1) := by decide +kernel
theorem d6_38 : decode prog_21_method_7_code 38 = .ok (.getfield 13, 3) := by decide +kernel
theorem d6_41 : decode prog_21_method_7_code 41 = .ok (.dup_x1, 1) := by decide +kernel
theorem d6_42 : decode prog_21_method_7_code 42 = .ok (.iconst 1, 1) := by decide +kernel
theorem d6_43 : decode prog_21_method_7_code 43 = .ok (.iadd, 1) := by decide +kernel
theorem d6_44 : decode prog_21_method_7_code 44 = .ok (.putfield 13, 3) := by decide +kernel
theorem d6_47 : decode prog_21_method_7_code 47 = .ok (.iload_n 1, 1) := by decide +kernel
theorem d6_48 : decode prog_21_method_7_code 48 = .ok (.iastore, 1) := by decide +kernel
theorem d6_49 : decode prog_21_method_7_code 49 = .ok (.return_, 1) := by decide +kernel
theorem sn_IntList_values_size {Z : State} {a0 : Array Value} (hw : ∀ d ∈ tables_1, d.before a0 Z = true) : Jvm.RoadKit.slotOf Z "com/example/keys_into_trees/keysintotrees/index/IntList" "values" "[I" ≠ Jvm.RoadKit.slotOf Z "com/example/keys_into_trees/keysintotrees/index/IntList" "size" "I" := slot_ne (a0 := a0) (C := "com/example/keys_into_trees/keysintotrees/index/IntList") (Or.inl (w12 hw)) (Or.inl (w19 hw)) (by decide) (t := (.array .int)) (t' := .int) (by decide) (by decide)
abbrev y4_add : MethodName := ⟨"com/example/keys_into_trees/keysintotrees/index/IntList", "add", "(I)V"⟩
theorem d3_0 : decode prog_21_method_10_code 0 = .ok (.iconst 0, 1) := by decide +kernel
theorem d3_1 : decode prog_21_method_10_code 1 = .ok (.istore_n 1, 1) := by decide +kernel
theorem d3_2 : decode prog_21_method_10_code 2 = .ok (.aload_n 0, 1) := by decide +kernel
theorem d3_3 : decode prog_21_method_10_code 3 = .ok (.getfield 13, 3) := by decide +kernel
theorem d3_6 : decode prog_21_method_10_code 6 = .ok (.iconst 1, 1) := by decide +kernel
theorem d3_7 : decode prog_21_method_10_code 7 = .ok (.isub, 1) := by decide +kernel
theorem d3_8 : decode prog_21_method_10_code 8 = .ok (.istore_n 2, 1) := by decide +kernel
theorem d3_9 : decode prog_21_method_10_code 9 = .ok (.iload_n 1, 1) := by decide +kernel
theorem d3_10 : decode prog_21_method_10_code 10 = .ok (.iload_n 2, 1) := by decide +kernel
theorem d3_11 : decode prog_21_method_10_code 11 = .ok (.if_icmp .ge 38, 3) := by decide +kernel
theorem d3_49 : decode prog_21_method_10_code 49 = .ok (.return_, 1) := by decide +kernel
abbrev y5_reverse : MethodName := ⟨"com/example/keys_into_trees/keysintotrees/index/IntList", "reverse", "()V"⟩
theorem d3_14 : decode prog_21_method_10_code 14 = .ok (.aload_n 0, 1) := by decide +kernel
theorem d3_15 : decode prog_21_method_10_code 15 = .ok (.getfield 7, 3) := by decide +kernel
theorem d3_18 : decode prog_21_method_10_code 18 = .ok (.iload_n 1, 1) := by decide +kernel
theorem d3_19 : decode prog_21_method_10_code 19 = .ok (.iaload, 1) := by decide +kernel
theorem d3_20 : decode prog_21_method_10_code 20 = .ok (.istore_n 3, 1) := by decide +kernel
theorem d3_21 : decode prog_21_method_10_code 21 = .ok (.aload_n 0, 1) := by decide +kernel
theorem d3_22 : decode prog_21_method_10_code 22 = .ok (.getfield 7, 3) := by decide +kernel
theorem d3_25 : decode prog_21_method_10_code 25 = .ok (.iload_n 1, 1) := by decide +kernel
theorem d3_26 : decode prog_21_method_10_code 26 = .ok (.aload_n 0, 1) := by decide +kernel
theorem d3_27 : decode prog_21_method_10_code 27 = .ok (.getfield 7, 3) := by decide +kernel
theorem d3_30 : decode prog_21_method_10_code 30 = .ok (.iload_n 2, 1) := by decide +kernel
theorem d3_31 : decode prog_21_method_10_code 31 = .ok (.iaload, 1) := by decide +kernel
theorem d3_32 : decode prog_21_method_10_code 32 = .ok (.iastore, 1) := by decide +kernel
theorem d3_33 : decode prog_21_method_10_code 33 = .ok (.aload_n 0, 1) := by decide +kernel
theorem d3_34 : decode prog_21_method_10_code 34 = .ok (.getfield 7, 3) := by decide +kernel
theorem d3_37 : decode prog_21_method_10_code 37 = .ok (.iload_n 2, 1) := by decide +kernel
theorem d3_38 : decode prog_21_method_10_code 38 = .ok (.iload_n 3, 1) := by decide +kernel
theorem d3_39 : decode prog_21_method_10_code 39 = .ok (.iastore, 1) := by decide +kernel
theorem d3_40 : decode prog_21_method_10_code 40 = .ok (.iinc 1 1, 3) := by decide +kernel
theorem d3_43 : decode prog_21_method_10_code 43 = .ok (.iinc 2 (-1), 3) := by decide +kernel
theorem d3_46 : decode prog_21_method_10_code 46 = .ok (.goto (-37), 3) := by decide +kernel
theorem d5_0 : decode method_3_code 0 = .ok (.iload_n 3, 1) := by decide +kernel
theorem d5_1 : decode method_3_code 1 = .ok (.iload_n 2, 1) := by decide +kernel
theorem d5_2 : decode method_3_code 2 = .ok (.if_icmp .ge 18, 3) := by decide +kernel
theorem d5_20 : decode method_3_code 20 = .ok (.iconst 1, 1) := by decide +kernel
theorem d5_21 : decode method_3_code 21 = .ok (.goto 4, 3) := by decide +kernel
theorem d5_25 : decode method_3_code 25 = .ok (.ireturn, 1) := by decide +kernel
abbrev y6_at : MethodName := ⟨"com/example/keys_into_trees/keysintotrees/index/IntListReversePinLaw", "at", "(Lcom/example/keys_into_trees/keysintotrees/index/IntList;[III)Z"⟩
theorem pn_com_example_keys_into_trees_keysintotrees_index_IntListReversePinLaw : plainName "com/example/keys_into_trees/keysintotrees/index/IntListReversePinLaw" = true := by first | (simp [plainName, overriddenIn]; done) | decide +kernel
abbrev c1_IntListReversePinLaw : String := "com/example/keys_into_trees/keysintotrees/index/IntListReversePinLaw"
theorem d5_5 : decode method_3_code 5 = .ok (.aload_n 0, 1) := by decide +kernel
theorem d5_6 : decode method_3_code 6 = .ok (.iload_n 3, 1) := by decide +kernel
theorem d5_7 : decode method_3_code 7 = .ok (.invokevirtual 28, 3) := by decide +kernel
theorem w34 {Z : State} {a0 : Array Value} (hw : ∀ d ∈ tables_1, d.before a0 Z = true) : (Jvm.Cond.methodLink "com/example/keys_into_trees/keysintotrees/index/IntListReversePinLaw" (28 : Nat) ({ cls := "com/example/keys_into_trees/keysintotrees/index/IntList", name := "get", desc := "(I)I" } : Jvm.MethodName)).before a0 Z = true := hw _ (List.mem_of_getElem? (i := 34) rfl)
theorem pd__I_I : parseMethodDescriptor "(I)I" = some ⟨[.int], some .int⟩ := by decide +kernel
theorem w38 {Z : State} {a0 : Array Value} (hw : ∀ d ∈ tables_1, d.before a0 Z = true) : (Jvm.Cond.code ({ cls := "com/example/keys_into_trees/keysintotrees/index/IntList", name := "get", desc := "(I)I" } : Jvm.MethodName) prog_21_method_4_code (2 : Nat) (Option.some Jvm.ClassFile.FieldType.int)).before a0 Z = true := hw _ (List.mem_of_getElem? (i := 38) rfl)
theorem w37 {Z : State} {a0 : Array Value} (hw : ∀ d ∈ tables_1, d.before a0 Z = true) : (Jvm.Cond.selects "com/example/keys_into_trees/keysintotrees/index/IntList" ({ cls := "com/example/keys_into_trees/keysintotrees/index/IntList", name := "get", desc := "(I)I" } : Jvm.MethodName) ({ cls := "com/example/keys_into_trees/keysintotrees/index/IntList", name := "get", desc := "(I)I" } : Jvm.MethodName)).before a0 Z = true := hw _ (List.mem_of_getElem? (i := 37) rfl)
theorem w35 {Z : State} {a0 : Array Value} (hw : ∀ d ∈ tables_1, d.before a0 Z = true) : (Jvm.Cond.declares ({ cls := "com/example/keys_into_trees/keysintotrees/index/IntList", name := "get", desc := "(I)I" } : Jvm.MethodName)).before a0 Z = true := hw _ (List.mem_of_getElem? (i := 35) rfl)
theorem w36 {Z : State} {a0 : Array Value} (hw : ∀ d ∈ tables_1, d.before a0 Z = true) : (Jvm.Cond.instanceMethod ({ cls := "com/example/keys_into_trees/keysintotrees/index/IntList", name := "get", desc := "(I)I" } : Jvm.MethodName)).before a0 Z = true := hw _ (List.mem_of_getElem? (i := 36) rfl)
theorem d5_10 : decode method_3_code 10 = .ok (.aload_n 1, 1) := by decide +kernel
theorem d5_11 : decode method_3_code 11 = .ok (.iload_n 2, 1) := by decide +kernel
theorem d5_12 : decode method_3_code 12 = .ok (.iconst 1, 1) := by decide +kernel
theorem d5_13 : decode method_3_code 13 = .ok (.isub, 1) := by decide +kernel
theorem d5_14 : decode method_3_code 14 = .ok (.iload_n 3, 1) := by decide +kernel
theorem d5_15 : decode method_3_code 15 = .ok (.isub, 1) := by decide +kernel
theorem d5_16 : decode method_3_code 16 = .ok (.iaload, 1) := by decide +kernel
theorem d5_17 : decode method_3_code 17 = .ok (.if_icmp .ne 7, 3) := by decide +kernel
theorem w0 {Z : State} {a0 : Array Value} (hw : ∀ d ∈ tables_1, d.before a0 Z = true) : (Jvm.Cond.constant "com/example/keys_into_trees/keysintotrees/index/IntListReversePinLaw" (7 : Nat) (2147483647 : Int32)).before a0 Z = true := hw _ (List.mem_of_getElem? (i := 0) rfl)
theorem w2 {Z : State} {a0 : Array Value} (hw : ∀ d ∈ tables_1, d.before a0 Z = true) : (Jvm.Cond.classLink "com/example/keys_into_trees/keysintotrees/index/IntListReversePinLaw" (8 : Nat) "com/example/keys_into_trees/keysintotrees/index/IntList").before a0 Z = true := hw _ (List.mem_of_getElem? (i := 2) rfl)
theorem w5 {Z : State} {a0 : Array Value} (hw : ∀ d ∈ tables_1, d.before a0 Z = true) : (Jvm.Cond.methodLink "com/example/keys_into_trees/keysintotrees/index/IntListReversePinLaw" (10 : Nat) ({ cls := "com/example/keys_into_trees/keysintotrees/index/IntList", name := "<init>", desc := "()V" } : Jvm.MethodName)).before a0 Z = true := hw _ (List.mem_of_getElem? (i := 5) rfl)
theorem pd___V : parseMethodDescriptor "()V" = some ⟨[], none⟩ := by decide +kernel
theorem w7 {Z : State} {a0 : Array Value} (hw : ∀ d ∈ tables_1, d.before a0 Z = true) : (Jvm.Cond.code ({ cls := "com/example/keys_into_trees/keysintotrees/index/IntList", name := "<init>", desc := "()V" } : Jvm.MethodName) prog_21_method_1_code (1 : Nat) (Option.none : Option Jvm.ClassFile.FieldType)).before a0 Z = true := hw _ (List.mem_of_getElem? (i := 7) rfl)
theorem w6 {Z : State} {a0 : Array Value} (hw : ∀ d ∈ tables_1, d.before a0 Z = true) : (Jvm.Cond.instanceMethod ({ cls := "com/example/keys_into_trees/keysintotrees/index/IntList", name := "<init>", desc := "()V" } : Jvm.MethodName)).before a0 Z = true := hw _ (List.mem_of_getElem? (i := 6) rfl)
theorem w13 {Z : State} {a0 : Array Value} (hw : ∀ d ∈ tables_1, d.before a0 Z = true) : (Jvm.Cond.methodLink "com/example/keys_into_trees/keysintotrees/index/IntListReversePinLaw" (15 : Nat) ({ cls := "com/example/keys_into_trees/keysintotrees/index/IntList", name := "reverse", desc := "()V" } : Jvm.MethodName)).before a0 Z = true := hw _ (List.mem_of_getElem? (i := 13) rfl)
theorem w17 {Z : State} {a0 : Array Value} (hw : ∀ d ∈ tables_1, d.before a0 Z = true) : (Jvm.Cond.code ({ cls := "com/example/keys_into_trees/keysintotrees/index/IntList", name := "reverse", desc := "()V" } : Jvm.MethodName) prog_21_method_10_code (4 : Nat) (Option.none : Option Jvm.ClassFile.FieldType)).before a0 Z = true := hw _ (List.mem_of_getElem? (i := 17) rfl)
theorem w16 {Z : State} {a0 : Array Value} (hw : ∀ d ∈ tables_1, d.before a0 Z = true) : (Jvm.Cond.selects "com/example/keys_into_trees/keysintotrees/index/IntList" ({ cls := "com/example/keys_into_trees/keysintotrees/index/IntList", name := "reverse", desc := "()V" } : Jvm.MethodName) ({ cls := "com/example/keys_into_trees/keysintotrees/index/IntList", name := "reverse", desc := "()V" } : Jvm.MethodName)).before a0 Z = true := hw _ (List.mem_of_getElem? (i := 16) rfl)
theorem w14 {Z : State} {a0 : Array Value} (hw : ∀ d ∈ tables_1, d.before a0 Z = true) : (Jvm.Cond.declares ({ cls := "com/example/keys_into_trees/keysintotrees/index/IntList", name := "reverse", desc := "()V" } : Jvm.MethodName)).before a0 Z = true := hw _ (List.mem_of_getElem? (i := 14) rfl)
theorem w15 {Z : State} {a0 : Array Value} (hw : ∀ d ∈ tables_1, d.before a0 Z = true) : (Jvm.Cond.instanceMethod ({ cls := "com/example/keys_into_trees/keysintotrees/index/IntList", name := "reverse", desc := "()V" } : Jvm.MethodName)).before a0 Z = true := hw _ (List.mem_of_getElem? (i := 15) rfl)
theorem w20 {Z : State} {a0 : Array Value} (hw : ∀ d ∈ tables_1, d.before a0 Z = true) : (Jvm.Cond.methodLink "com/example/keys_into_trees/keysintotrees/index/IntListReversePinLaw" (18 : Nat) ({ cls := "com/example/keys_into_trees/keysintotrees/index/IntList", name := "size", desc := "()I" } : Jvm.MethodName)).before a0 Z = true := hw _ (List.mem_of_getElem? (i := 20) rfl)
theorem pd___I : parseMethodDescriptor "()I" = some ⟨[], some .int⟩ := by decide +kernel
theorem w24 {Z : State} {a0 : Array Value} (hw : ∀ d ∈ tables_1, d.before a0 Z = true) : (Jvm.Cond.code ({ cls := "com/example/keys_into_trees/keysintotrees/index/IntList", name := "size", desc := "()I" } : Jvm.MethodName) prog_21_method_2_code (1 : Nat) (Option.some Jvm.ClassFile.FieldType.int)).before a0 Z = true := hw _ (List.mem_of_getElem? (i := 24) rfl)
theorem w23 {Z : State} {a0 : Array Value} (hw : ∀ d ∈ tables_1, d.before a0 Z = true) : (Jvm.Cond.selects "com/example/keys_into_trees/keysintotrees/index/IntList" ({ cls := "com/example/keys_into_trees/keysintotrees/index/IntList", name := "size", desc := "()I" } : Jvm.MethodName) ({ cls := "com/example/keys_into_trees/keysintotrees/index/IntList", name := "size", desc := "()I" } : Jvm.MethodName)).before a0 Z = true := hw _ (List.mem_of_getElem? (i := 23) rfl)
theorem w21 {Z : State} {a0 : Array Value} (hw : ∀ d ∈ tables_1, d.before a0 Z = true) : (Jvm.Cond.declares ({ cls := "com/example/keys_into_trees/keysintotrees/index/IntList", name := "size", desc := "()I" } : Jvm.MethodName)).before a0 Z = true := hw _ (List.mem_of_getElem? (i := 21) rfl)
theorem w22 {Z : State} {a0 : Array Value} (hw : ∀ d ∈ tables_1, d.before a0 Z = true) : (Jvm.Cond.instanceMethod ({ cls := "com/example/keys_into_trees/keysintotrees/index/IntList", name := "size", desc := "()I" } : Jvm.MethodName)).before a0 Z = true := hw _ (List.mem_of_getElem? (i := 22) rfl)
theorem w25 {Z : State} {a0 : Array Value} (hw : ∀ d ∈ tables_1, d.before a0 Z = true) : (Jvm.Cond.methodLink "com/example/keys_into_trees/keysintotrees/index/IntListReversePinLaw" (22 : Nat) ({ cls := "com/example/keys_into_trees/keysintotrees/index/IntListReversePinLaw", name := "at", desc := "(Lcom/example/keys_into_trees/keysintotrees/index/IntList;[III)Z" } : Jvm.MethodName)).before a0 Z = true := hw _ (List.mem_of_getElem? (i := 25) rfl)
theorem pd__Lcom_example_keys_into_trees_keysintotrees_index_IntList__III_Z : parseMethodDescriptor "(Lcom/example/keys_into_trees/keysintotrees/index/IntList;[III)Z" = some ⟨[(.object "com/example/keys_into_trees/keysintotrees/index/IntList"), (.array .int), .int, .int], some .boolean⟩ := by decide +kernel
theorem w27 {Z : State} {a0 : Array Value} (hw : ∀ d ∈ tables_1, d.before a0 Z = true) : (Jvm.Cond.initialized "com/example/keys_into_trees/keysintotrees/index/IntListReversePinLaw").before a0 Z = true := hw _ (List.mem_of_getElem? (i := 27) rfl)
theorem w28 {Z : State} {a0 : Array Value} (hw : ∀ d ∈ tables_1, d.before a0 Z = true) : (Jvm.Cond.code ({ cls := "com/example/keys_into_trees/keysintotrees/index/IntListReversePinLaw", name := "at", desc := "(Lcom/example/keys_into_trees/keysintotrees/index/IntList;[III)Z" } : Jvm.MethodName) method_3_code (4 : Nat) (Option.some Jvm.ClassFile.FieldType.boolean)).before a0 Z = true := hw _ (List.mem_of_getElem? (i := 28) rfl)
theorem w26 {Z : State} {a0 : Array Value} (hw : ∀ d ∈ tables_1, d.before a0 Z = true) : (Jvm.Cond.static ({ cls := "com/example/keys_into_trees/keysintotrees/index/IntListReversePinLaw", name := "at", desc := "(Lcom/example/keys_into_trees/keysintotrees/index/IntList;[III)Z" } : Jvm.MethodName)).before a0 Z = true := hw _ (List.mem_of_getElem? (i := 26) rfl)
theorem w29 {Z : State} {a0 : Array Value} (hw : ∀ d ∈ tables_1, d.before a0 Z = true) : (Jvm.Cond.methodLink "com/example/keys_into_trees/keysintotrees/index/IntListReversePinLaw" (11 : Nat) ({ cls := "com/example/keys_into_trees/keysintotrees/index/IntList", name := "add", desc := "(I)V" } : Jvm.MethodName)).before a0 Z = true := hw _ (List.mem_of_getElem? (i := 29) rfl)
theorem w33 {Z : State} {a0 : Array Value} (hw : ∀ d ∈ tables_1, d.before a0 Z = true) : (Jvm.Cond.code ({ cls := "com/example/keys_into_trees/keysintotrees/index/IntList", name := "add", desc := "(I)V" } : Jvm.MethodName) prog_21_method_7_code (2 : Nat) (Option.none : Option Jvm.ClassFile.FieldType)).before a0 Z = true := hw _ (List.mem_of_getElem? (i := 33) rfl)
theorem w32 {Z : State} {a0 : Array Value} (hw : ∀ d ∈ tables_1, d.before a0 Z = true) : (Jvm.Cond.selects "com/example/keys_into_trees/keysintotrees/index/IntList" ({ cls := "com/example/keys_into_trees/keysintotrees/index/IntList", name := "add", desc := "(I)V" } : Jvm.MethodName) ({ cls := "com/example/keys_into_trees/keysintotrees/index/IntList", name := "add", desc := "(I)V" } : Jvm.MethodName)).before a0 Z = true := hw _ (List.mem_of_getElem? (i := 32) rfl)
theorem w30 {Z : State} {a0 : Array Value} (hw : ∀ d ∈ tables_1, d.before a0 Z = true) : (Jvm.Cond.declares ({ cls := "com/example/keys_into_trees/keysintotrees/index/IntList", name := "add", desc := "(I)V" } : Jvm.MethodName)).before a0 Z = true := hw _ (List.mem_of_getElem? (i := 30) rfl)
theorem w31 {Z : State} {a0 : Array Value} (hw : ∀ d ∈ tables_1, d.before a0 Z = true) : (Jvm.Cond.instanceMethod ({ cls := "com/example/keys_into_trees/keysintotrees/index/IntList", name := "add", desc := "(I)V" } : Jvm.MethodName)).before a0 Z = true := hw _ (List.mem_of_getElem? (i := 31) rfl)
def Lst (Z : State) (n0 : Nat) (h : Heap) (a arr : Addr) (n : Int32) (vs : List Value) : Prop :=
  Exa Z h a "com/example/keys_into_trees/keysintotrees/index/IntList" ∧ Fld Z h a "com/example/keys_into_trees/keysintotrees/index/IntList" "values" "[I" (.ref arr) ∧ Fld Z h a "com/example/keys_into_trees/keysintotrees/index/IntList" "size" "I" (.int n) ∧ AA Z h arr .int vs ∧ a ≠ arr ∧ n0 ≤ a ∧ n0 ≤ arr
theorem Lst.keep {Z : State} {n0 : Nat} {h h' : Heap} {a arr : Addr} {n : Int32} {vs : List Value} {ws : List Addr} (H : Lst Z n0 h a arr n vs) (K : Keep h h' ws) (q1 : a ∉ ws) (q2 : arr ∉ ws) : Lst Z n0 h' a arr n vs :=
  ⟨H.1.keep K, H.2.1.keep K q1, H.2.2.1.keep K q1, H.2.2.2.1.keep K q2, H.2.2.2.2⟩
set_option maxRecDepth 65536 in
set_option maxHeartbeats 40000000 in
theorem l_chk (l : Launch) (Z : State) (a0 : Array Value) (hw : ∀ d ∈ tables_1, d.before a0 Z = true) (n0 : Nat) (h0 : Heap) (Z0 : n0 ≤ h0.size) (a arr : Addr) (n : Int32) (vs : List Value) (j : Int32) (H : Lst Z n0 h0 a arr n vs) (h1 : ¬ j < (0 : Int32)) (h2 : j < n) :
    Met l Z n0 y0_checkIndex prog_21_method_12_code 2 (Option.none : Option Jvm.ClassFile.FieldType) ({ frames := 0, cells := 0, slots := 0, locals := 0 } : Room) #[(.ref a), (.int j)] h0 (fun v h => v = none ∧ h = h0) := by
  refine met_intro (own := c0_IntList) (plainFor_of_name pn_com_example_keys_into_trees_keysintotrees_index_IntList) rfl Z0 ?_
  intro p e s m below meth c T A hnm
  refine Wp.cast (g' := mkF m 0 #[rv a, iv j] []) (by first | (simp [entryFrame, mkF, argsToLocals, Value.category, maxLocals, jv, S2, U0, iv, rv]; done) | rfl) ?_
  obtain ⟨E, Fv, Fs, V, ne, ga, gr⟩ := H
  refine s_iloadN (pc' := 1) A d8_0 rfl rfl ?_
  refine s_ifN (pc' := 4) A d8_1 rfl ((if0 _ _).trans (flt h1).1) ?_
  refine s_iloadN (pc' := 5) A d8_4 rfl rfl ?_
  refine s_aloadN (pc' := 6) A d8_5 rfl rfl rfl ?_
  refine s_getfield (pc' := 9) (host := "") A (Or.inl (w18 hw)) Via.refl Fs d8_6 rfl fun T A => ?_
  refine s_icmpY (pc' := 30) A d8_9 (tlt h2).1 (by decide) (by decide) ?_
  exact r_void A rfl d8_30 (by decide) (by decide) (⟨rfl, rfl⟩)
set_option maxRecDepth 65536 in
set_option maxHeartbeats 40000000 in
theorem l_init (l : Launch) (Z : State) (a0 : Array Value) (hw : ∀ d ∈ tables_1, d.before a0 Z = true) (n0 : Nat) (h0 : Heap) (Z0 : n0 ≤ h0.size) (a : Addr) (E : Exa Z h0 a "com/example/keys_into_trees/keysintotrees/index/IntList") (Fv : Fld Z h0 a "com/example/keys_into_trees/keysintotrees/index/IntList" "values" "[I" .null) (Fs : Fld Z h0 a "com/example/keys_into_trees/keysintotrees/index/IntList" "size" "I" (.int 0)) (ga : n0 ≤ a) :
    Met l Z n0 y1_init prog_21_method_1_code 1 (Option.none : Option Jvm.ClassFile.FieldType) ({ frames := 1, cells := 1, slots := 8, locals := 12 } : Room) #[(.ref a)] h0 (fun v h => v = none ∧ Keep h0 h [a] ∧ ∃ arr, Lst Z n0 h a arr 0 [.int (0 : Int32), .int (0 : Int32), .int (0 : Int32), .int (0 : Int32), .int (0 : Int32), .int (0 : Int32), .int (0 : Int32), .int (0 : Int32)] ∧ h0.size ≤ arr) := by
  refine met_intro (own := c0_IntList) (plainFor_of_name pn_com_example_keys_into_trees_keysintotrees_index_IntList) rfl Z0 ?_
  intro p e s m below meth c T A hnm
  refine Wp.cast (g' := mkF m 0 #[rv a] []) (by first | (simp [entryFrame, mkF, argsToLocals, Value.category, maxLocals, jv, S2, U0, iv, rv]; done) | rfl) ?_
  refine s_aloadN (pc' := 1) A d1_0 rfl rfl rfl ?_
  refine s_initO (pc' := 4) (W := 0) A (w8 hw) (w9 hw) (w10 hw) (by decide) (Nat.le_of_eq rfl) (by decide) rfl d1_1 rfl fun T A => ?_
  refine s_aloadN (pc' := 5) A d1_4 rfl rfl rfl ?_
  refine s_bipush (pc' := 7) (z := (8 : Int32)) A d1_5 rfl (by decide) ?_
  refine s_newarray (pc' := 9) (aty := .int) (ty := .int) (dv := (.int (0 : Int32))) (i := 8) (cap := 8) A rfl rfl (w1 hw) (by decide) (by decide) (by decide) (by decide) (by decide) d1_7 rfl fun T h1 b2 A g3 ge4 X5 V6 => ?_
  have ne7 : a ≠ b2 := lt_ne E.lt g3
  have bo8 : h0.size ≤ b2 := le_eq (Keep.refl h0 [a]).1 g3
  have V6 : AA Z h1 b2 .int [.int (0 : Int32), .int (0 : Int32), .int (0 : Int32), .int (0 : Int32), .int (0 : Int32), .int (0 : Int32), .int (0 : Int32), .int (0 : Int32)] := V6
  have F9 := (Fv.ext X5)
  have E10 := (E.ext X5)
  refine s_putfield (pc' := 12) (host := "") A (Or.inl (w11 hw)) Via.refl F9 E10 (Or.inl (w12 hw)) (w3 hw) (ty := (.array .int)) (by decide) rfl rfl ga d1_9 rfl fun T h11 A W12 => ?_
  have F13 := F9.same W12
  have K14 := (((Keep.refl h0 [a]).ext X5).wr W12 (Or.inl (List.mem_of_getElem? (i := 0) rfl)))
  have E15 := (E10.wr W12)
  have F16 := ((Fs.ext X5).other W12 (Or.inr (sn_IntList_size_values hw)))
  have V17 := (V6.other W12 (Ne.symm ne7))
  exact r_void A rfl d1_12 (by decide) (by decide) (⟨rfl, K14, b2, ⟨E15, F13, F16, V17, ne7, ga, ge4⟩, bo8⟩)
set_option maxRecDepth 65536 in
set_option maxHeartbeats 40000000 in
theorem l_size (l : Launch) (Z : State) (a0 : Array Value) (hw : ∀ d ∈ tables_1, d.before a0 Z = true) (n0 : Nat) (h0 : Heap) (Z0 : n0 ≤ h0.size) (a arr : Addr) (n : Int32) (vs : List Value) (H : Lst Z n0 h0 a arr n vs) :
    Met l Z n0 y2_size prog_21_method_2_code 1 (Option.some Jvm.ClassFile.FieldType.int) ({ frames := 0, cells := 0, slots := 0, locals := 0 } : Room) #[(.ref a)] h0 (fun v h => v = some (.int n) ∧ h = h0) := by
  refine met_intro (own := c0_IntList) (plainFor_of_name pn_com_example_keys_into_trees_keysintotrees_index_IntList) rfl Z0 ?_
  intro p e s m below meth c T A hnm
  refine Wp.cast (g' := mkF m 0 #[rv a] []) (by first | (simp [entryFrame, mkF, argsToLocals, Value.category, maxLocals, jv, S2, U0, iv, rv]; done) | rfl) ?_
  obtain ⟨E, Fv, Fs, V, ne, ga, gr⟩ := H
  refine s_aloadN (pc' := 1) A d4_0 rfl rfl rfl ?_
  refine s_getfield (pc' := 4) (host := "") A (Or.inl (w18 hw)) Via.refl Fs d4_1 rfl fun T A => ?_
  exact r_int A rfl d4_4 (by decide) (by decide) (⟨rfl, rfl⟩)
set_option maxRecDepth 65536 in
set_option maxHeartbeats 40000000 in
theorem l_get (l : Launch) (Z : State) (a0 : Array Value) (hw : ∀ d ∈ tables_1, d.before a0 Z = true) (n0 : Nat) (h0 : Heap) (Z0 : n0 ≤ h0.size) (a arr : Addr) (n : Int32) (vs : List Value) (j : Int32) (i : Nat) (x : Int32) (H : Lst Z n0 h0 a arr n vs) (hj : j.toInt = (i : Int)) (hv : vs[i]? = some (.int x)) (hlt : j < n) :
    Met l Z n0 y3_get prog_21_method_4_code 2 (Option.some Jvm.ClassFile.FieldType.int) ({ frames := 1, cells := 0, slots := 0, locals := 13 } : Room) #[(.ref a), (.int j)] h0 (fun v h => v = some (.int x) ∧ h = h0) := by
  refine met_intro (own := c0_IntList) (plainFor_of_name pn_com_example_keys_into_trees_keysintotrees_index_IntList) rfl Z0 ?_
  intro p e s m below meth c T A hnm
  refine Wp.cast (g' := mkF m 0 #[rv a, iv j] []) (by first | (simp [entryFrame, mkF, argsToLocals, Value.category, maxLocals, jv, S2, U0, iv, rv]; done) | rfl) ?_
  obtain ⟨E, Fv, Fs, V, ne, ga, gr⟩ := H
  refine s_aloadN (pc' := 1) A d7_0 rfl rfl rfl ?_
  refine s_iloadN (pc' := 2) A d7_1 rfl rfl ?_
  refine s_private (pc' := 5) (y := y0_checkIndex) (argsL := [(.int j)]) (rest := []) A E (l_chk l Z a0 hw n0 h0 A.size a arr n vs j ⟨E, Fv, Fs, V, ne, ga, gr⟩ (by have q0 : (0 : Int32).toInt = 0 := (by decide); rw [Int32.lt_iff_toInt_lt, hj]; omega) hlt) (w39 hw) (w40 hw) (w3 hw) (w41 hw) (w4 hw) (w42 hw) (by decide) pd__I_V rfl (W := 0) (by decide) (by decide) (Nat.le_of_eq rfl) (by decide) (by decide) rfl rfl d7_2 rfl fun T h1 v2 A Q3 => ?_
  obtain ⟨rfl, eh⟩ := Q3
  rw [eh] at A
  refine Wp.stk (st' := []) rfl ?_
  refine s_aloadN (pc' := 6) A d7_5 rfl rfl rfl ?_
  refine s_getfield (pc' := 9) (host := "") A (Or.inl (w11 hw)) Via.refl Fv d7_6 rfl fun T A => ?_
  refine s_iloadN (pc' := 10) A d7_9 rfl rfl ?_
  refine s_iaload (pc' := 11) (i := i) (v := (.int x)) A V hj hv d7_10 rfl ?_
  exact r_int A rfl d7_11 (by decide) (by decide) (⟨rfl, rfl⟩)
set_option maxRecDepth 65536 in
set_option maxHeartbeats 40000000 in
theorem l_add (l : Launch) (Z : State) (a0 : Array Value) (hw : ∀ d ∈ tables_1, d.before a0 Z = true) (n0 : Nat) (h0 : Heap) (Z0 : n0 ≤ h0.size) (a arr : Addr) (n : Int32) (vs : List Value) (x n' z : Int32) (i : Nat) (vs' : List Value) (H : Lst Z n0 h0 a arr n vs) (hn : n.toInt = (i : Int)) (hi : i < vs.length) (hz : z.toInt = (vs.length : Int)) (hn' : n + 1 = n') (hvs : vs.set i (.int x) = vs') :
    Met l Z n0 y4_add prog_21_method_7_code 2 (Option.none : Option Jvm.ClassFile.FieldType) ({ frames := 0, cells := 0, slots := 0, locals := 0 } : Room) #[(.ref a), (.int x)] h0 (fun v h => v = none ∧ Keep h0 h [a, arr] ∧ Lst Z n0 h a arr n' vs') := by
  refine met_intro (own := c0_IntList) (plainFor_of_name pn_com_example_keys_into_trees_keysintotrees_index_IntList) rfl Z0 ?_
  intro p e s m below meth c T A hnm
  refine Wp.cast (g' := mkF m 0 #[rv a, iv x] []) (by first | (simp [entryFrame, mkF, argsToLocals, Value.category, maxLocals, jv, S2, U0, iv, rv]; done) | rfl) ?_
  obtain ⟨E, Fv, Fs, V, ne, ga, gr⟩ := H
  refine s_aloadN (pc' := 1) A d6_0 rfl rfl rfl ?_
  refine s_getfield (pc' := 4) (host := "") A (Or.inl (w18 hw)) Via.refl Fs d6_1 rfl fun T A => ?_
  refine s_aloadN (pc' := 5) A d6_4 rfl rfl rfl ?_
  refine s_getfield (pc' := 8) (host := "") A (Or.inl (w11 hw)) Via.refl Fv d6_5 rfl fun T A => ?_
  refine s_arraylength (pc' := 9) (z := z) A V hz d6_8 rfl ?_
  refine s_icmpY (pc' := 32) A d6_9 (feq (fun q => by have q1 := congrArg Int32.toInt q; rw [hn, hz] at q1; omega)).2 (by decide) (by decide) ?_
  refine s_aloadN (pc' := 33) A d6_32 rfl rfl rfl ?_
  refine s_getfield (pc' := 36) (host := "") A (Or.inl (w11 hw)) Via.refl Fv d6_33 rfl fun T A => ?_
  refine s_aloadN (pc' := 37) A d6_36 rfl rfl rfl ?_
  refine s_dup (pc' := 38) A d6_37 rfl rfl ?_
  refine s_getfield (pc' := 41) (host := "") A (Or.inl (w18 hw)) Via.refl Fs d6_38 rfl fun T A => ?_
  refine s_dupX1 (pc' := 42) A d6_41 rfl rfl rfl ?_
  refine s_iconst (pc' := 43) (z := (1 : Int32)) A d6_42 rfl (by decide) ?_
  refine s_iadd (pc' := 44) (z := n') A d6_43 rfl hn' ?_
  refine s_putfield (pc' := 47) (host := "") A (Or.inl (w18 hw)) Via.refl Fs E (Or.inl (w19 hw)) (w3 hw) (ty := .int) (by decide) rfl rfl ga d6_44 rfl fun T h1 A W2 => ?_
  have F3 := Fs.same W2
  refine s_iloadN (pc' := 48) A d6_47 rfl rfl ?_
  have V4 := (V.other W2 (Ne.symm ne))
  refine s_iastore (pc' := 49) (i := i) A V4 hn hi gr d6_48 rfl fun T h5 A W6 V7 => ?_
  have V7 : AA Z h5 arr .int vs' := (AA.cast V7 hvs)
  have K8 := (((Keep.refl h0 [a, arr]).wr W2 (Or.inl (List.mem_of_getElem? (i := 0) rfl))).wr W6 (Or.inl (List.mem_of_getElem? (i := 1) rfl)))
  have E9 := ((E.wr W2).wr W6)
  have F10 := ((Fv.other W2 (Or.inr (sn_IntList_values_size hw))).other W6 (Or.inl ne))
  have F11 := (F3.other W6 (Or.inl ne))
  exact r_void A rfl d6_49 (by decide) (by decide) (⟨rfl, K8, E9, F10, F11, V7, ne, ga, gr⟩)
set_option maxRecDepth 65536 in
set_option maxHeartbeats 40000000 in
theorem l_rev0 (l : Launch) (Z : State) (a0 : Array Value) (hw : ∀ d ∈ tables_1, d.before a0 Z = true) (n0 : Nat) (h0 : Heap) (Z0 : n0 ≤ h0.size) (a arr : Addr)  (H : Lst Z n0 h0 a arr (0 : Int32) [.int (0 : Int32), .int (0 : Int32), .int (0 : Int32), .int (0 : Int32), .int (0 : Int32), .int (0 : Int32), .int (0 : Int32), .int (0 : Int32)]) :
    Met l Z n0 y5_reverse prog_21_method_10_code 4 (Option.none : Option Jvm.ClassFile.FieldType) ({ frames := 0, cells := 0, slots := 0, locals := 0 } : Room) #[(.ref a)] h0 (fun v h => v = none ∧ Keep h0 h [arr] ∧ Lst Z n0 h a arr (0 : Int32) [.int (0 : Int32), .int (0 : Int32), .int (0 : Int32), .int (0 : Int32), .int (0 : Int32), .int (0 : Int32), .int (0 : Int32), .int (0 : Int32)]) := by
  refine met_intro (own := c0_IntList) (plainFor_of_name pn_com_example_keys_into_trees_keysintotrees_index_IntList) rfl Z0 ?_
  intro p e s m below meth c T A hnm
  refine Wp.cast (g' := mkF m 0 #[rv a, U0, U0, U0] []) (by first | (simp [entryFrame, mkF, argsToLocals, Value.category, maxLocals, jv, S2, U0, iv, rv]; done) | rfl) ?_
  obtain ⟨E, Fv, Fs, V, ne, ga, gr⟩ := H
  refine s_iconst (pc' := 1) (z := (0 : Int32)) A d3_0 rfl (by decide) ?_
  refine s_istoreN (pc' := 2) (Ls' := #[rv a, iv 0, U0, U0]) A d3_1 rfl rfl ?_
  refine s_aloadN (pc' := 3) A d3_2 rfl rfl rfl ?_
  refine s_getfield (pc' := 6) (host := "") A (Or.inl (w18 hw)) Via.refl Fs d3_3 rfl fun T A => ?_
  refine s_iconst (pc' := 7) (z := (1 : Int32)) A d3_6 rfl (by decide) ?_
  refine s_isub (pc' := 8) (z := (-1 : Int32)) A d3_7 rfl (by decide) ?_
  refine s_istoreN (pc' := 9) (Ls' := #[rv a, iv 0, iv (-1), U0]) A d3_8 rfl rfl ?_
  refine s_iloadN (pc' := 10) A d3_9 rfl rfl ?_
  refine s_iloadN (pc' := 11) A d3_10 rfl rfl ?_
  refine s_icmpY (pc' := 49) A d3_11 (by decide) (by decide) (by decide) ?_
  exact r_void A rfl d3_49 (by decide) (by decide) (⟨rfl, (Keep.refl h0 [arr]), E, Fv, Fs, V, ne, ga, gr⟩)
set_option maxRecDepth 65536 in
set_option maxHeartbeats 40000000 in
theorem l_rev1 (l : Launch) (Z : State) (a0 : Array Value) (hw : ∀ d ∈ tables_1, d.before a0 Z = true) (n0 : Nat) (h0 : Heap) (Z0 : n0 ≤ h0.size) (a arr : Addr) (x0 : Int32) (H : Lst Z n0 h0 a arr (1 : Int32) [.int x0, .int (0 : Int32), .int (0 : Int32), .int (0 : Int32), .int (0 : Int32), .int (0 : Int32), .int (0 : Int32), .int (0 : Int32)]) :
    Met l Z n0 y5_reverse prog_21_method_10_code 4 (Option.none : Option Jvm.ClassFile.FieldType) ({ frames := 0, cells := 0, slots := 0, locals := 0 } : Room) #[(.ref a)] h0 (fun v h => v = none ∧ Keep h0 h [arr] ∧ Lst Z n0 h a arr (1 : Int32) [.int x0, .int (0 : Int32), .int (0 : Int32), .int (0 : Int32), .int (0 : Int32), .int (0 : Int32), .int (0 : Int32), .int (0 : Int32)]) := by
  refine met_intro (own := c0_IntList) (plainFor_of_name pn_com_example_keys_into_trees_keysintotrees_index_IntList) rfl Z0 ?_
  intro p e s m below meth c T A hnm
  refine Wp.cast (g' := mkF m 0 #[rv a, U0, U0, U0] []) (by first | (simp [entryFrame, mkF, argsToLocals, Value.category, maxLocals, jv, S2, U0, iv, rv]; done) | rfl) ?_
  obtain ⟨E, Fv, Fs, V, ne, ga, gr⟩ := H
  refine s_iconst (pc' := 1) (z := (0 : Int32)) A d3_0 rfl (by decide) ?_
  refine s_istoreN (pc' := 2) (Ls' := #[rv a, iv 0, U0, U0]) A d3_1 rfl rfl ?_
  refine s_aloadN (pc' := 3) A d3_2 rfl rfl rfl ?_
  refine s_getfield (pc' := 6) (host := "") A (Or.inl (w18 hw)) Via.refl Fs d3_3 rfl fun T A => ?_
  refine s_iconst (pc' := 7) (z := (1 : Int32)) A d3_6 rfl (by decide) ?_
  refine s_isub (pc' := 8) (z := (0 : Int32)) A d3_7 rfl (by decide) ?_
  refine s_istoreN (pc' := 9) (Ls' := #[rv a, iv 0, iv 0, U0]) A d3_8 rfl rfl ?_
  refine s_iloadN (pc' := 10) A d3_9 rfl rfl ?_
  refine s_iloadN (pc' := 11) A d3_10 rfl rfl ?_
  refine s_icmpY (pc' := 49) A d3_11 (by decide) (by decide) (by decide) ?_
  exact r_void A rfl d3_49 (by decide) (by decide) (⟨rfl, (Keep.refl h0 [arr]), E, Fv, Fs, V, ne, ga, gr⟩)
set_option maxRecDepth 65536 in
set_option maxHeartbeats 40000000 in
theorem l_rev2 (l : Launch) (Z : State) (a0 : Array Value) (hw : ∀ d ∈ tables_1, d.before a0 Z = true) (n0 : Nat) (h0 : Heap) (Z0 : n0 ≤ h0.size) (a arr : Addr) (x0 x1 : Int32) (H : Lst Z n0 h0 a arr (2 : Int32) [.int x0, .int x1, .int (0 : Int32), .int (0 : Int32), .int (0 : Int32), .int (0 : Int32), .int (0 : Int32), .int (0 : Int32)]) :
    Met l Z n0 y5_reverse prog_21_method_10_code 4 (Option.none : Option Jvm.ClassFile.FieldType) ({ frames := 0, cells := 0, slots := 0, locals := 0 } : Room) #[(.ref a)] h0 (fun v h => v = none ∧ Keep h0 h [arr] ∧ Lst Z n0 h a arr (2 : Int32) [.int x1, .int x0, .int (0 : Int32), .int (0 : Int32), .int (0 : Int32), .int (0 : Int32), .int (0 : Int32), .int (0 : Int32)]) := by
  refine met_intro (own := c0_IntList) (plainFor_of_name pn_com_example_keys_into_trees_keysintotrees_index_IntList) rfl Z0 ?_
  intro p e s m below meth c T A hnm
  refine Wp.cast (g' := mkF m 0 #[rv a, U0, U0, U0] []) (by first | (simp [entryFrame, mkF, argsToLocals, Value.category, maxLocals, jv, S2, U0, iv, rv]; done) | rfl) ?_
  obtain ⟨E, Fv, Fs, V, ne, ga, gr⟩ := H
  refine s_iconst (pc' := 1) (z := (0 : Int32)) A d3_0 rfl (by decide) ?_
  refine s_istoreN (pc' := 2) (Ls' := #[rv a, iv 0, U0, U0]) A d3_1 rfl rfl ?_
  refine s_aloadN (pc' := 3) A d3_2 rfl rfl rfl ?_
  refine s_getfield (pc' := 6) (host := "") A (Or.inl (w18 hw)) Via.refl Fs d3_3 rfl fun T A => ?_
  refine s_iconst (pc' := 7) (z := (1 : Int32)) A d3_6 rfl (by decide) ?_
  refine s_isub (pc' := 8) (z := (1 : Int32)) A d3_7 rfl (by decide) ?_
  refine s_istoreN (pc' := 9) (Ls' := #[rv a, iv 0, iv 1, U0]) A d3_8 rfl rfl ?_
  refine s_iloadN (pc' := 10) A d3_9 rfl rfl ?_
  refine s_iloadN (pc' := 11) A d3_10 rfl rfl ?_
  refine s_icmpN (pc' := 14) A d3_11 rfl (by decide) ?_
  refine s_aloadN (pc' := 15) A d3_14 rfl rfl rfl ?_
  refine s_getfield (pc' := 18) (host := "") A (Or.inl (w11 hw)) Via.refl Fv d3_15 rfl fun T A => ?_
  refine s_iloadN (pc' := 19) A d3_18 rfl rfl ?_
  refine s_iaload (pc' := 20) (i := 0) (v := (.int x0)) A V (by decide) rfl d3_19 rfl ?_
  refine s_istoreN (pc' := 21) (Ls' := #[rv a, iv 0, iv 1, iv x0]) A d3_20 rfl rfl ?_
  refine s_aloadN (pc' := 22) A d3_21 rfl rfl rfl ?_
  refine s_getfield (pc' := 25) (host := "") A (Or.inl (w11 hw)) Via.refl Fv d3_22 rfl fun T A => ?_
  refine s_iloadN (pc' := 26) A d3_25 rfl rfl ?_
  refine s_aloadN (pc' := 27) A d3_26 rfl rfl rfl ?_
  refine s_getfield (pc' := 30) (host := "") A (Or.inl (w11 hw)) Via.refl Fv d3_27 rfl fun T A => ?_
  refine s_iloadN (pc' := 31) A d3_30 rfl rfl ?_
  refine s_iaload (pc' := 32) (i := 1) (v := (.int x1)) A V (by decide) rfl d3_31 rfl ?_
  refine s_iastore (pc' := 33) (i := 0) A V (by decide) (Nat.le_of_ble_eq_true rfl) gr d3_32 rfl fun T h1 A W2 V3 => ?_
  have V3 : AA Z h1 arr .int [.int x1, .int x1, .int (0 : Int32), .int (0 : Int32), .int (0 : Int32), .int (0 : Int32), .int (0 : Int32), .int (0 : Int32)] := V3
  refine s_aloadN (pc' := 34) A d3_33 rfl rfl rfl ?_
  have F4 := (Fv.other W2 (Or.inl ne))
  refine s_getfield (pc' := 37) (host := "") A (Or.inl (w11 hw)) Via.refl F4 d3_34 rfl fun T A => ?_
  refine s_iloadN (pc' := 38) A d3_37 rfl rfl ?_
  refine s_iloadN (pc' := 39) A d3_38 rfl rfl ?_
  refine s_iastore (pc' := 40) (i := 1) A V3 (by decide) (Nat.le_of_ble_eq_true rfl) gr d3_39 rfl fun T h5 A W6 V7 => ?_
  have V7 : AA Z h5 arr .int [.int x1, .int x0, .int (0 : Int32), .int (0 : Int32), .int (0 : Int32), .int (0 : Int32), .int (0 : Int32), .int (0 : Int32)] := V7
  refine s_iinc (pc' := 43) (z := (1 : Int32)) (Ls' := #[rv a, iv 1, iv 1, iv x0]) A d3_40 rfl rfl (by decide) rfl ?_
  refine s_iinc (pc' := 46) (z := (0 : Int32)) (Ls' := #[rv a, iv 1, iv 0, iv x0]) A d3_43 rfl rfl (by decide) rfl ?_
  refine s_goto (pc' := 9) A d3_46 (by decide) (by decide) ?_
  refine s_iloadN (pc' := 10) A d3_9 rfl rfl ?_
  refine s_iloadN (pc' := 11) A d3_10 rfl rfl ?_
  refine s_icmpY (pc' := 49) A d3_11 (by decide) (by decide) (by decide) ?_
  have K8 := (((Keep.refl h0 [arr]).wr W2 (Or.inl (List.mem_of_getElem? (i := 0) rfl))).wr W6 (Or.inl (List.mem_of_getElem? (i := 0) rfl)))
  have E9 := ((E.wr W2).wr W6)
  have F10 := (F4.other W6 (Or.inl ne))
  have F11 := ((Fs.other W2 (Or.inl ne)).other W6 (Or.inl ne))
  exact r_void A rfl d3_49 (by decide) (by decide) (⟨rfl, K8, E9, F10, F11, V7, ne, ga, gr⟩)
set_option maxRecDepth 65536 in
set_option maxHeartbeats 40000000 in
theorem l_rev3 (l : Launch) (Z : State) (a0 : Array Value) (hw : ∀ d ∈ tables_1, d.before a0 Z = true) (n0 : Nat) (h0 : Heap) (Z0 : n0 ≤ h0.size) (a arr : Addr) (x0 x1 x2 : Int32) (H : Lst Z n0 h0 a arr (3 : Int32) [.int x0, .int x1, .int x2, .int (0 : Int32), .int (0 : Int32), .int (0 : Int32), .int (0 : Int32), .int (0 : Int32)]) :
    Met l Z n0 y5_reverse prog_21_method_10_code 4 (Option.none : Option Jvm.ClassFile.FieldType) ({ frames := 0, cells := 0, slots := 0, locals := 0 } : Room) #[(.ref a)] h0 (fun v h => v = none ∧ Keep h0 h [arr] ∧ Lst Z n0 h a arr (3 : Int32) [.int x2, .int x1, .int x0, .int (0 : Int32), .int (0 : Int32), .int (0 : Int32), .int (0 : Int32), .int (0 : Int32)]) := by
  refine met_intro (own := c0_IntList) (plainFor_of_name pn_com_example_keys_into_trees_keysintotrees_index_IntList) rfl Z0 ?_
  intro p e s m below meth c T A hnm
  refine Wp.cast (g' := mkF m 0 #[rv a, U0, U0, U0] []) (by first | (simp [entryFrame, mkF, argsToLocals, Value.category, maxLocals, jv, S2, U0, iv, rv]; done) | rfl) ?_
  obtain ⟨E, Fv, Fs, V, ne, ga, gr⟩ := H
  refine s_iconst (pc' := 1) (z := (0 : Int32)) A d3_0 rfl (by decide) ?_
  refine s_istoreN (pc' := 2) (Ls' := #[rv a, iv 0, U0, U0]) A d3_1 rfl rfl ?_
  refine s_aloadN (pc' := 3) A d3_2 rfl rfl rfl ?_
  refine s_getfield (pc' := 6) (host := "") A (Or.inl (w18 hw)) Via.refl Fs d3_3 rfl fun T A => ?_
  refine s_iconst (pc' := 7) (z := (1 : Int32)) A d3_6 rfl (by decide) ?_
  refine s_isub (pc' := 8) (z := (2 : Int32)) A d3_7 rfl (by decide) ?_
  refine s_istoreN (pc' := 9) (Ls' := #[rv a, iv 0, iv 2, U0]) A d3_8 rfl rfl ?_
  refine s_iloadN (pc' := 10) A d3_9 rfl rfl ?_
  refine s_iloadN (pc' := 11) A d3_10 rfl rfl ?_
  refine s_icmpN (pc' := 14) A d3_11 rfl (by decide) ?_
  refine s_aloadN (pc' := 15) A d3_14 rfl rfl rfl ?_
  refine s_getfield (pc' := 18) (host := "") A (Or.inl (w11 hw)) Via.refl Fv d3_15 rfl fun T A => ?_
  refine s_iloadN (pc' := 19) A d3_18 rfl rfl ?_
  refine s_iaload (pc' := 20) (i := 0) (v := (.int x0)) A V (by decide) rfl d3_19 rfl ?_
  refine s_istoreN (pc' := 21) (Ls' := #[rv a, iv 0, iv 2, iv x0]) A d3_20 rfl rfl ?_
  refine s_aloadN (pc' := 22) A d3_21 rfl rfl rfl ?_
  refine s_getfield (pc' := 25) (host := "") A (Or.inl (w11 hw)) Via.refl Fv d3_22 rfl fun T A => ?_
  refine s_iloadN (pc' := 26) A d3_25 rfl rfl ?_
  refine s_aloadN (pc' := 27) A d3_26 rfl rfl rfl ?_
  refine s_getfield (pc' := 30) (host := "") A (Or.inl (w11 hw)) Via.refl Fv d3_27 rfl fun T A => ?_
  refine s_iloadN (pc' := 31) A d3_30 rfl rfl ?_
  refine s_iaload (pc' := 32) (i := 2) (v := (.int x2)) A V (by decide) rfl d3_31 rfl ?_
  refine s_iastore (pc' := 33) (i := 0) A V (by decide) (Nat.le_of_ble_eq_true rfl) gr d3_32 rfl fun T h1 A W2 V3 => ?_
  have V3 : AA Z h1 arr .int [.int x2, .int x1, .int x2, .int (0 : Int32), .int (0 : Int32), .int (0 : Int32), .int (0 : Int32), .int (0 : Int32)] := V3
  refine s_aloadN (pc' := 34) A d3_33 rfl rfl rfl ?_
  have F4 := (Fv.other W2 (Or.inl ne))
  refine s_getfield (pc' := 37) (host := "") A (Or.inl (w11 hw)) Via.refl F4 d3_34 rfl fun T A => ?_
  refine s_iloadN (pc' := 38) A d3_37 rfl rfl ?_
  refine s_iloadN (pc' := 39) A d3_38 rfl rfl ?_
  refine s_iastore (pc' := 40) (i := 2) A V3 (by decide) (Nat.le_of_ble_eq_true rfl) gr d3_39 rfl fun T h5 A W6 V7 => ?_
  have V7 : AA Z h5 arr .int [.int x2, .int x1, .int x0, .int (0 : Int32), .int (0 : Int32), .int (0 : Int32), .int (0 : Int32), .int (0 : Int32)] := V7
  refine s_iinc (pc' := 43) (z := (1 : Int32)) (Ls' := #[rv a, iv 1, iv 2, iv x0]) A d3_40 rfl rfl (by decide) rfl ?_
  refine s_iinc (pc' := 46) (z := (1 : Int32)) (Ls' := #[rv a, iv 1, iv 1, iv x0]) A d3_43 rfl rfl (by decide) rfl ?_
  refine s_goto (pc' := 9) A d3_46 (by decide) (by decide) ?_
  refine s_iloadN (pc' := 10) A d3_9 rfl rfl ?_
  refine s_iloadN (pc' := 11) A d3_10 rfl rfl ?_
  refine s_icmpY (pc' := 49) A d3_11 (by decide) (by decide) (by decide) ?_
  have K8 := (((Keep.refl h0 [arr]).wr W2 (Or.inl (List.mem_of_getElem? (i := 0) rfl))).wr W6 (Or.inl (List.mem_of_getElem? (i := 0) rfl)))
  have E9 := ((E.wr W2).wr W6)
  have F10 := (F4.other W6 (Or.inl ne))
  have F11 := ((Fs.other W2 (Or.inl ne)).other W6 (Or.inl ne))
  exact r_void A rfl d3_49 (by decide) (by decide) (⟨rfl, K8, E9, F10, F11, V7, ne, ga, gr⟩)
set_option maxRecDepth 65536 in
set_option maxHeartbeats 40000000 in
theorem l_rev4 (l : Launch) (Z : State) (a0 : Array Value) (hw : ∀ d ∈ tables_1, d.before a0 Z = true) (n0 : Nat) (h0 : Heap) (Z0 : n0 ≤ h0.size) (a arr : Addr) (x0 x1 x2 x3 : Int32) (H : Lst Z n0 h0 a arr (4 : Int32) [.int x0, .int x1, .int x2, .int x3, .int (0 : Int32), .int (0 : Int32), .int (0 : Int32), .int (0 : Int32)]) :
    Met l Z n0 y5_reverse prog_21_method_10_code 4 (Option.none : Option Jvm.ClassFile.FieldType) ({ frames := 0, cells := 0, slots := 0, locals := 0 } : Room) #[(.ref a)] h0 (fun v h => v = none ∧ Keep h0 h [arr] ∧ Lst Z n0 h a arr (4 : Int32) [.int x3, .int x2, .int x1, .int x0, .int (0 : Int32), .int (0 : Int32), .int (0 : Int32), .int (0 : Int32)]) := by
  refine met_intro (own := c0_IntList) (plainFor_of_name pn_com_example_keys_into_trees_keysintotrees_index_IntList) rfl Z0 ?_
  intro p e s m below meth c T A hnm
  refine Wp.cast (g' := mkF m 0 #[rv a, U0, U0, U0] []) (by first | (simp [entryFrame, mkF, argsToLocals, Value.category, maxLocals, jv, S2, U0, iv, rv]; done) | rfl) ?_
  obtain ⟨E, Fv, Fs, V, ne, ga, gr⟩ := H
  refine s_iconst (pc' := 1) (z := (0 : Int32)) A d3_0 rfl (by decide) ?_
  refine s_istoreN (pc' := 2) (Ls' := #[rv a, iv 0, U0, U0]) A d3_1 rfl rfl ?_
  refine s_aloadN (pc' := 3) A d3_2 rfl rfl rfl ?_
  refine s_getfield (pc' := 6) (host := "") A (Or.inl (w18 hw)) Via.refl Fs d3_3 rfl fun T A => ?_
  refine s_iconst (pc' := 7) (z := (1 : Int32)) A d3_6 rfl (by decide) ?_
  refine s_isub (pc' := 8) (z := (3 : Int32)) A d3_7 rfl (by decide) ?_
  refine s_istoreN (pc' := 9) (Ls' := #[rv a, iv 0, iv 3, U0]) A d3_8 rfl rfl ?_
  refine s_iloadN (pc' := 10) A d3_9 rfl rfl ?_
  refine s_iloadN (pc' := 11) A d3_10 rfl rfl ?_
  refine s_icmpN (pc' := 14) A d3_11 rfl (by decide) ?_
  refine s_aloadN (pc' := 15) A d3_14 rfl rfl rfl ?_
  refine s_getfield (pc' := 18) (host := "") A (Or.inl (w11 hw)) Via.refl Fv d3_15 rfl fun T A => ?_
  refine s_iloadN (pc' := 19) A d3_18 rfl rfl ?_
  refine s_iaload (pc' := 20) (i := 0) (v := (.int x0)) A V (by decide) rfl d3_19 rfl ?_
  refine s_istoreN (pc' := 21) (Ls' := #[rv a, iv 0, iv 3, iv x0]) A d3_20 rfl rfl ?_
  refine s_aloadN (pc' := 22) A d3_21 rfl rfl rfl ?_
  refine s_getfield (pc' := 25) (host := "") A (Or.inl (w11 hw)) Via.refl Fv d3_22 rfl fun T A => ?_
  refine s_iloadN (pc' := 26) A d3_25 rfl rfl ?_
  refine s_aloadN (pc' := 27) A d3_26 rfl rfl rfl ?_
  refine s_getfield (pc' := 30) (host := "") A (Or.inl (w11 hw)) Via.refl Fv d3_27 rfl fun T A => ?_
  refine s_iloadN (pc' := 31) A d3_30 rfl rfl ?_
  refine s_iaload (pc' := 32) (i := 3) (v := (.int x3)) A V (by decide) rfl d3_31 rfl ?_
  refine s_iastore (pc' := 33) (i := 0) A V (by decide) (Nat.le_of_ble_eq_true rfl) gr d3_32 rfl fun T h1 A W2 V3 => ?_
  have V3 : AA Z h1 arr .int [.int x3, .int x1, .int x2, .int x3, .int (0 : Int32), .int (0 : Int32), .int (0 : Int32), .int (0 : Int32)] := V3
  refine s_aloadN (pc' := 34) A d3_33 rfl rfl rfl ?_
  have F4 := (Fv.other W2 (Or.inl ne))
  refine s_getfield (pc' := 37) (host := "") A (Or.inl (w11 hw)) Via.refl F4 d3_34 rfl fun T A => ?_
  refine s_iloadN (pc' := 38) A d3_37 rfl rfl ?_
  refine s_iloadN (pc' := 39) A d3_38 rfl rfl ?_
  refine s_iastore (pc' := 40) (i := 3) A V3 (by decide) (Nat.le_of_ble_eq_true rfl) gr d3_39 rfl fun T h5 A W6 V7 => ?_
  have V7 : AA Z h5 arr .int [.int x3, .int x1, .int x2, .int x0, .int (0 : Int32), .int (0 : Int32), .int (0 : Int32), .int (0 : Int32)] := V7
  refine s_iinc (pc' := 43) (z := (1 : Int32)) (Ls' := #[rv a, iv 1, iv 3, iv x0]) A d3_40 rfl rfl (by decide) rfl ?_
  refine s_iinc (pc' := 46) (z := (2 : Int32)) (Ls' := #[rv a, iv 1, iv 2, iv x0]) A d3_43 rfl rfl (by decide) rfl ?_
  refine s_goto (pc' := 9) A d3_46 (by decide) (by decide) ?_
  refine s_iloadN (pc' := 10) A d3_9 rfl rfl ?_
  refine s_iloadN (pc' := 11) A d3_10 rfl rfl ?_
  refine s_icmpN (pc' := 14) A d3_11 rfl (by decide) ?_
  refine s_aloadN (pc' := 15) A d3_14 rfl rfl rfl ?_
  have F8 := (F4.other W6 (Or.inl ne))
  refine s_getfield (pc' := 18) (host := "") A (Or.inl (w11 hw)) Via.refl F8 d3_15 rfl fun T A => ?_
  refine s_iloadN (pc' := 19) A d3_18 rfl rfl ?_
  refine s_iaload (pc' := 20) (i := 1) (v := (.int x1)) A V7 (by decide) rfl d3_19 rfl ?_
  refine s_istoreN (pc' := 21) (Ls' := #[rv a, iv 1, iv 2, iv x1]) A d3_20 rfl rfl ?_
  refine s_aloadN (pc' := 22) A d3_21 rfl rfl rfl ?_
  refine s_getfield (pc' := 25) (host := "") A (Or.inl (w11 hw)) Via.refl F8 d3_22 rfl fun T A => ?_
  refine s_iloadN (pc' := 26) A d3_25 rfl rfl ?_
  refine s_aloadN (pc' := 27) A d3_26 rfl rfl rfl ?_
  refine s_getfield (pc' := 30) (host := "") A (Or.inl (w11 hw)) Via.refl F8 d3_27 rfl fun T A => ?_
  refine s_iloadN (pc' := 31) A d3_30 rfl rfl ?_
  refine s_iaload (pc' := 32) (i := 2) (v := (.int x2)) A V7 (by decide) rfl d3_31 rfl ?_
  refine s_iastore (pc' := 33) (i := 1) A V7 (by decide) (Nat.le_of_ble_eq_true rfl) gr d3_32 rfl fun T h9 A W10 V11 => ?_
  have V11 : AA Z h9 arr .int [.int x3, .int x2, .int x2, .int x0, .int (0 : Int32), .int (0 : Int32), .int (0 : Int32), .int (0 : Int32)] := V11
  refine s_aloadN (pc' := 34) A d3_33 rfl rfl rfl ?_
  have F12 := (F8.other W10 (Or.inl ne))
  refine s_getfield (pc' := 37) (host := "") A (Or.inl (w11 hw)) Via.refl F12 d3_34 rfl fun T A => ?_
  refine s_iloadN (pc' := 38) A d3_37 rfl rfl ?_
  refine s_iloadN (pc' := 39) A d3_38 rfl rfl ?_
  refine s_iastore (pc' := 40) (i := 2) A V11 (by decide) (Nat.le_of_ble_eq_true rfl) gr d3_39 rfl fun T h13 A W14 V15 => ?_
  have V15 : AA Z h13 arr .int [.int x3, .int x2, .int x1, .int x0, .int (0 : Int32), .int (0 : Int32), .int (0 : Int32), .int (0 : Int32)] := V15
  refine s_iinc (pc' := 43) (z := (2 : Int32)) (Ls' := #[rv a, iv 2, iv 2, iv x1]) A d3_40 rfl rfl (by decide) rfl ?_
  refine s_iinc (pc' := 46) (z := (1 : Int32)) (Ls' := #[rv a, iv 2, iv 1, iv x1]) A d3_43 rfl rfl (by decide) rfl ?_
  refine s_goto (pc' := 9) A d3_46 (by decide) (by decide) ?_
  refine s_iloadN (pc' := 10) A d3_9 rfl rfl ?_
  refine s_iloadN (pc' := 11) A d3_10 rfl rfl ?_
  refine s_icmpY (pc' := 49) A d3_11 (by decide) (by decide) (by decide) ?_
  have K16 := (((((Keep.refl h0 [arr]).wr W2 (Or.inl (List.mem_of_getElem? (i := 0) rfl))).wr W6 (Or.inl (List.mem_of_getElem? (i := 0) rfl))).wr W10 (Or.inl (List.mem_of_getElem? (i := 0) rfl))).wr W14 (Or.inl (List.mem_of_getElem? (i := 0) rfl)))
  have E17 := ((((E.wr W2).wr W6).wr W10).wr W14)
  have F18 := (F12.other W14 (Or.inl ne))
  have F19 := ((((Fs.other W2 (Or.inl ne)).other W6 (Or.inl ne)).other W10 (Or.inl ne)).other W14 (Or.inl ne))
  exact r_void A rfl d3_49 (by decide) (by decide) (⟨rfl, K16, E17, F18, F19, V15, ne, ga, gr⟩)
theorem own_r5 (x : Int32) : ((x &&& (2147483647 : Int32)) % (5 : Int32)) = 0 ∨ ((x &&& (2147483647 : Int32)) % (5 : Int32)) = 1 ∨ ((x &&& (2147483647 : Int32)) % (5 : Int32)) = 2 ∨ ((x &&& (2147483647 : Int32)) % (5 : Int32)) = 3 ∨ ((x &&& (2147483647 : Int32)) % (5 : Int32)) = 4 := by
  have _ := rng32 x
  have _ : (2147483647 : Int32).toInt = 2147483647 := (by decide)
  have _ := rng32 (x &&& (2147483647 : Int32))
  have _ : (x &&& (2147483647 : Int32)).toInt = x.toInt % 2147483648 := c_mask x (2147483647 : Int32) 31 (by decide) (by decide)
  have _ : (5 : Int32).toInt = 5 := (by decide)
  have _ := rng32 ((x &&& (2147483647 : Int32)) % (5 : Int32))
  have _ := c_irem (x &&& (2147483647 : Int32)) (5 : Int32) 5 (by decide)
  have q : ((x &&& (2147483647 : Int32)) % (5 : Int32)).toInt = 0 ∨ ((x &&& (2147483647 : Int32)) % (5 : Int32)).toInt = 1 ∨ ((x &&& (2147483647 : Int32)) % (5 : Int32)).toInt = 2 ∨ ((x &&& (2147483647 : Int32)) % (5 : Int32)).toInt = 3 ∨ ((x &&& (2147483647 : Int32)) % (5 : Int32)).toInt = 4 := by omega
  rcases q with q | q | q | q | q
  · exact Or.inl (Int32.toInt_inj.mp (q.trans (by decide)))
  · exact Or.inr (Or.inl (Int32.toInt_inj.mp (q.trans (by decide))))
  · exact Or.inr (Or.inr (Or.inl (Int32.toInt_inj.mp (q.trans (by decide)))))
  · exact Or.inr (Or.inr (Or.inr (Or.inl (Int32.toInt_inj.mp (q.trans (by decide))))))
  · exact Or.inr (Or.inr (Or.inr (Or.inr (Int32.toInt_inj.mp (q.trans (by decide))))))
set_option maxRecDepth 65536 in
set_option maxHeartbeats 40000000 in
theorem at00 (l : Launch) (Z : State) (a0 : Array Value) (hw : ∀ d ∈ tables_1, d.before a0 Z = true) (n0 : Nat) (h0 : Heap) (Z0 : n0 ≤ h0.size) (a arr r : Addr) (x0 x1 x2 x3 : Int32) (H : Lst Z n0 h0 a arr (0 : Int32) [.int (0 : Int32), .int (0 : Int32), .int (0 : Int32), .int (0 : Int32), .int (0 : Int32), .int (0 : Int32), .int (0 : Int32), .int (0 : Int32)]) (V : AA Z h0 r .int [.int x0, .int x1, .int x2, .int x3]) :
    Met l Z n0 y6_at method_3_code 4 (Option.some Jvm.ClassFile.FieldType.boolean) ({ frames := 0, cells := 0, slots := 0, locals := 0 } : Room) #[(.ref a), (.ref r), (.int (0 : Int32)), (.int (0 : Int32))] h0 (fun v h => v = some (.int 1) ∧ h = h0) := by
  refine met_intro (own := c1_IntListReversePinLaw) (plainFor_of_name pn_com_example_keys_into_trees_keysintotrees_index_IntListReversePinLaw) rfl Z0 ?_
  intro p e s m below meth c T A hnm
  refine Wp.cast (g' := mkF m 0 #[rv a, rv r, iv 0, iv 0] []) (by first | (simp [entryFrame, mkF, argsToLocals, Value.category, maxLocals, jv, S2, U0, iv, rv]; done) | rfl) ?_
  refine s_iloadN (pc' := 1) A d5_0 rfl rfl ?_
  refine s_iloadN (pc' := 2) A d5_1 rfl rfl ?_
  refine s_icmpY (pc' := 20) A d5_2 (by decide) (by decide) (by decide) ?_
  refine s_iconst (pc' := 21) (z := (1 : Int32)) A d5_20 rfl (by decide) ?_
  refine s_goto (pc' := 25) A d5_21 (by decide) (by decide) ?_
  exact r_bool A rfl (by decide) d5_25 (by decide) (by decide) (⟨rfl, rfl⟩)
set_option maxRecDepth 65536 in
set_option maxHeartbeats 40000000 in
theorem at01 (l : Launch) (Z : State) (a0 : Array Value) (hw : ∀ d ∈ tables_1, d.before a0 Z = true) (n0 : Nat) (h0 : Heap) (Z0 : n0 ≤ h0.size) (a arr r : Addr) (x0 x1 x2 x3 : Int32) (H : Lst Z n0 h0 a arr (0 : Int32) [.int (0 : Int32), .int (0 : Int32), .int (0 : Int32), .int (0 : Int32), .int (0 : Int32), .int (0 : Int32), .int (0 : Int32), .int (0 : Int32)]) (V : AA Z h0 r .int [.int x0, .int x1, .int x2, .int x3]) :
    Met l Z n0 y6_at method_3_code 4 (Option.some Jvm.ClassFile.FieldType.boolean) ({ frames := 0, cells := 0, slots := 0, locals := 0 } : Room) #[(.ref a), (.ref r), (.int (0 : Int32)), (.int (1 : Int32))] h0 (fun v h => v = some (.int 1) ∧ h = h0) := by
  refine met_intro (own := c1_IntListReversePinLaw) (plainFor_of_name pn_com_example_keys_into_trees_keysintotrees_index_IntListReversePinLaw) rfl Z0 ?_
  intro p e s m below meth c T A hnm
  refine Wp.cast (g' := mkF m 0 #[rv a, rv r, iv 0, iv 1] []) (by first | (simp [entryFrame, mkF, argsToLocals, Value.category, maxLocals, jv, S2, U0, iv, rv]; done) | rfl) ?_
  refine s_iloadN (pc' := 1) A d5_0 rfl rfl ?_
  refine s_iloadN (pc' := 2) A d5_1 rfl rfl ?_
  refine s_icmpY (pc' := 20) A d5_2 (by decide) (by decide) (by decide) ?_
  refine s_iconst (pc' := 21) (z := (1 : Int32)) A d5_20 rfl (by decide) ?_
  refine s_goto (pc' := 25) A d5_21 (by decide) (by decide) ?_
  exact r_bool A rfl (by decide) d5_25 (by decide) (by decide) (⟨rfl, rfl⟩)
set_option maxRecDepth 65536 in
set_option maxHeartbeats 40000000 in
theorem at02 (l : Launch) (Z : State) (a0 : Array Value) (hw : ∀ d ∈ tables_1, d.before a0 Z = true) (n0 : Nat) (h0 : Heap) (Z0 : n0 ≤ h0.size) (a arr r : Addr) (x0 x1 x2 x3 : Int32) (H : Lst Z n0 h0 a arr (0 : Int32) [.int (0 : Int32), .int (0 : Int32), .int (0 : Int32), .int (0 : Int32), .int (0 : Int32), .int (0 : Int32), .int (0 : Int32), .int (0 : Int32)]) (V : AA Z h0 r .int [.int x0, .int x1, .int x2, .int x3]) :
    Met l Z n0 y6_at method_3_code 4 (Option.some Jvm.ClassFile.FieldType.boolean) ({ frames := 0, cells := 0, slots := 0, locals := 0 } : Room) #[(.ref a), (.ref r), (.int (0 : Int32)), (.int (2 : Int32))] h0 (fun v h => v = some (.int 1) ∧ h = h0) := by
  refine met_intro (own := c1_IntListReversePinLaw) (plainFor_of_name pn_com_example_keys_into_trees_keysintotrees_index_IntListReversePinLaw) rfl Z0 ?_
  intro p e s m below meth c T A hnm
  refine Wp.cast (g' := mkF m 0 #[rv a, rv r, iv 0, iv 2] []) (by first | (simp [entryFrame, mkF, argsToLocals, Value.category, maxLocals, jv, S2, U0, iv, rv]; done) | rfl) ?_
  refine s_iloadN (pc' := 1) A d5_0 rfl rfl ?_
  refine s_iloadN (pc' := 2) A d5_1 rfl rfl ?_
  refine s_icmpY (pc' := 20) A d5_2 (by decide) (by decide) (by decide) ?_
  refine s_iconst (pc' := 21) (z := (1 : Int32)) A d5_20 rfl (by decide) ?_
  refine s_goto (pc' := 25) A d5_21 (by decide) (by decide) ?_
  exact r_bool A rfl (by decide) d5_25 (by decide) (by decide) (⟨rfl, rfl⟩)
set_option maxRecDepth 65536 in
set_option maxHeartbeats 40000000 in
theorem at03 (l : Launch) (Z : State) (a0 : Array Value) (hw : ∀ d ∈ tables_1, d.before a0 Z = true) (n0 : Nat) (h0 : Heap) (Z0 : n0 ≤ h0.size) (a arr r : Addr) (x0 x1 x2 x3 : Int32) (H : Lst Z n0 h0 a arr (0 : Int32) [.int (0 : Int32), .int (0 : Int32), .int (0 : Int32), .int (0 : Int32), .int (0 : Int32), .int (0 : Int32), .int (0 : Int32), .int (0 : Int32)]) (V : AA Z h0 r .int [.int x0, .int x1, .int x2, .int x3]) :
    Met l Z n0 y6_at method_3_code 4 (Option.some Jvm.ClassFile.FieldType.boolean) ({ frames := 0, cells := 0, slots := 0, locals := 0 } : Room) #[(.ref a), (.ref r), (.int (0 : Int32)), (.int (3 : Int32))] h0 (fun v h => v = some (.int 1) ∧ h = h0) := by
  refine met_intro (own := c1_IntListReversePinLaw) (plainFor_of_name pn_com_example_keys_into_trees_keysintotrees_index_IntListReversePinLaw) rfl Z0 ?_
  intro p e s m below meth c T A hnm
  refine Wp.cast (g' := mkF m 0 #[rv a, rv r, iv 0, iv 3] []) (by first | (simp [entryFrame, mkF, argsToLocals, Value.category, maxLocals, jv, S2, U0, iv, rv]; done) | rfl) ?_
  refine s_iloadN (pc' := 1) A d5_0 rfl rfl ?_
  refine s_iloadN (pc' := 2) A d5_1 rfl rfl ?_
  refine s_icmpY (pc' := 20) A d5_2 (by decide) (by decide) (by decide) ?_
  refine s_iconst (pc' := 21) (z := (1 : Int32)) A d5_20 rfl (by decide) ?_
  refine s_goto (pc' := 25) A d5_21 (by decide) (by decide) ?_
  exact r_bool A rfl (by decide) d5_25 (by decide) (by decide) (⟨rfl, rfl⟩)
set_option maxRecDepth 65536 in
set_option maxHeartbeats 40000000 in
theorem at10 (l : Launch) (Z : State) (a0 : Array Value) (hw : ∀ d ∈ tables_1, d.before a0 Z = true) (n0 : Nat) (h0 : Heap) (Z0 : n0 ≤ h0.size) (a arr r : Addr) (x0 x1 x2 x3 : Int32) (H : Lst Z n0 h0 a arr (1 : Int32) [.int x0, .int (0 : Int32), .int (0 : Int32), .int (0 : Int32), .int (0 : Int32), .int (0 : Int32), .int (0 : Int32), .int (0 : Int32)]) (V : AA Z h0 r .int [.int x0, .int x1, .int x2, .int x3]) :
    Met l Z n0 y6_at method_3_code 4 (Option.some Jvm.ClassFile.FieldType.boolean) ({ frames := 2, cells := 0, slots := 0, locals := 26 } : Room) #[(.ref a), (.ref r), (.int (1 : Int32)), (.int (0 : Int32))] h0 (fun v h => v = some (.int 1) ∧ h = h0) := by
  refine met_intro (own := c1_IntListReversePinLaw) (plainFor_of_name pn_com_example_keys_into_trees_keysintotrees_index_IntListReversePinLaw) rfl Z0 ?_
  intro p e s m below meth c T A hnm
  refine Wp.cast (g' := mkF m 0 #[rv a, rv r, iv 1, iv 0] []) (by first | (simp [entryFrame, mkF, argsToLocals, Value.category, maxLocals, jv, S2, U0, iv, rv]; done) | rfl) ?_
  refine s_iloadN (pc' := 1) A d5_0 rfl rfl ?_
  refine s_iloadN (pc' := 2) A d5_1 rfl rfl ?_
  refine s_icmpN (pc' := 5) A d5_2 rfl (by decide) ?_
  refine s_aloadN (pc' := 6) A d5_5 rfl rfl rfl ?_
  refine s_iloadN (pc' := 7) A d5_6 rfl rfl ?_
  refine s_virtual (pc' := 10) (y := y3_get) (argsL := [(.int (0 : Int32))]) (rest := []) (z := y3_get) A H.1 (l_get l Z a0 hw n0 h0 A.size a arr (1 : Int32) [.int x0, .int (0 : Int32), .int (0 : Int32), .int (0 : Int32), .int (0 : Int32), .int (0 : Int32), .int (0 : Int32), .int (0 : Int32)] (0 : Int32) 0 x0 H (by decide) rfl (by decide)) (w34 hw) (w35 hw) (nf_same (C := "") (w37 hw)) (w37 hw) (w36 hw) (w4 hw) (w38 hw) (by decide) pd__I_I rfl (W := 0) (by decide) (by decide) (Nat.le_of_eq rfl) (by decide) (by decide) rfl rfl d5_7 rfl fun T h1 v2 A Q3 => ?_
  obtain ⟨rfl, eh⟩ := Q3
  rw [eh] at A
  refine Wp.stk (st' := [(.int x0)]) rfl ?_
  refine s_aloadN (pc' := 11) A d5_10 rfl rfl rfl ?_
  refine s_iloadN (pc' := 12) A d5_11 rfl rfl ?_
  refine s_iconst (pc' := 13) (z := (1 : Int32)) A d5_12 rfl (by decide) ?_
  refine s_isub (pc' := 14) (z := (0 : Int32)) A d5_13 rfl (by decide) ?_
  refine s_iloadN (pc' := 15) A d5_14 rfl rfl ?_
  refine s_isub (pc' := 16) (z := (0 : Int32)) A d5_15 rfl (by decide) ?_
  refine s_iaload (pc' := 17) (i := 0) (v := (.int x0)) A V (by decide) rfl d5_16 rfl ?_
  refine s_icmpN (pc' := 20) A d5_17 rfl (teq (rfl : x0 = x0)).2 ?_
  refine s_iconst (pc' := 21) (z := (1 : Int32)) A d5_20 rfl (by decide) ?_
  refine s_goto (pc' := 25) A d5_21 (by decide) (by decide) ?_
  exact r_bool A rfl (by decide) d5_25 (by decide) (by decide) (⟨rfl, rfl⟩)
set_option maxRecDepth 65536 in
set_option maxHeartbeats 40000000 in
theorem at11 (l : Launch) (Z : State) (a0 : Array Value) (hw : ∀ d ∈ tables_1, d.before a0 Z = true) (n0 : Nat) (h0 : Heap) (Z0 : n0 ≤ h0.size) (a arr r : Addr) (x0 x1 x2 x3 : Int32) (H : Lst Z n0 h0 a arr (1 : Int32) [.int x0, .int (0 : Int32), .int (0 : Int32), .int (0 : Int32), .int (0 : Int32), .int (0 : Int32), .int (0 : Int32), .int (0 : Int32)]) (V : AA Z h0 r .int [.int x0, .int x1, .int x2, .int x3]) :
    Met l Z n0 y6_at method_3_code 4 (Option.some Jvm.ClassFile.FieldType.boolean) ({ frames := 0, cells := 0, slots := 0, locals := 0 } : Room) #[(.ref a), (.ref r), (.int (1 : Int32)), (.int (1 : Int32))] h0 (fun v h => v = some (.int 1) ∧ h = h0) := by
  refine met_intro (own := c1_IntListReversePinLaw) (plainFor_of_name pn_com_example_keys_into_trees_keysintotrees_index_IntListReversePinLaw) rfl Z0 ?_
  intro p e s m below meth c T A hnm
  refine Wp.cast (g' := mkF m 0 #[rv a, rv r, iv 1, iv 1] []) (by first | (simp [entryFrame, mkF, argsToLocals, Value.category, maxLocals, jv, S2, U0, iv, rv]; done) | rfl) ?_
  refine s_iloadN (pc' := 1) A d5_0 rfl rfl ?_
  refine s_iloadN (pc' := 2) A d5_1 rfl rfl ?_
  refine s_icmpY (pc' := 20) A d5_2 (by decide) (by decide) (by decide) ?_
  refine s_iconst (pc' := 21) (z := (1 : Int32)) A d5_20 rfl (by decide) ?_
  refine s_goto (pc' := 25) A d5_21 (by decide) (by decide) ?_
  exact r_bool A rfl (by decide) d5_25 (by decide) (by decide) (⟨rfl, rfl⟩)
set_option maxRecDepth 65536 in
set_option maxHeartbeats 40000000 in
theorem at12 (l : Launch) (Z : State) (a0 : Array Value) (hw : ∀ d ∈ tables_1, d.before a0 Z = true) (n0 : Nat) (h0 : Heap) (Z0 : n0 ≤ h0.size) (a arr r : Addr) (x0 x1 x2 x3 : Int32) (H : Lst Z n0 h0 a arr (1 : Int32) [.int x0, .int (0 : Int32), .int (0 : Int32), .int (0 : Int32), .int (0 : Int32), .int (0 : Int32), .int (0 : Int32), .int (0 : Int32)]) (V : AA Z h0 r .int [.int x0, .int x1, .int x2, .int x3]) :
    Met l Z n0 y6_at method_3_code 4 (Option.some Jvm.ClassFile.FieldType.boolean) ({ frames := 0, cells := 0, slots := 0, locals := 0 } : Room) #[(.ref a), (.ref r), (.int (1 : Int32)), (.int (2 : Int32))] h0 (fun v h => v = some (.int 1) ∧ h = h0) := by
  refine met_intro (own := c1_IntListReversePinLaw) (plainFor_of_name pn_com_example_keys_into_trees_keysintotrees_index_IntListReversePinLaw) rfl Z0 ?_
  intro p e s m below meth c T A hnm
  refine Wp.cast (g' := mkF m 0 #[rv a, rv r, iv 1, iv 2] []) (by first | (simp [entryFrame, mkF, argsToLocals, Value.category, maxLocals, jv, S2, U0, iv, rv]; done) | rfl) ?_
  refine s_iloadN (pc' := 1) A d5_0 rfl rfl ?_
  refine s_iloadN (pc' := 2) A d5_1 rfl rfl ?_
  refine s_icmpY (pc' := 20) A d5_2 (by decide) (by decide) (by decide) ?_
  refine s_iconst (pc' := 21) (z := (1 : Int32)) A d5_20 rfl (by decide) ?_
  refine s_goto (pc' := 25) A d5_21 (by decide) (by decide) ?_
  exact r_bool A rfl (by decide) d5_25 (by decide) (by decide) (⟨rfl, rfl⟩)
set_option maxRecDepth 65536 in
set_option maxHeartbeats 40000000 in
theorem at13 (l : Launch) (Z : State) (a0 : Array Value) (hw : ∀ d ∈ tables_1, d.before a0 Z = true) (n0 : Nat) (h0 : Heap) (Z0 : n0 ≤ h0.size) (a arr r : Addr) (x0 x1 x2 x3 : Int32) (H : Lst Z n0 h0 a arr (1 : Int32) [.int x0, .int (0 : Int32), .int (0 : Int32), .int (0 : Int32), .int (0 : Int32), .int (0 : Int32), .int (0 : Int32), .int (0 : Int32)]) (V : AA Z h0 r .int [.int x0, .int x1, .int x2, .int x3]) :
    Met l Z n0 y6_at method_3_code 4 (Option.some Jvm.ClassFile.FieldType.boolean) ({ frames := 0, cells := 0, slots := 0, locals := 0 } : Room) #[(.ref a), (.ref r), (.int (1 : Int32)), (.int (3 : Int32))] h0 (fun v h => v = some (.int 1) ∧ h = h0) := by
  refine met_intro (own := c1_IntListReversePinLaw) (plainFor_of_name pn_com_example_keys_into_trees_keysintotrees_index_IntListReversePinLaw) rfl Z0 ?_
  intro p e s m below meth c T A hnm
  refine Wp.cast (g' := mkF m 0 #[rv a, rv r, iv 1, iv 3] []) (by first | (simp [entryFrame, mkF, argsToLocals, Value.category, maxLocals, jv, S2, U0, iv, rv]; done) | rfl) ?_
  refine s_iloadN (pc' := 1) A d5_0 rfl rfl ?_
  refine s_iloadN (pc' := 2) A d5_1 rfl rfl ?_
  refine s_icmpY (pc' := 20) A d5_2 (by decide) (by decide) (by decide) ?_
  refine s_iconst (pc' := 21) (z := (1 : Int32)) A d5_20 rfl (by decide) ?_
  refine s_goto (pc' := 25) A d5_21 (by decide) (by decide) ?_
  exact r_bool A rfl (by decide) d5_25 (by decide) (by decide) (⟨rfl, rfl⟩)
set_option maxRecDepth 65536 in
set_option maxHeartbeats 40000000 in
theorem at20 (l : Launch) (Z : State) (a0 : Array Value) (hw : ∀ d ∈ tables_1, d.before a0 Z = true) (n0 : Nat) (h0 : Heap) (Z0 : n0 ≤ h0.size) (a arr r : Addr) (x0 x1 x2 x3 : Int32) (H : Lst Z n0 h0 a arr (2 : Int32) [.int x1, .int x0, .int (0 : Int32), .int (0 : Int32), .int (0 : Int32), .int (0 : Int32), .int (0 : Int32), .int (0 : Int32)]) (V : AA Z h0 r .int [.int x0, .int x1, .int x2, .int x3]) :
    Met l Z n0 y6_at method_3_code 4 (Option.some Jvm.ClassFile.FieldType.boolean) ({ frames := 2, cells := 0, slots := 0, locals := 26 } : Room) #[(.ref a), (.ref r), (.int (2 : Int32)), (.int (0 : Int32))] h0 (fun v h => v = some (.int 1) ∧ h = h0) := by
  refine met_intro (own := c1_IntListReversePinLaw) (plainFor_of_name pn_com_example_keys_into_trees_keysintotrees_index_IntListReversePinLaw) rfl Z0 ?_
  intro p e s m below meth c T A hnm
  refine Wp.cast (g' := mkF m 0 #[rv a, rv r, iv 2, iv 0] []) (by first | (simp [entryFrame, mkF, argsToLocals, Value.category, maxLocals, jv, S2, U0, iv, rv]; done) | rfl) ?_
  refine s_iloadN (pc' := 1) A d5_0 rfl rfl ?_
  refine s_iloadN (pc' := 2) A d5_1 rfl rfl ?_
  refine s_icmpN (pc' := 5) A d5_2 rfl (by decide) ?_
  refine s_aloadN (pc' := 6) A d5_5 rfl rfl rfl ?_
  refine s_iloadN (pc' := 7) A d5_6 rfl rfl ?_
  refine s_virtual (pc' := 10) (y := y3_get) (argsL := [(.int (0 : Int32))]) (rest := []) (z := y3_get) A H.1 (l_get l Z a0 hw n0 h0 A.size a arr (2 : Int32) [.int x1, .int x0, .int (0 : Int32), .int (0 : Int32), .int (0 : Int32), .int (0 : Int32), .int (0 : Int32), .int (0 : Int32)] (0 : Int32) 0 x1 H (by decide) rfl (by decide)) (w34 hw) (w35 hw) (nf_same (C := "") (w37 hw)) (w37 hw) (w36 hw) (w4 hw) (w38 hw) (by decide) pd__I_I rfl (W := 0) (by decide) (by decide) (Nat.le_of_eq rfl) (by decide) (by decide) rfl rfl d5_7 rfl fun T h1 v2 A Q3 => ?_
  obtain ⟨rfl, eh⟩ := Q3
  rw [eh] at A
  refine Wp.stk (st' := [(.int x1)]) rfl ?_
  refine s_aloadN (pc' := 11) A d5_10 rfl rfl rfl ?_
  refine s_iloadN (pc' := 12) A d5_11 rfl rfl ?_
  refine s_iconst (pc' := 13) (z := (1 : Int32)) A d5_12 rfl (by decide) ?_
  refine s_isub (pc' := 14) (z := (1 : Int32)) A d5_13 rfl (by decide) ?_
  refine s_iloadN (pc' := 15) A d5_14 rfl rfl ?_
  refine s_isub (pc' := 16) (z := (1 : Int32)) A d5_15 rfl (by decide) ?_
  refine s_iaload (pc' := 17) (i := 1) (v := (.int x1)) A V (by decide) rfl d5_16 rfl ?_
  refine s_icmpN (pc' := 20) A d5_17 rfl (teq (rfl : x1 = x1)).2 ?_
  refine s_iconst (pc' := 21) (z := (1 : Int32)) A d5_20 rfl (by decide) ?_
  refine s_goto (pc' := 25) A d5_21 (by decide) (by decide) ?_
  exact r_bool A rfl (by decide) d5_25 (by decide) (by decide) (⟨rfl, rfl⟩)
set_option maxRecDepth 65536 in
set_option maxHeartbeats 40000000 in
theorem at21 (l : Launch) (Z : State) (a0 : Array Value) (hw : ∀ d ∈ tables_1, d.before a0 Z = true) (n0 : Nat) (h0 : Heap) (Z0 : n0 ≤ h0.size) (a arr r : Addr) (x0 x1 x2 x3 : Int32) (H : Lst Z n0 h0 a arr (2 : Int32) [.int x1, .int x0, .int (0 : Int32), .int (0 : Int32), .int (0 : Int32), .int (0 : Int32), .int (0 : Int32), .int (0 : Int32)]) (V : AA Z h0 r .int [.int x0, .int x1, .int x2, .int x3]) :
    Met l Z n0 y6_at method_3_code 4 (Option.some Jvm.ClassFile.FieldType.boolean) ({ frames := 2, cells := 0, slots := 0, locals := 26 } : Room) #[(.ref a), (.ref r), (.int (2 : Int32)), (.int (1 : Int32))] h0 (fun v h => v = some (.int 1) ∧ h = h0) := by
  refine met_intro (own := c1_IntListReversePinLaw) (plainFor_of_name pn_com_example_keys_into_trees_keysintotrees_index_IntListReversePinLaw) rfl Z0 ?_
  intro p e s m below meth c T A hnm
  refine Wp.cast (g' := mkF m 0 #[rv a, rv r, iv 2, iv 1] []) (by first | (simp [entryFrame, mkF, argsToLocals, Value.category, maxLocals, jv, S2, U0, iv, rv]; done) | rfl) ?_
  refine s_iloadN (pc' := 1) A d5_0 rfl rfl ?_
  refine s_iloadN (pc' := 2) A d5_1 rfl rfl ?_
  refine s_icmpN (pc' := 5) A d5_2 rfl (by decide) ?_
  refine s_aloadN (pc' := 6) A d5_5 rfl rfl rfl ?_
  refine s_iloadN (pc' := 7) A d5_6 rfl rfl ?_
  refine s_virtual (pc' := 10) (y := y3_get) (argsL := [(.int (1 : Int32))]) (rest := []) (z := y3_get) A H.1 (l_get l Z a0 hw n0 h0 A.size a arr (2 : Int32) [.int x1, .int x0, .int (0 : Int32), .int (0 : Int32), .int (0 : Int32), .int (0 : Int32), .int (0 : Int32), .int (0 : Int32)] (1 : Int32) 1 x0 H (by decide) rfl (by decide)) (w34 hw) (w35 hw) (nf_same (C := "") (w37 hw)) (w37 hw) (w36 hw) (w4 hw) (w38 hw) (by decide) pd__I_I rfl (W := 0) (by decide) (by decide) (Nat.le_of_eq rfl) (by decide) (by decide) rfl rfl d5_7 rfl fun T h1 v2 A Q3 => ?_
  obtain ⟨rfl, eh⟩ := Q3
  rw [eh] at A
  refine Wp.stk (st' := [(.int x0)]) rfl ?_
  refine s_aloadN (pc' := 11) A d5_10 rfl rfl rfl ?_
  refine s_iloadN (pc' := 12) A d5_11 rfl rfl ?_
  refine s_iconst (pc' := 13) (z := (1 : Int32)) A d5_12 rfl (by decide) ?_
  refine s_isub (pc' := 14) (z := (1 : Int32)) A d5_13 rfl (by decide) ?_
  refine s_iloadN (pc' := 15) A d5_14 rfl rfl ?_
  refine s_isub (pc' := 16) (z := (0 : Int32)) A d5_15 rfl (by decide) ?_
  refine s_iaload (pc' := 17) (i := 0) (v := (.int x0)) A V (by decide) rfl d5_16 rfl ?_
  refine s_icmpN (pc' := 20) A d5_17 rfl (teq (rfl : x0 = x0)).2 ?_
  refine s_iconst (pc' := 21) (z := (1 : Int32)) A d5_20 rfl (by decide) ?_
  refine s_goto (pc' := 25) A d5_21 (by decide) (by decide) ?_
  exact r_bool A rfl (by decide) d5_25 (by decide) (by decide) (⟨rfl, rfl⟩)
set_option maxRecDepth 65536 in
set_option maxHeartbeats 40000000 in
theorem at22 (l : Launch) (Z : State) (a0 : Array Value) (hw : ∀ d ∈ tables_1, d.before a0 Z = true) (n0 : Nat) (h0 : Heap) (Z0 : n0 ≤ h0.size) (a arr r : Addr) (x0 x1 x2 x3 : Int32) (H : Lst Z n0 h0 a arr (2 : Int32) [.int x1, .int x0, .int (0 : Int32), .int (0 : Int32), .int (0 : Int32), .int (0 : Int32), .int (0 : Int32), .int (0 : Int32)]) (V : AA Z h0 r .int [.int x0, .int x1, .int x2, .int x3]) :
    Met l Z n0 y6_at method_3_code 4 (Option.some Jvm.ClassFile.FieldType.boolean) ({ frames := 0, cells := 0, slots := 0, locals := 0 } : Room) #[(.ref a), (.ref r), (.int (2 : Int32)), (.int (2 : Int32))] h0 (fun v h => v = some (.int 1) ∧ h = h0) := by
  refine met_intro (own := c1_IntListReversePinLaw) (plainFor_of_name pn_com_example_keys_into_trees_keysintotrees_index_IntListReversePinLaw) rfl Z0 ?_
  intro p e s m below meth c T A hnm
  refine Wp.cast (g' := mkF m 0 #[rv a, rv r, iv 2, iv 2] []) (by first | (simp [entryFrame, mkF, argsToLocals, Value.category, maxLocals, jv, S2, U0, iv, rv]; done) | rfl) ?_
  refine s_iloadN (pc' := 1) A d5_0 rfl rfl ?_
  refine s_iloadN (pc' := 2) A d5_1 rfl rfl ?_
  refine s_icmpY (pc' := 20) A d5_2 (by decide) (by decide) (by decide) ?_
  refine s_iconst (pc' := 21) (z := (1 : Int32)) A d5_20 rfl (by decide) ?_
  refine s_goto (pc' := 25) A d5_21 (by decide) (by decide) ?_
  exact r_bool A rfl (by decide) d5_25 (by decide) (by decide) (⟨rfl, rfl⟩)
set_option maxRecDepth 65536 in
set_option maxHeartbeats 40000000 in
theorem at23 (l : Launch) (Z : State) (a0 : Array Value) (hw : ∀ d ∈ tables_1, d.before a0 Z = true) (n0 : Nat) (h0 : Heap) (Z0 : n0 ≤ h0.size) (a arr r : Addr) (x0 x1 x2 x3 : Int32) (H : Lst Z n0 h0 a arr (2 : Int32) [.int x1, .int x0, .int (0 : Int32), .int (0 : Int32), .int (0 : Int32), .int (0 : Int32), .int (0 : Int32), .int (0 : Int32)]) (V : AA Z h0 r .int [.int x0, .int x1, .int x2, .int x3]) :
    Met l Z n0 y6_at method_3_code 4 (Option.some Jvm.ClassFile.FieldType.boolean) ({ frames := 0, cells := 0, slots := 0, locals := 0 } : Room) #[(.ref a), (.ref r), (.int (2 : Int32)), (.int (3 : Int32))] h0 (fun v h => v = some (.int 1) ∧ h = h0) := by
  refine met_intro (own := c1_IntListReversePinLaw) (plainFor_of_name pn_com_example_keys_into_trees_keysintotrees_index_IntListReversePinLaw) rfl Z0 ?_
  intro p e s m below meth c T A hnm
  refine Wp.cast (g' := mkF m 0 #[rv a, rv r, iv 2, iv 3] []) (by first | (simp [entryFrame, mkF, argsToLocals, Value.category, maxLocals, jv, S2, U0, iv, rv]; done) | rfl) ?_
  refine s_iloadN (pc' := 1) A d5_0 rfl rfl ?_
  refine s_iloadN (pc' := 2) A d5_1 rfl rfl ?_
  refine s_icmpY (pc' := 20) A d5_2 (by decide) (by decide) (by decide) ?_
  refine s_iconst (pc' := 21) (z := (1 : Int32)) A d5_20 rfl (by decide) ?_
  refine s_goto (pc' := 25) A d5_21 (by decide) (by decide) ?_
  exact r_bool A rfl (by decide) d5_25 (by decide) (by decide) (⟨rfl, rfl⟩)
set_option maxRecDepth 65536 in
set_option maxHeartbeats 40000000 in
theorem at30 (l : Launch) (Z : State) (a0 : Array Value) (hw : ∀ d ∈ tables_1, d.before a0 Z = true) (n0 : Nat) (h0 : Heap) (Z0 : n0 ≤ h0.size) (a arr r : Addr) (x0 x1 x2 x3 : Int32) (H : Lst Z n0 h0 a arr (3 : Int32) [.int x2, .int x1, .int x0, .int (0 : Int32), .int (0 : Int32), .int (0 : Int32), .int (0 : Int32), .int (0 : Int32)]) (V : AA Z h0 r .int [.int x0, .int x1, .int x2, .int x3]) :
    Met l Z n0 y6_at method_3_code 4 (Option.some Jvm.ClassFile.FieldType.boolean) ({ frames := 2, cells := 0, slots := 0, locals := 26 } : Room) #[(.ref a), (.ref r), (.int (3 : Int32)), (.int (0 : Int32))] h0 (fun v h => v = some (.int 1) ∧ h = h0) := by
  refine met_intro (own := c1_IntListReversePinLaw) (plainFor_of_name pn_com_example_keys_into_trees_keysintotrees_index_IntListReversePinLaw) rfl Z0 ?_
  intro p e s m below meth c T A hnm
  refine Wp.cast (g' := mkF m 0 #[rv a, rv r, iv 3, iv 0] []) (by first | (simp [entryFrame, mkF, argsToLocals, Value.category, maxLocals, jv, S2, U0, iv, rv]; done) | rfl) ?_
  refine s_iloadN (pc' := 1) A d5_0 rfl rfl ?_
  refine s_iloadN (pc' := 2) A d5_1 rfl rfl ?_
  refine s_icmpN (pc' := 5) A d5_2 rfl (by decide) ?_
  refine s_aloadN (pc' := 6) A d5_5 rfl rfl rfl ?_
  refine s_iloadN (pc' := 7) A d5_6 rfl rfl ?_
  refine s_virtual (pc' := 10) (y := y3_get) (argsL := [(.int (0 : Int32))]) (rest := []) (z := y3_get) A H.1 (l_get l Z a0 hw n0 h0 A.size a arr (3 : Int32) [.int x2, .int x1, .int x0, .int (0 : Int32), .int (0 : Int32), .int (0 : Int32), .int (0 : Int32), .int (0 : Int32)] (0 : Int32) 0 x2 H (by decide) rfl (by decide)) (w34 hw) (w35 hw) (nf_same (C := "") (w37 hw)) (w37 hw) (w36 hw) (w4 hw) (w38 hw) (by decide) pd__I_I rfl (W := 0) (by decide) (by decide) (Nat.le_of_eq rfl) (by decide) (by decide) rfl rfl d5_7 rfl fun T h1 v2 A Q3 => ?_
  obtain ⟨rfl, eh⟩ := Q3
  rw [eh] at A
  refine Wp.stk (st' := [(.int x2)]) rfl ?_
  refine s_aloadN (pc' := 11) A d5_10 rfl rfl rfl ?_
  refine s_iloadN (pc' := 12) A d5_11 rfl rfl ?_
  refine s_iconst (pc' := 13) (z := (1 : Int32)) A d5_12 rfl (by decide) ?_
  refine s_isub (pc' := 14) (z := (2 : Int32)) A d5_13 rfl (by decide) ?_
  refine s_iloadN (pc' := 15) A d5_14 rfl rfl ?_
  refine s_isub (pc' := 16) (z := (2 : Int32)) A d5_15 rfl (by decide) ?_
  refine s_iaload (pc' := 17) (i := 2) (v := (.int x2)) A V (by decide) rfl d5_16 rfl ?_
  refine s_icmpN (pc' := 20) A d5_17 rfl (teq (rfl : x2 = x2)).2 ?_
  refine s_iconst (pc' := 21) (z := (1 : Int32)) A d5_20 rfl (by decide) ?_
  refine s_goto (pc' := 25) A d5_21 (by decide) (by decide) ?_
  exact r_bool A rfl (by decide) d5_25 (by decide) (by decide) (⟨rfl, rfl⟩)
set_option maxRecDepth 65536 in
set_option maxHeartbeats 40000000 in
theorem at31 (l : Launch) (Z : State) (a0 : Array Value) (hw : ∀ d ∈ tables_1, d.before a0 Z = true) (n0 : Nat) (h0 : Heap) (Z0 : n0 ≤ h0.size) (a arr r : Addr) (x0 x1 x2 x3 : Int32) (H : Lst Z n0 h0 a arr (3 : Int32) [.int x2, .int x1, .int x0, .int (0 : Int32), .int (0 : Int32), .int (0 : Int32), .int (0 : Int32), .int (0 : Int32)]) (V : AA Z h0 r .int [.int x0, .int x1, .int x2, .int x3]) :
    Met l Z n0 y6_at method_3_code 4 (Option.some Jvm.ClassFile.FieldType.boolean) ({ frames := 2, cells := 0, slots := 0, locals := 26 } : Room) #[(.ref a), (.ref r), (.int (3 : Int32)), (.int (1 : Int32))] h0 (fun v h => v = some (.int 1) ∧ h = h0) := by
  refine met_intro (own := c1_IntListReversePinLaw) (plainFor_of_name pn_com_example_keys_into_trees_keysintotrees_index_IntListReversePinLaw) rfl Z0 ?_
  intro p e s m below meth c T A hnm
  refine Wp.cast (g' := mkF m 0 #[rv a, rv r, iv 3, iv 1] []) (by first | (simp [entryFrame, mkF, argsToLocals, Value.category, maxLocals, jv, S2, U0, iv, rv]; done) | rfl) ?_
  refine s_iloadN (pc' := 1) A d5_0 rfl rfl ?_
  refine s_iloadN (pc' := 2) A d5_1 rfl rfl ?_
  refine s_icmpN (pc' := 5) A d5_2 rfl (by decide) ?_
  refine s_aloadN (pc' := 6) A d5_5 rfl rfl rfl ?_
  refine s_iloadN (pc' := 7) A d5_6 rfl rfl ?_
  refine s_virtual (pc' := 10) (y := y3_get) (argsL := [(.int (1 : Int32))]) (rest := []) (z := y3_get) A H.1 (l_get l Z a0 hw n0 h0 A.size a arr (3 : Int32) [.int x2, .int x1, .int x0, .int (0 : Int32), .int (0 : Int32), .int (0 : Int32), .int (0 : Int32), .int (0 : Int32)] (1 : Int32) 1 x1 H (by decide) rfl (by decide)) (w34 hw) (w35 hw) (nf_same (C := "") (w37 hw)) (w37 hw) (w36 hw) (w4 hw) (w38 hw) (by decide) pd__I_I rfl (W := 0) (by decide) (by decide) (Nat.le_of_eq rfl) (by decide) (by decide) rfl rfl d5_7 rfl fun T h1 v2 A Q3 => ?_
  obtain ⟨rfl, eh⟩ := Q3
  rw [eh] at A
  refine Wp.stk (st' := [(.int x1)]) rfl ?_
  refine s_aloadN (pc' := 11) A d5_10 rfl rfl rfl ?_
  refine s_iloadN (pc' := 12) A d5_11 rfl rfl ?_
  refine s_iconst (pc' := 13) (z := (1 : Int32)) A d5_12 rfl (by decide) ?_
  refine s_isub (pc' := 14) (z := (2 : Int32)) A d5_13 rfl (by decide) ?_
  refine s_iloadN (pc' := 15) A d5_14 rfl rfl ?_
  refine s_isub (pc' := 16) (z := (1 : Int32)) A d5_15 rfl (by decide) ?_
  refine s_iaload (pc' := 17) (i := 1) (v := (.int x1)) A V (by decide) rfl d5_16 rfl ?_
  refine s_icmpN (pc' := 20) A d5_17 rfl (teq (rfl : x1 = x1)).2 ?_
  refine s_iconst (pc' := 21) (z := (1 : Int32)) A d5_20 rfl (by decide) ?_
  refine s_goto (pc' := 25) A d5_21 (by decide) (by decide) ?_
  exact r_bool A rfl (by decide) d5_25 (by decide) (by decide) (⟨rfl, rfl⟩)
set_option maxRecDepth 65536 in
set_option maxHeartbeats 40000000 in
theorem at32 (l : Launch) (Z : State) (a0 : Array Value) (hw : ∀ d ∈ tables_1, d.before a0 Z = true) (n0 : Nat) (h0 : Heap) (Z0 : n0 ≤ h0.size) (a arr r : Addr) (x0 x1 x2 x3 : Int32) (H : Lst Z n0 h0 a arr (3 : Int32) [.int x2, .int x1, .int x0, .int (0 : Int32), .int (0 : Int32), .int (0 : Int32), .int (0 : Int32), .int (0 : Int32)]) (V : AA Z h0 r .int [.int x0, .int x1, .int x2, .int x3]) :
    Met l Z n0 y6_at method_3_code 4 (Option.some Jvm.ClassFile.FieldType.boolean) ({ frames := 2, cells := 0, slots := 0, locals := 26 } : Room) #[(.ref a), (.ref r), (.int (3 : Int32)), (.int (2 : Int32))] h0 (fun v h => v = some (.int 1) ∧ h = h0) := by
  refine met_intro (own := c1_IntListReversePinLaw) (plainFor_of_name pn_com_example_keys_into_trees_keysintotrees_index_IntListReversePinLaw) rfl Z0 ?_
  intro p e s m below meth c T A hnm
  refine Wp.cast (g' := mkF m 0 #[rv a, rv r, iv 3, iv 2] []) (by first | (simp [entryFrame, mkF, argsToLocals, Value.category, maxLocals, jv, S2, U0, iv, rv]; done) | rfl) ?_
  refine s_iloadN (pc' := 1) A d5_0 rfl rfl ?_
  refine s_iloadN (pc' := 2) A d5_1 rfl rfl ?_
  refine s_icmpN (pc' := 5) A d5_2 rfl (by decide) ?_
  refine s_aloadN (pc' := 6) A d5_5 rfl rfl rfl ?_
  refine s_iloadN (pc' := 7) A d5_6 rfl rfl ?_
  refine s_virtual (pc' := 10) (y := y3_get) (argsL := [(.int (2 : Int32))]) (rest := []) (z := y3_get) A H.1 (l_get l Z a0 hw n0 h0 A.size a arr (3 : Int32) [.int x2, .int x1, .int x0, .int (0 : Int32), .int (0 : Int32), .int (0 : Int32), .int (0 : Int32), .int (0 : Int32)] (2 : Int32) 2 x0 H (by decide) rfl (by decide)) (w34 hw) (w35 hw) (nf_same (C := "") (w37 hw)) (w37 hw) (w36 hw) (w4 hw) (w38 hw) (by decide) pd__I_I rfl (W := 0) (by decide) (by decide) (Nat.le_of_eq rfl) (by decide) (by decide) rfl rfl d5_7 rfl fun T h1 v2 A Q3 => ?_
  obtain ⟨rfl, eh⟩ := Q3
  rw [eh] at A
  refine Wp.stk (st' := [(.int x0)]) rfl ?_
  refine s_aloadN (pc' := 11) A d5_10 rfl rfl rfl ?_
  refine s_iloadN (pc' := 12) A d5_11 rfl rfl ?_
  refine s_iconst (pc' := 13) (z := (1 : Int32)) A d5_12 rfl (by decide) ?_
  refine s_isub (pc' := 14) (z := (2 : Int32)) A d5_13 rfl (by decide) ?_
  refine s_iloadN (pc' := 15) A d5_14 rfl rfl ?_
  refine s_isub (pc' := 16) (z := (0 : Int32)) A d5_15 rfl (by decide) ?_
  refine s_iaload (pc' := 17) (i := 0) (v := (.int x0)) A V (by decide) rfl d5_16 rfl ?_
  refine s_icmpN (pc' := 20) A d5_17 rfl (teq (rfl : x0 = x0)).2 ?_
  refine s_iconst (pc' := 21) (z := (1 : Int32)) A d5_20 rfl (by decide) ?_
  refine s_goto (pc' := 25) A d5_21 (by decide) (by decide) ?_
  exact r_bool A rfl (by decide) d5_25 (by decide) (by decide) (⟨rfl, rfl⟩)
set_option maxRecDepth 65536 in
set_option maxHeartbeats 40000000 in
theorem at33 (l : Launch) (Z : State) (a0 : Array Value) (hw : ∀ d ∈ tables_1, d.before a0 Z = true) (n0 : Nat) (h0 : Heap) (Z0 : n0 ≤ h0.size) (a arr r : Addr) (x0 x1 x2 x3 : Int32) (H : Lst Z n0 h0 a arr (3 : Int32) [.int x2, .int x1, .int x0, .int (0 : Int32), .int (0 : Int32), .int (0 : Int32), .int (0 : Int32), .int (0 : Int32)]) (V : AA Z h0 r .int [.int x0, .int x1, .int x2, .int x3]) :
    Met l Z n0 y6_at method_3_code 4 (Option.some Jvm.ClassFile.FieldType.boolean) ({ frames := 0, cells := 0, slots := 0, locals := 0 } : Room) #[(.ref a), (.ref r), (.int (3 : Int32)), (.int (3 : Int32))] h0 (fun v h => v = some (.int 1) ∧ h = h0) := by
  refine met_intro (own := c1_IntListReversePinLaw) (plainFor_of_name pn_com_example_keys_into_trees_keysintotrees_index_IntListReversePinLaw) rfl Z0 ?_
  intro p e s m below meth c T A hnm
  refine Wp.cast (g' := mkF m 0 #[rv a, rv r, iv 3, iv 3] []) (by first | (simp [entryFrame, mkF, argsToLocals, Value.category, maxLocals, jv, S2, U0, iv, rv]; done) | rfl) ?_
  refine s_iloadN (pc' := 1) A d5_0 rfl rfl ?_
  refine s_iloadN (pc' := 2) A d5_1 rfl rfl ?_
  refine s_icmpY (pc' := 20) A d5_2 (by decide) (by decide) (by decide) ?_
  refine s_iconst (pc' := 21) (z := (1 : Int32)) A d5_20 rfl (by decide) ?_
  refine s_goto (pc' := 25) A d5_21 (by decide) (by decide) ?_
  exact r_bool A rfl (by decide) d5_25 (by decide) (by decide) (⟨rfl, rfl⟩)
set_option maxRecDepth 65536 in
set_option maxHeartbeats 40000000 in
theorem at40 (l : Launch) (Z : State) (a0 : Array Value) (hw : ∀ d ∈ tables_1, d.before a0 Z = true) (n0 : Nat) (h0 : Heap) (Z0 : n0 ≤ h0.size) (a arr r : Addr) (x0 x1 x2 x3 : Int32) (H : Lst Z n0 h0 a arr (4 : Int32) [.int x3, .int x2, .int x1, .int x0, .int (0 : Int32), .int (0 : Int32), .int (0 : Int32), .int (0 : Int32)]) (V : AA Z h0 r .int [.int x0, .int x1, .int x2, .int x3]) :
    Met l Z n0 y6_at method_3_code 4 (Option.some Jvm.ClassFile.FieldType.boolean) ({ frames := 2, cells := 0, slots := 0, locals := 26 } : Room) #[(.ref a), (.ref r), (.int (4 : Int32)), (.int (0 : Int32))] h0 (fun v h => v = some (.int 1) ∧ h = h0) := by
  refine met_intro (own := c1_IntListReversePinLaw) (plainFor_of_name pn_com_example_keys_into_trees_keysintotrees_index_IntListReversePinLaw) rfl Z0 ?_
  intro p e s m below meth c T A hnm
  refine Wp.cast (g' := mkF m 0 #[rv a, rv r, iv 4, iv 0] []) (by first | (simp [entryFrame, mkF, argsToLocals, Value.category, maxLocals, jv, S2, U0, iv, rv]; done) | rfl) ?_
  refine s_iloadN (pc' := 1) A d5_0 rfl rfl ?_
  refine s_iloadN (pc' := 2) A d5_1 rfl rfl ?_
  refine s_icmpN (pc' := 5) A d5_2 rfl (by decide) ?_
  refine s_aloadN (pc' := 6) A d5_5 rfl rfl rfl ?_
  refine s_iloadN (pc' := 7) A d5_6 rfl rfl ?_
  refine s_virtual (pc' := 10) (y := y3_get) (argsL := [(.int (0 : Int32))]) (rest := []) (z := y3_get) A H.1 (l_get l Z a0 hw n0 h0 A.size a arr (4 : Int32) [.int x3, .int x2, .int x1, .int x0, .int (0 : Int32), .int (0 : Int32), .int (0 : Int32), .int (0 : Int32)] (0 : Int32) 0 x3 H (by decide) rfl (by decide)) (w34 hw) (w35 hw) (nf_same (C := "") (w37 hw)) (w37 hw) (w36 hw) (w4 hw) (w38 hw) (by decide) pd__I_I rfl (W := 0) (by decide) (by decide) (Nat.le_of_eq rfl) (by decide) (by decide) rfl rfl d5_7 rfl fun T h1 v2 A Q3 => ?_
  obtain ⟨rfl, eh⟩ := Q3
  rw [eh] at A
  refine Wp.stk (st' := [(.int x3)]) rfl ?_
  refine s_aloadN (pc' := 11) A d5_10 rfl rfl rfl ?_
  refine s_iloadN (pc' := 12) A d5_11 rfl rfl ?_
  refine s_iconst (pc' := 13) (z := (1 : Int32)) A d5_12 rfl (by decide) ?_
  refine s_isub (pc' := 14) (z := (3 : Int32)) A d5_13 rfl (by decide) ?_
  refine s_iloadN (pc' := 15) A d5_14 rfl rfl ?_
  refine s_isub (pc' := 16) (z := (3 : Int32)) A d5_15 rfl (by decide) ?_
  refine s_iaload (pc' := 17) (i := 3) (v := (.int x3)) A V (by decide) rfl d5_16 rfl ?_
  refine s_icmpN (pc' := 20) A d5_17 rfl (teq (rfl : x3 = x3)).2 ?_
  refine s_iconst (pc' := 21) (z := (1 : Int32)) A d5_20 rfl (by decide) ?_
  refine s_goto (pc' := 25) A d5_21 (by decide) (by decide) ?_
  exact r_bool A rfl (by decide) d5_25 (by decide) (by decide) (⟨rfl, rfl⟩)
set_option maxRecDepth 65536 in
set_option maxHeartbeats 40000000 in
theorem at41 (l : Launch) (Z : State) (a0 : Array Value) (hw : ∀ d ∈ tables_1, d.before a0 Z = true) (n0 : Nat) (h0 : Heap) (Z0 : n0 ≤ h0.size) (a arr r : Addr) (x0 x1 x2 x3 : Int32) (H : Lst Z n0 h0 a arr (4 : Int32) [.int x3, .int x2, .int x1, .int x0, .int (0 : Int32), .int (0 : Int32), .int (0 : Int32), .int (0 : Int32)]) (V : AA Z h0 r .int [.int x0, .int x1, .int x2, .int x3]) :
    Met l Z n0 y6_at method_3_code 4 (Option.some Jvm.ClassFile.FieldType.boolean) ({ frames := 2, cells := 0, slots := 0, locals := 26 } : Room) #[(.ref a), (.ref r), (.int (4 : Int32)), (.int (1 : Int32))] h0 (fun v h => v = some (.int 1) ∧ h = h0) := by
  refine met_intro (own := c1_IntListReversePinLaw) (plainFor_of_name pn_com_example_keys_into_trees_keysintotrees_index_IntListReversePinLaw) rfl Z0 ?_
  intro p e s m below meth c T A hnm
  refine Wp.cast (g' := mkF m 0 #[rv a, rv r, iv 4, iv 1] []) (by first | (simp [entryFrame, mkF, argsToLocals, Value.category, maxLocals, jv, S2, U0, iv, rv]; done) | rfl) ?_
  refine s_iloadN (pc' := 1) A d5_0 rfl rfl ?_
  refine s_iloadN (pc' := 2) A d5_1 rfl rfl ?_
  refine s_icmpN (pc' := 5) A d5_2 rfl (by decide) ?_
  refine s_aloadN (pc' := 6) A d5_5 rfl rfl rfl ?_
  refine s_iloadN (pc' := 7) A d5_6 rfl rfl ?_
  refine s_virtual (pc' := 10) (y := y3_get) (argsL := [(.int (1 : Int32))]) (rest := []) (z := y3_get) A H.1 (l_get l Z a0 hw n0 h0 A.size a arr (4 : Int32) [.int x3, .int x2, .int x1, .int x0, .int (0 : Int32), .int (0 : Int32), .int (0 : Int32), .int (0 : Int32)] (1 : Int32) 1 x2 H (by decide) rfl (by decide)) (w34 hw) (w35 hw) (nf_same (C := "") (w37 hw)) (w37 hw) (w36 hw) (w4 hw) (w38 hw) (by decide) pd__I_I rfl (W := 0) (by decide) (by decide) (Nat.le_of_eq rfl) (by decide) (by decide) rfl rfl d5_7 rfl fun T h1 v2 A Q3 => ?_
  obtain ⟨rfl, eh⟩ := Q3
  rw [eh] at A
  refine Wp.stk (st' := [(.int x2)]) rfl ?_
  refine s_aloadN (pc' := 11) A d5_10 rfl rfl rfl ?_
  refine s_iloadN (pc' := 12) A d5_11 rfl rfl ?_
  refine s_iconst (pc' := 13) (z := (1 : Int32)) A d5_12 rfl (by decide) ?_
  refine s_isub (pc' := 14) (z := (3 : Int32)) A d5_13 rfl (by decide) ?_
  refine s_iloadN (pc' := 15) A d5_14 rfl rfl ?_
  refine s_isub (pc' := 16) (z := (2 : Int32)) A d5_15 rfl (by decide) ?_
  refine s_iaload (pc' := 17) (i := 2) (v := (.int x2)) A V (by decide) rfl d5_16 rfl ?_
  refine s_icmpN (pc' := 20) A d5_17 rfl (teq (rfl : x2 = x2)).2 ?_
  refine s_iconst (pc' := 21) (z := (1 : Int32)) A d5_20 rfl (by decide) ?_
  refine s_goto (pc' := 25) A d5_21 (by decide) (by decide) ?_
  exact r_bool A rfl (by decide) d5_25 (by decide) (by decide) (⟨rfl, rfl⟩)
set_option maxRecDepth 65536 in
set_option maxHeartbeats 40000000 in
theorem at42 (l : Launch) (Z : State) (a0 : Array Value) (hw : ∀ d ∈ tables_1, d.before a0 Z = true) (n0 : Nat) (h0 : Heap) (Z0 : n0 ≤ h0.size) (a arr r : Addr) (x0 x1 x2 x3 : Int32) (H : Lst Z n0 h0 a arr (4 : Int32) [.int x3, .int x2, .int x1, .int x0, .int (0 : Int32), .int (0 : Int32), .int (0 : Int32), .int (0 : Int32)]) (V : AA Z h0 r .int [.int x0, .int x1, .int x2, .int x3]) :
    Met l Z n0 y6_at method_3_code 4 (Option.some Jvm.ClassFile.FieldType.boolean) ({ frames := 2, cells := 0, slots := 0, locals := 26 } : Room) #[(.ref a), (.ref r), (.int (4 : Int32)), (.int (2 : Int32))] h0 (fun v h => v = some (.int 1) ∧ h = h0) := by
  refine met_intro (own := c1_IntListReversePinLaw) (plainFor_of_name pn_com_example_keys_into_trees_keysintotrees_index_IntListReversePinLaw) rfl Z0 ?_
  intro p e s m below meth c T A hnm
  refine Wp.cast (g' := mkF m 0 #[rv a, rv r, iv 4, iv 2] []) (by first | (simp [entryFrame, mkF, argsToLocals, Value.category, maxLocals, jv, S2, U0, iv, rv]; done) | rfl) ?_
  refine s_iloadN (pc' := 1) A d5_0 rfl rfl ?_
  refine s_iloadN (pc' := 2) A d5_1 rfl rfl ?_
  refine s_icmpN (pc' := 5) A d5_2 rfl (by decide) ?_
  refine s_aloadN (pc' := 6) A d5_5 rfl rfl rfl ?_
  refine s_iloadN (pc' := 7) A d5_6 rfl rfl ?_
  refine s_virtual (pc' := 10) (y := y3_get) (argsL := [(.int (2 : Int32))]) (rest := []) (z := y3_get) A H.1 (l_get l Z a0 hw n0 h0 A.size a arr (4 : Int32) [.int x3, .int x2, .int x1, .int x0, .int (0 : Int32), .int (0 : Int32), .int (0 : Int32), .int (0 : Int32)] (2 : Int32) 2 x1 H (by decide) rfl (by decide)) (w34 hw) (w35 hw) (nf_same (C := "") (w37 hw)) (w37 hw) (w36 hw) (w4 hw) (w38 hw) (by decide) pd__I_I rfl (W := 0) (by decide) (by decide) (Nat.le_of_eq rfl) (by decide) (by decide) rfl rfl d5_7 rfl fun T h1 v2 A Q3 => ?_
  obtain ⟨rfl, eh⟩ := Q3
  rw [eh] at A
  refine Wp.stk (st' := [(.int x1)]) rfl ?_
  refine s_aloadN (pc' := 11) A d5_10 rfl rfl rfl ?_
  refine s_iloadN (pc' := 12) A d5_11 rfl rfl ?_
  refine s_iconst (pc' := 13) (z := (1 : Int32)) A d5_12 rfl (by decide) ?_
  refine s_isub (pc' := 14) (z := (3 : Int32)) A d5_13 rfl (by decide) ?_
  refine s_iloadN (pc' := 15) A d5_14 rfl rfl ?_
  refine s_isub (pc' := 16) (z := (1 : Int32)) A d5_15 rfl (by decide) ?_
  refine s_iaload (pc' := 17) (i := 1) (v := (.int x1)) A V (by decide) rfl d5_16 rfl ?_
  refine s_icmpN (pc' := 20) A d5_17 rfl (teq (rfl : x1 = x1)).2 ?_
  refine s_iconst (pc' := 21) (z := (1 : Int32)) A d5_20 rfl (by decide) ?_
  refine s_goto (pc' := 25) A d5_21 (by decide) (by decide) ?_
  exact r_bool A rfl (by decide) d5_25 (by decide) (by decide) (⟨rfl, rfl⟩)
set_option maxRecDepth 65536 in
set_option maxHeartbeats 40000000 in
theorem at43 (l : Launch) (Z : State) (a0 : Array Value) (hw : ∀ d ∈ tables_1, d.before a0 Z = true) (n0 : Nat) (h0 : Heap) (Z0 : n0 ≤ h0.size) (a arr r : Addr) (x0 x1 x2 x3 : Int32) (H : Lst Z n0 h0 a arr (4 : Int32) [.int x3, .int x2, .int x1, .int x0, .int (0 : Int32), .int (0 : Int32), .int (0 : Int32), .int (0 : Int32)]) (V : AA Z h0 r .int [.int x0, .int x1, .int x2, .int x3]) :
    Met l Z n0 y6_at method_3_code 4 (Option.some Jvm.ClassFile.FieldType.boolean) ({ frames := 2, cells := 0, slots := 0, locals := 26 } : Room) #[(.ref a), (.ref r), (.int (4 : Int32)), (.int (3 : Int32))] h0 (fun v h => v = some (.int 1) ∧ h = h0) := by
  refine met_intro (own := c1_IntListReversePinLaw) (plainFor_of_name pn_com_example_keys_into_trees_keysintotrees_index_IntListReversePinLaw) rfl Z0 ?_
  intro p e s m below meth c T A hnm
  refine Wp.cast (g' := mkF m 0 #[rv a, rv r, iv 4, iv 3] []) (by first | (simp [entryFrame, mkF, argsToLocals, Value.category, maxLocals, jv, S2, U0, iv, rv]; done) | rfl) ?_
  refine s_iloadN (pc' := 1) A d5_0 rfl rfl ?_
  refine s_iloadN (pc' := 2) A d5_1 rfl rfl ?_
  refine s_icmpN (pc' := 5) A d5_2 rfl (by decide) ?_
  refine s_aloadN (pc' := 6) A d5_5 rfl rfl rfl ?_
  refine s_iloadN (pc' := 7) A d5_6 rfl rfl ?_
  refine s_virtual (pc' := 10) (y := y3_get) (argsL := [(.int (3 : Int32))]) (rest := []) (z := y3_get) A H.1 (l_get l Z a0 hw n0 h0 A.size a arr (4 : Int32) [.int x3, .int x2, .int x1, .int x0, .int (0 : Int32), .int (0 : Int32), .int (0 : Int32), .int (0 : Int32)] (3 : Int32) 3 x0 H (by decide) rfl (by decide)) (w34 hw) (w35 hw) (nf_same (C := "") (w37 hw)) (w37 hw) (w36 hw) (w4 hw) (w38 hw) (by decide) pd__I_I rfl (W := 0) (by decide) (by decide) (Nat.le_of_eq rfl) (by decide) (by decide) rfl rfl d5_7 rfl fun T h1 v2 A Q3 => ?_
  obtain ⟨rfl, eh⟩ := Q3
  rw [eh] at A
  refine Wp.stk (st' := [(.int x0)]) rfl ?_
  refine s_aloadN (pc' := 11) A d5_10 rfl rfl rfl ?_
  refine s_iloadN (pc' := 12) A d5_11 rfl rfl ?_
  refine s_iconst (pc' := 13) (z := (1 : Int32)) A d5_12 rfl (by decide) ?_
  refine s_isub (pc' := 14) (z := (3 : Int32)) A d5_13 rfl (by decide) ?_
  refine s_iloadN (pc' := 15) A d5_14 rfl rfl ?_
  refine s_isub (pc' := 16) (z := (0 : Int32)) A d5_15 rfl (by decide) ?_
  refine s_iaload (pc' := 17) (i := 0) (v := (.int x0)) A V (by decide) rfl d5_16 rfl ?_
  refine s_icmpN (pc' := 20) A d5_17 rfl (teq (rfl : x0 = x0)).2 ?_
  refine s_iconst (pc' := 21) (z := (1 : Int32)) A d5_20 rfl (by decide) ?_
  refine s_goto (pc' := 25) A d5_21 (by decide) (by decide) ?_
  exact r_bool A rfl (by decide) d5_25 (by decide) (by decide) (⟨rfl, rfl⟩)
set_option maxRecDepth 65536 in
set_option maxHeartbeats 40000000 in
theorem rm0 (l : Launch) (Z : State) (a0 : Array Value) (hw : ∀ d ∈ tables_1, d.before a0 Z = true) (n0 : Nat) (h0 : Heap) (Z0 : n0 ≤ h0.size) (q0 q1 q2 q3 q4 : Int32)  :
    Met l Z n0 x code maxLocals ret room_1 #[(.int q0), (.int q1), (.int q2), (.int q3), (.int q4)] h0 (fun v h => v = some (.int 1)) := by
  refine met_intro (own := c1_IntListReversePinLaw) (plainFor_of_name pn_com_example_keys_into_trees_keysintotrees_index_IntListReversePinLaw) rfl Z0 ?_
  intro p e s m below meth c T A hnm
  refine Wp.cast (g' := mkF m 0 #[iv q0, iv q1, iv q2, iv q3, iv q4, U0, U0, U0] []) (by first | (simp [entryFrame, mkF, argsToLocals, Value.category, maxLocals, jv, S2, U0, iv, rv]; done) | rfl) ?_
  refine s_iloadN (pc' := 1) A at_0 rfl rfl ?_
  refine s_ldcInt (pc' := 3) A at_1 rfl (w0 hw) ?_
  refine s_iand (pc' := 4) (z := (q0 &&& (2147483647 : Int32))) A at_3 rfl rfl ?_
  refine s_iconst (pc' := 5) (z := (5 : Int32)) A at_4 rfl (by decide) ?_
  obtain ⟨kk, hkk⟩ : ∃ z, z = ((q0 &&& (2147483647 : Int32)) % (5 : Int32)) := ⟨_, rfl⟩
  have ck := own_r5 q0
  rw [← hkk] at ck
  rcases ck with rfl | rfl | rfl | rfl | rfl
  ·
    refine s_irem (pc' := 6) (z := (0 : Int32)) A at_5 rfl (by decide) hkk.symm ?_
    refine s_istore (pc' := 8) (Ls' := #[iv q0, iv q1, iv q2, iv q3, iv q4, iv 0, U0, U0]) A at_6 rfl rfl ?_
    refine s_iconst (pc' := 9) (z := (4 : Int32)) A at_8 rfl (by decide) ?_
    refine s_newarray (pc' := 11) (aty := .int) (ty := .int) (dv := (.int (0 : Int32))) (i := 4) (cap := 4) A rfl rfl (w1 hw) (by decide) (by decide) (by decide) (by decide) (by decide) at_9 rfl fun T h1 b2 A g3 ge4 X5 V6 => ?_
    have V6 : AA Z h1 b2 .int [.int (0 : Int32), .int (0 : Int32), .int (0 : Int32), .int (0 : Int32)] := V6
    refine s_dup (pc' := 12) A at_11 rfl rfl ?_
    refine s_iconst (pc' := 13) (z := (0 : Int32)) A at_12 rfl (by decide) ?_
    refine s_iloadN (pc' := 14) A at_13 rfl rfl ?_
    refine s_iastore (pc' := 15) (i := 0) A V6 (by decide) (Nat.le_of_ble_eq_true rfl) ge4 at_14 rfl fun T h7 A W8 V9 => ?_
    have V9 : AA Z h7 b2 .int [.int q1, .int (0 : Int32), .int (0 : Int32), .int (0 : Int32)] := V9
    refine s_dup (pc' := 16) A at_15 rfl rfl ?_
    refine s_iconst (pc' := 17) (z := (1 : Int32)) A at_16 rfl (by decide) ?_
    refine s_iloadN (pc' := 18) A at_17 rfl rfl ?_
    refine s_iastore (pc' := 19) (i := 1) A V9 (by decide) (Nat.le_of_ble_eq_true rfl) ge4 at_18 rfl fun T h10 A W11 V12 => ?_
    have V12 : AA Z h10 b2 .int [.int q1, .int q2, .int (0 : Int32), .int (0 : Int32)] := V12
    refine s_dup (pc' := 20) A at_19 rfl rfl ?_
    refine s_iconst (pc' := 21) (z := (2 : Int32)) A at_20 rfl (by decide) ?_
    refine s_iloadN (pc' := 22) A at_21 rfl rfl ?_
    refine s_iastore (pc' := 23) (i := 2) A V12 (by decide) (Nat.le_of_ble_eq_true rfl) ge4 at_22 rfl fun T h13 A W14 V15 => ?_
    have V15 : AA Z h13 b2 .int [.int q1, .int q2, .int q3, .int (0 : Int32)] := V15
    refine s_dup (pc' := 24) A at_23 rfl rfl ?_
    refine s_iconst (pc' := 25) (z := (3 : Int32)) A at_24 rfl (by decide) ?_
    refine s_iload (pc' := 27) A at_25 rfl rfl ?_
    refine s_iastore (pc' := 28) (i := 3) A V15 (by decide) (Nat.le_of_ble_eq_true rfl) ge4 at_27 rfl fun T h16 A W17 V18 => ?_
    have V18 : AA Z h16 b2 .int [.int q1, .int q2, .int q3, .int q4] := V18
    refine s_astore (pc' := 30) (Ls' := #[iv q0, iv q1, iv q2, iv q3, iv q4, iv 0, rv b2, U0]) A at_28 rfl rfl rfl ?_
    refine s_new (pc' := 33) A (w2 hw) (w3 hw) (w4 hw) (by decide) (by decide) at_30 rfl fun T h19 b20 A g21 ge22 X23 E24 D25 => ?_
    have ne26 : b2 ≠ b20 := lt_ne V18.lt g21
    have F27 : Fld Z h19 b20 "com/example/keys_into_trees/keysintotrees/index/IntList" "values" "[I" .null := D25 (Or.inl (w12 hw)) (ty := (.array .int)) (by decide)
    have F28 : Fld Z h19 b20 "com/example/keys_into_trees/keysintotrees/index/IntList" "size" "I" (.int (0 : Int32)) := D25 (Or.inl (w19 hw)) (ty := .int) (by decide)
    refine s_dup (pc' := 34) A at_33 rfl rfl ?_
    have V32 := (V18.ext X23)
    refine s_special (pc' := 37) (y := y1_init) (argsL := []) (rest := [(.ref b20)]) A (l_init l Z a0 hw n0 h19 A.size b20 E24 F27 F28 ge22) rfl (w5 hw) (w6 hw) (w4 hw) (w7 hw) (by decide) pd___V rfl (W := 1) (by decide) (by decide) (Nat.le_of_eq rfl) (by decide) (by decide) rfl rfl at_34 rfl fun T h33 v34 A Q35 => ?_
    obtain ⟨rfl, K31, r29, H30, br29⟩ := Q35
    have ne36 : b2 ≠ r29 := Nat.ne_of_lt (Nat.lt_of_lt_of_le V32.lt br29)
    refine Wp.stk (st' := [(.ref b20)]) rfl ?_
    refine s_astore (pc' := 39) (Ls' := #[iv q0, iv q1, iv q2, iv q3, iv q4, iv 0, rv b2, rv b20]) A at_37 rfl rfl rfl ?_
    refine s_iload (pc' := 41) A at_39 rfl rfl ?_
    refine s_ifY (pc' := 50) A at_41 (by decide) (by decide) (by decide) ?_
    refine s_iload (pc' := 52) A at_50 rfl rfl ?_
    refine s_iconst (pc' := 53) (z := (1 : Int32)) A at_52 rfl (by decide) ?_
    refine s_icmpY (pc' := 62) A at_53 (by decide) (by decide) (by decide) ?_
    refine s_iload (pc' := 64) A at_62 rfl rfl ?_
    refine s_iconst (pc' := 65) (z := (2 : Int32)) A at_64 rfl (by decide) ?_
    refine s_icmpY (pc' := 74) A at_65 (by decide) (by decide) (by decide) ?_
    refine s_iload (pc' := 76) A at_74 rfl rfl ?_
    refine s_iconst (pc' := 77) (z := (3 : Int32)) A at_76 rfl (by decide) ?_
    refine s_icmpY (pc' := 87) A at_77 (by decide) (by decide) (by decide) ?_
    refine s_aload (pc' := 89) A at_87 rfl rfl rfl ?_
    refine s_virtual (pc' := 92) (y := y5_reverse) (argsL := []) (rest := []) (z := y5_reverse) A H30.1 (l_rev0 l Z a0 hw n0 h33 A.size b20 r29  H30) (w13 hw) (w14 hw) (nf_same (C := "") (w16 hw)) (w16 hw) (w15 hw) (w4 hw) (w17 hw) (by decide) pd___V rfl (W := 0) (by decide) (by decide) (Nat.le_of_eq rfl) (by decide) (by decide) rfl rfl at_89 rfl fun T h39 v40 A Q41 => ?_
    obtain ⟨rfl, K38, H37⟩ := Q41
    refine Wp.stk (st' := []) rfl ?_
    refine s_aload (pc' := 94) A at_92 rfl rfl rfl ?_
    refine s_virtual (pc' := 97) (y := y2_size) (argsL := []) (rest := []) (z := y2_size) A H37.1 (l_size l Z a0 hw n0 h39 A.size b20 r29 (0 : Int32) [.int (0 : Int32), .int (0 : Int32), .int (0 : Int32), .int (0 : Int32), .int (0 : Int32), .int (0 : Int32), .int (0 : Int32), .int (0 : Int32)] H37) (w20 hw) (w21 hw) (nf_same (C := "") (w23 hw)) (w23 hw) (w22 hw) (w4 hw) (w24 hw) (by decide) pd___I rfl (W := 0) (by decide) (by decide) (Nat.le_of_eq rfl) (by decide) (by decide) rfl rfl at_94 rfl fun T h42 v43 A Q44 => ?_
    obtain ⟨rfl, eh⟩ := Q44
    rw [eh] at A
    refine Wp.stk (st' := [(.int (0 : Int32))]) rfl ?_
    refine s_iload (pc' := 99) A at_97 rfl rfl ?_
    refine s_icmpY (pc' := 104) A at_99 (by decide) (by decide) (by decide) ?_
    refine s_aload (pc' := 106) A at_104 rfl rfl rfl ?_
    refine s_aload (pc' := 108) A at_106 rfl rfl rfl ?_
    refine s_iload (pc' := 110) A at_108 rfl rfl ?_
    refine s_iconst (pc' := 111) (z := (0 : Int32)) A at_110 rfl (by decide) ?_
    have V45 := ((V32.keep K31 (ninS ne26 nin0)).keep K38 (ninS ne36 nin0))
    refine s_static (pc' := 114) (y := y6_at) (argsL := [(.ref b20), (.ref b2), (.int (0 : Int32)), (.int (0 : Int32))]) (rest := []) A (at00 l Z a0 hw n0 h39 A.size b20 r29 b2 q1 q2 q3 q4 H37 V45) (w25 hw) (w26 hw) (w27 hw) (w28 hw) (by decide) pd__Lcom_example_keys_into_trees_keysintotrees_index_IntList__III_Z rfl (W := 0) (by decide) (by decide) (Nat.le_of_eq rfl) (by decide) (by decide) rfl rfl at_111 rfl fun T h46 v47 A Q48 => ?_
    obtain ⟨rfl, eh⟩ := Q48
    rw [eh] at A
    refine Wp.stk (st' := [(.int (1 : Int32))]) rfl ?_
    refine s_ifN (pc' := 117) A at_114 rfl (by decide) ?_
    refine s_aload (pc' := 119) A at_117 rfl rfl rfl ?_
    refine s_aload (pc' := 121) A at_119 rfl rfl rfl ?_
    refine s_iload (pc' := 123) A at_121 rfl rfl ?_
    refine s_iconst (pc' := 124) (z := (1 : Int32)) A at_123 rfl (by decide) ?_
    refine s_static (pc' := 127) (y := y6_at) (argsL := [(.ref b20), (.ref b2), (.int (0 : Int32)), (.int (1 : Int32))]) (rest := []) A (at01 l Z a0 hw n0 h39 A.size b20 r29 b2 q1 q2 q3 q4 H37 V45) (w25 hw) (w26 hw) (w27 hw) (w28 hw) (by decide) pd__Lcom_example_keys_into_trees_keysintotrees_index_IntList__III_Z rfl (W := 0) (by decide) (by decide) (Nat.le_of_eq rfl) (by decide) (by decide) rfl rfl at_124 rfl fun T h49 v50 A Q51 => ?_
    obtain ⟨rfl, eh⟩ := Q51
    rw [eh] at A
    refine Wp.stk (st' := [(.int (1 : Int32))]) rfl ?_
    refine s_ifN (pc' := 130) A at_127 rfl (by decide) ?_
    refine s_aload (pc' := 132) A at_130 rfl rfl rfl ?_
    refine s_aload (pc' := 134) A at_132 rfl rfl rfl ?_
    refine s_iload (pc' := 136) A at_134 rfl rfl ?_
    refine s_iconst (pc' := 137) (z := (2 : Int32)) A at_136 rfl (by decide) ?_
    refine s_static (pc' := 140) (y := y6_at) (argsL := [(.ref b20), (.ref b2), (.int (0 : Int32)), (.int (2 : Int32))]) (rest := []) A (at02 l Z a0 hw n0 h39 A.size b20 r29 b2 q1 q2 q3 q4 H37 V45) (w25 hw) (w26 hw) (w27 hw) (w28 hw) (by decide) pd__Lcom_example_keys_into_trees_keysintotrees_index_IntList__III_Z rfl (W := 0) (by decide) (by decide) (Nat.le_of_eq rfl) (by decide) (by decide) rfl rfl at_137 rfl fun T h52 v53 A Q54 => ?_
    obtain ⟨rfl, eh⟩ := Q54
    rw [eh] at A
    refine Wp.stk (st' := [(.int (1 : Int32))]) rfl ?_
    refine s_ifN (pc' := 143) A at_140 rfl (by decide) ?_
    refine s_aload (pc' := 145) A at_143 rfl rfl rfl ?_
    refine s_aload (pc' := 147) A at_145 rfl rfl rfl ?_
    refine s_iload (pc' := 149) A at_147 rfl rfl ?_
    refine s_iconst (pc' := 150) (z := (3 : Int32)) A at_149 rfl (by decide) ?_
    refine s_static (pc' := 153) (y := y6_at) (argsL := [(.ref b20), (.ref b2), (.int (0 : Int32)), (.int (3 : Int32))]) (rest := []) A (at03 l Z a0 hw n0 h39 A.size b20 r29 b2 q1 q2 q3 q4 H37 V45) (w25 hw) (w26 hw) (w27 hw) (w28 hw) (by decide) pd__Lcom_example_keys_into_trees_keysintotrees_index_IntList__III_Z rfl (W := 0) (by decide) (by decide) (Nat.le_of_eq rfl) (by decide) (by decide) rfl rfl at_150 rfl fun T h55 v56 A Q57 => ?_
    obtain ⟨rfl, eh⟩ := Q57
    rw [eh] at A
    refine Wp.stk (st' := [(.int (1 : Int32))]) rfl ?_
    refine s_ifN (pc' := 156) A at_153 rfl (by decide) ?_
    refine s_iconst (pc' := 157) (z := (1 : Int32)) A at_156 rfl (by decide) ?_
    refine s_goto (pc' := 161) A at_157 (by decide) (by decide) ?_
    exact r_bool A rfl (by decide) at_161 (by decide) (by decide) (rfl)
  ·
    refine s_irem (pc' := 6) (z := (1 : Int32)) A at_5 rfl (by decide) hkk.symm ?_
    refine s_istore (pc' := 8) (Ls' := #[iv q0, iv q1, iv q2, iv q3, iv q4, iv 1, U0, U0]) A at_6 rfl rfl ?_
    refine s_iconst (pc' := 9) (z := (4 : Int32)) A at_8 rfl (by decide) ?_
    refine s_newarray (pc' := 11) (aty := .int) (ty := .int) (dv := (.int (0 : Int32))) (i := 4) (cap := 4) A rfl rfl (w1 hw) (by decide) (by decide) (by decide) (by decide) (by decide) at_9 rfl fun T h58 b59 A g60 ge61 X62 V63 => ?_
    have V63 : AA Z h58 b59 .int [.int (0 : Int32), .int (0 : Int32), .int (0 : Int32), .int (0 : Int32)] := V63
    refine s_dup (pc' := 12) A at_11 rfl rfl ?_
    refine s_iconst (pc' := 13) (z := (0 : Int32)) A at_12 rfl (by decide) ?_
    refine s_iloadN (pc' := 14) A at_13 rfl rfl ?_
    refine s_iastore (pc' := 15) (i := 0) A V63 (by decide) (Nat.le_of_ble_eq_true rfl) ge61 at_14 rfl fun T h64 A W65 V66 => ?_
    have V66 : AA Z h64 b59 .int [.int q1, .int (0 : Int32), .int (0 : Int32), .int (0 : Int32)] := V66
    refine s_dup (pc' := 16) A at_15 rfl rfl ?_
    refine s_iconst (pc' := 17) (z := (1 : Int32)) A at_16 rfl (by decide) ?_
    refine s_iloadN (pc' := 18) A at_17 rfl rfl ?_
    refine s_iastore (pc' := 19) (i := 1) A V66 (by decide) (Nat.le_of_ble_eq_true rfl) ge61 at_18 rfl fun T h67 A W68 V69 => ?_
    have V69 : AA Z h67 b59 .int [.int q1, .int q2, .int (0 : Int32), .int (0 : Int32)] := V69
    refine s_dup (pc' := 20) A at_19 rfl rfl ?_
    refine s_iconst (pc' := 21) (z := (2 : Int32)) A at_20 rfl (by decide) ?_
    refine s_iloadN (pc' := 22) A at_21 rfl rfl ?_
    refine s_iastore (pc' := 23) (i := 2) A V69 (by decide) (Nat.le_of_ble_eq_true rfl) ge61 at_22 rfl fun T h70 A W71 V72 => ?_
    have V72 : AA Z h70 b59 .int [.int q1, .int q2, .int q3, .int (0 : Int32)] := V72
    refine s_dup (pc' := 24) A at_23 rfl rfl ?_
    refine s_iconst (pc' := 25) (z := (3 : Int32)) A at_24 rfl (by decide) ?_
    refine s_iload (pc' := 27) A at_25 rfl rfl ?_
    refine s_iastore (pc' := 28) (i := 3) A V72 (by decide) (Nat.le_of_ble_eq_true rfl) ge61 at_27 rfl fun T h73 A W74 V75 => ?_
    have V75 : AA Z h73 b59 .int [.int q1, .int q2, .int q3, .int q4] := V75
    refine s_astore (pc' := 30) (Ls' := #[iv q0, iv q1, iv q2, iv q3, iv q4, iv 1, rv b59, U0]) A at_28 rfl rfl rfl ?_
    refine s_new (pc' := 33) A (w2 hw) (w3 hw) (w4 hw) (by decide) (by decide) at_30 rfl fun T h76 b77 A g78 ge79 X80 E81 D82 => ?_
    have ne83 : b59 ≠ b77 := lt_ne V75.lt g78
    have F84 : Fld Z h76 b77 "com/example/keys_into_trees/keysintotrees/index/IntList" "values" "[I" .null := D82 (Or.inl (w12 hw)) (ty := (.array .int)) (by decide)
    have F85 : Fld Z h76 b77 "com/example/keys_into_trees/keysintotrees/index/IntList" "size" "I" (.int (0 : Int32)) := D82 (Or.inl (w19 hw)) (ty := .int) (by decide)
    refine s_dup (pc' := 34) A at_33 rfl rfl ?_
    have V89 := (V75.ext X80)
    refine s_special (pc' := 37) (y := y1_init) (argsL := []) (rest := [(.ref b77)]) A (l_init l Z a0 hw n0 h76 A.size b77 E81 F84 F85 ge79) rfl (w5 hw) (w6 hw) (w4 hw) (w7 hw) (by decide) pd___V rfl (W := 1) (by decide) (by decide) (Nat.le_of_eq rfl) (by decide) (by decide) rfl rfl at_34 rfl fun T h90 v91 A Q92 => ?_
    obtain ⟨rfl, K88, r86, H87, br86⟩ := Q92
    have ne93 : b59 ≠ r86 := Nat.ne_of_lt (Nat.lt_of_lt_of_le V89.lt br86)
    refine Wp.stk (st' := [(.ref b77)]) rfl ?_
    refine s_astore (pc' := 39) (Ls' := #[iv q0, iv q1, iv q2, iv q3, iv q4, iv 1, rv b59, rv b77]) A at_37 rfl rfl rfl ?_
    refine s_iload (pc' := 41) A at_39 rfl rfl ?_
    refine s_ifN (pc' := 44) A at_41 rfl (by decide) ?_
    refine s_aload (pc' := 46) A at_44 rfl rfl rfl ?_
    refine s_iloadN (pc' := 47) A at_46 rfl rfl ?_
    refine s_virtual (pc' := 50) (y := y4_add) (argsL := [(.int q1)]) (rest := []) (z := y4_add) A H87.1 (l_add l Z a0 hw n0 h90 A.size b77 r86 (0 : Int32) [.int (0 : Int32), .int (0 : Int32), .int (0 : Int32), .int (0 : Int32), .int (0 : Int32), .int (0 : Int32), .int (0 : Int32), .int (0 : Int32)] q1 (1 : Int32) (8 : Int32) 0 [.int q1, .int (0 : Int32), .int (0 : Int32), .int (0 : Int32), .int (0 : Int32), .int (0 : Int32), .int (0 : Int32), .int (0 : Int32)] H87 (by decide) (Nat.le_of_ble_eq_true rfl) (by show _ = ((8 : Nat) : Int); decide) (by decide) rfl) (w29 hw) (w30 hw) (nf_same (C := "") (w32 hw)) (w32 hw) (w31 hw) (w4 hw) (w33 hw) (by decide) pd__I_V rfl (W := 0) (by decide) (by decide) (Nat.le_of_eq rfl) (by decide) (by decide) rfl rfl at_47 rfl fun T h96 v97 A Q98 => ?_
    obtain ⟨rfl, K95, H94⟩ := Q98
    refine Wp.stk (st' := []) rfl ?_
    refine s_iload (pc' := 52) A at_50 rfl rfl ?_
    refine s_iconst (pc' := 53) (z := (1 : Int32)) A at_52 rfl (by decide) ?_
    refine s_icmpY (pc' := 62) A at_53 (by decide) (by decide) (by decide) ?_
    refine s_iload (pc' := 64) A at_62 rfl rfl ?_
    refine s_iconst (pc' := 65) (z := (2 : Int32)) A at_64 rfl (by decide) ?_
    refine s_icmpY (pc' := 74) A at_65 (by decide) (by decide) (by decide) ?_
    refine s_iload (pc' := 76) A at_74 rfl rfl ?_
    refine s_iconst (pc' := 77) (z := (3 : Int32)) A at_76 rfl (by decide) ?_
    refine s_icmpY (pc' := 87) A at_77 (by decide) (by decide) (by decide) ?_
    refine s_aload (pc' := 89) A at_87 rfl rfl rfl ?_
    refine s_virtual (pc' := 92) (y := y5_reverse) (argsL := []) (rest := []) (z := y5_reverse) A H94.1 (l_rev1 l Z a0 hw n0 h96 A.size b77 r86 q1 H94) (w13 hw) (w14 hw) (nf_same (C := "") (w16 hw)) (w16 hw) (w15 hw) (w4 hw) (w17 hw) (by decide) pd___V rfl (W := 0) (by decide) (by decide) (Nat.le_of_eq rfl) (by decide) (by decide) rfl rfl at_89 rfl fun T h101 v102 A Q103 => ?_
    obtain ⟨rfl, K100, H99⟩ := Q103
    refine Wp.stk (st' := []) rfl ?_
    refine s_aload (pc' := 94) A at_92 rfl rfl rfl ?_
    refine s_virtual (pc' := 97) (y := y2_size) (argsL := []) (rest := []) (z := y2_size) A H99.1 (l_size l Z a0 hw n0 h101 A.size b77 r86 (1 : Int32) [.int q1, .int (0 : Int32), .int (0 : Int32), .int (0 : Int32), .int (0 : Int32), .int (0 : Int32), .int (0 : Int32), .int (0 : Int32)] H99) (w20 hw) (w21 hw) (nf_same (C := "") (w23 hw)) (w23 hw) (w22 hw) (w4 hw) (w24 hw) (by decide) pd___I rfl (W := 0) (by decide) (by decide) (Nat.le_of_eq rfl) (by decide) (by decide) rfl rfl at_94 rfl fun T h104 v105 A Q106 => ?_
    obtain ⟨rfl, eh⟩ := Q106
    rw [eh] at A
    refine Wp.stk (st' := [(.int (1 : Int32))]) rfl ?_
    refine s_iload (pc' := 99) A at_97 rfl rfl ?_
    refine s_icmpY (pc' := 104) A at_99 (by decide) (by decide) (by decide) ?_
    refine s_aload (pc' := 106) A at_104 rfl rfl rfl ?_
    refine s_aload (pc' := 108) A at_106 rfl rfl rfl ?_
    refine s_iload (pc' := 110) A at_108 rfl rfl ?_
    refine s_iconst (pc' := 111) (z := (0 : Int32)) A at_110 rfl (by decide) ?_
    have V107 := (((V89.keep K88 (ninS ne83 nin0)).keep K95 (ninS ne83 (ninS ne93 nin0))).keep K100 (ninS ne93 nin0))
    refine s_static (pc' := 114) (y := y6_at) (argsL := [(.ref b77), (.ref b59), (.int (1 : Int32)), (.int (0 : Int32))]) (rest := []) A (at10 l Z a0 hw n0 h101 A.size b77 r86 b59 q1 q2 q3 q4 H99 V107) (w25 hw) (w26 hw) (w27 hw) (w28 hw) (by decide) pd__Lcom_example_keys_into_trees_keysintotrees_index_IntList__III_Z rfl (W := 0) (by decide) (by decide) (Nat.le_of_eq rfl) (by decide) (by decide) rfl rfl at_111 rfl fun T h108 v109 A Q110 => ?_
    obtain ⟨rfl, eh⟩ := Q110
    rw [eh] at A
    refine Wp.stk (st' := [(.int (1 : Int32))]) rfl ?_
    refine s_ifN (pc' := 117) A at_114 rfl (by decide) ?_
    refine s_aload (pc' := 119) A at_117 rfl rfl rfl ?_
    refine s_aload (pc' := 121) A at_119 rfl rfl rfl ?_
    refine s_iload (pc' := 123) A at_121 rfl rfl ?_
    refine s_iconst (pc' := 124) (z := (1 : Int32)) A at_123 rfl (by decide) ?_
    refine s_static (pc' := 127) (y := y6_at) (argsL := [(.ref b77), (.ref b59), (.int (1 : Int32)), (.int (1 : Int32))]) (rest := []) A (at11 l Z a0 hw n0 h101 A.size b77 r86 b59 q1 q2 q3 q4 H99 V107) (w25 hw) (w26 hw) (w27 hw) (w28 hw) (by decide) pd__Lcom_example_keys_into_trees_keysintotrees_index_IntList__III_Z rfl (W := 0) (by decide) (by decide) (Nat.le_of_eq rfl) (by decide) (by decide) rfl rfl at_124 rfl fun T h111 v112 A Q113 => ?_
    obtain ⟨rfl, eh⟩ := Q113
    rw [eh] at A
    refine Wp.stk (st' := [(.int (1 : Int32))]) rfl ?_
    refine s_ifN (pc' := 130) A at_127 rfl (by decide) ?_
    refine s_aload (pc' := 132) A at_130 rfl rfl rfl ?_
    refine s_aload (pc' := 134) A at_132 rfl rfl rfl ?_
    refine s_iload (pc' := 136) A at_134 rfl rfl ?_
    refine s_iconst (pc' := 137) (z := (2 : Int32)) A at_136 rfl (by decide) ?_
    refine s_static (pc' := 140) (y := y6_at) (argsL := [(.ref b77), (.ref b59), (.int (1 : Int32)), (.int (2 : Int32))]) (rest := []) A (at12 l Z a0 hw n0 h101 A.size b77 r86 b59 q1 q2 q3 q4 H99 V107) (w25 hw) (w26 hw) (w27 hw) (w28 hw) (by decide) pd__Lcom_example_keys_into_trees_keysintotrees_index_IntList__III_Z rfl (W := 0) (by decide) (by decide) (Nat.le_of_eq rfl) (by decide) (by decide) rfl rfl at_137 rfl fun T h114 v115 A Q116 => ?_
    obtain ⟨rfl, eh⟩ := Q116
    rw [eh] at A
    refine Wp.stk (st' := [(.int (1 : Int32))]) rfl ?_
    refine s_ifN (pc' := 143) A at_140 rfl (by decide) ?_
    refine s_aload (pc' := 145) A at_143 rfl rfl rfl ?_
    refine s_aload (pc' := 147) A at_145 rfl rfl rfl ?_
    refine s_iload (pc' := 149) A at_147 rfl rfl ?_
    refine s_iconst (pc' := 150) (z := (3 : Int32)) A at_149 rfl (by decide) ?_
    refine s_static (pc' := 153) (y := y6_at) (argsL := [(.ref b77), (.ref b59), (.int (1 : Int32)), (.int (3 : Int32))]) (rest := []) A (at13 l Z a0 hw n0 h101 A.size b77 r86 b59 q1 q2 q3 q4 H99 V107) (w25 hw) (w26 hw) (w27 hw) (w28 hw) (by decide) pd__Lcom_example_keys_into_trees_keysintotrees_index_IntList__III_Z rfl (W := 0) (by decide) (by decide) (Nat.le_of_eq rfl) (by decide) (by decide) rfl rfl at_150 rfl fun T h117 v118 A Q119 => ?_
    obtain ⟨rfl, eh⟩ := Q119
    rw [eh] at A
    refine Wp.stk (st' := [(.int (1 : Int32))]) rfl ?_
    refine s_ifN (pc' := 156) A at_153 rfl (by decide) ?_
    refine s_iconst (pc' := 157) (z := (1 : Int32)) A at_156 rfl (by decide) ?_
    refine s_goto (pc' := 161) A at_157 (by decide) (by decide) ?_
    exact r_bool A rfl (by decide) at_161 (by decide) (by decide) (rfl)
  ·
    refine s_irem (pc' := 6) (z := (2 : Int32)) A at_5 rfl (by decide) hkk.symm ?_
    refine s_istore (pc' := 8) (Ls' := #[iv q0, iv q1, iv q2, iv q3, iv q4, iv 2, U0, U0]) A at_6 rfl rfl ?_
    refine s_iconst (pc' := 9) (z := (4 : Int32)) A at_8 rfl (by decide) ?_
    refine s_newarray (pc' := 11) (aty := .int) (ty := .int) (dv := (.int (0 : Int32))) (i := 4) (cap := 4) A rfl rfl (w1 hw) (by decide) (by decide) (by decide) (by decide) (by decide) at_9 rfl fun T h120 b121 A g122 ge123 X124 V125 => ?_
    have V125 : AA Z h120 b121 .int [.int (0 : Int32), .int (0 : Int32), .int (0 : Int32), .int (0 : Int32)] := V125
    refine s_dup (pc' := 12) A at_11 rfl rfl ?_
    refine s_iconst (pc' := 13) (z := (0 : Int32)) A at_12 rfl (by decide) ?_
    refine s_iloadN (pc' := 14) A at_13 rfl rfl ?_
    refine s_iastore (pc' := 15) (i := 0) A V125 (by decide) (Nat.le_of_ble_eq_true rfl) ge123 at_14 rfl fun T h126 A W127 V128 => ?_
    have V128 : AA Z h126 b121 .int [.int q1, .int (0 : Int32), .int (0 : Int32), .int (0 : Int32)] := V128
    refine s_dup (pc' := 16) A at_15 rfl rfl ?_
    refine s_iconst (pc' := 17) (z := (1 : Int32)) A at_16 rfl (by decide) ?_
    refine s_iloadN (pc' := 18) A at_17 rfl rfl ?_
    refine s_iastore (pc' := 19) (i := 1) A V128 (by decide) (Nat.le_of_ble_eq_true rfl) ge123 at_18 rfl fun T h129 A W130 V131 => ?_
    have V131 : AA Z h129 b121 .int [.int q1, .int q2, .int (0 : Int32), .int (0 : Int32)] := V131
    refine s_dup (pc' := 20) A at_19 rfl rfl ?_
    refine s_iconst (pc' := 21) (z := (2 : Int32)) A at_20 rfl (by decide) ?_
    refine s_iloadN (pc' := 22) A at_21 rfl rfl ?_
    refine s_iastore (pc' := 23) (i := 2) A V131 (by decide) (Nat.le_of_ble_eq_true rfl) ge123 at_22 rfl fun T h132 A W133 V134 => ?_
    have V134 : AA Z h132 b121 .int [.int q1, .int q2, .int q3, .int (0 : Int32)] := V134
    refine s_dup (pc' := 24) A at_23 rfl rfl ?_
    refine s_iconst (pc' := 25) (z := (3 : Int32)) A at_24 rfl (by decide) ?_
    refine s_iload (pc' := 27) A at_25 rfl rfl ?_
    refine s_iastore (pc' := 28) (i := 3) A V134 (by decide) (Nat.le_of_ble_eq_true rfl) ge123 at_27 rfl fun T h135 A W136 V137 => ?_
    have V137 : AA Z h135 b121 .int [.int q1, .int q2, .int q3, .int q4] := V137
    refine s_astore (pc' := 30) (Ls' := #[iv q0, iv q1, iv q2, iv q3, iv q4, iv 2, rv b121, U0]) A at_28 rfl rfl rfl ?_
    refine s_new (pc' := 33) A (w2 hw) (w3 hw) (w4 hw) (by decide) (by decide) at_30 rfl fun T h138 b139 A g140 ge141 X142 E143 D144 => ?_
    have ne145 : b121 ≠ b139 := lt_ne V137.lt g140
    have F146 : Fld Z h138 b139 "com/example/keys_into_trees/keysintotrees/index/IntList" "values" "[I" .null := D144 (Or.inl (w12 hw)) (ty := (.array .int)) (by decide)
    have F147 : Fld Z h138 b139 "com/example/keys_into_trees/keysintotrees/index/IntList" "size" "I" (.int (0 : Int32)) := D144 (Or.inl (w19 hw)) (ty := .int) (by decide)
    refine s_dup (pc' := 34) A at_33 rfl rfl ?_
    have V151 := (V137.ext X142)
    refine s_special (pc' := 37) (y := y1_init) (argsL := []) (rest := [(.ref b139)]) A (l_init l Z a0 hw n0 h138 A.size b139 E143 F146 F147 ge141) rfl (w5 hw) (w6 hw) (w4 hw) (w7 hw) (by decide) pd___V rfl (W := 1) (by decide) (by decide) (Nat.le_of_eq rfl) (by decide) (by decide) rfl rfl at_34 rfl fun T h152 v153 A Q154 => ?_
    obtain ⟨rfl, K150, r148, H149, br148⟩ := Q154
    have ne155 : b121 ≠ r148 := Nat.ne_of_lt (Nat.lt_of_lt_of_le V151.lt br148)
    refine Wp.stk (st' := [(.ref b139)]) rfl ?_
    refine s_astore (pc' := 39) (Ls' := #[iv q0, iv q1, iv q2, iv q3, iv q4, iv 2, rv b121, rv b139]) A at_37 rfl rfl rfl ?_
    refine s_iload (pc' := 41) A at_39 rfl rfl ?_
    refine s_ifN (pc' := 44) A at_41 rfl (by decide) ?_
    refine s_aload (pc' := 46) A at_44 rfl rfl rfl ?_
    refine s_iloadN (pc' := 47) A at_46 rfl rfl ?_
    refine s_virtual (pc' := 50) (y := y4_add) (argsL := [(.int q1)]) (rest := []) (z := y4_add) A H149.1 (l_add l Z a0 hw n0 h152 A.size b139 r148 (0 : Int32) [.int (0 : Int32), .int (0 : Int32), .int (0 : Int32), .int (0 : Int32), .int (0 : Int32), .int (0 : Int32), .int (0 : Int32), .int (0 : Int32)] q1 (1 : Int32) (8 : Int32) 0 [.int q1, .int (0 : Int32), .int (0 : Int32), .int (0 : Int32), .int (0 : Int32), .int (0 : Int32), .int (0 : Int32), .int (0 : Int32)] H149 (by decide) (Nat.le_of_ble_eq_true rfl) (by show _ = ((8 : Nat) : Int); decide) (by decide) rfl) (w29 hw) (w30 hw) (nf_same (C := "") (w32 hw)) (w32 hw) (w31 hw) (w4 hw) (w33 hw) (by decide) pd__I_V rfl (W := 0) (by decide) (by decide) (Nat.le_of_eq rfl) (by decide) (by decide) rfl rfl at_47 rfl fun T h158 v159 A Q160 => ?_
    obtain ⟨rfl, K157, H156⟩ := Q160
    refine Wp.stk (st' := []) rfl ?_
    refine s_iload (pc' := 52) A at_50 rfl rfl ?_
    refine s_iconst (pc' := 53) (z := (1 : Int32)) A at_52 rfl (by decide) ?_
    refine s_icmpN (pc' := 56) A at_53 rfl (by decide) ?_
    refine s_aload (pc' := 58) A at_56 rfl rfl rfl ?_
    refine s_iloadN (pc' := 59) A at_58 rfl rfl ?_
    refine s_virtual (pc' := 62) (y := y4_add) (argsL := [(.int q2)]) (rest := []) (z := y4_add) A H156.1 (l_add l Z a0 hw n0 h158 A.size b139 r148 (1 : Int32) [.int q1, .int (0 : Int32), .int (0 : Int32), .int (0 : Int32), .int (0 : Int32), .int (0 : Int32), .int (0 : Int32), .int (0 : Int32)] q2 (2 : Int32) (8 : Int32) 1 [.int q1, .int q2, .int (0 : Int32), .int (0 : Int32), .int (0 : Int32), .int (0 : Int32), .int (0 : Int32), .int (0 : Int32)] H156 (by decide) (Nat.le_of_ble_eq_true rfl) (by show _ = ((8 : Nat) : Int); decide) (by decide) rfl) (w29 hw) (w30 hw) (nf_same (C := "") (w32 hw)) (w32 hw) (w31 hw) (w4 hw) (w33 hw) (by decide) pd__I_V rfl (W := 0) (by decide) (by decide) (Nat.le_of_eq rfl) (by decide) (by decide) rfl rfl at_59 rfl fun T h163 v164 A Q165 => ?_
    obtain ⟨rfl, K162, H161⟩ := Q165
    refine Wp.stk (st' := []) rfl ?_
    refine s_iload (pc' := 64) A at_62 rfl rfl ?_
    refine s_iconst (pc' := 65) (z := (2 : Int32)) A at_64 rfl (by decide) ?_
    refine s_icmpY (pc' := 74) A at_65 (by decide) (by decide) (by decide) ?_
    refine s_iload (pc' := 76) A at_74 rfl rfl ?_
    refine s_iconst (pc' := 77) (z := (3 : Int32)) A at_76 rfl (by decide) ?_
    refine s_icmpY (pc' := 87) A at_77 (by decide) (by decide) (by decide) ?_
    refine s_aload (pc' := 89) A at_87 rfl rfl rfl ?_
    refine s_virtual (pc' := 92) (y := y5_reverse) (argsL := []) (rest := []) (z := y5_reverse) A H161.1 (l_rev2 l Z a0 hw n0 h163 A.size b139 r148 q1 q2 H161) (w13 hw) (w14 hw) (nf_same (C := "") (w16 hw)) (w16 hw) (w15 hw) (w4 hw) (w17 hw) (by decide) pd___V rfl (W := 0) (by decide) (by decide) (Nat.le_of_eq rfl) (by decide) (by decide) rfl rfl at_89 rfl fun T h168 v169 A Q170 => ?_
    obtain ⟨rfl, K167, H166⟩ := Q170
    refine Wp.stk (st' := []) rfl ?_
    refine s_aload (pc' := 94) A at_92 rfl rfl rfl ?_
    refine s_virtual (pc' := 97) (y := y2_size) (argsL := []) (rest := []) (z := y2_size) A H166.1 (l_size l Z a0 hw n0 h168 A.size b139 r148 (2 : Int32) [.int q2, .int q1, .int (0 : Int32), .int (0 : Int32), .int (0 : Int32), .int (0 : Int32), .int (0 : Int32), .int (0 : Int32)] H166) (w20 hw) (w21 hw) (nf_same (C := "") (w23 hw)) (w23 hw) (w22 hw) (w4 hw) (w24 hw) (by decide) pd___I rfl (W := 0) (by decide) (by decide) (Nat.le_of_eq rfl) (by decide) (by decide) rfl rfl at_94 rfl fun T h171 v172 A Q173 => ?_
    obtain ⟨rfl, eh⟩ := Q173
    rw [eh] at A
    refine Wp.stk (st' := [(.int (2 : Int32))]) rfl ?_
    refine s_iload (pc' := 99) A at_97 rfl rfl ?_
    refine s_icmpY (pc' := 104) A at_99 (by decide) (by decide) (by decide) ?_
    refine s_aload (pc' := 106) A at_104 rfl rfl rfl ?_
    refine s_aload (pc' := 108) A at_106 rfl rfl rfl ?_
    refine s_iload (pc' := 110) A at_108 rfl rfl ?_
    refine s_iconst (pc' := 111) (z := (0 : Int32)) A at_110 rfl (by decide) ?_
    have V174 := ((((V151.keep K150 (ninS ne145 nin0)).keep K157 (ninS ne145 (ninS ne155 nin0))).keep K162 (ninS ne145 (ninS ne155 nin0))).keep K167 (ninS ne155 nin0))
    refine s_static (pc' := 114) (y := y6_at) (argsL := [(.ref b139), (.ref b121), (.int (2 : Int32)), (.int (0 : Int32))]) (rest := []) A (at20 l Z a0 hw n0 h168 A.size b139 r148 b121 q1 q2 q3 q4 H166 V174) (w25 hw) (w26 hw) (w27 hw) (w28 hw) (by decide) pd__Lcom_example_keys_into_trees_keysintotrees_index_IntList__III_Z rfl (W := 0) (by decide) (by decide) (Nat.le_of_eq rfl) (by decide) (by decide) rfl rfl at_111 rfl fun T h175 v176 A Q177 => ?_
    obtain ⟨rfl, eh⟩ := Q177
    rw [eh] at A
    refine Wp.stk (st' := [(.int (1 : Int32))]) rfl ?_
    refine s_ifN (pc' := 117) A at_114 rfl (by decide) ?_
    refine s_aload (pc' := 119) A at_117 rfl rfl rfl ?_
    refine s_aload (pc' := 121) A at_119 rfl rfl rfl ?_
    refine s_iload (pc' := 123) A at_121 rfl rfl ?_
    refine s_iconst (pc' := 124) (z := (1 : Int32)) A at_123 rfl (by decide) ?_
    refine s_static (pc' := 127) (y := y6_at) (argsL := [(.ref b139), (.ref b121), (.int (2 : Int32)), (.int (1 : Int32))]) (rest := []) A (at21 l Z a0 hw n0 h168 A.size b139 r148 b121 q1 q2 q3 q4 H166 V174) (w25 hw) (w26 hw) (w27 hw) (w28 hw) (by decide) pd__Lcom_example_keys_into_trees_keysintotrees_index_IntList__III_Z rfl (W := 0) (by decide) (by decide) (Nat.le_of_eq rfl) (by decide) (by decide) rfl rfl at_124 rfl fun T h178 v179 A Q180 => ?_
    obtain ⟨rfl, eh⟩ := Q180
    rw [eh] at A
    refine Wp.stk (st' := [(.int (1 : Int32))]) rfl ?_
    refine s_ifN (pc' := 130) A at_127 rfl (by decide) ?_
    refine s_aload (pc' := 132) A at_130 rfl rfl rfl ?_
    refine s_aload (pc' := 134) A at_132 rfl rfl rfl ?_
    refine s_iload (pc' := 136) A at_134 rfl rfl ?_
    refine s_iconst (pc' := 137) (z := (2 : Int32)) A at_136 rfl (by decide) ?_
    refine s_static (pc' := 140) (y := y6_at) (argsL := [(.ref b139), (.ref b121), (.int (2 : Int32)), (.int (2 : Int32))]) (rest := []) A (at22 l Z a0 hw n0 h168 A.size b139 r148 b121 q1 q2 q3 q4 H166 V174) (w25 hw) (w26 hw) (w27 hw) (w28 hw) (by decide) pd__Lcom_example_keys_into_trees_keysintotrees_index_IntList__III_Z rfl (W := 0) (by decide) (by decide) (Nat.le_of_eq rfl) (by decide) (by decide) rfl rfl at_137 rfl fun T h181 v182 A Q183 => ?_
    obtain ⟨rfl, eh⟩ := Q183
    rw [eh] at A
    refine Wp.stk (st' := [(.int (1 : Int32))]) rfl ?_
    refine s_ifN (pc' := 143) A at_140 rfl (by decide) ?_
    refine s_aload (pc' := 145) A at_143 rfl rfl rfl ?_
    refine s_aload (pc' := 147) A at_145 rfl rfl rfl ?_
    refine s_iload (pc' := 149) A at_147 rfl rfl ?_
    refine s_iconst (pc' := 150) (z := (3 : Int32)) A at_149 rfl (by decide) ?_
    refine s_static (pc' := 153) (y := y6_at) (argsL := [(.ref b139), (.ref b121), (.int (2 : Int32)), (.int (3 : Int32))]) (rest := []) A (at23 l Z a0 hw n0 h168 A.size b139 r148 b121 q1 q2 q3 q4 H166 V174) (w25 hw) (w26 hw) (w27 hw) (w28 hw) (by decide) pd__Lcom_example_keys_into_trees_keysintotrees_index_IntList__III_Z rfl (W := 0) (by decide) (by decide) (Nat.le_of_eq rfl) (by decide) (by decide) rfl rfl at_150 rfl fun T h184 v185 A Q186 => ?_
    obtain ⟨rfl, eh⟩ := Q186
    rw [eh] at A
    refine Wp.stk (st' := [(.int (1 : Int32))]) rfl ?_
    refine s_ifN (pc' := 156) A at_153 rfl (by decide) ?_
    refine s_iconst (pc' := 157) (z := (1 : Int32)) A at_156 rfl (by decide) ?_
    refine s_goto (pc' := 161) A at_157 (by decide) (by decide) ?_
    exact r_bool A rfl (by decide) at_161 (by decide) (by decide) (rfl)
  ·
    refine s_irem (pc' := 6) (z := (3 : Int32)) A at_5 rfl (by decide) hkk.symm ?_
    refine s_istore (pc' := 8) (Ls' := #[iv q0, iv q1, iv q2, iv q3, iv q4, iv 3, U0, U0]) A at_6 rfl rfl ?_
    refine s_iconst (pc' := 9) (z := (4 : Int32)) A at_8 rfl (by decide) ?_
    refine s_newarray (pc' := 11) (aty := .int) (ty := .int) (dv := (.int (0 : Int32))) (i := 4) (cap := 4) A rfl rfl (w1 hw) (by decide) (by decide) (by decide) (by decide) (by decide) at_9 rfl fun T h187 b188 A g189 ge190 X191 V192 => ?_
    have V192 : AA Z h187 b188 .int [.int (0 : Int32), .int (0 : Int32), .int (0 : Int32), .int (0 : Int32)] := V192
    refine s_dup (pc' := 12) A at_11 rfl rfl ?_
    refine s_iconst (pc' := 13) (z := (0 : Int32)) A at_12 rfl (by decide) ?_
    refine s_iloadN (pc' := 14) A at_13 rfl rfl ?_
    refine s_iastore (pc' := 15) (i := 0) A V192 (by decide) (Nat.le_of_ble_eq_true rfl) ge190 at_14 rfl fun T h193 A W194 V195 => ?_
    have V195 : AA Z h193 b188 .int [.int q1, .int (0 : Int32), .int (0 : Int32), .int (0 : Int32)] := V195
    refine s_dup (pc' := 16) A at_15 rfl rfl ?_
    refine s_iconst (pc' := 17) (z := (1 : Int32)) A at_16 rfl (by decide) ?_
    refine s_iloadN (pc' := 18) A at_17 rfl rfl ?_
    refine s_iastore (pc' := 19) (i := 1) A V195 (by decide) (Nat.le_of_ble_eq_true rfl) ge190 at_18 rfl fun T h196 A W197 V198 => ?_
    have V198 : AA Z h196 b188 .int [.int q1, .int q2, .int (0 : Int32), .int (0 : Int32)] := V198
    refine s_dup (pc' := 20) A at_19 rfl rfl ?_
    refine s_iconst (pc' := 21) (z := (2 : Int32)) A at_20 rfl (by decide) ?_
    refine s_iloadN (pc' := 22) A at_21 rfl rfl ?_
    refine s_iastore (pc' := 23) (i := 2) A V198 (by decide) (Nat.le_of_ble_eq_true rfl) ge190 at_22 rfl fun T h199 A W200 V201 => ?_
    have V201 : AA Z h199 b188 .int [.int q1, .int q2, .int q3, .int (0 : Int32)] := V201
    refine s_dup (pc' := 24) A at_23 rfl rfl ?_
    refine s_iconst (pc' := 25) (z := (3 : Int32)) A at_24 rfl (by decide) ?_
    refine s_iload (pc' := 27) A at_25 rfl rfl ?_
    refine s_iastore (pc' := 28) (i := 3) A V201 (by decide) (Nat.le_of_ble_eq_true rfl) ge190 at_27 rfl fun T h202 A W203 V204 => ?_
    have V204 : AA Z h202 b188 .int [.int q1, .int q2, .int q3, .int q4] := V204
    refine s_astore (pc' := 30) (Ls' := #[iv q0, iv q1, iv q2, iv q3, iv q4, iv 3, rv b188, U0]) A at_28 rfl rfl rfl ?_
    refine s_new (pc' := 33) A (w2 hw) (w3 hw) (w4 hw) (by decide) (by decide) at_30 rfl fun T h205 b206 A g207 ge208 X209 E210 D211 => ?_
    have ne212 : b188 ≠ b206 := lt_ne V204.lt g207
    have F213 : Fld Z h205 b206 "com/example/keys_into_trees/keysintotrees/index/IntList" "values" "[I" .null := D211 (Or.inl (w12 hw)) (ty := (.array .int)) (by decide)
    have F214 : Fld Z h205 b206 "com/example/keys_into_trees/keysintotrees/index/IntList" "size" "I" (.int (0 : Int32)) := D211 (Or.inl (w19 hw)) (ty := .int) (by decide)
    refine s_dup (pc' := 34) A at_33 rfl rfl ?_
    have V218 := (V204.ext X209)
    refine s_special (pc' := 37) (y := y1_init) (argsL := []) (rest := [(.ref b206)]) A (l_init l Z a0 hw n0 h205 A.size b206 E210 F213 F214 ge208) rfl (w5 hw) (w6 hw) (w4 hw) (w7 hw) (by decide) pd___V rfl (W := 1) (by decide) (by decide) (Nat.le_of_eq rfl) (by decide) (by decide) rfl rfl at_34 rfl fun T h219 v220 A Q221 => ?_
    obtain ⟨rfl, K217, r215, H216, br215⟩ := Q221
    have ne222 : b188 ≠ r215 := Nat.ne_of_lt (Nat.lt_of_lt_of_le V218.lt br215)
    refine Wp.stk (st' := [(.ref b206)]) rfl ?_
    refine s_astore (pc' := 39) (Ls' := #[iv q0, iv q1, iv q2, iv q3, iv q4, iv 3, rv b188, rv b206]) A at_37 rfl rfl rfl ?_
    refine s_iload (pc' := 41) A at_39 rfl rfl ?_
    refine s_ifN (pc' := 44) A at_41 rfl (by decide) ?_
    refine s_aload (pc' := 46) A at_44 rfl rfl rfl ?_
    refine s_iloadN (pc' := 47) A at_46 rfl rfl ?_
    refine s_virtual (pc' := 50) (y := y4_add) (argsL := [(.int q1)]) (rest := []) (z := y4_add) A H216.1 (l_add l Z a0 hw n0 h219 A.size b206 r215 (0 : Int32) [.int (0 : Int32), .int (0 : Int32), .int (0 : Int32), .int (0 : Int32), .int (0 : Int32), .int (0 : Int32), .int (0 : Int32), .int (0 : Int32)] q1 (1 : Int32) (8 : Int32) 0 [.int q1, .int (0 : Int32), .int (0 : Int32), .int (0 : Int32), .int (0 : Int32), .int (0 : Int32), .int (0 : Int32), .int (0 : Int32)] H216 (by decide) (Nat.le_of_ble_eq_true rfl) (by show _ = ((8 : Nat) : Int); decide) (by decide) rfl) (w29 hw) (w30 hw) (nf_same (C := "") (w32 hw)) (w32 hw) (w31 hw) (w4 hw) (w33 hw) (by decide) pd__I_V rfl (W := 0) (by decide) (by decide) (Nat.le_of_eq rfl) (by decide) (by decide) rfl rfl at_47 rfl fun T h225 v226 A Q227 => ?_
    obtain ⟨rfl, K224, H223⟩ := Q227
    refine Wp.stk (st' := []) rfl ?_
    refine s_iload (pc' := 52) A at_50 rfl rfl ?_
    refine s_iconst (pc' := 53) (z := (1 : Int32)) A at_52 rfl (by decide) ?_
    refine s_icmpN (pc' := 56) A at_53 rfl (by decide) ?_
    refine s_aload (pc' := 58) A at_56 rfl rfl rfl ?_
    refine s_iloadN (pc' := 59) A at_58 rfl rfl ?_
    refine s_virtual (pc' := 62) (y := y4_add) (argsL := [(.int q2)]) (rest := []) (z := y4_add) A H223.1 (l_add l Z a0 hw n0 h225 A.size b206 r215 (1 : Int32) [.int q1, .int (0 : Int32), .int (0 : Int32), .int (0 : Int32), .int (0 : Int32), .int (0 : Int32), .int (0 : Int32), .int (0 : Int32)] q2 (2 : Int32) (8 : Int32) 1 [.int q1, .int q2, .int (0 : Int32), .int (0 : Int32), .int (0 : Int32), .int (0 : Int32), .int (0 : Int32), .int (0 : Int32)] H223 (by decide) (Nat.le_of_ble_eq_true rfl) (by show _ = ((8 : Nat) : Int); decide) (by decide) rfl) (w29 hw) (w30 hw) (nf_same (C := "") (w32 hw)) (w32 hw) (w31 hw) (w4 hw) (w33 hw) (by decide) pd__I_V rfl (W := 0) (by decide) (by decide) (Nat.le_of_eq rfl) (by decide) (by decide) rfl rfl at_59 rfl fun T h230 v231 A Q232 => ?_
    obtain ⟨rfl, K229, H228⟩ := Q232
    refine Wp.stk (st' := []) rfl ?_
    refine s_iload (pc' := 64) A at_62 rfl rfl ?_
    refine s_iconst (pc' := 65) (z := (2 : Int32)) A at_64 rfl (by decide) ?_
    refine s_icmpN (pc' := 68) A at_65 rfl (by decide) ?_
    refine s_aload (pc' := 70) A at_68 rfl rfl rfl ?_
    refine s_iloadN (pc' := 71) A at_70 rfl rfl ?_
    refine s_virtual (pc' := 74) (y := y4_add) (argsL := [(.int q3)]) (rest := []) (z := y4_add) A H228.1 (l_add l Z a0 hw n0 h230 A.size b206 r215 (2 : Int32) [.int q1, .int q2, .int (0 : Int32), .int (0 : Int32), .int (0 : Int32), .int (0 : Int32), .int (0 : Int32), .int (0 : Int32)] q3 (3 : Int32) (8 : Int32) 2 [.int q1, .int q2, .int q3, .int (0 : Int32), .int (0 : Int32), .int (0 : Int32), .int (0 : Int32), .int (0 : Int32)] H228 (by decide) (Nat.le_of_ble_eq_true rfl) (by show _ = ((8 : Nat) : Int); decide) (by decide) rfl) (w29 hw) (w30 hw) (nf_same (C := "") (w32 hw)) (w32 hw) (w31 hw) (w4 hw) (w33 hw) (by decide) pd__I_V rfl (W := 0) (by decide) (by decide) (Nat.le_of_eq rfl) (by decide) (by decide) rfl rfl at_71 rfl fun T h235 v236 A Q237 => ?_
    obtain ⟨rfl, K234, H233⟩ := Q237
    refine Wp.stk (st' := []) rfl ?_
    refine s_iload (pc' := 76) A at_74 rfl rfl ?_
    refine s_iconst (pc' := 77) (z := (3 : Int32)) A at_76 rfl (by decide) ?_
    refine s_icmpY (pc' := 87) A at_77 (by decide) (by decide) (by decide) ?_
    refine s_aload (pc' := 89) A at_87 rfl rfl rfl ?_
    refine s_virtual (pc' := 92) (y := y5_reverse) (argsL := []) (rest := []) (z := y5_reverse) A H233.1 (l_rev3 l Z a0 hw n0 h235 A.size b206 r215 q1 q2 q3 H233) (w13 hw) (w14 hw) (nf_same (C := "") (w16 hw)) (w16 hw) (w15 hw) (w4 hw) (w17 hw) (by decide) pd___V rfl (W := 0) (by decide) (by decide) (Nat.le_of_eq rfl) (by decide) (by decide) rfl rfl at_89 rfl fun T h240 v241 A Q242 => ?_
    obtain ⟨rfl, K239, H238⟩ := Q242
    refine Wp.stk (st' := []) rfl ?_
    refine s_aload (pc' := 94) A at_92 rfl rfl rfl ?_
    refine s_virtual (pc' := 97) (y := y2_size) (argsL := []) (rest := []) (z := y2_size) A H238.1 (l_size l Z a0 hw n0 h240 A.size b206 r215 (3 : Int32) [.int q3, .int q2, .int q1, .int (0 : Int32), .int (0 : Int32), .int (0 : Int32), .int (0 : Int32), .int (0 : Int32)] H238) (w20 hw) (w21 hw) (nf_same (C := "") (w23 hw)) (w23 hw) (w22 hw) (w4 hw) (w24 hw) (by decide) pd___I rfl (W := 0) (by decide) (by decide) (Nat.le_of_eq rfl) (by decide) (by decide) rfl rfl at_94 rfl fun T h243 v244 A Q245 => ?_
    obtain ⟨rfl, eh⟩ := Q245
    rw [eh] at A
    refine Wp.stk (st' := [(.int (3 : Int32))]) rfl ?_
    refine s_iload (pc' := 99) A at_97 rfl rfl ?_
    refine s_icmpY (pc' := 104) A at_99 (by decide) (by decide) (by decide) ?_
    refine s_aload (pc' := 106) A at_104 rfl rfl rfl ?_
    refine s_aload (pc' := 108) A at_106 rfl rfl rfl ?_
    refine s_iload (pc' := 110) A at_108 rfl rfl ?_
    refine s_iconst (pc' := 111) (z := (0 : Int32)) A at_110 rfl (by decide) ?_
    have V246 := (((((V218.keep K217 (ninS ne212 nin0)).keep K224 (ninS ne212 (ninS ne222 nin0))).keep K229 (ninS ne212 (ninS ne222 nin0))).keep K234 (ninS ne212 (ninS ne222 nin0))).keep K239 (ninS ne222 nin0))
    refine s_static (pc' := 114) (y := y6_at) (argsL := [(.ref b206), (.ref b188), (.int (3 : Int32)), (.int (0 : Int32))]) (rest := []) A (at30 l Z a0 hw n0 h240 A.size b206 r215 b188 q1 q2 q3 q4 H238 V246) (w25 hw) (w26 hw) (w27 hw) (w28 hw) (by decide) pd__Lcom_example_keys_into_trees_keysintotrees_index_IntList__III_Z rfl (W := 0) (by decide) (by decide) (Nat.le_of_eq rfl) (by decide) (by decide) rfl rfl at_111 rfl fun T h247 v248 A Q249 => ?_
    obtain ⟨rfl, eh⟩ := Q249
    rw [eh] at A
    refine Wp.stk (st' := [(.int (1 : Int32))]) rfl ?_
    refine s_ifN (pc' := 117) A at_114 rfl (by decide) ?_
    refine s_aload (pc' := 119) A at_117 rfl rfl rfl ?_
    refine s_aload (pc' := 121) A at_119 rfl rfl rfl ?_
    refine s_iload (pc' := 123) A at_121 rfl rfl ?_
    refine s_iconst (pc' := 124) (z := (1 : Int32)) A at_123 rfl (by decide) ?_
    refine s_static (pc' := 127) (y := y6_at) (argsL := [(.ref b206), (.ref b188), (.int (3 : Int32)), (.int (1 : Int32))]) (rest := []) A (at31 l Z a0 hw n0 h240 A.size b206 r215 b188 q1 q2 q3 q4 H238 V246) (w25 hw) (w26 hw) (w27 hw) (w28 hw) (by decide) pd__Lcom_example_keys_into_trees_keysintotrees_index_IntList__III_Z rfl (W := 0) (by decide) (by decide) (Nat.le_of_eq rfl) (by decide) (by decide) rfl rfl at_124 rfl fun T h250 v251 A Q252 => ?_
    obtain ⟨rfl, eh⟩ := Q252
    rw [eh] at A
    refine Wp.stk (st' := [(.int (1 : Int32))]) rfl ?_
    refine s_ifN (pc' := 130) A at_127 rfl (by decide) ?_
    refine s_aload (pc' := 132) A at_130 rfl rfl rfl ?_
    refine s_aload (pc' := 134) A at_132 rfl rfl rfl ?_
    refine s_iload (pc' := 136) A at_134 rfl rfl ?_
    refine s_iconst (pc' := 137) (z := (2 : Int32)) A at_136 rfl (by decide) ?_
    refine s_static (pc' := 140) (y := y6_at) (argsL := [(.ref b206), (.ref b188), (.int (3 : Int32)), (.int (2 : Int32))]) (rest := []) A (at32 l Z a0 hw n0 h240 A.size b206 r215 b188 q1 q2 q3 q4 H238 V246) (w25 hw) (w26 hw) (w27 hw) (w28 hw) (by decide) pd__Lcom_example_keys_into_trees_keysintotrees_index_IntList__III_Z rfl (W := 0) (by decide) (by decide) (Nat.le_of_eq rfl) (by decide) (by decide) rfl rfl at_137 rfl fun T h253 v254 A Q255 => ?_
    obtain ⟨rfl, eh⟩ := Q255
    rw [eh] at A
    refine Wp.stk (st' := [(.int (1 : Int32))]) rfl ?_
    refine s_ifN (pc' := 143) A at_140 rfl (by decide) ?_
    refine s_aload (pc' := 145) A at_143 rfl rfl rfl ?_
    refine s_aload (pc' := 147) A at_145 rfl rfl rfl ?_
    refine s_iload (pc' := 149) A at_147 rfl rfl ?_
    refine s_iconst (pc' := 150) (z := (3 : Int32)) A at_149 rfl (by decide) ?_
    refine s_static (pc' := 153) (y := y6_at) (argsL := [(.ref b206), (.ref b188), (.int (3 : Int32)), (.int (3 : Int32))]) (rest := []) A (at33 l Z a0 hw n0 h240 A.size b206 r215 b188 q1 q2 q3 q4 H238 V246) (w25 hw) (w26 hw) (w27 hw) (w28 hw) (by decide) pd__Lcom_example_keys_into_trees_keysintotrees_index_IntList__III_Z rfl (W := 0) (by decide) (by decide) (Nat.le_of_eq rfl) (by decide) (by decide) rfl rfl at_150 rfl fun T h256 v257 A Q258 => ?_
    obtain ⟨rfl, eh⟩ := Q258
    rw [eh] at A
    refine Wp.stk (st' := [(.int (1 : Int32))]) rfl ?_
    refine s_ifN (pc' := 156) A at_153 rfl (by decide) ?_
    refine s_iconst (pc' := 157) (z := (1 : Int32)) A at_156 rfl (by decide) ?_
    refine s_goto (pc' := 161) A at_157 (by decide) (by decide) ?_
    exact r_bool A rfl (by decide) at_161 (by decide) (by decide) (rfl)
  ·
    refine s_irem (pc' := 6) (z := (4 : Int32)) A at_5 rfl (by decide) hkk.symm ?_
    refine s_istore (pc' := 8) (Ls' := #[iv q0, iv q1, iv q2, iv q3, iv q4, iv 4, U0, U0]) A at_6 rfl rfl ?_
    refine s_iconst (pc' := 9) (z := (4 : Int32)) A at_8 rfl (by decide) ?_
    refine s_newarray (pc' := 11) (aty := .int) (ty := .int) (dv := (.int (0 : Int32))) (i := 4) (cap := 4) A rfl rfl (w1 hw) (by decide) (by decide) (by decide) (by decide) (by decide) at_9 rfl fun T h259 b260 A g261 ge262 X263 V264 => ?_
    have V264 : AA Z h259 b260 .int [.int (0 : Int32), .int (0 : Int32), .int (0 : Int32), .int (0 : Int32)] := V264
    refine s_dup (pc' := 12) A at_11 rfl rfl ?_
    refine s_iconst (pc' := 13) (z := (0 : Int32)) A at_12 rfl (by decide) ?_
    refine s_iloadN (pc' := 14) A at_13 rfl rfl ?_
    refine s_iastore (pc' := 15) (i := 0) A V264 (by decide) (Nat.le_of_ble_eq_true rfl) ge262 at_14 rfl fun T h265 A W266 V267 => ?_
    have V267 : AA Z h265 b260 .int [.int q1, .int (0 : Int32), .int (0 : Int32), .int (0 : Int32)] := V267
    refine s_dup (pc' := 16) A at_15 rfl rfl ?_
    refine s_iconst (pc' := 17) (z := (1 : Int32)) A at_16 rfl (by decide) ?_
    refine s_iloadN (pc' := 18) A at_17 rfl rfl ?_
    refine s_iastore (pc' := 19) (i := 1) A V267 (by decide) (Nat.le_of_ble_eq_true rfl) ge262 at_18 rfl fun T h268 A W269 V270 => ?_
    have V270 : AA Z h268 b260 .int [.int q1, .int q2, .int (0 : Int32), .int (0 : Int32)] := V270
    refine s_dup (pc' := 20) A at_19 rfl rfl ?_
    refine s_iconst (pc' := 21) (z := (2 : Int32)) A at_20 rfl (by decide) ?_
    refine s_iloadN (pc' := 22) A at_21 rfl rfl ?_
    refine s_iastore (pc' := 23) (i := 2) A V270 (by decide) (Nat.le_of_ble_eq_true rfl) ge262 at_22 rfl fun T h271 A W272 V273 => ?_
    have V273 : AA Z h271 b260 .int [.int q1, .int q2, .int q3, .int (0 : Int32)] := V273
    refine s_dup (pc' := 24) A at_23 rfl rfl ?_
    refine s_iconst (pc' := 25) (z := (3 : Int32)) A at_24 rfl (by decide) ?_
    refine s_iload (pc' := 27) A at_25 rfl rfl ?_
    refine s_iastore (pc' := 28) (i := 3) A V273 (by decide) (Nat.le_of_ble_eq_true rfl) ge262 at_27 rfl fun T h274 A W275 V276 => ?_
    have V276 : AA Z h274 b260 .int [.int q1, .int q2, .int q3, .int q4] := V276
    refine s_astore (pc' := 30) (Ls' := #[iv q0, iv q1, iv q2, iv q3, iv q4, iv 4, rv b260, U0]) A at_28 rfl rfl rfl ?_
    refine s_new (pc' := 33) A (w2 hw) (w3 hw) (w4 hw) (by decide) (by decide) at_30 rfl fun T h277 b278 A g279 ge280 X281 E282 D283 => ?_
    have ne284 : b260 ≠ b278 := lt_ne V276.lt g279
    have F285 : Fld Z h277 b278 "com/example/keys_into_trees/keysintotrees/index/IntList" "values" "[I" .null := D283 (Or.inl (w12 hw)) (ty := (.array .int)) (by decide)
    have F286 : Fld Z h277 b278 "com/example/keys_into_trees/keysintotrees/index/IntList" "size" "I" (.int (0 : Int32)) := D283 (Or.inl (w19 hw)) (ty := .int) (by decide)
    refine s_dup (pc' := 34) A at_33 rfl rfl ?_
    have V290 := (V276.ext X281)
    refine s_special (pc' := 37) (y := y1_init) (argsL := []) (rest := [(.ref b278)]) A (l_init l Z a0 hw n0 h277 A.size b278 E282 F285 F286 ge280) rfl (w5 hw) (w6 hw) (w4 hw) (w7 hw) (by decide) pd___V rfl (W := 1) (by decide) (by decide) (Nat.le_of_eq rfl) (by decide) (by decide) rfl rfl at_34 rfl fun T h291 v292 A Q293 => ?_
    obtain ⟨rfl, K289, r287, H288, br287⟩ := Q293
    have ne294 : b260 ≠ r287 := Nat.ne_of_lt (Nat.lt_of_lt_of_le V290.lt br287)
    refine Wp.stk (st' := [(.ref b278)]) rfl ?_
    refine s_astore (pc' := 39) (Ls' := #[iv q0, iv q1, iv q2, iv q3, iv q4, iv 4, rv b260, rv b278]) A at_37 rfl rfl rfl ?_
    refine s_iload (pc' := 41) A at_39 rfl rfl ?_
    refine s_ifN (pc' := 44) A at_41 rfl (by decide) ?_
    refine s_aload (pc' := 46) A at_44 rfl rfl rfl ?_
    refine s_iloadN (pc' := 47) A at_46 rfl rfl ?_
    refine s_virtual (pc' := 50) (y := y4_add) (argsL := [(.int q1)]) (rest := []) (z := y4_add) A H288.1 (l_add l Z a0 hw n0 h291 A.size b278 r287 (0 : Int32) [.int (0 : Int32), .int (0 : Int32), .int (0 : Int32), .int (0 : Int32), .int (0 : Int32), .int (0 : Int32), .int (0 : Int32), .int (0 : Int32)] q1 (1 : Int32) (8 : Int32) 0 [.int q1, .int (0 : Int32), .int (0 : Int32), .int (0 : Int32), .int (0 : Int32), .int (0 : Int32), .int (0 : Int32), .int (0 : Int32)] H288 (by decide) (Nat.le_of_ble_eq_true rfl) (by show _ = ((8 : Nat) : Int); decide) (by decide) rfl) (w29 hw) (w30 hw) (nf_same (C := "") (w32 hw)) (w32 hw) (w31 hw) (w4 hw) (w33 hw) (by decide) pd__I_V rfl (W := 0) (by decide) (by decide) (Nat.le_of_eq rfl) (by decide) (by decide) rfl rfl at_47 rfl fun T h297 v298 A Q299 => ?_
    obtain ⟨rfl, K296, H295⟩ := Q299
    refine Wp.stk (st' := []) rfl ?_
    refine s_iload (pc' := 52) A at_50 rfl rfl ?_
    refine s_iconst (pc' := 53) (z := (1 : Int32)) A at_52 rfl (by decide) ?_
    refine s_icmpN (pc' := 56) A at_53 rfl (by decide) ?_
    refine s_aload (pc' := 58) A at_56 rfl rfl rfl ?_
    refine s_iloadN (pc' := 59) A at_58 rfl rfl ?_
    refine s_virtual (pc' := 62) (y := y4_add) (argsL := [(.int q2)]) (rest := []) (z := y4_add) A H295.1 (l_add l Z a0 hw n0 h297 A.size b278 r287 (1 : Int32) [.int q1, .int (0 : Int32), .int (0 : Int32), .int (0 : Int32), .int (0 : Int32), .int (0 : Int32), .int (0 : Int32), .int (0 : Int32)] q2 (2 : Int32) (8 : Int32) 1 [.int q1, .int q2, .int (0 : Int32), .int (0 : Int32), .int (0 : Int32), .int (0 : Int32), .int (0 : Int32), .int (0 : Int32)] H295 (by decide) (Nat.le_of_ble_eq_true rfl) (by show _ = ((8 : Nat) : Int); decide) (by decide) rfl) (w29 hw) (w30 hw) (nf_same (C := "") (w32 hw)) (w32 hw) (w31 hw) (w4 hw) (w33 hw) (by decide) pd__I_V rfl (W := 0) (by decide) (by decide) (Nat.le_of_eq rfl) (by decide) (by decide) rfl rfl at_59 rfl fun T h302 v303 A Q304 => ?_
    obtain ⟨rfl, K301, H300⟩ := Q304
    refine Wp.stk (st' := []) rfl ?_
    refine s_iload (pc' := 64) A at_62 rfl rfl ?_
    refine s_iconst (pc' := 65) (z := (2 : Int32)) A at_64 rfl (by decide) ?_
    refine s_icmpN (pc' := 68) A at_65 rfl (by decide) ?_
    refine s_aload (pc' := 70) A at_68 rfl rfl rfl ?_
    refine s_iloadN (pc' := 71) A at_70 rfl rfl ?_
    refine s_virtual (pc' := 74) (y := y4_add) (argsL := [(.int q3)]) (rest := []) (z := y4_add) A H300.1 (l_add l Z a0 hw n0 h302 A.size b278 r287 (2 : Int32) [.int q1, .int q2, .int (0 : Int32), .int (0 : Int32), .int (0 : Int32), .int (0 : Int32), .int (0 : Int32), .int (0 : Int32)] q3 (3 : Int32) (8 : Int32) 2 [.int q1, .int q2, .int q3, .int (0 : Int32), .int (0 : Int32), .int (0 : Int32), .int (0 : Int32), .int (0 : Int32)] H300 (by decide) (Nat.le_of_ble_eq_true rfl) (by show _ = ((8 : Nat) : Int); decide) (by decide) rfl) (w29 hw) (w30 hw) (nf_same (C := "") (w32 hw)) (w32 hw) (w31 hw) (w4 hw) (w33 hw) (by decide) pd__I_V rfl (W := 0) (by decide) (by decide) (Nat.le_of_eq rfl) (by decide) (by decide) rfl rfl at_71 rfl fun T h307 v308 A Q309 => ?_
    obtain ⟨rfl, K306, H305⟩ := Q309
    refine Wp.stk (st' := []) rfl ?_
    refine s_iload (pc' := 76) A at_74 rfl rfl ?_
    refine s_iconst (pc' := 77) (z := (3 : Int32)) A at_76 rfl (by decide) ?_
    refine s_icmpN (pc' := 80) A at_77 rfl (by decide) ?_
    refine s_aload (pc' := 82) A at_80 rfl rfl rfl ?_
    refine s_iload (pc' := 84) A at_82 rfl rfl ?_
    refine s_virtual (pc' := 87) (y := y4_add) (argsL := [(.int q4)]) (rest := []) (z := y4_add) A H305.1 (l_add l Z a0 hw n0 h307 A.size b278 r287 (3 : Int32) [.int q1, .int q2, .int q3, .int (0 : Int32), .int (0 : Int32), .int (0 : Int32), .int (0 : Int32), .int (0 : Int32)] q4 (4 : Int32) (8 : Int32) 3 [.int q1, .int q2, .int q3, .int q4, .int (0 : Int32), .int (0 : Int32), .int (0 : Int32), .int (0 : Int32)] H305 (by decide) (Nat.le_of_ble_eq_true rfl) (by show _ = ((8 : Nat) : Int); decide) (by decide) rfl) (w29 hw) (w30 hw) (nf_same (C := "") (w32 hw)) (w32 hw) (w31 hw) (w4 hw) (w33 hw) (by decide) pd__I_V rfl (W := 0) (by decide) (by decide) (Nat.le_of_eq rfl) (by decide) (by decide) rfl rfl at_84 rfl fun T h312 v313 A Q314 => ?_
    obtain ⟨rfl, K311, H310⟩ := Q314
    refine Wp.stk (st' := []) rfl ?_
    refine s_aload (pc' := 89) A at_87 rfl rfl rfl ?_
    refine s_virtual (pc' := 92) (y := y5_reverse) (argsL := []) (rest := []) (z := y5_reverse) A H310.1 (l_rev4 l Z a0 hw n0 h312 A.size b278 r287 q1 q2 q3 q4 H310) (w13 hw) (w14 hw) (nf_same (C := "") (w16 hw)) (w16 hw) (w15 hw) (w4 hw) (w17 hw) (by decide) pd___V rfl (W := 0) (by decide) (by decide) (Nat.le_of_eq rfl) (by decide) (by decide) rfl rfl at_89 rfl fun T h317 v318 A Q319 => ?_
    obtain ⟨rfl, K316, H315⟩ := Q319
    refine Wp.stk (st' := []) rfl ?_
    refine s_aload (pc' := 94) A at_92 rfl rfl rfl ?_
    refine s_virtual (pc' := 97) (y := y2_size) (argsL := []) (rest := []) (z := y2_size) A H315.1 (l_size l Z a0 hw n0 h317 A.size b278 r287 (4 : Int32) [.int q4, .int q3, .int q2, .int q1, .int (0 : Int32), .int (0 : Int32), .int (0 : Int32), .int (0 : Int32)] H315) (w20 hw) (w21 hw) (nf_same (C := "") (w23 hw)) (w23 hw) (w22 hw) (w4 hw) (w24 hw) (by decide) pd___I rfl (W := 0) (by decide) (by decide) (Nat.le_of_eq rfl) (by decide) (by decide) rfl rfl at_94 rfl fun T h320 v321 A Q322 => ?_
    obtain ⟨rfl, eh⟩ := Q322
    rw [eh] at A
    refine Wp.stk (st' := [(.int (4 : Int32))]) rfl ?_
    refine s_iload (pc' := 99) A at_97 rfl rfl ?_
    refine s_icmpY (pc' := 104) A at_99 (by decide) (by decide) (by decide) ?_
    refine s_aload (pc' := 106) A at_104 rfl rfl rfl ?_
    refine s_aload (pc' := 108) A at_106 rfl rfl rfl ?_
    refine s_iload (pc' := 110) A at_108 rfl rfl ?_
    refine s_iconst (pc' := 111) (z := (0 : Int32)) A at_110 rfl (by decide) ?_
    have V323 := ((((((V290.keep K289 (ninS ne284 nin0)).keep K296 (ninS ne284 (ninS ne294 nin0))).keep K301 (ninS ne284 (ninS ne294 nin0))).keep K306 (ninS ne284 (ninS ne294 nin0))).keep K311 (ninS ne284 (ninS ne294 nin0))).keep K316 (ninS ne294 nin0))
    refine s_static (pc' := 114) (y := y6_at) (argsL := [(.ref b278), (.ref b260), (.int (4 : Int32)), (.int (0 : Int32))]) (rest := []) A (at40 l Z a0 hw n0 h317 A.size b278 r287 b260 q1 q2 q3 q4 H315 V323) (w25 hw) (w26 hw) (w27 hw) (w28 hw) (by decide) pd__Lcom_example_keys_into_trees_keysintotrees_index_IntList__III_Z rfl (W := 0) (by decide) (by decide) (Nat.le_of_eq rfl) (by decide) (by decide) rfl rfl at_111 rfl fun T h324 v325 A Q326 => ?_
    obtain ⟨rfl, eh⟩ := Q326
    rw [eh] at A
    refine Wp.stk (st' := [(.int (1 : Int32))]) rfl ?_
    refine s_ifN (pc' := 117) A at_114 rfl (by decide) ?_
    refine s_aload (pc' := 119) A at_117 rfl rfl rfl ?_
    refine s_aload (pc' := 121) A at_119 rfl rfl rfl ?_
    refine s_iload (pc' := 123) A at_121 rfl rfl ?_
    refine s_iconst (pc' := 124) (z := (1 : Int32)) A at_123 rfl (by decide) ?_
    refine s_static (pc' := 127) (y := y6_at) (argsL := [(.ref b278), (.ref b260), (.int (4 : Int32)), (.int (1 : Int32))]) (rest := []) A (at41 l Z a0 hw n0 h317 A.size b278 r287 b260 q1 q2 q3 q4 H315 V323) (w25 hw) (w26 hw) (w27 hw) (w28 hw) (by decide) pd__Lcom_example_keys_into_trees_keysintotrees_index_IntList__III_Z rfl (W := 0) (by decide) (by decide) (Nat.le_of_eq rfl) (by decide) (by decide) rfl rfl at_124 rfl fun T h327 v328 A Q329 => ?_
    obtain ⟨rfl, eh⟩ := Q329
    rw [eh] at A
    refine Wp.stk (st' := [(.int (1 : Int32))]) rfl ?_
    refine s_ifN (pc' := 130) A at_127 rfl (by decide) ?_
    refine s_aload (pc' := 132) A at_130 rfl rfl rfl ?_
    refine s_aload (pc' := 134) A at_132 rfl rfl rfl ?_
    refine s_iload (pc' := 136) A at_134 rfl rfl ?_
    refine s_iconst (pc' := 137) (z := (2 : Int32)) A at_136 rfl (by decide) ?_
    refine s_static (pc' := 140) (y := y6_at) (argsL := [(.ref b278), (.ref b260), (.int (4 : Int32)), (.int (2 : Int32))]) (rest := []) A (at42 l Z a0 hw n0 h317 A.size b278 r287 b260 q1 q2 q3 q4 H315 V323) (w25 hw) (w26 hw) (w27 hw) (w28 hw) (by decide) pd__Lcom_example_keys_into_trees_keysintotrees_index_IntList__III_Z rfl (W := 0) (by decide) (by decide) (Nat.le_of_eq rfl) (by decide) (by decide) rfl rfl at_137 rfl fun T h330 v331 A Q332 => ?_
    obtain ⟨rfl, eh⟩ := Q332
    rw [eh] at A
    refine Wp.stk (st' := [(.int (1 : Int32))]) rfl ?_
    refine s_ifN (pc' := 143) A at_140 rfl (by decide) ?_
    refine s_aload (pc' := 145) A at_143 rfl rfl rfl ?_
    refine s_aload (pc' := 147) A at_145 rfl rfl rfl ?_
    refine s_iload (pc' := 149) A at_147 rfl rfl ?_
    refine s_iconst (pc' := 150) (z := (3 : Int32)) A at_149 rfl (by decide) ?_
    refine s_static (pc' := 153) (y := y6_at) (argsL := [(.ref b278), (.ref b260), (.int (4 : Int32)), (.int (3 : Int32))]) (rest := []) A (at43 l Z a0 hw n0 h317 A.size b278 r287 b260 q1 q2 q3 q4 H315 V323) (w25 hw) (w26 hw) (w27 hw) (w28 hw) (by decide) pd__Lcom_example_keys_into_trees_keysintotrees_index_IntList__III_Z rfl (W := 0) (by decide) (by decide) (Nat.le_of_eq rfl) (by decide) (by decide) rfl rfl at_150 rfl fun T h333 v334 A Q335 => ?_
    obtain ⟨rfl, eh⟩ := Q335
    rw [eh] at A
    refine Wp.stk (st' := [(.int (1 : Int32))]) rfl ?_
    refine s_ifN (pc' := 156) A at_153 rfl (by decide) ?_
    refine s_iconst (pc' := 157) (z := (1 : Int32)) A at_156 rfl (by decide) ?_
    refine s_goto (pc' := 161) A at_157 (by decide) (by decide) ?_
    exact r_bool A rfl (by decide) at_161 (by decide) (by decide) (rfl)
set_option maxRecDepth 65536 in
set_option maxHeartbeats 40000000 in
theorem comes_1 {Post : Tables → Env → Array Value → State → Outcome → State → Prop} (hpost : ∀ tb e args s v u, (limb_1_1.after args s (.returned v) u = true ∧ limb_1_2.after args s (.returned v) u = true ∧ True) → FrameEnd s (.returned v) u (Jvm.fieldLocs frame_1_writes args s ++ Jvm.arrayLocs frame_1_arrays args s ++ Jvm.staticLocs frame_1_statics s) 16 128 → Post tb e args s (.returned v) u) :
    ArmFor flags0 classFile x code maxLocals ret World_1 tables_1 room_1 Calls_1 rest_1 Pre_1 Post := by
  intro l hfl _ _ p e ha hc hk s m args below hf hA hF happ hP
  obtain ⟨hcalls, hrest, hpre⟩ := hP
  obtain ⟨-, -, -, hnamed, -, -, -, hat⟩ := (Spec.applies_iff hf).mp happ
  obtain ⟨hg, hn⟩ := and_e (Cond.before_iff.mp (show (Jvm.Cond.and given_1 narrow_1).before args s = true from hpre))
  obtain ⟨hcnt, hg⟩ := and_e hg
  obtain ⟨w0, w1, w2, w3, w4, rfl⟩ : ∃ w0 w1 w2 w3 w4 : Value, args = #[w0, w1, w2, w3, w4] := by
    have hs : args.size = 5 := by simpa [Cond.value, given_1] using hcnt
    obtain ⟨L⟩ := args
    match L, hs with
    | [w0, w1, w2, w3, w4], _ => exact ⟨w0, w1, w2, w3, w4, rfl⟩
  have hw := fun d (hd : d ∈ tables_1) => atoms_spec (ws := Jvm.Cond.code x code maxLocals ret :: tables_1) hat d (List.mem_cons_of_mem _ hd)
  have hfit : Fit s := fun {y c} hc i hi => by
    obtain ⟨ha, rfl⟩ := Array.getElem?_eq_some_iff.mp hc
    have q := List.all_eq_true.mp ((Array.all_eq_true_iff_forall_mem.mp hF) _ (Array.getElem_mem ha)) i (List.mem_range.mpr hi)
    simpa [Array.getElem?_eq_getElem hi] using q
  obtain ⟨g0, hg⟩ := and_e hg
  obtain ⟨x0, e0⟩ := is_v g0
  obtain rfl : w0 = (.int x0) := Option.some.inj e0
  obtain ⟨g1, hg⟩ := and_e hg
  obtain ⟨x1, e1⟩ := is_v g1
  obtain rfl : w1 = (.int x1) := Option.some.inj e1
  obtain ⟨g2, hg⟩ := and_e hg
  obtain ⟨x2, e2⟩ := is_v g2
  obtain rfl : w2 = (.int x2) := Option.some.inj e2
  obtain ⟨g3, hg⟩ := and_e hg
  obtain ⟨x3, e3⟩ := is_v g3
  obtain rfl : w3 = (.int x3) := Option.some.inj e3
  obtain ⟨x4, e4⟩ := is_v hg
  obtain rfl : w4 = (.int x4) := Option.some.inj e4
  obtain ⟨n, o, h1, h2, h3, _, L, rfl, ⟨N, rfl⟩, hq⟩ := rm0 l s _ hw s.heap.size s.heap (Nat.le_refl _) x0 x1 x2 x3 x4 tables_1 p e ha hc hk s m _ below hf ((Spec.applies_iff_loose hf).mp happ).1 ⟨rfl, State.Warmed39.refl s, rfl⟩ trivial
  refine ⟨n, _, h1, h2, h3, hpost _ _ _ _ _ _ ⟨Cond.after_iff.mpr rfl, Cond.after_iff.mpr (eq_i res_at (Term.int_eval (1)) rfl), trivial⟩ ⟨hq.1, hq.2.1, (hq.2.2.sift fun y hy => Or.inr (N y hy)).mono (by decide) (by decide)⟩⟩
theorem main_1_1 : Claimed_1_1 := comes_1 fun _ _ _ _ _ _ h hF => ⟨h.1, hF⟩
theorem main_1_2 : Claimed_1_2 := comes_1 fun _ _ _ _ _ _ h hF => ⟨h.2.1, hF⟩
end Jvm.Pilot.@@N@@
namespace Jvm.Pilot.@@N@@
open Jvm Jvm.ClassFile Sem Op Lib Jvm.Free Jvm.Stand Jvm.Pilot.@@N@@.Jvm.D
/-! MADE BY PROGRAM (witnessworld.py) out of the Statement's table words and the real class files: 9 classes; the members and pool entries that the words name. The judged class is class 1, her method 1. -/
namespace start1
open Jvm.ClassFile
def u (s : String) : CpInfo := .utf8 (stringToUtf16 s)
/-- a pool by its gaps: so many unusable entries, then the entry; so many at the end -/
def gap : Nat → List CpInfo → List CpInfo
  | 0, r => r
  | n + 1, r => .unusable :: gap n r
def poolList (es : List (Nat × CpInfo)) (last : Nat) : List CpInfo := es.foldr (fun e r => gap e.1 (e.2 :: r)) (gap last [])
def pool (es : List (Nat × CpInfo)) (last : Nat) : Array CpInfo := ⟨poolList es last⟩
def fileOf (pool : Array CpInfo) (this : Nat) (attrs : Array Attribute := #[]) (ms : Array MethodInfo := #[]) (fl : Nat := 33) (sup : Nat := 0) (ifs : Array Nat := #[]) (fds : Array FieldInfo := #[]) : ClassFile where
  minorVersion := 0
  majorVersion := 65
  constantPool := pool
  accessFlags := fl
  thisClass := this
  superClass := sup
  interfaces := ifs
  fields := fds
  methods := ms
  attributes := attrs
def plain (name : String) (sup : Option ClassId) : Class where
  name := name
  kind := .ordinary
  loader := none
  accessFlags := 33
  super := sup
  interfaces := #[]
  cf := none
  fields := #[]
  methods := #[]
  instanceTypes := #[]
  staticTypes := #[]
  resolved := #[]
  callSites := []
  init := .initialized
  statics := none
  mirror := none

def pool0 : Array CpInfo := pool [(5, u "<init>"), (0, u "()V"), (1, .class_ 10), (1, u "java/lang/Object")] 113

def k0c0 : Code := { maxStack := 0, maxLocals := 1, code := object_method_1_code, exceptionTable := #[], attributes := #[] }
def k0m0 : Method := { name := "<init>", desc := "()V", sig := { parameters := [], returnType := none }, accessFlags := 1, code := some k0c0 }
/-- java/lang/Object -/
def k0 : Class := { plain "java/lang/Object" none with
  accessFlags := 33
  interfaces := #[]
  cf := some (fileOf pool0 8 #[] #[{ accessFlags := 1, nameIndex := 5, descriptorIndex := 6, attributes := #[] }] 33 0 #[] #[])
  fields := #[]
  methods := #[k0m0]
  instanceTypes := #[]
  staticTypes := #[]
  resolved := Array.replicate 124 none
  statics := none }

def pool1 : Array CpInfo := pool [(2, .class_ 4), (0, .nameAndType 5 6), (0, u "java/lang/Object"), (0, u "<init>"), (0, u "()V"), (0, .integer 2147483647), (0, .class_ 9), (0, u "com/example/keys_into_trees/keysintotrees/index/IntList"), (0, .methodref 8 3), (0, .methodref 8 12), (0, .nameAndType 13 14), (0, u "add"), (0, u "(I)V"), (0, .methodref 8 16), (0, .nameAndType 17 6), (0, u "reverse"), (0, .methodref 8 19), (0, .nameAndType 20 21), (0, u "size"), (0, u "()I"), (0, .methodref 23 24), (0, .class_ 25), (0, .nameAndType 26 27), (0, u "com/example/keys_into_trees/keysintotrees/index/IntListReversePinLaw"), (0, u "at"), (0, u "(Lcom/example/keys_into_trees/keysintotrees/index/IntList;[III)Z"), (0, .methodref 8 29), (0, .nameAndType 30 31), (0, u "get"), (0, u "(I)I"), (2, u "law"), (0, u "(IIIII)Z")] 5

def k1m0 : Method := { name := "<init>", desc := "()V", sig := { parameters := [], returnType := none }, accessFlags := 1, code := none }
def k1c1 : Code := { maxStack := 4, maxLocals := 8, code := code, exceptionTable := #[], attributes := #[] }
def k1m1 : Method := { name := "law", desc := "(IIIII)Z", sig := { parameters := [.int, .int, .int, .int, .int], returnType := some .boolean }, accessFlags := 9, code := some k1c1 }
def k1c2 : Code := { maxStack := 4, maxLocals := 4, code := method_3_code, exceptionTable := #[], attributes := #[] }
def k1m2 : Method := { name := "at", desc := "(Lcom/example/keys_into_trees/keysintotrees/index/IntList;[III)Z", sig := { parameters := [(.object "com/example/keys_into_trees/keysintotrees/index/IntList"), (.array .int), .int, .int], returnType := some .boolean }, accessFlags := 10, code := some k1c2 }
/-- com/example/keys_into_trees/keysintotrees/index/IntListReversePinLaw -/
def k1 : Class := { plain "com/example/keys_into_trees/keysintotrees/index/IntListReversePinLaw" (some 0) with
  accessFlags := 49
  interfaces := #[]
  cf := some (fileOf pool1 23 #[] #[{ accessFlags := 1, nameIndex := 5, descriptorIndex := 6, attributes := #[] }, { accessFlags := 9, nameIndex := 34, descriptorIndex := 35, attributes := #[] }, { accessFlags := 10, nameIndex := 26, descriptorIndex := 27, attributes := #[] }] 49 2 #[] #[])
  fields := #[]
  methods := #[k1m0, k1m1, k1m2]
  instanceTypes := #[]
  staticTypes := #[]
  resolved := Array.replicate 41 none
  statics := none }

def pool2 : Array CpInfo := pool [(1, .methodref 2 3), (0, .class_ 4), (0, .nameAndType 5 6), (0, u "java/lang/Object"), (0, u "<init>"), (0, u "()V"), (0, .fieldref 8 9), (0, .class_ 10), (0, .nameAndType 11 12), (0, u "com/example/keys_into_trees/keysintotrees/index/IntList"), (0, u "values"), (0, u "[I"), (0, .fieldref 8 14), (0, .nameAndType 15 16), (0, u "size"), (0, u "I"), (0, .methodref 8 18), (0, .nameAndType 19 20), (0, u "checkIndex"), (0, u "(I)V"), (2, u "get"), (0, u "(I)I"), (19, u "()I"), (17, u "add"), (1, u "reverse")] 20

def k2c0 : Code := { maxStack := 2, maxLocals := 1, code := prog_21_method_1_code, exceptionTable := #[], attributes := #[] }
def k2m0 : Method := { name := "<init>", desc := "()V", sig := { parameters := [], returnType := none }, accessFlags := 0, code := some k2c0 }
def k2c1 : Code := { maxStack := 1, maxLocals := 1, code := prog_21_method_2_code, exceptionTable := #[], attributes := #[] }
def k2m1 : Method := { name := "size", desc := "()I", sig := { parameters := [], returnType := some .int }, accessFlags := 0, code := some k2c1 }
def k2c2 : Code := { maxStack := 2, maxLocals := 2, code := prog_21_method_4_code, exceptionTable := #[], attributes := #[] }
def k2m2 : Method := { name := "get", desc := "(I)I", sig := { parameters := [.int], returnType := some .int }, accessFlags := 0, code := some k2c2 }
def k2c3 : Code := { maxStack := 5, maxLocals := 2, code := prog_21_method_7_code, exceptionTable := #[], attributes := #[] }
def k2m3 : Method := { name := "add", desc := "(I)V", sig := { parameters := [.int], returnType := none }, accessFlags := 0, code := some k2c3 }
def k2c4 : Code := { maxStack := 4, maxLocals := 4, code := prog_21_method_10_code, exceptionTable := #[], attributes := #[] }
def k2m4 : Method := { name := "reverse", desc := "()V", sig := { parameters := [], returnType := none }, accessFlags := 0, code := some k2c4 }
def k2c5 : Code := { maxStack := 4, maxLocals := 2, code := prog_21_method_12_code, exceptionTable := #[], attributes := #[] }
def k2m5 : Method := { name := "checkIndex", desc := "(I)V", sig := { parameters := [.int], returnType := none }, accessFlags := 2, code := some k2c5 }
/-- com/example/keys_into_trees/keysintotrees/index/IntList -/
def k2 : Class := { plain "com/example/keys_into_trees/keysintotrees/index/IntList" (some 0) with
  accessFlags := 48
  interfaces := #[]
  cf := some (fileOf pool2 8 #[] #[{ accessFlags := 0, nameIndex := 5, descriptorIndex := 6, attributes := #[] }, { accessFlags := 0, nameIndex := 15, descriptorIndex := 44, attributes := #[] }, { accessFlags := 0, nameIndex := 23, descriptorIndex := 24, attributes := #[] }, { accessFlags := 0, nameIndex := 62, descriptorIndex := 20, attributes := #[] }, { accessFlags := 0, nameIndex := 64, descriptorIndex := 6, attributes := #[] }, { accessFlags := 2, nameIndex := 19, descriptorIndex := 20, attributes := #[] }] 48 2 #[] #[{ accessFlags := 2, nameIndex := 11, descriptorIndex := 12, attributes := #[] }, { accessFlags := 2, nameIndex := 15, descriptorIndex := 16, attributes := #[] }])
  fields := #[{ name := "values", type := (.array .int), accessFlags := 2, slot := 0, constantValue := 0 }, { name := "size", type := .int, accessFlags := 2, slot := 1, constantValue := 0 }]
  methods := #[k2m0, k2m1, k2m2, k2m3, k2m4, k2m5]
  instanceTypes := #[(.array .int), .int]
  staticTypes := #[]
  resolved := Array.replicate 85 none
  statics := none }

def pool3 : Array CpInfo := pool [(1, u "java/lang/Cloneable"), (0, .class_ 1), (0, u "java/lang/Object"), (0, .class_ 3)] 3

/-- java/lang/Cloneable -/
def k3 : Class := { plain "java/lang/Cloneable" (some 0) with
  accessFlags := 1537
  interfaces := #[]
  cf := some (fileOf pool3 2 #[] #[] 1537 4 #[] #[])
  fields := #[]
  methods := #[]
  instanceTypes := #[]
  staticTypes := #[]
  resolved := Array.replicate 8 none
  statics := none }

def pool4 : Array CpInfo := pool [(1, u "java/io/Serializable"), (0, .class_ 1), (0, u "java/lang/Object"), (0, .class_ 3)] 3

/-- java/io/Serializable -/
def k4 : Class := { plain "java/io/Serializable" (some 0) with
  accessFlags := 1537
  interfaces := #[]
  cf := some (fileOf pool4 2 #[] #[] 1537 4 #[] #[])
  fields := #[]
  methods := #[]
  instanceTypes := #[]
  staticTypes := #[]
  resolved := Array.replicate 8 none
  statics := none }

/-- the primitive byte -/
def k5 : Class := { plain "byte" none with kind := .primitive 'B', accessFlags := 0x411 }
/-- [B -/
def k6 : Class := { plain "[B" (some 0) with kind := .array 5 .byte, interfaces := #[3, 4], accessFlags := 1041 }

/-- the primitive int -/
def k7 : Class := { plain "int" none with kind := .primitive 'I', accessFlags := 0x411 }
/-- [I -/
def k8 : Class := { plain "[I" (some 0) with kind := .array 7 .int, interfaces := #[3, 4], accessFlags := 1041 }

def heap : Heap := #[]
def classes : Array Class := #[k0, k1, k2, k3, k4, k5, k6, k7, k8]
def interned : List (Array UInt16 × Addr) := []
def slotsUsed : Nat := 0
def theMethod : MethodId := ⟨1, 1⟩
def args0 : Array Value := #[.int 0, .int 1, .int 2, .int 3, .int 4]
def aboutOver (below : List Frame) : State where
  vm := { classes := classes, interned := interned.toArray }
  heap := heap
  slotsUsed := slotsUsed
  threads := #[{ frames := .invoking theMethod args0 :: below }]
def below0 : List Frame := [.native { method := ⟨0, 0⟩, args := #[] }]
def about1 : State := aboutOver below0
def p0 : Program := .bare "" "" ""
def e0 : Env := launch0.env 0 0 0
theorem w_frames : about1.frames = Frame.invoking theMethod args0 :: below0 := rfl
set_option maxRecDepth 65536 in
theorem w_args : argsFit about1.vm theMethod args0 = true := by decide +kernel
set_option maxRecDepth 65536 in
theorem w_heap : heapFits about1 = true := by decide +kernel
set_option maxRecDepth 65536 in
theorem w_runnable : about1.curStatus? = some .runnable := by decide +kernel
set_option maxRecDepth 65536 in
theorem w_alone : about1.alone = true := by decide +kernel
set_option maxRecDepth 65536 in
theorem w_named : about1.methodNamed? x = some theMethod := by decide +kernel
set_option maxRecDepth 65536 in
theorem w_hears : about1.hears theMethod below0 = true := by decide +kernel
set_option maxRecDepth 65536 in
theorem w_ripe : about1.ripe theMethod args0 below0 = true := by decide +kernel
theorem w_running : about1.status = .running := rfl
set_option maxRecDepth 65536 in
theorem w_room : about1.hasRoom e0.platform room_1 = true :=
  launch0.hasRoom_least _ room_1 (by decide +kernel) (by decide +kernel) (by decide +kernel) (by decide +kernel) (by decide +kernel) (by decide +kernel)
theorem allAtoms_all (ts : List Jvm.Cond) (a : Array Jvm.Value) (st : Jvm.State) : (allAtoms ts).before a st = ts.all (fun c => c.before a st) := by
  induction ts with
  | nil => rfl
  | cons c t ih =>
    show (Jvm.Cond.and c (allAtoms t)).before a st = _
    rw [Jvm.Cond.before_and, ih, List.all_cons]
def words1 : List Jvm.Cond := Jvm.Cond.code x code maxLocals ret :: tables_1
/-- a 'code' word, met by the world's own term for the bytes: nothing is compared byte by byte -/
theorem code_word {y : MethodName} {bytes : ByteArray} {mx : Nat} {rt : Option FieldType} {a : Array Value} {s : State} {m : MethodId} {meth : Method} {c : Code} (h1 : s.methodNamed? y = some m) (h2 : s.vm.method? m = some meth) (h3 : meth.code = some c) (h4 : c.code = bytes)
    (h5 : (c.maxLocals == mx && c.exceptionTable.isEmpty && decide (c.maxStack ≤ mostOperands) && decide (meth.sig.returnType = rt) && !meth.locks && decide (parseMethodDescriptor y.desc = some meth.sig)) = true) : (Jvm.Cond.code y bytes mx rt).before a s = true := by
  simp only [Bool.and_eq_true, beq_iff_eq, Bool.not_eq_true', decide_eq_true_eq] at h5
  obtain ⟨⟨⟨⟨⟨g1, g2⟩, g3⟩, g4⟩, g5⟩, g6⟩ := h5
  simp [Cond.before, Cond.holds, Cond.value, h1, h2, h3, h4, g1, g2, g3, g4, g5, g6]
def isCode : Jvm.Cond → Bool
  | .code _ _ _ _ => true
  | _ => false
theorem all_split {L : List Jvm.Cond} {P : Jvm.Cond → Bool} (h1 : L.all (fun c => isCode c || P c) = true) (h2 : ∀ c ∈ L.filter isCode, P c = true) : L.all P = true := by
  refine List.all_eq_true.mpr fun c hc => ?_
  have h := List.all_eq_true.mp h1 c hc
  rcases Bool.eq_false_or_eq_true (isCode c) with hi | hi
  · exact h2 c (List.mem_filter.mpr ⟨hc, hi⟩)
  · simpa [hi] using h
set_option maxRecDepth 65536 in
theorem w_c0 : (Jvm.Cond.code x code maxLocals ret).before args0 about1 = true := code_word (m := ⟨1, 1⟩) (meth := k1m1) (c := k1c1) (by decide +kernel) rfl rfl rfl (by decide +kernel)
set_option maxRecDepth 65536 in
theorem w_c1 : (Jvm.Cond.code ({ cls := "com/example/keys_into_trees/keysintotrees/index/IntList", name := "<init>", desc := "()V" } : Jvm.MethodName) prog_21_method_1_code (1 : Nat) (Option.none : Option Jvm.ClassFile.FieldType)).before args0 about1 = true := code_word (m := ⟨2, 0⟩) (meth := k2m0) (c := k2c0) (by decide +kernel) rfl rfl rfl (by decide +kernel)
set_option maxRecDepth 65536 in
theorem w_c2 : (Jvm.Cond.code ({ cls := "java/lang/Object", name := "<init>", desc := "()V" } : Jvm.MethodName) object_method_1_code (1 : Nat) (Option.none : Option Jvm.ClassFile.FieldType)).before args0 about1 = true := code_word (m := ⟨0, 0⟩) (meth := k0m0) (c := k0c0) (by decide +kernel) rfl rfl rfl (by decide +kernel)
set_option maxRecDepth 65536 in
theorem w_c3 : (Jvm.Cond.code ({ cls := "com/example/keys_into_trees/keysintotrees/index/IntList", name := "reverse", desc := "()V" } : Jvm.MethodName) prog_21_method_10_code (4 : Nat) (Option.none : Option Jvm.ClassFile.FieldType)).before args0 about1 = true := code_word (m := ⟨2, 4⟩) (meth := k2m4) (c := k2c4) (by decide +kernel) rfl rfl rfl (by decide +kernel)
set_option maxRecDepth 65536 in
theorem w_c4 : (Jvm.Cond.code ({ cls := "com/example/keys_into_trees/keysintotrees/index/IntList", name := "size", desc := "()I" } : Jvm.MethodName) prog_21_method_2_code (1 : Nat) (Option.some Jvm.ClassFile.FieldType.int)).before args0 about1 = true := code_word (m := ⟨2, 1⟩) (meth := k2m1) (c := k2c1) (by decide +kernel) rfl rfl rfl (by decide +kernel)
set_option maxRecDepth 65536 in
theorem w_c5 : (Jvm.Cond.code ({ cls := "com/example/keys_into_trees/keysintotrees/index/IntListReversePinLaw", name := "at", desc := "(Lcom/example/keys_into_trees/keysintotrees/index/IntList;[III)Z" } : Jvm.MethodName) method_3_code (4 : Nat) (Option.some Jvm.ClassFile.FieldType.boolean)).before args0 about1 = true := code_word (m := ⟨1, 2⟩) (meth := k1m2) (c := k1c2) (by decide +kernel) rfl rfl rfl (by decide +kernel)
set_option maxRecDepth 65536 in
theorem w_c6 : (Jvm.Cond.code ({ cls := "com/example/keys_into_trees/keysintotrees/index/IntList", name := "add", desc := "(I)V" } : Jvm.MethodName) prog_21_method_7_code (2 : Nat) (Option.none : Option Jvm.ClassFile.FieldType)).before args0 about1 = true := code_word (m := ⟨2, 3⟩) (meth := k2m3) (c := k2c3) (by decide +kernel) rfl rfl rfl (by decide +kernel)
set_option maxRecDepth 65536 in
theorem w_c7 : (Jvm.Cond.code ({ cls := "com/example/keys_into_trees/keysintotrees/index/IntList", name := "get", desc := "(I)I" } : Jvm.MethodName) prog_21_method_4_code (2 : Nat) (Option.some Jvm.ClassFile.FieldType.int)).before args0 about1 = true := code_word (m := ⟨2, 2⟩) (meth := k2m2) (c := k2c2) (by decide +kernel) rfl rfl rfl (by decide +kernel)
set_option maxRecDepth 65536 in
theorem w_c8 : (Jvm.Cond.code ({ cls := "com/example/keys_into_trees/keysintotrees/index/IntList", name := "checkIndex", desc := "(I)V" } : Jvm.MethodName) prog_21_method_12_code (2 : Nat) (Option.none : Option Jvm.ClassFile.FieldType)).before args0 about1 = true := code_word (m := ⟨2, 5⟩) (meth := k2m5) (c := k2c5) (by decide +kernel) rfl rfl rfl (by decide +kernel)
def codes1 : List Jvm.Cond := [Jvm.Cond.code x code maxLocals ret, Jvm.Cond.code ({ cls := "com/example/keys_into_trees/keysintotrees/index/IntList", name := "<init>", desc := "()V" } : Jvm.MethodName) prog_21_method_1_code (1 : Nat) (Option.none : Option Jvm.ClassFile.FieldType), Jvm.Cond.code ({ cls := "java/lang/Object", name := "<init>", desc := "()V" } : Jvm.MethodName) object_method_1_code (1 : Nat) (Option.none : Option Jvm.ClassFile.FieldType), Jvm.Cond.code ({ cls := "com/example/keys_into_trees/keysintotrees/index/IntList", name := "reverse", desc := "()V" } : Jvm.MethodName) prog_21_method_10_code (4 : Nat) (Option.none : Option Jvm.ClassFile.FieldType), Jvm.Cond.code ({ cls := "com/example/keys_into_trees/keysintotrees/index/IntList", name := "size", desc := "()I" } : Jvm.MethodName) prog_21_method_2_code (1 : Nat) (Option.some Jvm.ClassFile.FieldType.int), Jvm.Cond.code ({ cls := "com/example/keys_into_trees/keysintotrees/index/IntListReversePinLaw", name := "at", desc := "(Lcom/example/keys_into_trees/keysintotrees/index/IntList;[III)Z" } : Jvm.MethodName) method_3_code (4 : Nat) (Option.some Jvm.ClassFile.FieldType.boolean), Jvm.Cond.code ({ cls := "com/example/keys_into_trees/keysintotrees/index/IntList", name := "add", desc := "(I)V" } : Jvm.MethodName) prog_21_method_7_code (2 : Nat) (Option.none : Option Jvm.ClassFile.FieldType), Jvm.Cond.code ({ cls := "com/example/keys_into_trees/keysintotrees/index/IntList", name := "get", desc := "(I)I" } : Jvm.MethodName) prog_21_method_4_code (2 : Nat) (Option.some Jvm.ClassFile.FieldType.int), Jvm.Cond.code ({ cls := "com/example/keys_into_trees/keysintotrees/index/IntList", name := "checkIndex", desc := "(I)V" } : Jvm.MethodName) prog_21_method_12_code (2 : Nat) (Option.none : Option Jvm.ClassFile.FieldType)]
set_option maxRecDepth 65536 in
theorem codes_eq : words1.filter isCode = codes1 := rfl
theorem w_codes : ∀ c ∈ words1.filter isCode, c.before args0 about1 = true := by
  rw [codes_eq]
  intro c hc
  simp only [codes1, List.mem_cons, List.not_mem_nil, or_false] at hc
  rcases hc with rfl | rfl | rfl | rfl | rfl | rfl | rfl | rfl | rfl
  · exact w_c0
  · exact w_c1
  · exact w_c2
  · exact w_c3
  · exact w_c4
  · exact w_c5
  · exact w_c6
  · exact w_c7
  · exact w_c8
set_option maxRecDepth 65536 in
theorem w_t1 : (words1.take 24).all (fun c => isCode c || c.before args0 about1) = true := by decide +kernel
set_option maxRecDepth 65536 in
theorem w_t2 : (words1.drop 24).all (fun c => isCode c || c.before args0 about1) = true := by decide +kernel
theorem w_tables : (allAtoms (Jvm.Cond.code x code maxLocals ret :: tables_1)).before args0 about1 = true := by
  rw [allAtoms_all]
  show words1.all (fun c => c.before args0 about1) = true
  refine all_split ?_ w_codes
  rw [← List.take_append_drop 24 words1, List.all_append, w_t1, w_t2]
  rfl
set_option maxRecDepth 65536 in
theorem w_case : (Jvm.Cond.and given_1 narrow_1).before args0 about1 = true := by decide +kernel
theorem w_applies : (headSpec (Jvm.Cond.code x code maxLocals ret :: tables_1) room_1).applies x e0.platform about1 = true :=
  (Spec.applies_iff w_frames).mpr ⟨w_running, w_runnable, w_alone, w_named, w_hears, w_ripe, w_room, w_tables⟩
theorem atStart : AtStart classFile x code maxLocals ret World_1 tables_1 room_1 Calls_1 rest_1 Pre_1 launch0 p0 e0 about1 theMethod args0 below0 :=
  ⟨lists_1, trivial, launch0.admits_env _ _ _, launch0.least_env, fairChoices_fair.cas, fairChoices_fair.clock, w_frames, w_args, w_heap, w_applies, trivial, trivial, w_case⟩
end start1
theorem witness_1 : WitnessClaimed_1 := ⟨start1.p0, start1.e0, start1.about1, start1.theMethod, start1.args0, start1.below0, start1.atStart⟩
end Jvm.Pilot.@@N@@
