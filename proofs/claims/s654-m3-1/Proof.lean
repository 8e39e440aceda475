import JvmDerived
import JvmDerived.Pilot.@@N@@Statement
import JvmDerived.Pilot.@@N@@Code
set_option linter.unusedVariables false
set_option linter.unusedSimpArgs false
namespace Jvm.Ow
open Sem ClassFile Op Lib Jvm.Stand Jvm.Free Jvm.LawKit Jvm.RoadKit
abbrev jv (x : Int64) : Slot := .val (.long x)
abbrev U0 : Slot := .unset
abbrev S2 : Slot := .second
def ush (x y : Int32) : Int32 := (x.toUInt32 >>> (y &&& 31).toUInt32).toInt32
def ushL (x : Int64) (y : Int32) : Int64 := (x.toUInt64 >>> (y &&& 0x3f).toInt64.toUInt64).toInt64
def On (l : Launch) (Z : State) (n0 : Nat) (own : String) (bytes : ByteArray) (maxL : Nat) (ret : Option FieldType) (R : Room) (p : Program) (e : Env) (s : State) (m : MethodId) (args : Array Value) (below : List Frame) (meth : Method) (c : Code) (T : State) (h : Heap) (k n : Nat) : Prop :=
  ∃ locs, Stand p l e R s m args below meth c T locs k n ∧ Fr n0 locs ∧ T.heap = h ∧ p.tables.exec = Jvm.exec ∧ Z.Warmed39 s.vm ∧ c.code = bytes ∧ c.maxLocals = maxL ∧ s.vm.findClass own = some m.cls ∧ meth.sig.returnType = ret ∧ meth.locks = false ∧ n0 ≤ s.heap.size
def Wp (p : Program) (e : Env) (below : List Frame) (s : State) (n0 ck cs : Nat) (Q : Option Value → Heap → Prop) (U : State) : Prop :=
  ∃ t o, Steps p.tables e below U t ∧ t.status = .running ∧ Ended t below o ∧ ∃ v L, o = .returned v ∧ (Fr n0 L ∧ Q v t.heap) ∧ FrameEnd s o t L ck cs
def Met (l : Launch) (Z : State) (n0 : Nat) (y : MethodName) (bytes : ByteArray) (maxL : Nat) (ret : Option FieldType) (rm : Room) (as : Array Value) (h : Heap) (Q : Option Value → Heap → Prop) : Prop :=
  ∀ ws, MetFree l y (head1 (Cond.code y bytes maxL ret :: ws) rm) (fun a U => a = as ∧ Z.Warmed39 U.vm ∧ U.heap = h) (fun _ _ _ _ _ => True) (fun _ U o U' => ∃ v L, o = .returned v ∧ (Fr n0 L ∧ Q v U'.heap) ∧ FrameEnd U o U' L rm.cells rm.slots)
/-- an array of the component type ty, whose components are vs -/
def AA (Z : State) (h : Heap) (a : Addr) (ty : FieldType) (vs : List Value) : Prop := ∃ c : Cell, Arr Z h a c ty ∧ c.slots = vs.toArray ∧ vs.length < 2147483648
section Kit
variable {l : Launch} {Z : State} {n0 : Nat} {own : String} {bytes : ByteArray} {maxL : Nat} {ret : Option FieldType} {R : Room} {p : Program} {e : Env} {s : State} {m : MethodId} {args : Array Value} {below : List Frame} {meth : Method} {c : Code} {T : State} {h h' : Heap} {k n ck cs : Nat} {Q : Option Value → Heap → Prop} {pc pc' : Nat} {Ls Ls' : Array Slot} {st : List Value} {a0 : Array Value} {a b : Addr} {ty : FieldType} {vs : List Value} {sl : Nat} {v w : Value} {ws : List Addr}
theorem AA.ext (F : AA Z h a ty vs) (E : Ext h h') : AA Z h' a ty vs := by obtain ⟨c, A, r⟩ := F; exact ⟨c, A.ext E, r⟩
theorem AA.other (F : AA Z h b ty vs) (W : Wr h h' a sl v) (q : b ≠ a) : AA Z h' b ty vs := by obtain ⟨c, A, r⟩ := F; exact ⟨c, A.other W q, r⟩
theorem AA.keep (F : AA Z h a ty vs) (K : Keep h h' ws) (q : a ∉ ws) : AA Z h' a ty vs := by obtain ⟨c, A, r⟩ := F; exact ⟨c, ⟨K.2.1 a c A.1 q, A.2⟩, r⟩
theorem AA.set (F : AA Z h a ty vs) (W : Wr h h' a sl v) : AA Z h' a ty (vs.set sl v) := by
  obtain ⟨c, A, r1, r2⟩ := F
  exact ⟨_, A.same W, by simp [Cell.setSlot, r1], by simpa using r2⟩
theorem AA.lt (F : AA Z h a ty vs) : a < h.size := by obtain ⟨c, A, -⟩ := F; exact A.lt
theorem AA.len (F : AA Z h a ty vs) : vs.length < 2147483648 := F.choose_spec.2.2
theorem AA.cast {vs' : List Value} (F : AA Z h a ty vs) (q : vs = vs') : AA Z h a ty vs' := q ▸ F
theorem Fld.cast {C f d : String} (F : Fld Z h a C f d v) (q : v = w) : Fld Z h a C f d w := q ▸ F
theorem AA.new {cA : ClassId} {z : Int32} {i : Nat} (A : Arr Z h a (newA cA ty z) ty) (hz : z.toInt = (i : Int)) : AA Z h a ty (List.replicate i (defaultValue ty)) := by
  have q : z.toNatClampNeg = i := by show z.toInt.toNat = i; omega
  have := z.toInt_lt
  refine ⟨_, A, ?_, ?_⟩
  · simp [newA, q]
  · simp; omega
theorem AA.ne_exa {C : String} {kk : Nat} (F : AA Z h a ty vs) (E : Exa Z h b C) (wi : (Cond.instantiable C kk).before a0 Z = true) : b ≠ a := by obtain ⟨c, A, -⟩ := F; exact ne_arr E wi A
theorem lt_ne {x y z : Nat} (q : x < y) (r : y = z) : x ≠ z := by omega
theorem le_eq {x y z : Nat} (q : x ≤ y) (r : y = z) : x ≤ z := by omega
theorem On.size(A : On l Z n0 own bytes maxL ret R p e s m args below meth c T h k n) : n0 ≤ h.size := by
  obtain ⟨locs, X, N, eT, hx, hZ, hby, hml, hown, hret, hlk, hsz⟩ := A
  have := X.same.2.1
  subst eT
  exact Nat.le_trans hsz this
theorem Wp.goo {U U' : State} (f : ∀ t, Steps p.tables e below U' t → Steps p.tables e below U t) (K : Wp p e below s n0 ck cs Q U') : Wp p e below s n0 ck cs Q U := by
  obtain ⟨t, o, q, r⟩ := K; exact ⟨t, o, f t q, r⟩
theorem Wp.cast {g g' : JFrame} (q : g = g') (K : Wp p e below s n0 ck cs Q (T.setTop g')) : Wp p e below s n0 ck cs Q (T.setTop g) := q ▸ K
theorem Wp.stk {st' : List Value} (q : st = st') (K : Wp p e below s n0 ck cs Q (T.setTop (mkF m pc Ls st'))) : Wp p e below s n0 ck cs Q (T.setTop (mkF m pc Ls st)) := q ▸ K
theorem Wp.mono {Q' : Option Value → Heap → Prop} {U : State} (K : Wp p e below s n0 ck cs Q U) (q : ∀ v h, Q v h → Q' v h) : Wp p e below s n0 ck cs Q' U := by
  obtain ⟨t, o, h1, h2, h3, v, L, h4, ⟨h5, h6⟩, h7⟩ := K; exact ⟨t, o, h1, h2, h3, v, L, h4, ⟨h5, q _ _ h6⟩, h7⟩
theorem met_intro {y : MethodName} {rm : Room} {as : Array Value} (hpl : plainFor y = true) (ho : y.cls = own) (hsz : n0 ≤ h.size)
    (body : ∀ p e s m below meth c T, On l Z n0 own bytes maxL ret rm p e s m as below meth c T h 0 0 → meth.name = y.name → Wp p e below s n0 rm.cells rm.slots Q (T.setTop (entryFrame m as maxL))) : Met l Z n0 y bytes maxL ret rm as h Q := by
  subst ho
  intro ws
  refine MetFree.of_bodySF hpl hisR ?_
  intro p e s m args below meth c s₁ Bd hml0 hP hK
  obtain ⟨rfl, hZ, hh⟩ := hP
  have X0 : Stand p l e rm s m args below meth c s₁ [] 0 0 := Stand.of_body Bd
  have e0 : s₁.heap = h := by rw [← hh, Bd.state]; rfl
  exact body p e s m below meth c s₁ ⟨[], X0, Fr.nil n0, e0, Bd.exec, hZ, Bd.bytes, hml0, findClass_of_methodNamed Bd.named, Bd.returns, Bd.notSynchronized, by rw [hh]; exact hsz⟩ (name_of_methodNamed Bd.named Bd.method).1
theorem Met.mono {y : MethodName} {rm : Room} {as : Array Value} {Q' : Option Value → Heap → Prop} (M : Met l Z n0 y bytes maxL ret rm as h Q) (q : ∀ v h, Q v h → Q' v h) : Met l Z n0 y bytes maxL ret rm as h Q' := by
  intro ws p e ha hc hk s m args below hf happ hP hK
  obtain ⟨n, o, h1, h2, h3, v, L, h4, ⟨h5, h6⟩, h7⟩ := M ws p e ha hc hk s m args below hf happ hP hK
  exact ⟨n, o, h1, h2, h3, v, L, h4, ⟨h5, q _ _ h6⟩, h7⟩
theorem s_iloadN (A : On l Z n0 own bytes maxL ret R p e s m args below meth c T h k n) {i : Fin 4} {z : Int32} (hd : decode bytes pc = .ok (.iload_n i, 1)) (hp : pc + 1 = pc') (hl : Ls[i.val]? = some (.val (.int z))) (K : Wp p e below s n0 ck cs Q (T.setTop (mkF m pc' Ls (.int z :: st)))) : Wp p e below s n0 ck cs Q (T.setTop (mkF m pc Ls st)) := by
  obtain ⟨locs, X, N, eT, hx, hZ, hby, hml, hown, hret, hlk, hsz⟩ := A
  subst hp
  exact K.goo fun t q => XS.iloadN X.here hx rfl (hb hby hd) hl q
theorem s_lloadN (A : On l Z n0 own bytes maxL ret R p e s m args below meth c T h k n) {i : Fin 4} {z : Int64} (hd : decode bytes pc = .ok (.lload_n i, 1)) (hp : pc + 1 = pc') (hl : Ls[i.val]? = some (.val (.long z))) (K : Wp p e below s n0 ck cs Q (T.setTop (mkF m pc' Ls (.long z :: st)))) : Wp p e below s n0 ck cs Q (T.setTop (mkF m pc Ls st)) := by
  obtain ⟨locs, X, N, eT, hx, hZ, hby, hml, hown, hret, hlk, hsz⟩ := A
  subst hp
  exact K.goo fun t q => XS.lloadN X.here hx rfl (hb hby hd) hl q
theorem s_aloadN (A : On l Z n0 own bytes maxL ret R p e s m args below meth c T h k n) {i : Fin 4} (hd : decode bytes pc = .ok (.aload_n i, 1)) (hp : pc + 1 = pc') (hl : Ls[i.val]? = some (.val v)) (hv : v.isRef = true) (K : Wp p e below s n0 ck cs Q (T.setTop (mkF m pc' Ls (v :: st)))) : Wp p e below s n0 ck cs Q (T.setTop (mkF m pc Ls st)) := by
  obtain ⟨locs, X, N, eT, hx, hZ, hby, hml, hown, hret, hlk, hsz⟩ := A
  subst hp
  exact K.goo fun t q => XS.aloadN X.here hx rfl (hb hby hd) hl hv q
theorem s_istoreN (A : On l Z n0 own bytes maxL ret R p e s m args below meth c T h k n) {i : Fin 4} {z : Int32} (hd : decode bytes pc = .ok (.istore_n i, 1)) (hp : pc + 1 = pc') (hl : storeLocals Ls i.val (.int z) = some Ls') (K : Wp p e below s n0 ck cs Q (T.setTop (mkF m pc' Ls' st))) : Wp p e below s n0 ck cs Q (T.setTop (mkF m pc Ls (.int z :: st))) := by
  obtain ⟨locs, X, N, eT, hx, hZ, hby, hml, hown, hret, hlk, hsz⟩ := A
  subst hp
  exact K.goo fun t q => XS.istoreN X.here hx rfl (hb hby hd) rfl hl q
theorem s_lstoreN (A : On l Z n0 own bytes maxL ret R p e s m args below meth c T h k n) {i : Fin 4} {z : Int64} (hd : decode bytes pc = .ok (.lstore_n i, 1)) (hp : pc + 1 = pc') (hl : storeLocals Ls i.val (.long z) = some Ls') (K : Wp p e below s n0 ck cs Q (T.setTop (mkF m pc' Ls' st))) : Wp p e below s n0 ck cs Q (T.setTop (mkF m pc Ls (.long z :: st))) := by
  obtain ⟨locs, X, N, eT, hx, hZ, hby, hml, hown, hret, hlk, hsz⟩ := A
  subst hp
  exact K.goo fun t q => XS.lstoreN X.here hx rfl (hb hby hd) rfl hl q
theorem s_astoreN (A : On l Z n0 own bytes maxL ret R p e s m args below meth c T h k n) {i : Fin 4} (hd : decode bytes pc = .ok (.astore_n i, 1)) (hp : pc + 1 = pc') (hv : v.isRef = true) (hl : storeLocals Ls i.val v = some Ls') (K : Wp p e below s n0 ck cs Q (T.setTop (mkF m pc' Ls' st))) : Wp p e below s n0 ck cs Q (T.setTop (mkF m pc Ls (v :: st))) := by
  obtain ⟨locs, X, N, eT, hx, hZ, hby, hml, hown, hret, hlk, hsz⟩ := A
  subst hp
  exact K.goo fun t q => XS.astoreN X.here hx rfl (hb hby hd) rfl hv hl q
theorem s_iload (A : On l Z n0 own bytes maxL ret R p e s m args below meth c T h k n) {i : Nat} {z : Int32} (hd : decode bytes pc = .ok (.iload i, 2)) (hp : pc + 2 = pc') (hl : Ls[i]? = some (.val (.int z))) (K : Wp p e below s n0 ck cs Q (T.setTop (mkF m pc' Ls (.int z :: st)))) : Wp p e below s n0 ck cs Q (T.setTop (mkF m pc Ls st)) := by
  obtain ⟨locs, X, N, eT, hx, hZ, hby, hml, hown, hret, hlk, hsz⟩ := A
  subst hp
  exact K.goo fun t q => XS.iload X.here hx rfl (hb hby hd) hl q
theorem s_lload (A : On l Z n0 own bytes maxL ret R p e s m args below meth c T h k n) {i : Nat} {z : Int64} (hd : decode bytes pc = .ok (.lload i, 2)) (hp : pc + 2 = pc') (hl : Ls[i]? = some (.val (.long z))) (K : Wp p e below s n0 ck cs Q (T.setTop (mkF m pc' Ls (.long z :: st)))) : Wp p e below s n0 ck cs Q (T.setTop (mkF m pc Ls st)) := by
  obtain ⟨locs, X, N, eT, hx, hZ, hby, hml, hown, hret, hlk, hsz⟩ := A
  subst hp
  exact K.goo fun t q => XS.lload X.here hx rfl (hb hby hd) hl q
theorem s_aload (A : On l Z n0 own bytes maxL ret R p e s m args below meth c T h k n) {i : Nat} (hd : decode bytes pc = .ok (.aload i, 2)) (hp : pc + 2 = pc') (hl : Ls[i]? = some (.val v)) (hv : v.isRef = true) (K : Wp p e below s n0 ck cs Q (T.setTop (mkF m pc' Ls (v :: st)))) : Wp p e below s n0 ck cs Q (T.setTop (mkF m pc Ls st)) := by
  obtain ⟨locs, X, N, eT, hx, hZ, hby, hml, hown, hret, hlk, hsz⟩ := A
  subst hp
  exact K.goo fun t q => XS.aload X.here hx rfl (hb hby hd) hl hv q
theorem s_istore (A : On l Z n0 own bytes maxL ret R p e s m args below meth c T h k n) {i : Nat} {z : Int32} (hd : decode bytes pc = .ok (.istore i, 2)) (hp : pc + 2 = pc') (hl : storeLocals Ls i (.int z) = some Ls') (K : Wp p e below s n0 ck cs Q (T.setTop (mkF m pc' Ls' st))) : Wp p e below s n0 ck cs Q (T.setTop (mkF m pc Ls (.int z :: st))) := by
  obtain ⟨locs, X, N, eT, hx, hZ, hby, hml, hown, hret, hlk, hsz⟩ := A
  subst hp
  exact K.goo fun t q => XS.istore X.here hx rfl (hb hby hd) rfl hl q
theorem s_lstore (A : On l Z n0 own bytes maxL ret R p e s m args below meth c T h k n) {i : Nat} {z : Int64} (hd : decode bytes pc = .ok (.lstore i, 2)) (hp : pc + 2 = pc') (hl : storeLocals Ls i (.long z) = some Ls') (K : Wp p e below s n0 ck cs Q (T.setTop (mkF m pc' Ls' st))) : Wp p e below s n0 ck cs Q (T.setTop (mkF m pc Ls (.long z :: st))) := by
  obtain ⟨locs, X, N, eT, hx, hZ, hby, hml, hown, hret, hlk, hsz⟩ := A
  subst hp
  exact K.goo fun t q => XS.lstore X.here hx rfl (hb hby hd) rfl hl q
theorem s_astore (A : On l Z n0 own bytes maxL ret R p e s m args below meth c T h k n) {i : Nat} (hd : decode bytes pc = .ok (.astore i, 2)) (hp : pc + 2 = pc') (hv : v.isRef = true) (hl : storeLocals Ls i v = some Ls') (K : Wp p e below s n0 ck cs Q (T.setTop (mkF m pc' Ls' st))) : Wp p e below s n0 ck cs Q (T.setTop (mkF m pc Ls (v :: st))) := by
  obtain ⟨locs, X, N, eT, hx, hZ, hby, hml, hown, hret, hlk, hsz⟩ := A
  subst hp
  exact K.goo fun t q => XS.astore X.here hx rfl (hb hby hd) rfl hv hl q
theorem s_iconst (A : On l Z n0 own bytes maxL ret R p e s m args below meth c T h k n) {i : Int} {z : Int32} (hd : decode bytes pc = .ok (.iconst i, 1)) (hp : pc + 1 = pc') (hz : Int32.ofInt i = z) (K : Wp p e below s n0 ck cs Q (T.setTop (mkF m pc' Ls (.int z :: st)))) : Wp p e below s n0 ck cs Q (T.setTop (mkF m pc Ls st)) := by
  obtain ⟨locs, X, N, eT, hx, hZ, hby, hml, hown, hret, hlk, hsz⟩ := A
  subst hp
  subst hz
  exact K.goo fun t q => XS.iconst X.here hx rfl (hb hby hd) q
theorem s_bipush (A : On l Z n0 own bytes maxL ret R p e s m args below meth c T h k n) {i : Int} {z : Int32} (hd : decode bytes pc = .ok (.bipush i, 2)) (hp : pc + 2 = pc') (hz : (Int8.ofInt i).toInt32 = z) (K : Wp p e below s n0 ck cs Q (T.setTop (mkF m pc' Ls (.int z :: st)))) : Wp p e below s n0 ck cs Q (T.setTop (mkF m pc Ls st)) := by
  obtain ⟨locs, X, N, eT, hx, hZ, hby, hml, hown, hret, hlk, hsz⟩ := A
  subst hp
  subst hz
  exact K.goo fun t q => XS.bipush X.here hx rfl (hb hby hd) q
theorem s_sipush (A : On l Z n0 own bytes maxL ret R p e s m args below meth c T h k n) {i : Int} {z : Int32} (hd : decode bytes pc = .ok (.sipush i, 3)) (hp : pc + 3 = pc') (hz : (Int16.ofInt i).toInt32 = z) (K : Wp p e below s n0 ck cs Q (T.setTop (mkF m pc' Ls (.int z :: st)))) : Wp p e below s n0 ck cs Q (T.setTop (mkF m pc Ls st)) := by
  obtain ⟨locs, X, N, eT, hx, hZ, hby, hml, hown, hret, hlk, hsz⟩ := A
  subst hp
  subst hz
  exact K.goo fun t q => XS.sipush X.here hx rfl (hb hby hd) q
theorem s_lconst (A : On l Z n0 own bytes maxL ret R p e s m args below meth c T h k n) {i : Fin 2} {z : Int64} (hd : decode bytes pc = .ok (.lconst i, 1)) (hp : pc + 1 = pc') (hz : Int64.ofNat i = z) (K : Wp p e below s n0 ck cs Q (T.setTop (mkF m pc' Ls (.long z :: st)))) : Wp p e below s n0 ck cs Q (T.setTop (mkF m pc Ls st)) := by
  obtain ⟨locs, X, N, eT, hx, hZ, hby, hml, hown, hret, hlk, hsz⟩ := A
  subst hp
  subst hz
  exact K.goo fun t q => XS.lconst X.here hx rfl (hb hby hd) q
theorem s_aconstNull (A : On l Z n0 own bytes maxL ret R p e s m args below meth c T h k n)  (hd : decode bytes pc = .ok (.aconst_null, 1)) (hp : pc + 1 = pc') (K : Wp p e below s n0 ck cs Q (T.setTop (mkF m pc' Ls (.null :: st)))) : Wp p e below s n0 ck cs Q (T.setTop (mkF m pc Ls st)) := by
  obtain ⟨locs, X, N, eT, hx, hZ, hby, hml, hown, hret, hlk, hsz⟩ := A
  subst hp
  exact K.goo fun t q => XS.aconstNull X.here hx rfl (hb hby hd) q
theorem s_iadd (A : On l Z n0 own bytes maxL ret R p e s m args below meth c T h k n) {x y z : Int32} (hd : decode bytes pc = .ok (.iadd, 1)) (hp : pc + 1 = pc') (hz : x + y = z) (K : Wp p e below s n0 ck cs Q (T.setTop (mkF m pc' Ls (.int z :: st)))) : Wp p e below s n0 ck cs Q (T.setTop (mkF m pc Ls (.int y :: .int x :: st))) := by
  obtain ⟨locs, X, N, eT, hx, hZ, hby, hml, hown, hret, hlk, hsz⟩ := A
  subst hp
  subst hz
  exact K.goo fun t q => XS.iadd X.here hx rfl (hb hby hd) rfl q
theorem s_ladd (A : On l Z n0 own bytes maxL ret R p e s m args below meth c T h k n) {x y z : Int64} (hd : decode bytes pc = .ok (.ladd, 1)) (hp : pc + 1 = pc') (hz : x + y = z) (K : Wp p e below s n0 ck cs Q (T.setTop (mkF m pc' Ls (.long z :: st)))) : Wp p e below s n0 ck cs Q (T.setTop (mkF m pc Ls (.long y :: .long x :: st))) := by
  obtain ⟨locs, X, N, eT, hx, hZ, hby, hml, hown, hret, hlk, hsz⟩ := A
  subst hp
  subst hz
  exact K.goo fun t q => XS.ladd X.here hx rfl (hb hby hd) rfl q
theorem s_isub (A : On l Z n0 own bytes maxL ret R p e s m args below meth c T h k n) {x y z : Int32} (hd : decode bytes pc = .ok (.isub, 1)) (hp : pc + 1 = pc') (hz : x - y = z) (K : Wp p e below s n0 ck cs Q (T.setTop (mkF m pc' Ls (.int z :: st)))) : Wp p e below s n0 ck cs Q (T.setTop (mkF m pc Ls (.int y :: .int x :: st))) := by
  obtain ⟨locs, X, N, eT, hx, hZ, hby, hml, hown, hret, hlk, hsz⟩ := A
  subst hp
  subst hz
  exact K.goo fun t q => XS.isub X.here hx rfl (hb hby hd) rfl q
theorem s_lsub (A : On l Z n0 own bytes maxL ret R p e s m args below meth c T h k n) {x y z : Int64} (hd : decode bytes pc = .ok (.lsub, 1)) (hp : pc + 1 = pc') (hz : x - y = z) (K : Wp p e below s n0 ck cs Q (T.setTop (mkF m pc' Ls (.long z :: st)))) : Wp p e below s n0 ck cs Q (T.setTop (mkF m pc Ls (.long y :: .long x :: st))) := by
  obtain ⟨locs, X, N, eT, hx, hZ, hby, hml, hown, hret, hlk, hsz⟩ := A
  subst hp
  subst hz
  exact K.goo fun t q => XS.lsub X.here hx rfl (hb hby hd) rfl q
theorem s_imul (A : On l Z n0 own bytes maxL ret R p e s m args below meth c T h k n) {x y z : Int32} (hd : decode bytes pc = .ok (.imul, 1)) (hp : pc + 1 = pc') (hz : x * y = z) (K : Wp p e below s n0 ck cs Q (T.setTop (mkF m pc' Ls (.int z :: st)))) : Wp p e below s n0 ck cs Q (T.setTop (mkF m pc Ls (.int y :: .int x :: st))) := by
  obtain ⟨locs, X, N, eT, hx, hZ, hby, hml, hown, hret, hlk, hsz⟩ := A
  subst hp
  subst hz
  exact K.goo fun t q => XS.imul X.here hx rfl (hb hby hd) rfl q
theorem s_lmul (A : On l Z n0 own bytes maxL ret R p e s m args below meth c T h k n) {x y z : Int64} (hd : decode bytes pc = .ok (.lmul, 1)) (hp : pc + 1 = pc') (hz : x * y = z) (K : Wp p e below s n0 ck cs Q (T.setTop (mkF m pc' Ls (.long z :: st)))) : Wp p e below s n0 ck cs Q (T.setTop (mkF m pc Ls (.long y :: .long x :: st))) := by
  obtain ⟨locs, X, N, eT, hx, hZ, hby, hml, hown, hret, hlk, hsz⟩ := A
  subst hp
  subst hz
  exact K.goo fun t q => XS.lmul X.here hx rfl (hb hby hd) rfl q
theorem s_iand (A : On l Z n0 own bytes maxL ret R p e s m args below meth c T h k n) {x y z : Int32} (hd : decode bytes pc = .ok (.iand, 1)) (hp : pc + 1 = pc') (hz : x &&& y = z) (K : Wp p e below s n0 ck cs Q (T.setTop (mkF m pc' Ls (.int z :: st)))) : Wp p e below s n0 ck cs Q (T.setTop (mkF m pc Ls (.int y :: .int x :: st))) := by
  obtain ⟨locs, X, N, eT, hx, hZ, hby, hml, hown, hret, hlk, hsz⟩ := A
  subst hp
  subst hz
  exact K.goo fun t q => XS.iand X.here hx rfl (hb hby hd) rfl q
theorem s_land (A : On l Z n0 own bytes maxL ret R p e s m args below meth c T h k n) {x y z : Int64} (hd : decode bytes pc = .ok (.land, 1)) (hp : pc + 1 = pc') (hz : x &&& y = z) (K : Wp p e below s n0 ck cs Q (T.setTop (mkF m pc' Ls (.long z :: st)))) : Wp p e below s n0 ck cs Q (T.setTop (mkF m pc Ls (.long y :: .long x :: st))) := by
  obtain ⟨locs, X, N, eT, hx, hZ, hby, hml, hown, hret, hlk, hsz⟩ := A
  subst hp
  subst hz
  exact K.goo fun t q => XS.land X.here hx rfl (hb hby hd) rfl q
theorem s_ior (A : On l Z n0 own bytes maxL ret R p e s m args below meth c T h k n) {x y z : Int32} (hd : decode bytes pc = .ok (.ior, 1)) (hp : pc + 1 = pc') (hz : x ||| y = z) (K : Wp p e below s n0 ck cs Q (T.setTop (mkF m pc' Ls (.int z :: st)))) : Wp p e below s n0 ck cs Q (T.setTop (mkF m pc Ls (.int y :: .int x :: st))) := by
  obtain ⟨locs, X, N, eT, hx, hZ, hby, hml, hown, hret, hlk, hsz⟩ := A
  subst hp
  subst hz
  exact K.goo fun t q => XS.ior X.here hx rfl (hb hby hd) rfl q
theorem s_lor (A : On l Z n0 own bytes maxL ret R p e s m args below meth c T h k n) {x y z : Int64} (hd : decode bytes pc = .ok (.lor, 1)) (hp : pc + 1 = pc') (hz : x ||| y = z) (K : Wp p e below s n0 ck cs Q (T.setTop (mkF m pc' Ls (.long z :: st)))) : Wp p e below s n0 ck cs Q (T.setTop (mkF m pc Ls (.long y :: .long x :: st))) := by
  obtain ⟨locs, X, N, eT, hx, hZ, hby, hml, hown, hret, hlk, hsz⟩ := A
  subst hp
  subst hz
  exact K.goo fun t q => XS.lor X.here hx rfl (hb hby hd) rfl q
theorem s_ixor (A : On l Z n0 own bytes maxL ret R p e s m args below meth c T h k n) {x y z : Int32} (hd : decode bytes pc = .ok (.ixor, 1)) (hp : pc + 1 = pc') (hz : x ^^^ y = z) (K : Wp p e below s n0 ck cs Q (T.setTop (mkF m pc' Ls (.int z :: st)))) : Wp p e below s n0 ck cs Q (T.setTop (mkF m pc Ls (.int y :: .int x :: st))) := by
  obtain ⟨locs, X, N, eT, hx, hZ, hby, hml, hown, hret, hlk, hsz⟩ := A
  subst hp
  subst hz
  exact K.goo fun t q => XS.ixor X.here hx rfl (hb hby hd) rfl q
theorem s_lxor (A : On l Z n0 own bytes maxL ret R p e s m args below meth c T h k n) {x y z : Int64} (hd : decode bytes pc = .ok (.lxor, 1)) (hp : pc + 1 = pc') (hz : x ^^^ y = z) (K : Wp p e below s n0 ck cs Q (T.setTop (mkF m pc' Ls (.long z :: st)))) : Wp p e below s n0 ck cs Q (T.setTop (mkF m pc Ls (.long y :: .long x :: st))) := by
  obtain ⟨locs, X, N, eT, hx, hZ, hby, hml, hown, hret, hlk, hsz⟩ := A
  subst hp
  subst hz
  exact K.goo fun t q => XS.lxor X.here hx rfl (hb hby hd) rfl q
theorem s_idiv (A : On l Z n0 own bytes maxL ret R p e s m args below meth c T h k n) {x y z : Int32} (hd : decode bytes pc = .ok (.idiv, 1)) (hp : pc + 1 = pc') (hy : y ≠ 0) (hz : x / y = z) (K : Wp p e below s n0 ck cs Q (T.setTop (mkF m pc' Ls (.int z :: st)))) : Wp p e below s n0 ck cs Q (T.setTop (mkF m pc Ls (.int y :: .int x :: st))) := by
  obtain ⟨locs, X, N, eT, hx, hZ, hby, hml, hown, hret, hlk, hsz⟩ := A
  subst hp
  subst hz
  exact K.goo fun t q => XS.idiv X.here hx rfl (hb hby hd) rfl hy q
theorem s_ldiv (A : On l Z n0 own bytes maxL ret R p e s m args below meth c T h k n) {x y z : Int64} (hd : decode bytes pc = .ok (.ldiv, 1)) (hp : pc + 1 = pc') (hy : y ≠ 0) (hz : x / y = z) (K : Wp p e below s n0 ck cs Q (T.setTop (mkF m pc' Ls (.long z :: st)))) : Wp p e below s n0 ck cs Q (T.setTop (mkF m pc Ls (.long y :: .long x :: st))) := by
  obtain ⟨locs, X, N, eT, hx, hZ, hby, hml, hown, hret, hlk, hsz⟩ := A
  subst hp
  subst hz
  exact K.goo fun t q => XS.ldiv X.here hx rfl (hb hby hd) rfl hy q
theorem s_irem (A : On l Z n0 own bytes maxL ret R p e s m args below meth c T h k n) {x y z : Int32} (hd : decode bytes pc = .ok (.irem, 1)) (hp : pc + 1 = pc') (hy : y ≠ 0) (hz : x % y = z) (K : Wp p e below s n0 ck cs Q (T.setTop (mkF m pc' Ls (.int z :: st)))) : Wp p e below s n0 ck cs Q (T.setTop (mkF m pc Ls (.int y :: .int x :: st))) := by
  obtain ⟨locs, X, N, eT, hx, hZ, hby, hml, hown, hret, hlk, hsz⟩ := A
  subst hp
  subst hz
  exact K.goo fun t q => iremM X hx rfl (hb hby hd) rfl hy q
theorem s_ineg (A : On l Z n0 own bytes maxL ret R p e s m args below meth c T h k n) {x z : Int32} (hd : decode bytes pc = .ok (.ineg, 1)) (hp : pc + 1 = pc') (hz : -x = z) (K : Wp p e below s n0 ck cs Q (T.setTop (mkF m pc' Ls (.int z :: st)))) : Wp p e below s n0 ck cs Q (T.setTop (mkF m pc Ls (.int x :: st))) := by
  obtain ⟨locs, X, N, eT, hx, hZ, hby, hml, hown, hret, hlk, hsz⟩ := A
  subst hp
  subst hz
  exact K.goo fun t q => XS.ineg X.here hx rfl (hb hby hd) rfl q
theorem s_ishl (A : On l Z n0 own bytes maxL ret R p e s m args below meth c T h k n) {x y z : Int32} (hd : decode bytes pc = .ok (.ishl, 1)) (hp : pc + 1 = pc') (hz : x <<< (y &&& 31) = z) (K : Wp p e below s n0 ck cs Q (T.setTop (mkF m pc' Ls (.int z :: st)))) : Wp p e below s n0 ck cs Q (T.setTop (mkF m pc Ls (.int y :: .int x :: st))) := by
  obtain ⟨locs, X, N, eT, hx, hZ, hby, hml, hown, hret, hlk, hsz⟩ := A
  subst hp
  subst hz
  exact K.goo fun t q => XS.ishl X.here hx rfl (hb hby hd) rfl q
theorem s_ishr (A : On l Z n0 own bytes maxL ret R p e s m args below meth c T h k n) {x y z : Int32} (hd : decode bytes pc = .ok (.ishr, 1)) (hp : pc + 1 = pc') (hz : x >>> (y &&& 31) = z) (K : Wp p e below s n0 ck cs Q (T.setTop (mkF m pc' Ls (.int z :: st)))) : Wp p e below s n0 ck cs Q (T.setTop (mkF m pc Ls (.int y :: .int x :: st))) := by
  obtain ⟨locs, X, N, eT, hx, hZ, hby, hml, hown, hret, hlk, hsz⟩ := A
  subst hp
  subst hz
  exact K.goo fun t q => XS.ishr X.here hx rfl (hb hby hd) rfl q
theorem s_iushr (A : On l Z n0 own bytes maxL ret R p e s m args below meth c T h k n) {x y z : Int32} (hd : decode bytes pc = .ok (.iushr, 1)) (hp : pc + 1 = pc') (hz : ush x y = z) (K : Wp p e below s n0 ck cs Q (T.setTop (mkF m pc' Ls (.int z :: st)))) : Wp p e below s n0 ck cs Q (T.setTop (mkF m pc Ls (.int y :: .int x :: st))) := by
  obtain ⟨locs, X, N, eT, hx, hZ, hby, hml, hown, hret, hlk, hsz⟩ := A
  subst hp
  subst hz
  exact K.goo fun t q => XS.iushr X.here hx rfl (hb hby hd) rfl q
theorem s_lshl (A : On l Z n0 own bytes maxL ret R p e s m args below meth c T h k n) {x z : Int64} {y : Int32} (hd : decode bytes pc = .ok (.lshl, 1)) (hp : pc + 1 = pc') (hz : x <<< (y &&& 0x3f).toInt64 = z) (K : Wp p e below s n0 ck cs Q (T.setTop (mkF m pc' Ls (.long z :: st)))) : Wp p e below s n0 ck cs Q (T.setTop (mkF m pc Ls (.int y :: .long x :: st))) := by
  obtain ⟨locs, X, N, eT, hx, hZ, hby, hml, hown, hret, hlk, hsz⟩ := A
  subst hp
  subst hz
  exact K.goo fun t q => XS.lshl X.here hx rfl (hb hby hd) rfl q
theorem s_lshr (A : On l Z n0 own bytes maxL ret R p e s m args below meth c T h k n) {x z : Int64} {y : Int32} (hd : decode bytes pc = .ok (.lshr, 1)) (hp : pc + 1 = pc') (hz : x >>> (y &&& 0x3f).toInt64 = z) (K : Wp p e below s n0 ck cs Q (T.setTop (mkF m pc' Ls (.long z :: st)))) : Wp p e below s n0 ck cs Q (T.setTop (mkF m pc Ls (.int y :: .long x :: st))) := by
  obtain ⟨locs, X, N, eT, hx, hZ, hby, hml, hown, hret, hlk, hsz⟩ := A
  subst hp
  subst hz
  exact K.goo fun t q => XS.lshr X.here hx rfl (hb hby hd) rfl q
theorem s_lushr (A : On l Z n0 own bytes maxL ret R p e s m args below meth c T h k n) {x z : Int64} {y : Int32} (hd : decode bytes pc = .ok (.lushr, 1)) (hp : pc + 1 = pc') (hz : ushL x y = z) (K : Wp p e below s n0 ck cs Q (T.setTop (mkF m pc' Ls (.long z :: st)))) : Wp p e below s n0 ck cs Q (T.setTop (mkF m pc Ls (.int y :: .long x :: st))) := by
  obtain ⟨locs, X, N, eT, hx, hZ, hby, hml, hown, hret, hlk, hsz⟩ := A
  subst hp
  subst hz
  exact K.goo fun t q => XS.lushr X.here hx rfl (hb hby hd) rfl q
theorem s_lcmp (A : On l Z n0 own bytes maxL ret R p e s m args below meth c T h k n) {x y : Int64} (hd : decode bytes pc = .ok (.lcmp, 1)) (hp : pc + 1 = pc') (K : Wp p e below s n0 ck cs Q (T.setTop (mkF m pc' Ls (.int (lcmpW x y) :: st)))) : Wp p e below s n0 ck cs Q (T.setTop (mkF m pc Ls (.long y :: .long x :: st))) := by
  obtain ⟨locs, X, N, eT, hx, hZ, hby, hml, hown, hret, hlk, hsz⟩ := A
  subst hp
  exact K.goo fun t q => XS.lcmp X.here hx rfl (hb hby hd) rfl q
theorem s_i2l (A : On l Z n0 own bytes maxL ret R p e s m args below meth c T h k n) {x : Int32} {z : Int64} (hd : decode bytes pc = .ok (.i2l, 1)) (hp : pc + 1 = pc') (hz : x.toInt64 = z) (K : Wp p e below s n0 ck cs Q (T.setTop (mkF m pc' Ls (.long z :: st)))) : Wp p e below s n0 ck cs Q (T.setTop (mkF m pc Ls (.int x :: st))) := by
  obtain ⟨locs, X, N, eT, hx, hZ, hby, hml, hown, hret, hlk, hsz⟩ := A
  subst hp
  subst hz
  exact K.goo fun t q => XS.i2l X.here hx rfl (hb hby hd) rfl q
theorem s_l2i (A : On l Z n0 own bytes maxL ret R p e s m args below meth c T h k n) {x : Int64} {z : Int32} (hd : decode bytes pc = .ok (.l2i, 1)) (hp : pc + 1 = pc') (hz : x.toInt32 = z) (K : Wp p e below s n0 ck cs Q (T.setTop (mkF m pc' Ls (.int z :: st)))) : Wp p e below s n0 ck cs Q (T.setTop (mkF m pc Ls (.long x :: st))) := by
  obtain ⟨locs, X, N, eT, hx, hZ, hby, hml, hown, hret, hlk, hsz⟩ := A
  subst hp
  subst hz
  exact K.goo fun t q => XS.l2i X.here hx rfl (hb hby hd) rfl q
theorem s_i2b (A : On l Z n0 own bytes maxL ret R p e s m args below meth c T h k n) {x z : Int32} (hd : decode bytes pc = .ok (.i2b, 1)) (hp : pc + 1 = pc') (hz : x.toInt8.toInt32 = z) (K : Wp p e below s n0 ck cs Q (T.setTop (mkF m pc' Ls (.int z :: st)))) : Wp p e below s n0 ck cs Q (T.setTop (mkF m pc Ls (.int x :: st))) := by
  obtain ⟨locs, X, N, eT, hx, hZ, hby, hml, hown, hret, hlk, hsz⟩ := A
  subst hp
  subst hz
  exact K.goo fun t q => XS.i2b X.here hx rfl (hb hby hd) rfl q
theorem s_dup (A : On l Z n0 own bytes maxL ret R p e s m args below meth c T h k n)  (hd : decode bytes pc = .ok (.dup, 1)) (hp : pc + 1 = pc') (hc : v.category = 1) (K : Wp p e below s n0 ck cs Q (T.setTop (mkF m pc' Ls (v :: v :: st)))) : Wp p e below s n0 ck cs Q (T.setTop (mkF m pc Ls (v :: st))) := by
  obtain ⟨locs, X, N, eT, hx, hZ, hby, hml, hown, hret, hlk, hsz⟩ := A
  subst hp
  exact K.goo fun t q => XS.dup X.here hx rfl (hb hby hd) rfl hc q
theorem s_dup2 (A : On l Z n0 own bytes maxL ret R p e s m args below meth c T h k n)  (hd : decode bytes pc = .ok (.dup2, 1)) (hp : pc + 1 = pc') (hc : v.category = 1) (hc' : w.category = 1) (K : Wp p e below s n0 ck cs Q (T.setTop (mkF m pc' Ls (v :: w :: v :: w :: st)))) : Wp p e below s n0 ck cs Q (T.setTop (mkF m pc Ls (v :: w :: st))) := by
  obtain ⟨locs, X, N, eT, hx, hZ, hby, hml, hown, hret, hlk, hsz⟩ := A
  subst hp
  exact K.goo fun t q => XT.dup2 X.here hx rfl (hb hby hd) rfl hc hc' q
theorem s_dup2L (A : On l Z n0 own bytes maxL ret R p e s m args below meth c T h k n) {x : Int64} (hd : decode bytes pc = .ok (.dup2, 1)) (hp : pc + 1 = pc') (K : Wp p e below s n0 ck cs Q (T.setTop (mkF m pc' Ls (.long x :: .long x :: st)))) : Wp p e below s n0 ck cs Q (T.setTop (mkF m pc Ls (.long x :: st))) := by
  obtain ⟨locs, X, N, eT, hx, hZ, hby, hml, hown, hret, hlk, hsz⟩ := A
  subst hp
  exact K.goo fun t q => XT.dup2L X.here hx rfl (hb hby hd) rfl q
theorem s_dupX1 (A : On l Z n0 own bytes maxL ret R p e s m args below meth c T h k n)  (hd : decode bytes pc = .ok (.dup_x1, 1)) (hp : pc + 1 = pc') (hc : v.category = 1) (hc' : w.category = 1) (K : Wp p e below s n0 ck cs Q (T.setTop (mkF m pc' Ls (v :: w :: v :: st)))) : Wp p e below s n0 ck cs Q (T.setTop (mkF m pc Ls (v :: w :: st))) := by
  obtain ⟨locs, X, N, eT, hx, hZ, hby, hml, hown, hret, hlk, hsz⟩ := A
  subst hp
  exact K.goo fun t q => XS.dupX1 X.here hx rfl (hb hby hd) rfl hc hc' q
theorem s_dup2X1L (A : On l Z n0 own bytes maxL ret R p e s m args below meth c T h k n) {x : Int64} (hd : decode bytes pc = .ok (.dup2_x1, 1)) (hp : pc + 1 = pc') (hc' : w.category = 1) (K : Wp p e below s n0 ck cs Q (T.setTop (mkF m pc' Ls (.long x :: w :: .long x :: st)))) : Wp p e below s n0 ck cs Q (T.setTop (mkF m pc Ls (.long x :: w :: st))) := by
  obtain ⟨locs, X, N, eT, hx, hZ, hby, hml, hown, hret, hlk, hsz⟩ := A
  subst hp
  refine K.goo fun t q => ?_
  jvm_step X.here [X.here.top, hx, (hb hby hd), Value.category, hc']
  exact ⟨hc', q⟩
theorem s_pop (A : On l Z n0 own bytes maxL ret R p e s m args below meth c T h k n)  (hd : decode bytes pc = .ok (.pop, 1)) (hp : pc + 1 = pc') (hc : v.category = 1) (K : Wp p e below s n0 ck cs Q (T.setTop (mkF m pc' Ls st))) : Wp p e below s n0 ck cs Q (T.setTop (mkF m pc Ls (v :: st))) := by
  obtain ⟨locs, X, N, eT, hx, hZ, hby, hml, hown, hret, hlk, hsz⟩ := A
  subst hp
  exact K.goo fun t q => XS.pop X.here hx rfl (hb hby hd) rfl hc q
theorem s_pop2L (A : On l Z n0 own bytes maxL ret R p e s m args below meth c T h k n) {x : Int64} (hd : decode bytes pc = .ok (.pop2, 1)) (hp : pc + 1 = pc') (K : Wp p e below s n0 ck cs Q (T.setTop (mkF m pc' Ls st))) : Wp p e below s n0 ck cs Q (T.setTop (mkF m pc Ls (.long x :: st))) := by
  obtain ⟨locs, X, N, eT, hx, hZ, hby, hml, hown, hret, hlk, hsz⟩ := A
  subst hp
  refine K.goo fun t q => ?_
  jvm_step X.here [X.here.top, hx, (hb hby hd), Value.category]
  exact q
theorem s_iinc (A : On l Z n0 own bytes maxL ret R p e s m args below meth c T h k n) {i : Nat} {j : Int} {x z : Int32} (hd : decode bytes pc = .ok (.iinc i j, 3)) (hp : pc + 3 = pc') (hl : Ls[i]? = some (.val (.int x))) (hz : x + Int32.ofInt j = z) (hs : storeLocals Ls i (.int z) = some Ls') (K : Wp p e below s n0 ck cs Q (T.setTop (mkF m pc' Ls' st))) : Wp p e below s n0 ck cs Q (T.setTop (mkF m pc Ls st)) := by
  obtain ⟨locs, X, N, eT, hx, hZ, hby, hml, hown, hret, hlk, hsz⟩ := A
  subst hp
  subst hz
  exact K.goo fun t q => XS.iinc X.here hx rfl (hb hby hd) hl hs q
theorem s_goto (A : On l Z n0 own bytes maxL ret R p e s m args below meth c T h k n)  {o : Int} (hd : decode bytes pc = .ok (.goto o, 3))  (ho : 0 ≤ (pc : Int) + o) (hp : ((pc : Int) + o).toNat = pc') (K : Wp p e below s n0 ck cs Q (T.setTop (mkF m pc' Ls st))) : Wp p e below s n0 ck cs Q (T.setTop (mkF m pc Ls st)) := by
  obtain ⟨locs, X, N, eT, hx, hZ, hby, hml, hown, hret, hlk, hsz⟩ := A
  exact K.goo fun t q => XS.goto X.here hx rfl (pc0 := pc) rfl (hb hby hd) ho hp q
theorem s_ifY (A : On l Z n0 own bytes maxL ret R p e s m args below meth c T h k n) {cd : ClassFile.Cond} {x : Int32} {o : Int} (hd : decode bytes pc = .ok (.ifCond cd o, 3)) (hc : ifCond.holds cd x = true) (ho : 0 ≤ (pc : Int) + o) (hp : ((pc : Int) + o).toNat = pc') (K : Wp p e below s n0 ck cs Q (T.setTop (mkF m pc' Ls st))) : Wp p e below s n0 ck cs Q (T.setTop (mkF m pc Ls (.int x :: st))) := by
  obtain ⟨locs, X, N, eT, hx, hZ, hby, hml, hown, hret, hlk, hsz⟩ := A
  exact K.goo fun t q => XS.ifYes X.here hx rfl (pc0 := pc) rfl (hb hby hd) rfl hc ho hp q
theorem s_icmpY (A : On l Z n0 own bytes maxL ret R p e s m args below meth c T h k n) {cd : ClassFile.Cond} {x y : Int32} {o : Int} (hd : decode bytes pc = .ok (.if_icmp cd o, 3)) (hc : if_icmp.holds cd x y = true) (ho : 0 ≤ (pc : Int) + o) (hp : ((pc : Int) + o).toNat = pc') (K : Wp p e below s n0 ck cs Q (T.setTop (mkF m pc' Ls st))) : Wp p e below s n0 ck cs Q (T.setTop (mkF m pc Ls (.int y :: .int x :: st))) := by
  obtain ⟨locs, X, N, eT, hx, hZ, hby, hml, hown, hret, hlk, hsz⟩ := A
  exact K.goo fun t q => XS.icmpYes X.here hx rfl (pc0 := pc) rfl (hb hby hd) rfl hc ho hp q
theorem s_ifnullY (A : On l Z n0 own bytes maxL ret R p e s m args below meth c T h k n)  {o : Int} (hd : decode bytes pc = .ok (.ifnull o, 3))  (ho : 0 ≤ (pc : Int) + o) (hp : ((pc : Int) + o).toNat = pc') (K : Wp p e below s n0 ck cs Q (T.setTop (mkF m pc' Ls st))) : Wp p e below s n0 ck cs Q (T.setTop (mkF m pc Ls (.null :: st))) := by
  obtain ⟨locs, X, N, eT, hx, hZ, hby, hml, hown, hret, hlk, hsz⟩ := A
  exact K.goo fun t q => XS.ifnullYes X.here hx rfl (pc0 := pc) rfl (hb hby hd) rfl ho hp q
theorem s_ifnonnullY (A : On l Z n0 own bytes maxL ret R p e s m args below meth c T h k n)  {o : Int} (hd : decode bytes pc = .ok (.ifnonnull o, 3))  (ho : 0 ≤ (pc : Int) + o) (hp : ((pc : Int) + o).toNat = pc') (K : Wp p e below s n0 ck cs Q (T.setTop (mkF m pc' Ls st))) : Wp p e below s n0 ck cs Q (T.setTop (mkF m pc Ls (.ref b :: st))) := by
  obtain ⟨locs, X, N, eT, hx, hZ, hby, hml, hown, hret, hlk, hsz⟩ := A
  exact K.goo fun t q => XS.ifnonnullYes X.here hx rfl (pc0 := pc) rfl (hb hby hd) rfl ho hp q
theorem s_acmpY (A : On l Z n0 own bytes maxL ret R p e s m args below meth c T h k n) {cd : ACond} {o : Int} (hd : decode bytes pc = .ok (.if_acmp cd o, 3)) (hv : v.isRef = true) (hw : w.isRef = true) (hc : XT.acmp cd v w = true) (ho : 0 ≤ (pc : Int) + o) (hp : ((pc : Int) + o).toNat = pc') (K : Wp p e below s n0 ck cs Q (T.setTop (mkF m pc' Ls st))) : Wp p e below s n0 ck cs Q (T.setTop (mkF m pc Ls (w :: v :: st))) := by
  obtain ⟨locs, X, N, eT, hx, hZ, hby, hml, hown, hret, hlk, hsz⟩ := A
  exact K.goo fun t q => XT.acmpYes X.here hx rfl (pc0 := pc) rfl (hb hby hd) rfl hv hw hc ho hp q
theorem s_ifN (A : On l Z n0 own bytes maxL ret R p e s m args below meth c T h k n) {cd : ClassFile.Cond} {x : Int32} {o : Int} (hd : decode bytes pc = .ok (.ifCond cd o, 3)) (hp : pc + 3 = pc') (hc : ifCond.holds cd x = false) (K : Wp p e below s n0 ck cs Q (T.setTop (mkF m pc' Ls st))) : Wp p e below s n0 ck cs Q (T.setTop (mkF m pc Ls (.int x :: st))) := by
  obtain ⟨locs, X, N, eT, hx, hZ, hby, hml, hown, hret, hlk, hsz⟩ := A
  subst hp
  exact K.goo fun t q => XS.ifNo X.here hx rfl (hb hby hd) rfl hc q
theorem s_icmpN (A : On l Z n0 own bytes maxL ret R p e s m args below meth c T h k n) {cd : ClassFile.Cond} {x y : Int32} {o : Int} (hd : decode bytes pc = .ok (.if_icmp cd o, 3)) (hp : pc + 3 = pc') (hc : if_icmp.holds cd x y = false) (K : Wp p e below s n0 ck cs Q (T.setTop (mkF m pc' Ls st))) : Wp p e below s n0 ck cs Q (T.setTop (mkF m pc Ls (.int y :: .int x :: st))) := by
  obtain ⟨locs, X, N, eT, hx, hZ, hby, hml, hown, hret, hlk, hsz⟩ := A
  subst hp
  exact K.goo fun t q => XS.icmpNo X.here hx rfl (hb hby hd) rfl hc q
theorem s_ifnullN (A : On l Z n0 own bytes maxL ret R p e s m args below meth c T h k n) {o : Int} (hd : decode bytes pc = .ok (.ifnull o, 3)) (hp : pc + 3 = pc') (K : Wp p e below s n0 ck cs Q (T.setTop (mkF m pc' Ls st))) : Wp p e below s n0 ck cs Q (T.setTop (mkF m pc Ls (.ref b :: st))) := by
  obtain ⟨locs, X, N, eT, hx, hZ, hby, hml, hown, hret, hlk, hsz⟩ := A
  subst hp
  exact K.goo fun t q => XS.ifnullNo X.here hx rfl (hb hby hd) rfl q
theorem s_ifnonnullN (A : On l Z n0 own bytes maxL ret R p e s m args below meth c T h k n) {o : Int} (hd : decode bytes pc = .ok (.ifnonnull o, 3)) (hp : pc + 3 = pc') (K : Wp p e below s n0 ck cs Q (T.setTop (mkF m pc' Ls st))) : Wp p e below s n0 ck cs Q (T.setTop (mkF m pc Ls (.null :: st))) := by
  obtain ⟨locs, X, N, eT, hx, hZ, hby, hml, hown, hret, hlk, hsz⟩ := A
  subst hp
  exact K.goo fun t q => XS.ifnonnullNo X.here hx rfl (hb hby hd) rfl q
theorem s_acmpN (A : On l Z n0 own bytes maxL ret R p e s m args below meth c T h k n) {cd : ACond} {o : Int} (hd : decode bytes pc = .ok (.if_acmp cd o, 3)) (hp : pc + 3 = pc') (hv : v.isRef = true) (hw : w.isRef = true) (hc : XT.acmp cd v w = false) (K : Wp p e below s n0 ck cs Q (T.setTop (mkF m pc' Ls st))) : Wp p e below s n0 ck cs Q (T.setTop (mkF m pc Ls (w :: v :: st))) := by
  obtain ⟨locs, X, N, eT, hx, hZ, hby, hml, hown, hret, hlk, hsz⟩ := A
  subst hp
  exact K.goo fun t q => XT.acmpNo X.here hx rfl (hb hby hd) rfl hv hw hc q
theorem s_ldcInt (A : On l Z n0 own bytes maxL ret R p e s m args below meth c T h k n) {i : Nat} {z : Int32} (hd : decode bytes pc = .ok (.ldc i, 2)) (hp : pc + 2 = pc') (w0 : (Cond.constant own i z).before a0 Z = true) (K : Wp p e below s n0 ck cs Q (T.setTop (mkF m pc' Ls (.int z :: st)))) : Wp p e below s n0 ck cs Q (T.setTop (mkF m pc Ls st)) := by
  obtain ⟨locs, X, N, eT, hx, hZ, hby, hml, hown, hret, hlk, hsz⟩ := A
  subst hp
  exact K.goo fun t q => X.ldcInt hx hown (mvT hZ w0) (g := mkF m pc Ls st) rfl (hb hby hd) t q
theorem s_ldcwInt (A : On l Z n0 own bytes maxL ret R p e s m args below meth c T h k n) {i : Nat} {z : Int32} (hd : decode bytes pc = .ok (.ldc_w i, 3)) (hp : pc + 3 = pc') (w0 : (Cond.constant own i z).before a0 Z = true) (K : Wp p e below s n0 ck cs Q (T.setTop (mkF m pc' Ls (.int z :: st)))) : Wp p e below s n0 ck cs Q (T.setTop (mkF m pc Ls st)) := by
  obtain ⟨locs, X, N, eT, hx, hZ, hby, hml, hown, hret, hlk, hsz⟩ := A
  subst hp
  exact K.goo fun t q => X.ldcwInt hx hown (mvT hZ w0) (g := mkF m pc Ls st) rfl (hb hby hd) t q
theorem s_ldc2Long (A : On l Z n0 own bytes maxL ret R p e s m args below meth c T h k n) {i : Nat} {z : Int64} (hd : decode bytes pc = .ok (.ldc2_w i, 3)) (hp : pc + 3 = pc') (w0 : (Cond.constantLong own i z).before a0 Z = true) (K : Wp p e below s n0 ck cs Q (T.setTop (mkF m pc' Ls (.long z :: st)))) : Wp p e below s n0 ck cs Q (T.setTop (mkF m pc Ls st)) := by
  obtain ⟨locs, X, N, eT, hx, hZ, hby, hml, hown, hret, hlk, hsz⟩ := A
  subst hp
  exact K.goo fun t q => X.ldc2Long hx hown (mvT hZ w0) (g := mkF m pc Ls st) rfl (hb hby hd) t q
theorem idx_ok {j : Int32} {i : Nat} (hj : j.toInt = (i : Int)) : j.toNatClampNeg = i := by show j.toInt.toNat = i; omega
theorem idx_in' {j : Int32} {i : Nat} {N : Nat} (hj : j.toInt = (i : Int)) (hi : i < N) : ¬ (j < 0 ∨ N ≤ j.toNatClampNeg) := by
  rw [idx_ok hj, Int32.lt_iff_toInt_lt, hj]
  have : (0 : Int32).toInt = 0 := by decide
  omega
theorem s_getfield (A : On l Z n0 own bytes maxL ret R p e s m args below meth c T h k n) {index : Nat} {R0 O f d host : String} (w0 : (Cond.fieldLink own index R0 f d).before a0 Z = true ∨ (Cond.fieldLinkNest own index R0 f d host).before a0 Z = true) (via : Via Z R0 O f d) (F : Fld Z h a O f d v) (hd : decode bytes pc = .ok (.getfield index, 3)) (hp : pc + 3 = pc') (K : ∀ T' , On l Z n0 own bytes maxL ret R p e s m args below meth c T' h k n → Wp p e below s n0 ck cs Q (T'.setTop (mkF m pc' Ls (v :: st)))) : Wp p e below s n0 ck cs Q (T.setTop (mkF m pc Ls (.ref a :: st))) := by
  obtain ⟨locs, X, N, eT, hx, hZ, hby, hml, hown, hret, hlk, hsz⟩ := A
  subst hp
  obtain ⟨T', X', e', q⟩ := getF X hx hZ hown w0 via eT F (g := mkF m pc Ls (.ref a :: st)) rfl rfl (hb hby hd)
  exact (K T' ⟨_, X', N, e', hx, hZ, hby, hml, hown, hret, hlk, hsz⟩).goo q
theorem s_getstatic (A : On l Z n0 own bytes maxL ret R p e s m args below meth c T h k n) {index : Nat} {R0 O f d host : String} (w0 : (Cond.fieldLink own index R0 f d).before a0 Z = true ∨ (Cond.fieldLinkNest own index R0 f d host).before a0 Z = true) (via : Via Z R0 O f d) (F : Sta Z h O f d v) (hd : decode bytes pc = .ok (.getstatic index, 3)) (hp : pc + 3 = pc') (K : ∀ T' , On l Z n0 own bytes maxL ret R p e s m args below meth c T' h k n → Wp p e below s n0 ck cs Q (T'.setTop (mkF m pc' Ls (v :: st)))) : Wp p e below s n0 ck cs Q (T.setTop (mkF m pc Ls st)) := by
  obtain ⟨locs, X, N, eT, hx, hZ, hby, hml, hown, hret, hlk, hsz⟩ := A
  subst hp
  obtain ⟨T', X', e', q⟩ := getS2 X hx hZ hown w0 via eT F (g := mkF m pc Ls st) rfl (hb hby hd)
  exact (K T' ⟨_, X', N, e', hx, hZ, hby, hml, hown, hret, hlk, hsz⟩).goo q
theorem s_putfield (A : On l Z n0 own bytes maxL ret R p e s m args below meth c T h k n) {index kk : Nat} {R0 O f d host C : String} (w0 : (Cond.fieldLink own index R0 f d).before a0 Z = true ∨ (Cond.fieldLinkNest own index R0 f d host).before a0 Z = true) (via : Via Z R0 O f d) (F : Fld Z h a O f d w) (E : Exa Z h a C) (L : (Cond.lays C O f d).before a0 Z = true ∨ ((Cond.laysFinal C O f d).before a0 Z = true ∧ own = O ∧ meth.name = "<init>")) (wi : (Cond.instantiable C kk).before a0 Z = true) (hty : parseFieldDescriptor d = some ty) (hnar : narrow ty v = v) (hfit : fits ty v = true) (ha : n0 ≤ a) (hd : decode bytes pc = .ok (.putfield index, 3)) (hp : pc + 3 = pc') (K : ∀ T' h', On l Z n0 own bytes maxL ret R p e s m args below meth c T' h' k n → Wr h h' a (Jvm.RoadKit.slotOf Z O f d) v → Wp p e below s n0 ck cs Q (T'.setTop (mkF m pc' Ls st))) : Wp p e below s n0 ck cs Q (T.setTop (mkF m pc Ls (v :: .ref a :: st))) := by
  obtain ⟨locs, X, N, eT, hx, hZ, hby, hml, hown, hret, hlk, hsz⟩ := A
  subst hp
  obtain ⟨T', h', X', e', W, q⟩ := putF X hx hZ hown w0 via eT F E L wi hty hnar hfit (g := mkF m pc Ls (v :: .ref a :: st)) rfl rfl (hb hby hd)
  exact (K T' h' ⟨_, X', Fr.snoc X' N ha, e', hx, hZ, hby, hml, hown, hret, hlk, hsz⟩ W).goo q
theorem s_putfieldN (A : On l Z n0 own bytes maxL ret R p e s m args below meth c T h k n) {index kk : Nat} {R0 O f d C : String} {v' : Value} (w0 : (Cond.fieldLink own index R0 f d).before a0 Z = true) (via : Via Z R0 O f d) (F : Fld Z h a O f d w) (E : Exa Z h a C) (L : (Cond.lays C O f d).before a0 Z = true ∨ ((Cond.laysFinal C O f d).before a0 Z = true ∧ own = O ∧ meth.name = "<init>")) (wi : (Cond.instantiable C kk).before a0 Z = true) (hty : parseFieldDescriptor d = some ty) (hnar : narrow ty v = v') (hfit : fits ty v' = true) (ha : n0 ≤ a) (hd : decode bytes pc = .ok (.putfield index, 3)) (hp : pc + 3 = pc') (K : ∀ T' h', On l Z n0 own bytes maxL ret R p e s m args below meth c T' h' k n → Wr h h' a (Jvm.RoadKit.slotOf Z O f d) v' → Wp p e below s n0 ck cs Q (T'.setTop (mkF m pc' Ls st))) : Wp p e below s n0 ck cs Q (T.setTop (mkF m pc Ls (v :: .ref a :: st))) := by
  obtain ⟨locs, X, N, eT, hx, hZ, hby, hml, hown, hret, hlk, hsz⟩ := A
  subst hp
  obtain ⟨T', h', X', e', W, q⟩ := putFN X hx hZ hown w0 via eT F E L wi hty hnar hfit (g := mkF m pc Ls (v :: .ref a :: st)) rfl rfl (hb hby hd)
  exact (K T' h' ⟨_, X', Fr.snoc X' N ha, e', hx, hZ, hby, hml, hown, hret, hlk, hsz⟩ W).goo q
theorem s_new (A : On l Z n0 own bytes maxL ret R p e s m args below meth c T h k n) {index ns : Nat} {C : String} (w0 : (Cond.classLink own index C).before a0 Z = true) (wi : (Cond.instantiable C ns).before a0 Z = true) (wz : (Cond.initialized C).before a0 Z = true) (hc : k + 1 ≤ R.cells) (hs : n + ns ≤ R.slots) (hd : decode bytes pc = .ok (.new index, 3)) (hp : pc + 3 = pc') (K : ∀ T' h' b, On l Z n0 own bytes maxL ret R p e s m args below meth c T' h' (k + 1) (n + ns) → h.size = b → n0 ≤ b → Ext h h' → Exa Z h' b C → (∀ {O nm d : String} {ty : FieldType}, Laid Z a0 C O nm d → parseFieldDescriptor d = some ty → Fld Z h' b O nm d (defaultValue ty)) → Wp p e below s n0 ck cs Q (T'.setTop (mkF m pc' Ls (.ref b :: st)))) : Wp p e below s n0 ck cs Q (T.setTop (mkF m pc Ls st)) := by
  obtain ⟨locs, X, N, eT, hx, hZ, hby, hml, hown, hret, hlk, hsz⟩ := A
  subst hp
  obtain ⟨T', h', X', e', E, A', D, -, q⟩ := newO X hx hZ hown w0 wi wz eT (g := mkF m pc Ls st) rfl (hb hby hd) hc hs
  have hz : n0 ≤ h.size := by rw [← eT]; exact Nat.le_trans hsz X.same.2.1
  exact (K T' h' _ ⟨_, X', N, e', hx, hZ, hby, hml, hown, hret, hlk, hsz⟩ rfl hz E A' D).goo q
theorem s_newarray (A : On l Z n0 own bytes maxL ret R p e s m args below meth c T h k n) {aty : ArrayType} {dv : Value} {z : Int32} {i cap : Nat} (hty : newarray.typeOf aty = ty) (hdv : defaultValue ty = dv) (wa : (Cond.arrayClass ty).before a0 Z = true) (hz : z.toInt = (i : Int)) (hcap : i ≤ cap) (hbig : cap * 8 ≤ 536870912) (hc : k + 1 ≤ R.cells) (hs : n + cap ≤ R.slots) (hd : decode bytes pc = .ok (.newarray aty, 2)) (hp : pc + 2 = pc') (K : ∀ T' h' b, On l Z n0 own bytes maxL ret R p e s m args below meth c T' h' (k + 1) (n + cap) → h.size = b → n0 ≤ b → Ext h h' → AA Z h' b ty (List.replicate i dv) → Wp p e below s n0 ck cs Q (T'.setTop (mkF m pc' Ls (.ref b :: st)))) : Wp p e below s n0 ck cs Q (T.setTop (mkF m pc Ls (.int z :: st))) := by
  obtain ⟨locs, X, N, eT, hx, hZ, hby, hml, hown, hret, hlk, hsz⟩ := A
  subst hp
  subst hty hdv
  have z0 : ¬ z < 0 := by rw [Int32.lt_iff_toInt_lt, hz]; have : (0 : Int32).toInt = 0 := by decide
                          omega
  obtain ⟨T', h', cA, X', e', E, A', q⟩ := newP X hx hZ wa eT (g := mkF m pc Ls (.int z :: st)) rfl (hb hby hd) rfl z0 (cap := cap) (by rw [idx_ok hz]; exact hcap) hbig hc hs
  have hz' : n0 ≤ h.size := by rw [← eT]; exact Nat.le_trans hsz X.same.2.1
  exact (K T' h' _ ⟨_, X', N, e', hx, hZ, hby, hml, hown, hret, hlk, hsz⟩ rfl hz' E (AA.new A' hz)).goo q
theorem s_iastore (A : On l Z n0 own bytes maxL ret R p e s m args below meth c T h k n) {x : Int32} {j : Int32} {i : Nat} (V : AA Z h a .int vs) (hj : j.toInt = (i : Int)) (hi : i < vs.length) (ha : n0 ≤ a) (hd : decode bytes pc = .ok (.iastore, 1)) (hp : pc + 1 = pc') (K : ∀ T' h', On l Z n0 own bytes maxL ret R p e s m args below meth c T' h' k n → Wr h h' a i (.int x) → AA Z h' a .int (vs.set i (.int x)) → Wp p e below s n0 ck cs Q (T'.setTop (mkF m pc' Ls st))) : Wp p e below s n0 ck cs Q (T.setTop (mkF m pc Ls (.int x :: .int j :: .ref a :: st))) := by
  obtain ⟨locs, X, N, eT, hx, hZ, hby, hml, hown, hret, hlk, hsz⟩ := A
  subst hp
  have V0 := V
  obtain ⟨cl, Ar, r1, r2⟩ := V0
  obtain ⟨T', h', X', e', W, q⟩ := stI X hx hZ eT Ar (j := j) (idx_in' hj (by rw [r1]; simpa using hi)) (g := mkF m pc Ls (.int x :: .int j :: .ref a :: st)) rfl rfl (hb hby hd)
  have W' := W
  rw [idx_ok hj] at W'
  exact (K T' h' ⟨_, X', Fr.snoc X' N ha, e', hx, hZ, hby, hml, hown, hret, hlk, hsz⟩ W' (V.set W')).goo q
theorem s_lastore (A : On l Z n0 own bytes maxL ret R p e s m args below meth c T h k n) {x : Int64} {j : Int32} {i : Nat} (V : AA Z h a .long vs) (hj : j.toInt = (i : Int)) (hi : i < vs.length) (ha : n0 ≤ a) (hd : decode bytes pc = .ok (.lastore, 1)) (hp : pc + 1 = pc') (K : ∀ T' h', On l Z n0 own bytes maxL ret R p e s m args below meth c T' h' k n → Wr h h' a i (.long x) → AA Z h' a .long (vs.set i (.long x)) → Wp p e below s n0 ck cs Q (T'.setTop (mkF m pc' Ls st))) : Wp p e below s n0 ck cs Q (T.setTop (mkF m pc Ls (.long x :: .int j :: .ref a :: st))) := by
  obtain ⟨locs, X, N, eT, hx, hZ, hby, hml, hown, hret, hlk, hsz⟩ := A
  subst hp
  have V0 := V
  obtain ⟨cl, Ar, r1, r2⟩ := V0
  obtain ⟨T', h', X', e', W, q⟩ := stJ X hx hZ eT Ar (j := j) (idx_in' hj (by rw [r1]; simpa using hi)) (g := mkF m pc Ls (.long x :: .int j :: .ref a :: st)) rfl rfl (hb hby hd)
  have W' := W
  rw [idx_ok hj] at W'
  exact (K T' h' ⟨_, X', Fr.snoc X' N ha, e', hx, hZ, hby, hml, hown, hret, hlk, hsz⟩ W' (V.set W')).goo q
theorem s_bastore (A : On l Z n0 own bytes maxL ret R p e s m args below meth c T h k n) {x : Int32} {j : Int32} {i : Nat} (V : AA Z h a .byte vs) (hj : j.toInt = (i : Int)) (hi : i < vs.length) (ha : n0 ≤ a) (hd : decode bytes pc = .ok (.bastore, 1)) (hp : pc + 1 = pc') (K : ∀ T' h', On l Z n0 own bytes maxL ret R p e s m args below meth c T' h' k n → Wr h h' a i (.int x.toInt8.toInt32) → AA Z h' a .byte (vs.set i (.int x.toInt8.toInt32)) → Wp p e below s n0 ck cs Q (T'.setTop (mkF m pc' Ls st))) : Wp p e below s n0 ck cs Q (T.setTop (mkF m pc Ls (.int x :: .int j :: .ref a :: st))) := by
  obtain ⟨locs, X, N, eT, hx, hZ, hby, hml, hown, hret, hlk, hsz⟩ := A
  subst hp
  have V0 := V
  obtain ⟨cl, Ar, r1, r2⟩ := V0
  obtain ⟨T', h', X', e', W, q⟩ := stB X hx hZ eT Ar (j := j) (idx_in' hj (by rw [r1]; simpa using hi)) (g := mkF m pc Ls (.int x :: .int j :: .ref a :: st)) rfl rfl (hb hby hd)
  have W' := W
  rw [idx_ok hj] at W'
  exact (K T' h' ⟨_, X', Fr.snoc X' N ha, e', hx, hZ, hby, hml, hown, hret, hlk, hsz⟩ W' (V.set W')).goo q
theorem s_iaload (A : On l Z n0 own bytes maxL ret R p e s m args below meth c T h k n) {j : Int32} {i : Nat} (V : AA Z h a .int vs) (hj : j.toInt = (i : Int)) (hv : vs[i]? = some v) (hd : decode bytes pc = .ok (.iaload, 1)) (hp : pc + 1 = pc') (K : Wp p e below s n0 ck cs Q (T.setTop (mkF m pc' Ls (v :: st)))) : Wp p e below s n0 ck cs Q (T.setTop (mkF m pc Ls (.int j :: .ref a :: st))) := by
  obtain ⟨locs, X, N, eT, hx, hZ, hby, hml, hown, hret, hlk, hsz⟩ := A
  subst hp
  obtain ⟨cl, Ar, r1, r2⟩ := V
  have hi : i < vs.length := (List.getElem?_eq_some_iff.mp hv).1
  exact K.goo fun t q => X.iaload hx (j := j) (v := v) (by rw [eT]; exact Ar.1) (State.isArrayOf_alike hZ.alike Ar.2.1) Ar.2.2 (idx_in' hj (by rw [r1]; simpa using hi)) (by rw [idx_ok hj, r1]; simpa using hv) (g := mkF m pc Ls (.int j :: .ref a :: st)) rfl rfl (hb hby hd) t q
theorem s_laload (A : On l Z n0 own bytes maxL ret R p e s m args below meth c T h k n) {j : Int32} {i : Nat} (V : AA Z h a .long vs) (hj : j.toInt = (i : Int)) (hv : vs[i]? = some v) (hd : decode bytes pc = .ok (.laload, 1)) (hp : pc + 1 = pc') (K : Wp p e below s n0 ck cs Q (T.setTop (mkF m pc' Ls (v :: st)))) : Wp p e below s n0 ck cs Q (T.setTop (mkF m pc Ls (.int j :: .ref a :: st))) := by
  obtain ⟨locs, X, N, eT, hx, hZ, hby, hml, hown, hret, hlk, hsz⟩ := A
  subst hp
  obtain ⟨cl, Ar, r1, r2⟩ := V
  have hi : i < vs.length := (List.getElem?_eq_some_iff.mp hv).1
  exact K.goo fun t q => X.laload hx (j := j) (v := v) (by rw [eT]; exact Ar.1) (State.isArrayOf_alike hZ.alike Ar.2.1) Ar.2.2 (idx_in' hj (by rw [r1]; simpa using hi)) (by rw [idx_ok hj, r1]; simpa using hv) (g := mkF m pc Ls (.int j :: .ref a :: st)) rfl rfl (hb hby hd) t q
theorem s_baload (A : On l Z n0 own bytes maxL ret R p e s m args below meth c T h k n) {j : Int32} {i : Nat} (V : AA Z h a .byte vs) (hj : j.toInt = (i : Int)) (hv : vs[i]? = some v) (hd : decode bytes pc = .ok (.baload, 1)) (hp : pc + 1 = pc') (K : Wp p e below s n0 ck cs Q (T.setTop (mkF m pc' Ls (v :: st)))) : Wp p e below s n0 ck cs Q (T.setTop (mkF m pc Ls (.int j :: .ref a :: st))) := by
  obtain ⟨locs, X, N, eT, hx, hZ, hby, hml, hown, hret, hlk, hsz⟩ := A
  subst hp
  obtain ⟨cl, Ar, r1, r2⟩ := V
  have hi : i < vs.length := (List.getElem?_eq_some_iff.mp hv).1
  exact K.goo fun t q => X.baloadBytes hx (j := j) (v := v) (by rw [eT]; exact Ar.1) (State.isArrayOf_alike hZ.alike Ar.2.1) Ar.2.2 (idx_in' hj (by rw [r1]; simpa using hi)) (by rw [idx_ok hj, r1]; simpa using hv) (g := mkF m pc Ls (.int j :: .ref a :: st)) rfl rfl (hb hby hd) t q
theorem s_arraylength (A : On l Z n0 own bytes maxL ret R p e s m args below meth c T h k n) {z : Int32} (V : AA Z h a ty vs) (hz : z.toInt = (vs.length : Int)) (hd : decode bytes pc = .ok (.arraylength, 1)) (hp : pc + 1 = pc') (K : Wp p e below s n0 ck cs Q (T.setTop (mkF m pc' Ls (.int z :: st)))) : Wp p e below s n0 ck cs Q (T.setTop (mkF m pc Ls (.ref a :: st))) := by
  obtain ⟨locs, X, N, eT, hx, hZ, hby, hml, hown, hret, hlk, hsz⟩ := A
  subst hp
  obtain ⟨cl, Ar, r1, r2⟩ := V
  have q0 : cl.slots.size.toInt32 = z := by
    rw [r1]; apply Int32.toInt_inj.mp; rw [len_toInt (by simpa using r2), hz]; simp
  exact K.goo fun t q => X.arraylength hx (by rw [eT]; exact Ar.1) (State.isArrayOf_alike hZ.alike Ar.2.1) (g := mkF m pc Ls (.ref a :: st)) rfl rfl (hb hby hd) t (by rw [q0]; exact q)
theorem s_static (A : On l Z n0 own bytes maxL ret R p e s m args below meth c T h k n) {index : Nat} {y : MethodName} {bytes' : ByteArray} {maxL' : Nat} {ret' : Option FieldType} {rm : Room} {argsL rest : List Value} {Q' : Option Value → Heap → Prop} (M : Met l Z n0 y bytes' maxL' ret' rm argsL.toArray h Q') (wl : (Cond.methodLink own index y).before a0 Z = true) (ws : (Cond.static y).before a0 Z = true) (wz : (Cond.initialized y.cls).before a0 Z = true) (wc : (Cond.code y bytes' maxL' ret').before a0 Z = true) (hy : y.cls ≠ "java/lang/invoke/MethodHandle" ∧ y.cls ≠ "java/lang/invoke/VarHandle") {sig : MethodDescriptor} (hsig : parseMethodDescriptor y.desc = some sig) (hlen : argsL.length = sig.parameters.length) {W : Nat} (hf : rm.frames + 1 ≤ R.frames) (hl : W + (maxL' + 11) + rm.locals ≤ R.locals) (hW : (rest.map fun v => v.category).sum ≤ W) (hc : k + rm.cells ≤ R.cells) (hs : n + rm.slots ≤ R.slots) (hLs : Ls.size = maxL) {stk : List Value} (hst : stk = argsL.reverse ++ rest) (hd : decode bytes pc = .ok (.invokestatic index, 3)) (hp : pc + 3 = pc') (K : ∀ T' h' v, On l Z n0 own bytes maxL ret R p e s m args below meth c T' h' (k + rm.cells) (n + rm.slots) → Q' v h' → Wp p e below s n0 ck cs Q (T'.setTop (mkF m pc' Ls (v.toList ++ rest)))) : Wp p e below s n0 ck cs Q (T.setTop (mkF m pc Ls stk)) := by
  obtain ⟨locs, X, N, eT, hx, hZ, hby, hml, hown, hret, hlk, hsz⟩ := A
  subst hp
  obtain ⟨v, _, ⟨T', L', k', n'⟩, -, X', ⟨Lc, ⟨Nq, hQ⟩, l1, l2, l3⟩, q⟩ := Jvm.LawKit.callS X hx (y := y) hown (mvT hZ wl) (mvT hZ ws) (mvT hZ wz) (mvT hZ wc) hy (backOf (Q := fun v h L => Fr n0 L ∧ Q' v h) (W := W) (M []) hZ wc wz hf hl) (g := mkF m pc Ls stk) rfl (by rw [hml]; exact hLs) (argsL := argsL) (rest := rest) (lenOf hsig hlen) hst (by show 2 * 0 + _ ≤ _; simpa using hW) (hb hby hd) (fun _ _ => ⟨rfl, eT, hc, hs⟩)
  dsimp only [Pt.U, Pt.locs, Pt.cells, Pt.slots] at X' l1 l2 l3 q hQ Nq
  subst l1 l2 l3
  exact (K T' T'.heap v ⟨_, X', Fr.app N Nq, rfl, hx, hZ, hby, hml, hown, hret, hlk, hsz⟩ hQ).goo q
theorem s_virtual (A : On l Z n0 own bytes maxL ret R p e s m args below meth c T h k n) {index : Nat} {y : MethodName} {bytes' : ByteArray} {maxL' : Nat} {ret' : Option FieldType} {rm : Room} {argsL rest : List Value} {Q' : Option Value → Heap → Prop} {C : String} {z : MethodName} (E : Exa Z h b C) (M : Met l Z n0 z bytes' maxL' ret' rm (.ref b :: argsL).toArray h Q') (wl : (Cond.methodLink own index y).before a0 Z = true) (wd : (Cond.declares y).before a0 Z = true) (wn : ∀ (args : Array Value) (s : State), Z.Warmed39 s.vm → NotFace s y) (wsel : (Cond.selects C y z).before a0 Z = true) (wim : (Cond.instanceMethod z).before a0 Z = true) (wz : (Cond.initialized z.cls).before a0 Z = true) (wc : (Cond.code z bytes' maxL' ret').before a0 Z = true) (hy : y.cls ≠ "java/lang/invoke/MethodHandle" ∧ y.cls ≠ "java/lang/invoke/VarHandle") {sig : MethodDescriptor} (hsig : parseMethodDescriptor y.desc = some sig) (hlen : argsL.length = sig.parameters.length) {W : Nat} (hf : rm.frames + 1 ≤ R.frames) (hl : W + (maxL' + 11) + rm.locals ≤ R.locals) (hW : (rest.map fun v => v.category).sum ≤ W) (hc : k + rm.cells ≤ R.cells) (hs : n + rm.slots ≤ R.slots) (hLs : Ls.size = maxL) {stk : List Value} (hst : stk = argsL.reverse ++ .ref b :: rest) (hd : decode bytes pc = .ok (.invokevirtual index, 3)) (hp : pc + 3 = pc') (K : ∀ T' h' v, On l Z n0 own bytes maxL ret R p e s m args below meth c T' h' (k + rm.cells) (n + rm.slots) → Q' v h' → Wp p e below s n0 ck cs Q (T'.setTop (mkF m pc' Ls (v.toList ++ rest)))) : Wp p e below s n0 ck cs Q (T.setTop (mkF m pc Ls stk)) := by
  obtain ⟨locs, X, N, eT, hx, hZ, hby, hml, hown, hret, hlk, hsz⟩ := A
  subst hp
  obtain ⟨cq, kq, qa, qb, qc⟩ := isOf hZ eT E
  obtain ⟨v, _, ⟨T', L', k', n'⟩, -, X', ⟨Lc, ⟨Nq, hQ⟩, l1, l2, l3⟩, q⟩ := X.virtualBack hx (y := y) (z := z) hown (mvT hZ wl) (mvT hZ wd) (wn #[] s hZ) (mvT hZ wsel) (mvT hZ wim) hy (backOf (Q := fun v h L => Fr n0 L ∧ Q' v h) (W := W) (M []) hZ wc wz hf hl) qa qc (g := mkF m pc Ls stk) rfl (by rw [hml]; exact hLs) (Steps.refl _) (argsL := argsL) (rest := rest) (lenOf hsig hlen) hst (by show 2 * 0 + _ ≤ _; simpa using hW) (hb hby hd) (fun _ _ => ⟨rfl, eT, hc, hs⟩)
  dsimp only [Pt.U, Pt.locs, Pt.cells, Pt.slots] at X' l1 l2 l3 q hQ Nq
  subst l1 l2 l3
  exact (K T' T'.heap v ⟨_, X', Fr.app N Nq, rfl, hx, hZ, hby, hml, hown, hret, hlk, hsz⟩ hQ).goo (fun t r => q.trans r)
theorem nf_same {y : MethodName} {C : String} (wsel : (Cond.selects y.cls y y).before a0 Z = true) : ∀ (args : Array Value) (s : State), Z.Warmed39 s.vm → NotFace s y := fun args s hZ => notFace_of_selects (args := #[]) (mvT hZ wsel)
theorem s_special (A : On l Z n0 own bytes maxL ret R p e s m args below meth c T h k n) {index : Nat} {y : MethodName} {bytes' : ByteArray} {maxL' : Nat} {rm : Room} {argsL rest : List Value} {Q' : Option Value → Heap → Prop} (M : Met l Z n0 y bytes' maxL' none rm (.ref b :: argsL).toArray h Q') (hy1 : y.name = "<init>") (wl : (Cond.methodLink own index y).before a0 Z = true) (wim : (Cond.instanceMethod y).before a0 Z = true) (wz : (Cond.initialized y.cls).before a0 Z = true) (wc : (Cond.code y bytes' maxL' none).before a0 Z = true) (hy : y.cls ≠ "java/lang/invoke/MethodHandle" ∧ y.cls ≠ "java/lang/invoke/VarHandle") {sig : MethodDescriptor} (hsig : parseMethodDescriptor y.desc = some sig) (hlen : argsL.length = sig.parameters.length) {W : Nat} (hf : rm.frames + 1 ≤ R.frames) (hl : W + (maxL' + 11) + rm.locals ≤ R.locals) (hW : (rest.map fun v => v.category).sum ≤ W) (hc : k + rm.cells ≤ R.cells) (hs : n + rm.slots ≤ R.slots) (hLs : Ls.size = maxL) {stk : List Value} (hst : stk = argsL.reverse ++ .ref b :: rest) (hd : decode bytes pc = .ok (.invokespecial index, 3)) (hp : pc + 3 = pc') (K : ∀ T' h' v, On l Z n0 own bytes maxL ret R p e s m args below meth c T' h' (k + rm.cells) (n + rm.slots) → Q' v h' → Wp p e below s n0 ck cs Q (T'.setTop (mkF m pc' Ls (v.toList ++ rest)))) : Wp p e below s n0 ck cs Q (T.setTop (mkF m pc Ls stk)) := by
  obtain ⟨locs, X, N, eT, hx, hZ, hby, hml, hown, hret, hlk, hsz⟩ := A
  subst hp
  obtain ⟨v, _, ⟨T', L', k', n'⟩, -, X', ⟨Lc, ⟨Nq, hQ⟩, l1, l2, l3⟩, q⟩ := X.specialBack hx (y := y) hy1 hown (mvT hZ wl) (mvT hZ wim) (mvT hZ wc) hy (backOf (Q := fun v h L => Fr n0 L ∧ Q' v h) (W := W) (M []) hZ wc wz hf hl) (g := mkF m pc Ls stk) rfl (by rw [hml]; exact hLs) (Steps.refl _) (a := b) (argsL := argsL) (rest := rest) (lenOf hsig hlen) hst (by show 2 * 0 + _ ≤ _; simpa using hW) (hb hby hd) (fun _ _ => ⟨rfl, eT, hc, hs⟩)
  dsimp only [Pt.U, Pt.locs, Pt.cells, Pt.slots] at X' l1 l2 l3 q hQ Nq
  subst l1 l2 l3
  exact (K T' T'.heap v ⟨_, X', Fr.app N Nq, rfl, hx, hZ, hby, hml, hown, hret, hlk, hsz⟩ hQ).goo (fun t r => q.trans r)
theorem s_private (A : On l Z n0 own bytes maxL ret R p e s m args below meth c T h k n) {index : Nat} {y : MethodName} {bytes' : ByteArray} {maxL' : Nat} {ret' : Option FieldType} {rm : Room} {argsL rest : List Value} {Q' : Option Value → Heap → Prop} {C : String} (E : Exa Z h b C) (M : Met l Z n0 y bytes' maxL' ret' rm (.ref b :: argsL).toArray h Q') (wl : (Cond.methodLink own index y).before a0 Z = true) (wim : (Cond.instanceMethod y).before a0 Z = true) {kk : Nat} (wi : (Cond.instantiable y.cls kk).before a0 Z = true) (wp : (Cond.privateMethod y).before a0 Z = true) (wz : (Cond.initialized y.cls).before a0 Z = true) (wc : (Cond.code y bytes' maxL' ret').before a0 Z = true) (hy : y.cls ≠ "java/lang/invoke/MethodHandle" ∧ y.cls ≠ "java/lang/invoke/VarHandle") {sig : MethodDescriptor} (hsig : parseMethodDescriptor y.desc = some sig) (hlen : argsL.length = sig.parameters.length) {W : Nat} (hf : rm.frames + 1 ≤ R.frames) (hl : W + (maxL' + 11) + rm.locals ≤ R.locals) (hW : (rest.map fun v => v.category).sum ≤ W) (hc : k + rm.cells ≤ R.cells) (hs : n + rm.slots ≤ R.slots) (hLs : Ls.size = maxL) {stk : List Value} (hst : stk = argsL.reverse ++ .ref b :: rest) (hd : decode bytes pc = .ok (.invokevirtual index, 3)) (hp : pc + 3 = pc') (K : ∀ T' h' v, On l Z n0 own bytes maxL ret R p e s m args below meth c T' h' (k + rm.cells) (n + rm.slots) → Q' v h' → Wp p e below s n0 ck cs Q (T'.setTop (mkF m pc' Ls (v.toList ++ rest)))) : Wp p e below s n0 ck cs Q (T.setTop (mkF m pc Ls stk)) := by
  obtain ⟨locs, X, N, eT, hx, hZ, hby, hml, hown, hret, hlk, hsz⟩ := A
  subst hp
  obtain ⟨cq, q0, q1⟩ := E.cell
  obtain ⟨ci, ki, i1, i2, -, i4, -⟩ := Cond.instantiable_spec (show (Cond.instantiable y.cls kk).before args s = true from mvT hZ wi)
  have i5 : ki.isInterface = false := by simp only [Bool.or_eq_false_iff] at i4; exact i4.1
  have hpriv := Cond.privateMethod_at (mvP hZ wp (args := args))
  have hsel := selects_self_of_private (args := args) i1 i2 i5 hpriv (mvT hZ wim) hy
  obtain ⟨v, _, ⟨T', L', k', n'⟩, -, X', ⟨Lc, ⟨Nq, hQ⟩, l1, l2, l3⟩, q⟩ := X.privateBack hx (y := y) hown (mvT hZ wl) (mvT hZ wim) hsel hpriv (mvT hZ wc) hy (backOf (Q := fun v h L => Fr n0 L ∧ Q' v h) (W := W) (M []) hZ wc wz hf hl) (g := mkF m pc Ls stk) rfl (by rw [hml]; exact hLs) (Steps.refl _) (a := b) (by rw [eT]; exact q0) q1 (argsL := argsL) (rest := rest) (lenOf hsig hlen) hst (by show 2 * 0 + _ ≤ _; simpa using hW) (hb hby hd) (fun _ _ => ⟨rfl, eT, hc, hs⟩)
  dsimp only [Pt.U, Pt.locs, Pt.cells, Pt.slots] at X' l1 l2 l3 q hQ Nq
  subst l1 l2 l3
  exact (K T' T'.heap v ⟨_, X', Fr.app N Nq, rfl, hx, hZ, hby, hml, hown, hret, hlk, hsz⟩ hQ).goo (fun t r => q.trans r)
theorem s_initO (A : On l Z n0 own bytes maxL ret R p e s m args below meth c T h k n) {index : Nat} (w1 : (Cond.methodLink own index Lib.objectInit).before a0 Z = true) (w2 : (Cond.instanceMethod Lib.objectInit).before a0 Z = true) (w3 : (Cond.code Lib.objectInit ⟨#[0xb1]⟩ 1 none).before a0 Z = true) {W : Nat} (hf : 1 ≤ R.frames) (hW : (st.map fun v => v.category).sum ≤ W) (hl : W + 12 ≤ R.locals) (hLs : Ls.size = maxL) (hd : decode bytes pc = .ok (.invokespecial index, 3)) (hp : pc + 3 = pc') (K : ∀ T', On l Z n0 own bytes maxL ret R p e s m args below meth c T' h k n → Wp p e below s n0 ck cs Q (T'.setTop (mkF m pc' Ls st))) : Wp p e below s n0 ck cs Q (T.setTop (mkF m pc Ls (.ref a :: st))) := by
  obtain ⟨locs, X, N, eT, hx, hZ, hby, hml, hown, hret, hlk, hsz⟩ := A
  subst hp
  obtain ⟨T', X', e', q⟩ := initO X hx hZ hown w1 w2 w3 eT (g := mkF m pc Ls (.ref a :: st)) rfl (by rw [hml]; exact hLs) rfl (hb hby hd) hf (W := W) (by show 2 * 0 + _ ≤ _; simpa using hW) hl
  exact (K T' ⟨_, X', N, e', hx, hZ, hby, hml, hown, hret, hlk, hsz⟩).goo q
theorem AA.arv (F : AA Z h a ty vs) (fit : ∀ v ∈ vs, fits ty v = true) (dv : Value) : ∃ (kc : ClassId) (z : Int32), z.toInt = (vs.length : Int) ∧ Arv Z h a kc ty z vs dv := by
  obtain ⟨c, A, r1, r2⟩ := F
  have ez : vs.length.toInt32.toInt = (vs.length : Int) := len_toInt r2
  have es : c.slots.size = vs.length := by rw [r1]; simp
  refine ⟨c.cls, vs.length.toInt32, ez, c, A, rfl, ?_, ?_, ?_, ?_⟩
  · rw [es, idx_ok ez]
  · rw [Int32.lt_iff_toInt_lt, ez]; have : (0 : Int32).toInt = 0 := by decide
    omega
  · intro q hq
    rw [es] at hq
    rw [r1]; simp [List.getD_eq_getElem?_getD, hq]
  · intro q hq
    rw [es] at hq
    have : vs.getD q dv = vs[q] := by simp [List.getD_eq_getElem?_getD, hq]
    rw [this]; exact fit _ (List.getElem_mem hq)
theorem aa_of_arv {kc : ClassId} {z : Int32} {dv : Value} (F : Arv Z h a kc ty z vs dv) (hl : z.toInt = (vs.length : Int)) : AA Z h a ty vs := by
  obtain ⟨c, A, q, S, N, H, G⟩ := F
  rw [idx_ok hl] at S
  refine ⟨c, A, ?_, ?_⟩
  · apply Array.ext
    · simp [S]
    · intro i h1 h2
      have := H i h1
      rw [Array.getElem?_eq_getElem h1] at this
      have h3 : i < vs.length := by simpa using h2
      simpa [List.getD_eq_getElem?_getD, h3] using this
  · have := z.toInt_lt; omega
theorem range_map (vs : List Value) (dv : Value) (i N : Nat) (hb : i + N ≤ vs.length) : (List.range N).map (fun q => vs.getD (i + q) dv) = (vs.drop i).take N := by
  apply List.ext_getElem
  · simp; omega
  · intro q h1 h2
    have h3 : q < N := by simpa using h1
    have h4 : i + q < vs.length := by omega
    simp [List.getD_eq_getElem?_getD, h4]
theorem s_arraycopy (A : On l Z n0 own bytes maxL ret R p e s m args below meth c T h k n) {index : Nat} {vd : List Value} {sp dp nn : Int32} {i j cnt : Nat} (w1 : (Cond.methodLink own index Jvm.Stand.acN).before a0 Z = true) (w2 : (Cond.native Jvm.Stand.acN).before a0 Z = true) (w3 : (Cond.static Jvm.Stand.acN).before a0 Z = true) (w4 : (Cond.initialized "java/lang/System").before a0 Z = true) (V : AA Z h a ty vs) (V' : AA Z h b ty vd) (fit : ∀ v ∈ vs, fits ty v = true) (fit' : ∀ v ∈ vd, fits ty v = true) (hpr : refKind ty = false) (hsp : sp.toInt = (i : Int)) (hdp : dp.toInt = (j : Int)) (hnn : nn.toInt = (cnt : Int)) (h4 : i + cnt ≤ vs.length) (h5 : j + cnt ≤ vd.length) (ge : n0 ≤ b) {W : Nat} (hf : 1 ≤ R.frames) (hW : (st.map fun v => v.category).sum ≤ W) (hlo : W + (nativeFrameWords "java/lang/System" "arraycopy" 5 + 11) ≤ R.locals) (hLs : Ls.size = maxL) (hd : decode bytes pc = .ok (.invokestatic index, 3)) (hp : pc + 3 = pc') (K : ∀ T' h', On l Z n0 own bytes maxL ret R p e s m args below meth c T' h' k n → Keep h h' [b] → AA Z h' b ty (vd.take j ++ (vs.drop i).take cnt ++ vd.drop (j + cnt)) → Wp p e below s n0 ck cs Q (T'.setTop (mkF m pc' Ls st))) : Wp p e below s n0 ck cs Q (T.setTop (mkF m pc Ls (.int nn :: .int dp :: .ref b :: .int sp :: .ref a :: st))) := by
  obtain ⟨locs, X, N, eT, hx, hZ, hby, hml, hown, hret, hlk, hsz⟩ := A
  subst hp
  obtain ⟨k1, z1, ez1, A1⟩ := V.arv fit .null
  obtain ⟨k2, z2, ez2, A2⟩ := V'.arv fit' .null
  have neg : ∀ {x : Int32} {q : Nat}, x.toInt = (q : Int) → ¬ x < 0 := fun {x q} hq => by
    rw [Int32.lt_iff_toInt_lt, hq]; have : (0 : Int32).toInt = 0 := by decide
    omega
  obtain ⟨T', h', L, X', e', N', K', A', q⟩ := cpA X hx hZ hown w1 w2 w3 w4 eT A1 A2 (us := (vs.drop i).take cnt) (sp := sp) (dp := dp) (nn := nn) (Or.inl ⟨rfl, hpr⟩) (neg hsp) (neg hdp) (neg hnn) (by rw [idx_ok hsp, idx_ok hnn, idx_ok ez1]; exact h4) (by rw [idx_ok hdp, idx_ok hnn, idx_ok ez2]; exact h5) (by rw [idx_ok hsp, idx_ok hnn]; exact (range_map vs _ i cnt h4).symm) (by rw [idx_ok hdp, idx_ok hnn]; exact h5) N ge (g := mkF m pc Ls (.int nn :: .int dp :: .ref b :: .int sp :: .ref a :: st)) rfl (by rw [hml]; exact hLs) rfl (hb hby hd) hf (W := W) (by show 2 * 0 + _ ≤ _; simpa using hW) hlo
  rw [idx_ok hdp, idx_ok hnn] at A'
  exact (K T' h' ⟨L, X', N', e', hx, hZ, hby, hml, hown, hret, hlk, hsz⟩ K' (aa_of_arv A' (by rw [ez2]; simp; omega))).goo q
theorem r_void (A : On l Z n0 own bytes maxL ret R p e s m args below meth c T h k n) (hr : ret = none) (hd : decode bytes pc = .ok (.return_, 1)) (hk : k ≤ ck) (hn : n ≤ cs) (q : Q none h) : Wp p e below s n0 ck cs Q (T.setTop (mkF m pc Ls [])) := by
  obtain ⟨locs, X, N, eT, hx, hZ, hby, hml, hown, hret, hlk, hsz⟩ := A
  have hR : meth.sig.returnType = none := hret.trans hr
  obtain ⟨fs, h1, hrun, hended, hW, hsame⟩ := X.leave (v := none) (fun _ => rfl) hlk
  exact ⟨_, _, X.returnOut hx hR (hb hby hd) h1, hrun, hended, _, _, rfl, ⟨N, by show Q none T.heap; rw [eT]; exact q⟩, ⟨_, rfl⟩, hW, hsame.mono hk hn⟩
theorem r_val (A : On l Z n0 own bytes maxL ret R p e s m args below meth c T h k n) {i : Instr} {t : FieldType} (hr : ret = some t) (hn0 : narrow t v = v) (hi : (i = .ireturn ∧ (t = .int ∨ t = .boolean ∨ t = .byte ∨ t = .char ∨ t = .short) ∧ ∃ z, v = .int z) ∨ (i = .lreturn ∧ t = .long ∧ ∃ z, v = .long z) ∨ (i = .dreturn ∧ t = .double ∧ ∃ z, v = .double z) ∨ (i = .freturn ∧ t = .float ∧ ∃ z, v = .float z) ∨ (i = .areturn ∧ t.isReference = true ∧ v.isRef = true)) (hd : decode bytes pc = .ok (i, 1)) (hk : k ≤ ck) (hn : n ≤ cs) (q : Q (some v) h) : Wp p e below s n0 ck cs Q (T.setTop (mkF m pc Ls (v :: st))) := by
  obtain ⟨locs, X, N, eT, hx, hZ, hby, hml, hown, hret, hlk, hsz⟩ := A
  have hR : meth.sig.returnType = some t := hret.trans hr
  obtain ⟨fs, h1, hrun, hended, hW, hsame⟩ := X.leave (v := some v) (fun z => by rw [hR] at z; cases z) hlk
  exact ⟨_, _, retOut X hx hR hn0 hi (hb hby hd) h1, hrun, hended, _, _, rfl, ⟨N, by show Q (some v) T.heap; rw [eT]; exact q⟩, ⟨_, rfl⟩, hW, hsame.mono hk hn⟩
theorem r_int (A : On l Z n0 own bytes maxL ret R p e s m args below meth c T h k n) {z : Int32} (hr : ret = some .int) (hd : decode bytes pc = .ok (.ireturn, 1)) (hk : k ≤ ck) (hn : n ≤ cs) (q : Q (some (.int z)) h) : Wp p e below s n0 ck cs Q (T.setTop (mkF m pc Ls (.int z :: st))) := r_val A hr rfl (Or.inl ⟨rfl, Or.inl rfl, _, rfl⟩) hd hk hn q
theorem r_bool (A : On l Z n0 own bytes maxL ret R p e s m args below meth c T h k n) {z : Int32} (hr : ret = some .boolean) (hz : z = 0 ∨ z = 1) (hd : decode bytes pc = .ok (.ireturn, 1)) (hk : k ≤ ck) (hn : n ≤ cs) (q : Q (some (.int z)) h) : Wp p e below s n0 ck cs Q (T.setTop (mkF m pc Ls (.int z :: st))) := r_val A hr (by rcases hz with rfl | rfl <;> rfl) (Or.inl ⟨rfl, Or.inr (Or.inl rfl), _, rfl⟩) hd hk hn q
theorem r_long (A : On l Z n0 own bytes maxL ret R p e s m args below meth c T h k n) {z : Int64} (hr : ret = some .long) (hd : decode bytes pc = .ok (.lreturn, 1)) (hk : k ≤ ck) (hn : n ≤ cs) (q : Q (some (.long z)) h) : Wp p e below s n0 ck cs Q (T.setTop (mkF m pc Ls (.long z :: st))) := r_val A hr rfl (Or.inr (Or.inl ⟨rfl, rfl, _, rfl⟩)) hd hk hn q
theorem r_ref (A : On l Z n0 own bytes maxL ret R p e s m args below meth c T h k n) {t : FieldType} (hr : ret = some t) (ht : t.isReference = true) (hv : v.isRef = true) (hd : decode bytes pc = .ok (.areturn, 1)) (hk : k ≤ ck) (hn : n ≤ cs) (q : Q (some v) h) : Wp p e below s n0 ck cs Q (T.setTop (mkF m pc Ls (v :: st))) := r_val A hr (by cases t <;> first | rfl | cases ht) (Or.inr (Or.inr (Or.inr (Or.inr ⟨rfl, ht, hv⟩)))) hd hk hn q
end Kit
end Jvm.Ow
namespace Jvm.Pilot.@@N@@
open Jvm Jvm.ClassFile Sem Op Lib Jvm.Free Jvm.Stand Jvm.LawKit Jvm.RoadKit Jvm.Ow Bundle Jvm.Pilot.@@N@@.Jvm.D
theorem d1_0 : decode prog_11_method_1_code 0 = .ok (.aload_n 0, 1) := by decide +kernel
theorem d1_1 : decode prog_11_method_1_code 1 = .ok (.invokespecial 1, 3) := by decide +kernel
theorem w7 {Z : State} {a0 : Array Value} (hw : ∀ d ∈ tables_1, d.before a0 Z = true) : (Jvm.Cond.methodLink "com/example/keys_into_trees/keysintotrees/index/DeweyPostings" (1 : Nat) ({ cls := "java/lang/Object", name := "<init>", desc := "()V" } : Jvm.MethodName)).before a0 Z = true := hw _ (List.mem_of_getElem? (i := 7) rfl)
theorem w8 {Z : State} {a0 : Array Value} (hw : ∀ d ∈ tables_1, d.before a0 Z = true) : (Jvm.Cond.instanceMethod ({ cls := "java/lang/Object", name := "<init>", desc := "()V" } : Jvm.MethodName)).before a0 Z = true := hw _ (List.mem_of_getElem? (i := 8) rfl)
theorem w9 {Z : State} {a0 : Array Value} (hw : ∀ d ∈ tables_1, d.before a0 Z = true) : (Jvm.Cond.code ({ cls := "java/lang/Object", name := "<init>", desc := "()V" } : Jvm.MethodName) object_method_1_code (1 : Nat) (Option.none : Option Jvm.ClassFile.FieldType)).before a0 Z = true := hw _ (List.mem_of_getElem? (i := 9) rfl)
theorem d1_4 : decode prog_11_method_1_code 4 = .ok (.aload_n 0, 1) := by decide +kernel
theorem d1_5 : decode prog_11_method_1_code 5 = .ok (.aload_n 1, 1) := by decide +kernel
theorem d1_6 : decode prog_11_method_1_code 6 = .ok (.putfield 7, 3) := by decide +kernel
theorem w10 {Z : State} {a0 : Array Value} (hw : ∀ d ∈ tables_1, d.before a0 Z = true) : (Jvm.Cond.fieldLink "com/example/keys_into_trees/keysintotrees/index/DeweyPostings" (7 : Nat) "com/example/keys_into_trees/keysintotrees/index/DeweyPostings" "documents" "[I").before a0 Z = true := hw _ (List.mem_of_getElem? (i := 10) rfl)
theorem w11 {Z : State} {a0 : Array Value} (hw : ∀ d ∈ tables_1, d.before a0 Z = true) : (Jvm.Cond.laysFinal "com/example/keys_into_trees/keysintotrees/index/DeweyPostings" "com/example/keys_into_trees/keysintotrees/index/DeweyPostings" "documents" "[I").before a0 Z = true := hw _ (List.mem_of_getElem? (i := 11) rfl)
theorem w2 {Z : State} {a0 : Array Value} (hw : ∀ d ∈ tables_1, d.before a0 Z = true) : (Jvm.Cond.instantiable "com/example/keys_into_trees/keysintotrees/index/DeweyPostings" (4 : Nat)).before a0 Z = true := hw _ (List.mem_of_getElem? (i := 2) rfl)
theorem d1_9 : decode prog_11_method_1_code 9 = .ok (.aload_n 0, 1) := by decide +kernel
theorem d1_10 : decode prog_11_method_1_code 10 = .ok (.aload_n 2, 1) := by decide +kernel
theorem d1_11 : decode prog_11_method_1_code 11 = .ok (.putfield 13, 3) := by decide +kernel
theorem w12 {Z : State} {a0 : Array Value} (hw : ∀ d ∈ tables_1, d.before a0 Z = true) : (Jvm.Cond.fieldLink "com/example/keys_into_trees/keysintotrees/index/DeweyPostings" (13 : Nat) "com/example/keys_into_trees/keysintotrees/index/DeweyPostings" "starts" "[I").before a0 Z = true := hw _ (List.mem_of_getElem? (i := 12) rfl)
theorem w13 {Z : State} {a0 : Array Value} (hw : ∀ d ∈ tables_1, d.before a0 Z = true) : (Jvm.Cond.laysFinal "com/example/keys_into_trees/keysintotrees/index/DeweyPostings" "com/example/keys_into_trees/keysintotrees/index/DeweyPostings" "starts" "[I").before a0 Z = true := hw _ (List.mem_of_getElem? (i := 13) rfl)
theorem sn_DeweyPostings_starts_documents {Z : State} {a0 : Array Value} (hw : ∀ d ∈ tables_1, d.before a0 Z = true) : Jvm.RoadKit.slotOf Z "com/example/keys_into_trees/keysintotrees/index/DeweyPostings" "starts" "[I" ≠ Jvm.RoadKit.slotOf Z "com/example/keys_into_trees/keysintotrees/index/DeweyPostings" "documents" "[I" := slot_ne (a0 := a0) (C := "com/example/keys_into_trees/keysintotrees/index/DeweyPostings") (Or.inr (w13 hw)) (Or.inr (w11 hw)) (by decide) (t := (.array .int)) (t' := (.array .int)) (by decide) (by decide)
theorem d1_14 : decode prog_11_method_1_code 14 = .ok (.aload_n 0, 1) := by decide +kernel
theorem d1_15 : decode prog_11_method_1_code 15 = .ok (.aload_n 3, 1) := by decide +kernel
theorem d1_16 : decode prog_11_method_1_code 16 = .ok (.putfield 16, 3) := by decide +kernel
theorem w14 {Z : State} {a0 : Array Value} (hw : ∀ d ∈ tables_1, d.before a0 Z = true) : (Jvm.Cond.fieldLink "com/example/keys_into_trees/keysintotrees/index/DeweyPostings" (16 : Nat) "com/example/keys_into_trees/keysintotrees/index/DeweyPostings" "components" "[I").before a0 Z = true := hw _ (List.mem_of_getElem? (i := 14) rfl)
theorem w15 {Z : State} {a0 : Array Value} (hw : ∀ d ∈ tables_1, d.before a0 Z = true) : (Jvm.Cond.laysFinal "com/example/keys_into_trees/keysintotrees/index/DeweyPostings" "com/example/keys_into_trees/keysintotrees/index/DeweyPostings" "components" "[I").before a0 Z = true := hw _ (List.mem_of_getElem? (i := 15) rfl)
theorem sn_DeweyPostings_components_documents {Z : State} {a0 : Array Value} (hw : ∀ d ∈ tables_1, d.before a0 Z = true) : Jvm.RoadKit.slotOf Z "com/example/keys_into_trees/keysintotrees/index/DeweyPostings" "components" "[I" ≠ Jvm.RoadKit.slotOf Z "com/example/keys_into_trees/keysintotrees/index/DeweyPostings" "documents" "[I" := slot_ne (a0 := a0) (C := "com/example/keys_into_trees/keysintotrees/index/DeweyPostings") (Or.inr (w15 hw)) (Or.inr (w11 hw)) (by decide) (t := (.array .int)) (t' := (.array .int)) (by decide) (by decide)
theorem sn_DeweyPostings_components_starts {Z : State} {a0 : Array Value} (hw : ∀ d ∈ tables_1, d.before a0 Z = true) : Jvm.RoadKit.slotOf Z "com/example/keys_into_trees/keysintotrees/index/DeweyPostings" "components" "[I" ≠ Jvm.RoadKit.slotOf Z "com/example/keys_into_trees/keysintotrees/index/DeweyPostings" "starts" "[I" := slot_ne (a0 := a0) (C := "com/example/keys_into_trees/keysintotrees/index/DeweyPostings") (Or.inr (w15 hw)) (Or.inr (w13 hw)) (by decide) (t := (.array .int)) (t' := (.array .int)) (by decide) (by decide)
theorem d1_19 : decode prog_11_method_1_code 19 = .ok (.aload_n 0, 1) := by decide +kernel
theorem d1_20 : decode prog_11_method_1_code 20 = .ok (.aload 4, 2) := by decide +kernel
theorem d1_22 : decode prog_11_method_1_code 22 = .ok (.putfield 19, 3) := by decide +kernel
theorem w16 {Z : State} {a0 : Array Value} (hw : ∀ d ∈ tables_1, d.before a0 Z = true) : (Jvm.Cond.fieldLink "com/example/keys_into_trees/keysintotrees/index/DeweyPostings" (19 : Nat) "com/example/keys_into_trees/keysintotrees/index/DeweyPostings" "frequencies" "[I").before a0 Z = true := hw _ (List.mem_of_getElem? (i := 16) rfl)
theorem w17 {Z : State} {a0 : Array Value} (hw : ∀ d ∈ tables_1, d.before a0 Z = true) : (Jvm.Cond.laysFinal "com/example/keys_into_trees/keysintotrees/index/DeweyPostings" "com/example/keys_into_trees/keysintotrees/index/DeweyPostings" "frequencies" "[I").before a0 Z = true := hw _ (List.mem_of_getElem? (i := 17) rfl)
theorem sn_DeweyPostings_frequencies_documents {Z : State} {a0 : Array Value} (hw : ∀ d ∈ tables_1, d.before a0 Z = true) : Jvm.RoadKit.slotOf Z "com/example/keys_into_trees/keysintotrees/index/DeweyPostings" "frequencies" "[I" ≠ Jvm.RoadKit.slotOf Z "com/example/keys_into_trees/keysintotrees/index/DeweyPostings" "documents" "[I" := slot_ne (a0 := a0) (C := "com/example/keys_into_trees/keysintotrees/index/DeweyPostings") (Or.inr (w17 hw)) (Or.inr (w11 hw)) (by decide) (t := (.array .int)) (t' := (.array .int)) (by decide) (by decide)
theorem sn_DeweyPostings_frequencies_starts {Z : State} {a0 : Array Value} (hw : ∀ d ∈ tables_1, d.before a0 Z = true) : Jvm.RoadKit.slotOf Z "com/example/keys_into_trees/keysintotrees/index/DeweyPostings" "frequencies" "[I" ≠ Jvm.RoadKit.slotOf Z "com/example/keys_into_trees/keysintotrees/index/DeweyPostings" "starts" "[I" := slot_ne (a0 := a0) (C := "com/example/keys_into_trees/keysintotrees/index/DeweyPostings") (Or.inr (w17 hw)) (Or.inr (w13 hw)) (by decide) (t := (.array .int)) (t' := (.array .int)) (by decide) (by decide)
theorem sn_DeweyPostings_frequencies_components {Z : State} {a0 : Array Value} (hw : ∀ d ∈ tables_1, d.before a0 Z = true) : Jvm.RoadKit.slotOf Z "com/example/keys_into_trees/keysintotrees/index/DeweyPostings" "frequencies" "[I" ≠ Jvm.RoadKit.slotOf Z "com/example/keys_into_trees/keysintotrees/index/DeweyPostings" "components" "[I" := slot_ne (a0 := a0) (C := "com/example/keys_into_trees/keysintotrees/index/DeweyPostings") (Or.inr (w17 hw)) (Or.inr (w15 hw)) (by decide) (t := (.array .int)) (t' := (.array .int)) (by decide) (by decide)
theorem d1_25 : decode prog_11_method_1_code 25 = .ok (.return_, 1) := by decide +kernel
theorem sn_DeweyPostings_documents_starts {Z : State} {a0 : Array Value} (hw : ∀ d ∈ tables_1, d.before a0 Z = true) : Jvm.RoadKit.slotOf Z "com/example/keys_into_trees/keysintotrees/index/DeweyPostings" "documents" "[I" ≠ Jvm.RoadKit.slotOf Z "com/example/keys_into_trees/keysintotrees/index/DeweyPostings" "starts" "[I" := slot_ne (a0 := a0) (C := "com/example/keys_into_trees/keysintotrees/index/DeweyPostings") (Or.inr (w11 hw)) (Or.inr (w13 hw)) (by decide) (t := (.array .int)) (t' := (.array .int)) (by decide) (by decide)
theorem sn_DeweyPostings_documents_components {Z : State} {a0 : Array Value} (hw : ∀ d ∈ tables_1, d.before a0 Z = true) : Jvm.RoadKit.slotOf Z "com/example/keys_into_trees/keysintotrees/index/DeweyPostings" "documents" "[I" ≠ Jvm.RoadKit.slotOf Z "com/example/keys_into_trees/keysintotrees/index/DeweyPostings" "components" "[I" := slot_ne (a0 := a0) (C := "com/example/keys_into_trees/keysintotrees/index/DeweyPostings") (Or.inr (w11 hw)) (Or.inr (w15 hw)) (by decide) (t := (.array .int)) (t' := (.array .int)) (by decide) (by decide)
theorem sn_DeweyPostings_documents_frequencies {Z : State} {a0 : Array Value} (hw : ∀ d ∈ tables_1, d.before a0 Z = true) : Jvm.RoadKit.slotOf Z "com/example/keys_into_trees/keysintotrees/index/DeweyPostings" "documents" "[I" ≠ Jvm.RoadKit.slotOf Z "com/example/keys_into_trees/keysintotrees/index/DeweyPostings" "frequencies" "[I" := slot_ne (a0 := a0) (C := "com/example/keys_into_trees/keysintotrees/index/DeweyPostings") (Or.inr (w11 hw)) (Or.inr (w17 hw)) (by decide) (t := (.array .int)) (t' := (.array .int)) (by decide) (by decide)
theorem sn_DeweyPostings_starts_components {Z : State} {a0 : Array Value} (hw : ∀ d ∈ tables_1, d.before a0 Z = true) : Jvm.RoadKit.slotOf Z "com/example/keys_into_trees/keysintotrees/index/DeweyPostings" "starts" "[I" ≠ Jvm.RoadKit.slotOf Z "com/example/keys_into_trees/keysintotrees/index/DeweyPostings" "components" "[I" := slot_ne (a0 := a0) (C := "com/example/keys_into_trees/keysintotrees/index/DeweyPostings") (Or.inr (w13 hw)) (Or.inr (w15 hw)) (by decide) (t := (.array .int)) (t' := (.array .int)) (by decide) (by decide)
theorem sn_DeweyPostings_starts_frequencies {Z : State} {a0 : Array Value} (hw : ∀ d ∈ tables_1, d.before a0 Z = true) : Jvm.RoadKit.slotOf Z "com/example/keys_into_trees/keysintotrees/index/DeweyPostings" "starts" "[I" ≠ Jvm.RoadKit.slotOf Z "com/example/keys_into_trees/keysintotrees/index/DeweyPostings" "frequencies" "[I" := slot_ne (a0 := a0) (C := "com/example/keys_into_trees/keysintotrees/index/DeweyPostings") (Or.inr (w13 hw)) (Or.inr (w17 hw)) (by decide) (t := (.array .int)) (t' := (.array .int)) (by decide) (by decide)
theorem sn_DeweyPostings_components_frequencies {Z : State} {a0 : Array Value} (hw : ∀ d ∈ tables_1, d.before a0 Z = true) : Jvm.RoadKit.slotOf Z "com/example/keys_into_trees/keysintotrees/index/DeweyPostings" "components" "[I" ≠ Jvm.RoadKit.slotOf Z "com/example/keys_into_trees/keysintotrees/index/DeweyPostings" "frequencies" "[I" := slot_ne (a0 := a0) (C := "com/example/keys_into_trees/keysintotrees/index/DeweyPostings") (Or.inr (w15 hw)) (Or.inr (w17 hw)) (by decide) (t := (.array .int)) (t' := (.array .int)) (by decide) (by decide)
abbrev y0_init : MethodName := ⟨"com/example/keys_into_trees/keysintotrees/index/DeweyPostings", "<init>", "([I[I[I[I)V"⟩
theorem pn_com_example_keys_into_trees_keysintotrees_index_DeweyPostings : plainName "com/example/keys_into_trees/keysintotrees/index/DeweyPostings" = true := by first | (simp [plainName, overriddenIn]; done) | decide +kernel
abbrev c0_DeweyPostings : String := "com/example/keys_into_trees/keysintotrees/index/DeweyPostings"
theorem d3_0 : decode prog_11_method_4_code 0 = .ok (.aload_n 0, 1) := by decide +kernel
theorem d3_1 : decode prog_11_method_4_code 1 = .ok (.getfield 13, 3) := by decide +kernel
theorem d3_4 : decode prog_11_method_4_code 4 = .ok (.iload_n 1, 1) := by decide +kernel
theorem d3_5 : decode prog_11_method_4_code 5 = .ok (.iconst 1, 1) := by decide +kernel
theorem d3_6 : decode prog_11_method_4_code 6 = .ok (.iadd, 1) := by decide +kernel
theorem d3_7 : decode prog_11_method_4_code 7 = .ok (.iaload, 1) := by decide +kernel
theorem d3_8 : decode prog_11_method_4_code 8 = .ok (.aload_n 0, 1) := by decide +kernel
theorem d3_9 : decode prog_11_method_4_code 9 = .ok (.getfield 13, 3) := by decide +kernel
theorem d3_12 : decode prog_11_method_4_code 12 = .ok (.iload_n 1, 1) := by decide +kernel
theorem d3_13 : decode prog_11_method_4_code 13 = .ok (.iaload, 1) := by decide +kernel
theorem d3_14 : decode prog_11_method_4_code 14 = .ok (.isub, 1) := by decide +kernel
theorem d3_15 : decode prog_11_method_4_code 15 = .ok (.ireturn, 1) := by decide +kernel
abbrev y1_depth : MethodName := ⟨"com/example/keys_into_trees/keysintotrees/index/DeweyPostings", "depth", "(I)I"⟩
theorem d4_0 : decode prog_11_method_5_code 0 = .ok (.aload_n 0, 1) := by decide +kernel
theorem d4_1 : decode prog_11_method_5_code 1 = .ok (.getfield 16, 3) := by decide +kernel
theorem d4_4 : decode prog_11_method_5_code 4 = .ok (.aload_n 0, 1) := by decide +kernel
theorem d4_5 : decode prog_11_method_5_code 5 = .ok (.getfield 13, 3) := by decide +kernel
theorem d4_8 : decode prog_11_method_5_code 8 = .ok (.iload_n 1, 1) := by decide +kernel
theorem d4_9 : decode prog_11_method_5_code 9 = .ok (.iaload, 1) := by decide +kernel
theorem d4_10 : decode prog_11_method_5_code 10 = .ok (.iload_n 2, 1) := by decide +kernel
theorem d4_11 : decode prog_11_method_5_code 11 = .ok (.iadd, 1) := by decide +kernel
theorem d4_12 : decode prog_11_method_5_code 12 = .ok (.iaload, 1) := by decide +kernel
theorem d4_13 : decode prog_11_method_5_code 13 = .ok (.ireturn, 1) := by decide +kernel
abbrev y2_component : MethodName := ⟨"com/example/keys_into_trees/keysintotrees/index/DeweyPostings", "component", "(II)I"⟩
theorem w0 {Z : State} {a0 : Array Value} (hw : ∀ d ∈ tables_1, d.before a0 Z = true) : (Jvm.Cond.arrayClass Jvm.ClassFile.FieldType.int).before a0 Z = true := hw _ (List.mem_of_getElem? (i := 0) rfl)
theorem w1 {Z : State} {a0 : Array Value} (hw : ∀ d ∈ tables_1, d.before a0 Z = true) : (Jvm.Cond.classLink "com/example/keys_into_trees/keysintotrees/index/DeweyPostingsDepthPinLaw" (7 : Nat) "com/example/keys_into_trees/keysintotrees/index/DeweyPostings").before a0 Z = true := hw _ (List.mem_of_getElem? (i := 1) rfl)
theorem w3 {Z : State} {a0 : Array Value} (hw : ∀ d ∈ tables_1, d.before a0 Z = true) : (Jvm.Cond.initialized "com/example/keys_into_trees/keysintotrees/index/DeweyPostings").before a0 Z = true := hw _ (List.mem_of_getElem? (i := 3) rfl)
theorem w4 {Z : State} {a0 : Array Value} (hw : ∀ d ∈ tables_1, d.before a0 Z = true) : (Jvm.Cond.methodLink "com/example/keys_into_trees/keysintotrees/index/DeweyPostingsDepthPinLaw" (9 : Nat) ({ cls := "com/example/keys_into_trees/keysintotrees/index/DeweyPostings", name := "<init>", desc := "([I[I[I[I)V" } : Jvm.MethodName)).before a0 Z = true := hw _ (List.mem_of_getElem? (i := 4) rfl)
theorem pd___I_I_I_I_V : parseMethodDescriptor "([I[I[I[I)V" = some ⟨[(.array .int), (.array .int), (.array .int), (.array .int)], none⟩ := by decide +kernel
theorem w6 {Z : State} {a0 : Array Value} (hw : ∀ d ∈ tables_1, d.before a0 Z = true) : (Jvm.Cond.code ({ cls := "com/example/keys_into_trees/keysintotrees/index/DeweyPostings", name := "<init>", desc := "([I[I[I[I)V" } : Jvm.MethodName) prog_11_method_1_code (5 : Nat) (Option.none : Option Jvm.ClassFile.FieldType)).before a0 Z = true := hw _ (List.mem_of_getElem? (i := 6) rfl)
theorem w5 {Z : State} {a0 : Array Value} (hw : ∀ d ∈ tables_1, d.before a0 Z = true) : (Jvm.Cond.instanceMethod ({ cls := "com/example/keys_into_trees/keysintotrees/index/DeweyPostings", name := "<init>", desc := "([I[I[I[I)V" } : Jvm.MethodName)).before a0 Z = true := hw _ (List.mem_of_getElem? (i := 5) rfl)
theorem w18 {Z : State} {a0 : Array Value} (hw : ∀ d ∈ tables_1, d.before a0 Z = true) : (Jvm.Cond.methodLink "com/example/keys_into_trees/keysintotrees/index/DeweyPostingsDepthPinLaw" (12 : Nat) ({ cls := "com/example/keys_into_trees/keysintotrees/index/DeweyPostings", name := "depth", desc := "(I)I" } : Jvm.MethodName)).before a0 Z = true := hw _ (List.mem_of_getElem? (i := 18) rfl)
theorem pd__I_I : parseMethodDescriptor "(I)I" = some ⟨[.int], some .int⟩ := by decide +kernel
theorem w22 {Z : State} {a0 : Array Value} (hw : ∀ d ∈ tables_1, d.before a0 Z = true) : (Jvm.Cond.code ({ cls := "com/example/keys_into_trees/keysintotrees/index/DeweyPostings", name := "depth", desc := "(I)I" } : Jvm.MethodName) prog_11_method_4_code (2 : Nat) (Option.some Jvm.ClassFile.FieldType.int)).before a0 Z = true := hw _ (List.mem_of_getElem? (i := 22) rfl)
theorem w21 {Z : State} {a0 : Array Value} (hw : ∀ d ∈ tables_1, d.before a0 Z = true) : (Jvm.Cond.selects "com/example/keys_into_trees/keysintotrees/index/DeweyPostings" ({ cls := "com/example/keys_into_trees/keysintotrees/index/DeweyPostings", name := "depth", desc := "(I)I" } : Jvm.MethodName) ({ cls := "com/example/keys_into_trees/keysintotrees/index/DeweyPostings", name := "depth", desc := "(I)I" } : Jvm.MethodName)).before a0 Z = true := hw _ (List.mem_of_getElem? (i := 21) rfl)
theorem w19 {Z : State} {a0 : Array Value} (hw : ∀ d ∈ tables_1, d.before a0 Z = true) : (Jvm.Cond.declares ({ cls := "com/example/keys_into_trees/keysintotrees/index/DeweyPostings", name := "depth", desc := "(I)I" } : Jvm.MethodName)).before a0 Z = true := hw _ (List.mem_of_getElem? (i := 19) rfl)
theorem w20 {Z : State} {a0 : Array Value} (hw : ∀ d ∈ tables_1, d.before a0 Z = true) : (Jvm.Cond.instanceMethod ({ cls := "com/example/keys_into_trees/keysintotrees/index/DeweyPostings", name := "depth", desc := "(I)I" } : Jvm.MethodName)).before a0 Z = true := hw _ (List.mem_of_getElem? (i := 20) rfl)
theorem w23 {Z : State} {a0 : Array Value} (hw : ∀ d ∈ tables_1, d.before a0 Z = true) : (Jvm.Cond.methodLink "com/example/keys_into_trees/keysintotrees/index/DeweyPostingsDepthPinLaw" (16 : Nat) ({ cls := "com/example/keys_into_trees/keysintotrees/index/DeweyPostings", name := "component", desc := "(II)I" } : Jvm.MethodName)).before a0 Z = true := hw _ (List.mem_of_getElem? (i := 23) rfl)
theorem pd__II_I : parseMethodDescriptor "(II)I" = some ⟨[.int, .int], some .int⟩ := by decide +kernel
theorem w27 {Z : State} {a0 : Array Value} (hw : ∀ d ∈ tables_1, d.before a0 Z = true) : (Jvm.Cond.code ({ cls := "com/example/keys_into_trees/keysintotrees/index/DeweyPostings", name := "component", desc := "(II)I" } : Jvm.MethodName) prog_11_method_5_code (3 : Nat) (Option.some Jvm.ClassFile.FieldType.int)).before a0 Z = true := hw _ (List.mem_of_getElem? (i := 27) rfl)
theorem w26 {Z : State} {a0 : Array Value} (hw : ∀ d ∈ tables_1, d.before a0 Z = true) : (Jvm.Cond.selects "com/example/keys_into_trees/keysintotrees/index/DeweyPostings" ({ cls := "com/example/keys_into_trees/keysintotrees/index/DeweyPostings", name := "component", desc := "(II)I" } : Jvm.MethodName) ({ cls := "com/example/keys_into_trees/keysintotrees/index/DeweyPostings", name := "component", desc := "(II)I" } : Jvm.MethodName)).before a0 Z = true := hw _ (List.mem_of_getElem? (i := 26) rfl)
theorem w24 {Z : State} {a0 : Array Value} (hw : ∀ d ∈ tables_1, d.before a0 Z = true) : (Jvm.Cond.declares ({ cls := "com/example/keys_into_trees/keysintotrees/index/DeweyPostings", name := "component", desc := "(II)I" } : Jvm.MethodName)).before a0 Z = true := hw _ (List.mem_of_getElem? (i := 24) rfl)
theorem w25 {Z : State} {a0 : Array Value} (hw : ∀ d ∈ tables_1, d.before a0 Z = true) : (Jvm.Cond.instanceMethod ({ cls := "com/example/keys_into_trees/keysintotrees/index/DeweyPostings", name := "component", desc := "(II)I" } : Jvm.MethodName)).before a0 Z = true := hw _ (List.mem_of_getElem? (i := 25) rfl)
theorem pn_com_example_keys_into_trees_keysintotrees_index_DeweyPostingsDepthPinLaw : plainName "com/example/keys_into_trees/keysintotrees/index/DeweyPostingsDepthPinLaw" = true := by first | (simp [plainName, overriddenIn]; done) | decide +kernel
abbrev c1_DeweyPostingsDepthPinLaw : String := "com/example/keys_into_trees/keysintotrees/index/DeweyPostingsDepthPinLaw"
set_option maxRecDepth 65536 in
set_option maxHeartbeats 40000000 in
theorem ini (l : Launch) (Z : State) (a0 : Array Value) (hw : ∀ d ∈ tables_1, d.before a0 Z = true) (n0 : Nat) (h0 : Heap) (Z0 : n0 ≤ h0.size) (a r0 r1 r2 r3 : Addr) (E : Exa Z h0 a "com/example/keys_into_trees/keysintotrees/index/DeweyPostings") (F0' : Fld Z h0 a "com/example/keys_into_trees/keysintotrees/index/DeweyPostings" "documents" "[I" .null) (F1' : Fld Z h0 a "com/example/keys_into_trees/keysintotrees/index/DeweyPostings" "starts" "[I" .null) (F2' : Fld Z h0 a "com/example/keys_into_trees/keysintotrees/index/DeweyPostings" "components" "[I" .null) (F3' : Fld Z h0 a "com/example/keys_into_trees/keysintotrees/index/DeweyPostings" "frequencies" "[I" .null) (ga : n0 ≤ a) :
    Met l Z n0 y0_init prog_11_method_1_code 5 (Option.none : Option Jvm.ClassFile.FieldType) ({ frames := 1, cells := 0, slots := 0, locals := 12 } : Room) #[(.ref a), (.ref r0), (.ref r1), (.ref r2), (.ref r3)] h0 (fun v h => v = none ∧ Keep h0 h [a] ∧ Exa Z h a "com/example/keys_into_trees/keysintotrees/index/DeweyPostings" ∧ Fld Z h a "com/example/keys_into_trees/keysintotrees/index/DeweyPostings" "documents" "[I" (.ref r0) ∧ Fld Z h a "com/example/keys_into_trees/keysintotrees/index/DeweyPostings" "starts" "[I" (.ref r1) ∧ Fld Z h a "com/example/keys_into_trees/keysintotrees/index/DeweyPostings" "components" "[I" (.ref r2) ∧ Fld Z h a "com/example/keys_into_trees/keysintotrees/index/DeweyPostings" "frequencies" "[I" (.ref r3)) := by
  refine met_intro (own := c0_DeweyPostings) (plainFor_of_name pn_com_example_keys_into_trees_keysintotrees_index_DeweyPostings) rfl Z0 ?_
  intro p e s m below meth c T A hnm
  refine Wp.cast (g' := mkF m 0 #[rv a, rv r0, rv r1, rv r2, rv r3] []) (by first | (simp [entryFrame, mkF, argsToLocals, Value.category, maxLocals]; done) | rfl) ?_
  refine s_aloadN (pc' := 1) A d1_0 rfl rfl rfl ?_
  refine s_initO (pc' := 4) (W := 0) A (w7 hw) (w8 hw) (w9 hw) (by decide) (Nat.le_of_eq rfl) (by decide) rfl d1_1 rfl fun T A => ?_
  refine s_aloadN (pc' := 5) A d1_4 rfl rfl rfl ?_
  refine s_aloadN (pc' := 6) A d1_5 rfl rfl rfl ?_
  refine s_putfield (pc' := 9) (host := "") A (Or.inl (w10 hw)) Via.refl F0' E (Or.inr ⟨(w11 hw), rfl, hnm⟩) (w2 hw) (ty := (.array .int)) (by decide) rfl rfl ga d1_6 rfl fun T h1 A W2 => ?_
  have F3 := F0'.same W2
  refine s_aloadN (pc' := 10) A d1_9 rfl rfl rfl ?_
  refine s_aloadN (pc' := 11) A d1_10 rfl rfl rfl ?_
  have F4 := (F1'.other W2 (Or.inr (sn_DeweyPostings_starts_documents hw)))
  have E5 := (E.wr W2)
  refine s_putfield (pc' := 14) (host := "") A (Or.inl (w12 hw)) Via.refl F4 E5 (Or.inr ⟨(w13 hw), rfl, hnm⟩) (w2 hw) (ty := (.array .int)) (by decide) rfl rfl ga d1_11 rfl fun T h6 A W7 => ?_
  have F8 := F4.same W7
  refine s_aloadN (pc' := 15) A d1_14 rfl rfl rfl ?_
  refine s_aloadN (pc' := 16) A d1_15 rfl rfl rfl ?_
  have F9 := ((F2'.other W2 (Or.inr (sn_DeweyPostings_components_documents hw))).other W7 (Or.inr (sn_DeweyPostings_components_starts hw)))
  have E10 := (E5.wr W7)
  refine s_putfield (pc' := 19) (host := "") A (Or.inl (w14 hw)) Via.refl F9 E10 (Or.inr ⟨(w15 hw), rfl, hnm⟩) (w2 hw) (ty := (.array .int)) (by decide) rfl rfl ga d1_16 rfl fun T h11 A W12 => ?_
  have F13 := F9.same W12
  refine s_aloadN (pc' := 20) A d1_19 rfl rfl rfl ?_
  refine s_aload (pc' := 22) A d1_20 rfl rfl rfl ?_
  have F14 := (((F3'.other W2 (Or.inr (sn_DeweyPostings_frequencies_documents hw))).other W7 (Or.inr (sn_DeweyPostings_frequencies_starts hw))).other W12 (Or.inr (sn_DeweyPostings_frequencies_components hw)))
  have E15 := (E10.wr W12)
  refine s_putfield (pc' := 25) (host := "") A (Or.inl (w16 hw)) Via.refl F14 E15 (Or.inr ⟨(w17 hw), rfl, hnm⟩) (w2 hw) (ty := (.array .int)) (by decide) rfl rfl ga d1_22 rfl fun T h16 A W17 => ?_
  have F18 := F14.same W17
  have K19 := (((((Keep.refl h0 [a]).wr W2 (Or.inl (List.mem_of_getElem? (i := 0) rfl))).wr W7 (Or.inl (List.mem_of_getElem? (i := 0) rfl))).wr W12 (Or.inl (List.mem_of_getElem? (i := 0) rfl))).wr W17 (Or.inl (List.mem_of_getElem? (i := 0) rfl)))
  have E20 := (E15.wr W17)
  have F21 := (((F3.other W7 (Or.inr (sn_DeweyPostings_documents_starts hw))).other W12 (Or.inr (sn_DeweyPostings_documents_components hw))).other W17 (Or.inr (sn_DeweyPostings_documents_frequencies hw)))
  have F22 := ((F8.other W12 (Or.inr (sn_DeweyPostings_starts_components hw))).other W17 (Or.inr (sn_DeweyPostings_starts_frequencies hw)))
  have F23 := (F13.other W17 (Or.inr (sn_DeweyPostings_components_frequencies hw)))
  exact r_void A rfl d1_25 (by decide) (by decide) (⟨rfl, K19, E20, F21, F22, F23, F18⟩)
set_option maxRecDepth 65536 in
set_option maxHeartbeats 40000000 in
theorem dep0 (l : Launch) (Z : State) (a0 : Array Value) (hw : ∀ d ∈ tables_1, d.before a0 Z = true) (n0 : Nat) (h0 : Heap) (Z0 : n0 ≤ h0.size) (a r1 : Addr) (t0 t1 t2 t3 : Int32) (F1 : Fld Z h0 a "com/example/keys_into_trees/keysintotrees/index/DeweyPostings" "starts" "[I" (.ref r1)) (V1 : AA Z h0 r1 .int [.int t0, .int t1, .int t2, .int t3]) :
    Met l Z n0 y1_depth prog_11_method_4_code 2 (Option.some Jvm.ClassFile.FieldType.int) ({ frames := 0, cells := 0, slots := 0, locals := 0 } : Room) #[(.ref a), (.int (0 : Int32))] h0 (fun v h => v = some (.int (t1 - t0)) ∧ h = h0) := by
  refine met_intro (own := c0_DeweyPostings) (plainFor_of_name pn_com_example_keys_into_trees_keysintotrees_index_DeweyPostings) rfl Z0 ?_
  intro p e s m below meth c T A hnm
  refine Wp.cast (g' := mkF m 0 #[rv a, iv 0] []) (by first | (simp [entryFrame, mkF, argsToLocals, Value.category, maxLocals]; done) | rfl) ?_
  refine s_aloadN (pc' := 1) A d3_0 rfl rfl rfl ?_
  refine s_getfield (pc' := 4) (host := "") A (Or.inl (w12 hw)) Via.refl F1 d3_1 rfl fun T A => ?_
  refine s_iloadN (pc' := 5) A d3_4 rfl rfl ?_
  refine s_iconst (pc' := 6) (z := (1 : Int32)) A d3_5 rfl (by decide) ?_
  refine s_iadd (pc' := 7) (z := (1 : Int32)) A d3_6 rfl (by decide) ?_
  refine s_iaload (pc' := 8) (i := 1) (v := (.int t1)) A V1 (by decide) rfl d3_7 rfl ?_
  refine s_aloadN (pc' := 9) A d3_8 rfl rfl rfl ?_
  refine s_getfield (pc' := 12) (host := "") A (Or.inl (w12 hw)) Via.refl F1 d3_9 rfl fun T A => ?_
  refine s_iloadN (pc' := 13) A d3_12 rfl rfl ?_
  refine s_iaload (pc' := 14) (i := 0) (v := (.int t0)) A V1 (by decide) rfl d3_13 rfl ?_
  refine s_isub (pc' := 15) (z := (t1 - t0)) A d3_14 rfl rfl ?_
  exact r_int A rfl d3_15 (by decide) (by decide) (⟨rfl, rfl⟩)
set_option maxRecDepth 65536 in
set_option maxHeartbeats 40000000 in
theorem dep1 (l : Launch) (Z : State) (a0 : Array Value) (hw : ∀ d ∈ tables_1, d.before a0 Z = true) (n0 : Nat) (h0 : Heap) (Z0 : n0 ≤ h0.size) (a r1 : Addr) (t0 t1 t2 t3 : Int32) (F1 : Fld Z h0 a "com/example/keys_into_trees/keysintotrees/index/DeweyPostings" "starts" "[I" (.ref r1)) (V1 : AA Z h0 r1 .int [.int t0, .int t1, .int t2, .int t3]) :
    Met l Z n0 y1_depth prog_11_method_4_code 2 (Option.some Jvm.ClassFile.FieldType.int) ({ frames := 0, cells := 0, slots := 0, locals := 0 } : Room) #[(.ref a), (.int (1 : Int32))] h0 (fun v h => v = some (.int (t2 - t1)) ∧ h = h0) := by
  refine met_intro (own := c0_DeweyPostings) (plainFor_of_name pn_com_example_keys_into_trees_keysintotrees_index_DeweyPostings) rfl Z0 ?_
  intro p e s m below meth c T A hnm
  refine Wp.cast (g' := mkF m 0 #[rv a, iv 1] []) (by first | (simp [entryFrame, mkF, argsToLocals, Value.category, maxLocals]; done) | rfl) ?_
  refine s_aloadN (pc' := 1) A d3_0 rfl rfl rfl ?_
  refine s_getfield (pc' := 4) (host := "") A (Or.inl (w12 hw)) Via.refl F1 d3_1 rfl fun T A => ?_
  refine s_iloadN (pc' := 5) A d3_4 rfl rfl ?_
  refine s_iconst (pc' := 6) (z := (1 : Int32)) A d3_5 rfl (by decide) ?_
  refine s_iadd (pc' := 7) (z := (2 : Int32)) A d3_6 rfl (by decide) ?_
  refine s_iaload (pc' := 8) (i := 2) (v := (.int t2)) A V1 (by decide) rfl d3_7 rfl ?_
  refine s_aloadN (pc' := 9) A d3_8 rfl rfl rfl ?_
  refine s_getfield (pc' := 12) (host := "") A (Or.inl (w12 hw)) Via.refl F1 d3_9 rfl fun T A => ?_
  refine s_iloadN (pc' := 13) A d3_12 rfl rfl ?_
  refine s_iaload (pc' := 14) (i := 1) (v := (.int t1)) A V1 (by decide) rfl d3_13 rfl ?_
  refine s_isub (pc' := 15) (z := (t2 - t1)) A d3_14 rfl rfl ?_
  exact r_int A rfl d3_15 (by decide) (by decide) (⟨rfl, rfl⟩)
set_option maxRecDepth 65536 in
set_option maxHeartbeats 40000000 in
theorem dep2 (l : Launch) (Z : State) (a0 : Array Value) (hw : ∀ d ∈ tables_1, d.before a0 Z = true) (n0 : Nat) (h0 : Heap) (Z0 : n0 ≤ h0.size) (a r1 : Addr) (t0 t1 t2 t3 : Int32) (F1 : Fld Z h0 a "com/example/keys_into_trees/keysintotrees/index/DeweyPostings" "starts" "[I" (.ref r1)) (V1 : AA Z h0 r1 .int [.int t0, .int t1, .int t2, .int t3]) :
    Met l Z n0 y1_depth prog_11_method_4_code 2 (Option.some Jvm.ClassFile.FieldType.int) ({ frames := 0, cells := 0, slots := 0, locals := 0 } : Room) #[(.ref a), (.int (2 : Int32))] h0 (fun v h => v = some (.int (t3 - t2)) ∧ h = h0) := by
  refine met_intro (own := c0_DeweyPostings) (plainFor_of_name pn_com_example_keys_into_trees_keysintotrees_index_DeweyPostings) rfl Z0 ?_
  intro p e s m below meth c T A hnm
  refine Wp.cast (g' := mkF m 0 #[rv a, iv 2] []) (by first | (simp [entryFrame, mkF, argsToLocals, Value.category, maxLocals]; done) | rfl) ?_
  refine s_aloadN (pc' := 1) A d3_0 rfl rfl rfl ?_
  refine s_getfield (pc' := 4) (host := "") A (Or.inl (w12 hw)) Via.refl F1 d3_1 rfl fun T A => ?_
  refine s_iloadN (pc' := 5) A d3_4 rfl rfl ?_
  refine s_iconst (pc' := 6) (z := (1 : Int32)) A d3_5 rfl (by decide) ?_
  refine s_iadd (pc' := 7) (z := (3 : Int32)) A d3_6 rfl (by decide) ?_
  refine s_iaload (pc' := 8) (i := 3) (v := (.int t3)) A V1 (by decide) rfl d3_7 rfl ?_
  refine s_aloadN (pc' := 9) A d3_8 rfl rfl rfl ?_
  refine s_getfield (pc' := 12) (host := "") A (Or.inl (w12 hw)) Via.refl F1 d3_9 rfl fun T A => ?_
  refine s_iloadN (pc' := 13) A d3_12 rfl rfl ?_
  refine s_iaload (pc' := 14) (i := 2) (v := (.int t2)) A V1 (by decide) rfl d3_13 rfl ?_
  refine s_isub (pc' := 15) (z := (t3 - t2)) A d3_14 rfl rfl ?_
  exact r_int A rfl d3_15 (by decide) (by decide) (⟨rfl, rfl⟩)
set_option maxRecDepth 65536 in
set_option maxHeartbeats 40000000 in
theorem com0 (l : Launch) (Z : State) (a0 : Array Value) (hw : ∀ d ∈ tables_1, d.before a0 Z = true) (n0 : Nat) (h0 : Heap) (Z0 : n0 ≤ h0.size) (a r1 r2 : Addr) (t0 t1 t2 t3 lv x : Int32) (cs : List Value) (i : Nat) (F1 : Fld Z h0 a "com/example/keys_into_trees/keysintotrees/index/DeweyPostings" "starts" "[I" (.ref r1)) (V1 : AA Z h0 r1 .int [.int t0, .int t1, .int t2, .int t3]) (F2 : Fld Z h0 a "com/example/keys_into_trees/keysintotrees/index/DeweyPostings" "components" "[I" (.ref r2)) (V2 : AA Z h0 r2 .int cs) (hj : (t0 + lv).toInt = (i : Int)) (hv : cs[i]? = some (.int x)) :
    Met l Z n0 y2_component prog_11_method_5_code 3 (Option.some Jvm.ClassFile.FieldType.int) ({ frames := 0, cells := 0, slots := 0, locals := 0 } : Room) #[(.ref a), (.int (0 : Int32)), (.int lv)] h0 (fun v h => v = some (.int x) ∧ h = h0) := by
  refine met_intro (own := c0_DeweyPostings) (plainFor_of_name pn_com_example_keys_into_trees_keysintotrees_index_DeweyPostings) rfl Z0 ?_
  intro p e s m below meth c T A hnm
  refine Wp.cast (g' := mkF m 0 #[rv a, iv 0, iv lv] []) (by first | (simp [entryFrame, mkF, argsToLocals, Value.category, maxLocals]; done) | rfl) ?_
  refine s_aloadN (pc' := 1) A d4_0 rfl rfl rfl ?_
  refine s_getfield (pc' := 4) (host := "") A (Or.inl (w14 hw)) Via.refl F2 d4_1 rfl fun T A => ?_
  refine s_aloadN (pc' := 5) A d4_4 rfl rfl rfl ?_
  refine s_getfield (pc' := 8) (host := "") A (Or.inl (w12 hw)) Via.refl F1 d4_5 rfl fun T A => ?_
  refine s_iloadN (pc' := 9) A d4_8 rfl rfl ?_
  refine s_iaload (pc' := 10) (i := 0) (v := (.int t0)) A V1 (by decide) rfl d4_9 rfl ?_
  refine s_iloadN (pc' := 11) A d4_10 rfl rfl ?_
  refine s_iadd (pc' := 12) (z := (t0 + lv)) A d4_11 rfl rfl ?_
  refine s_iaload (pc' := 13) (i := i) (v := (.int x)) A V2 hj hv d4_12 rfl ?_
  exact r_int A rfl d4_13 (by decide) (by decide) (⟨rfl, rfl⟩)
set_option maxRecDepth 65536 in
set_option maxHeartbeats 40000000 in
theorem com1 (l : Launch) (Z : State) (a0 : Array Value) (hw : ∀ d ∈ tables_1, d.before a0 Z = true) (n0 : Nat) (h0 : Heap) (Z0 : n0 ≤ h0.size) (a r1 r2 : Addr) (t0 t1 t2 t3 lv x : Int32) (cs : List Value) (i : Nat) (F1 : Fld Z h0 a "com/example/keys_into_trees/keysintotrees/index/DeweyPostings" "starts" "[I" (.ref r1)) (V1 : AA Z h0 r1 .int [.int t0, .int t1, .int t2, .int t3]) (F2 : Fld Z h0 a "com/example/keys_into_trees/keysintotrees/index/DeweyPostings" "components" "[I" (.ref r2)) (V2 : AA Z h0 r2 .int cs) (hj : (t1 + lv).toInt = (i : Int)) (hv : cs[i]? = some (.int x)) :
    Met l Z n0 y2_component prog_11_method_5_code 3 (Option.some Jvm.ClassFile.FieldType.int) ({ frames := 0, cells := 0, slots := 0, locals := 0 } : Room) #[(.ref a), (.int (1 : Int32)), (.int lv)] h0 (fun v h => v = some (.int x) ∧ h = h0) := by
  refine met_intro (own := c0_DeweyPostings) (plainFor_of_name pn_com_example_keys_into_trees_keysintotrees_index_DeweyPostings) rfl Z0 ?_
  intro p e s m below meth c T A hnm
  refine Wp.cast (g' := mkF m 0 #[rv a, iv 1, iv lv] []) (by first | (simp [entryFrame, mkF, argsToLocals, Value.category, maxLocals]; done) | rfl) ?_
  refine s_aloadN (pc' := 1) A d4_0 rfl rfl rfl ?_
  refine s_getfield (pc' := 4) (host := "") A (Or.inl (w14 hw)) Via.refl F2 d4_1 rfl fun T A => ?_
  refine s_aloadN (pc' := 5) A d4_4 rfl rfl rfl ?_
  refine s_getfield (pc' := 8) (host := "") A (Or.inl (w12 hw)) Via.refl F1 d4_5 rfl fun T A => ?_
  refine s_iloadN (pc' := 9) A d4_8 rfl rfl ?_
  refine s_iaload (pc' := 10) (i := 1) (v := (.int t1)) A V1 (by decide) rfl d4_9 rfl ?_
  refine s_iloadN (pc' := 11) A d4_10 rfl rfl ?_
  refine s_iadd (pc' := 12) (z := (t1 + lv)) A d4_11 rfl rfl ?_
  refine s_iaload (pc' := 13) (i := i) (v := (.int x)) A V2 hj hv d4_12 rfl ?_
  exact r_int A rfl d4_13 (by decide) (by decide) (⟨rfl, rfl⟩)
set_option maxRecDepth 65536 in
set_option maxHeartbeats 40000000 in
theorem com2 (l : Launch) (Z : State) (a0 : Array Value) (hw : ∀ d ∈ tables_1, d.before a0 Z = true) (n0 : Nat) (h0 : Heap) (Z0 : n0 ≤ h0.size) (a r1 r2 : Addr) (t0 t1 t2 t3 lv x : Int32) (cs : List Value) (i : Nat) (F1 : Fld Z h0 a "com/example/keys_into_trees/keysintotrees/index/DeweyPostings" "starts" "[I" (.ref r1)) (V1 : AA Z h0 r1 .int [.int t0, .int t1, .int t2, .int t3]) (F2 : Fld Z h0 a "com/example/keys_into_trees/keysintotrees/index/DeweyPostings" "components" "[I" (.ref r2)) (V2 : AA Z h0 r2 .int cs) (hj : (t2 + lv).toInt = (i : Int)) (hv : cs[i]? = some (.int x)) :
    Met l Z n0 y2_component prog_11_method_5_code 3 (Option.some Jvm.ClassFile.FieldType.int) ({ frames := 0, cells := 0, slots := 0, locals := 0 } : Room) #[(.ref a), (.int (2 : Int32)), (.int lv)] h0 (fun v h => v = some (.int x) ∧ h = h0) := by
  refine met_intro (own := c0_DeweyPostings) (plainFor_of_name pn_com_example_keys_into_trees_keysintotrees_index_DeweyPostings) rfl Z0 ?_
  intro p e s m below meth c T A hnm
  refine Wp.cast (g' := mkF m 0 #[rv a, iv 2, iv lv] []) (by first | (simp [entryFrame, mkF, argsToLocals, Value.category, maxLocals]; done) | rfl) ?_
  refine s_aloadN (pc' := 1) A d4_0 rfl rfl rfl ?_
  refine s_getfield (pc' := 4) (host := "") A (Or.inl (w14 hw)) Via.refl F2 d4_1 rfl fun T A => ?_
  refine s_aloadN (pc' := 5) A d4_4 rfl rfl rfl ?_
  refine s_getfield (pc' := 8) (host := "") A (Or.inl (w12 hw)) Via.refl F1 d4_5 rfl fun T A => ?_
  refine s_iloadN (pc' := 9) A d4_8 rfl rfl ?_
  refine s_iaload (pc' := 10) (i := 2) (v := (.int t2)) A V1 (by decide) rfl d4_9 rfl ?_
  refine s_iloadN (pc' := 11) A d4_10 rfl rfl ?_
  refine s_iadd (pc' := 12) (z := (t2 + lv)) A d4_11 rfl rfl ?_
  refine s_iaload (pc' := 13) (i := i) (v := (.int x)) A V2 hj hv d4_12 rfl ?_
  exact r_int A rfl d4_13 (by decide) (by decide) (⟨rfl, rfl⟩)
set_option maxRecDepth 65536 in
set_option maxHeartbeats 40000000 in
theorem rm0 (l : Launch) (Z : State) (a0 : Array Value) (hw : ∀ d ∈ tables_1, d.before a0 Z = true) (n0 : Nat) (h0 : Heap) (Z0 : n0 ≤ h0.size) (q0 q1 q2 q3 : Int32)  :
    Met l Z n0 x code maxLocals ret room_1 #[(.int q0), (.int q1), (.int q2), (.int q3)] h0 (fun v h => v = some (.int 1)) := by
  refine met_intro (own := c1_DeweyPostingsDepthPinLaw) (plainFor_of_name pn_com_example_keys_into_trees_keysintotrees_index_DeweyPostingsDepthPinLaw) rfl Z0 ?_
  intro p e s m below meth c T A hnm
  refine Wp.cast (g' := mkF m 0 #[iv q0, iv q1, iv q2, iv q3, U0, U0, U0, U0, U0, U0, U0, U0, U0, U0, U0, U0, U0] []) (by first | (simp [entryFrame, mkF, argsToLocals, Value.category, maxLocals]; done) | rfl) ?_
  refine s_iloadN (pc' := 1) A at_0 rfl rfl ?_
  refine s_bipush (pc' := 3) (z := (63 : Int32)) A at_1 rfl (by decide) ?_
  refine s_iand (pc' := 4) (z := (q0 &&& (63 : Int32))) A at_3 rfl rfl ?_
  refine s_iconst (pc' := 5) (z := (1 : Int32)) A at_4 rfl (by decide) ?_
  obtain ⟨d0, ed0⟩ : ∃ z, z = ((q0 &&& (63 : Int32)) + (1 : Int32)) := ⟨_, rfl⟩
  have fd0 : 1 ≤ d0.toInt ∧ d0.toInt ≤ 64 := by rw [ed0]; have _ := rng32 q0; have _ : (63 : Int32).toInt = 63 := (by decide); have _ := rng32 (q0 &&& (63 : Int32)); have _ : (q0 &&& (63 : Int32)).toInt = q0.toInt % 64 := c_mask q0 (63 : Int32) 6 (by decide) (by decide); have _ : (1 : Int32).toInt = 1 := (by decide); have _ := rng32 ((q0 &&& (63 : Int32)) + (1 : Int32)); have _ := c_iadd (q0 &&& (63 : Int32)) (1 : Int32); omega
  refine s_iadd (pc' := 6) (z := d0) A at_5 rfl ed0.symm ?_
  refine s_istore (pc' := 8) (Ls' := #[iv q0, iv q1, iv q2, iv q3, iv d0, U0, U0, U0, U0, U0, U0, U0, U0, U0, U0, U0, U0]) A at_6 rfl rfl ?_
  refine s_iloadN (pc' := 9) A at_8 rfl rfl ?_
  refine s_bipush (pc' := 11) (z := (63 : Int32)) A at_9 rfl (by decide) ?_
  refine s_iand (pc' := 12) (z := (q1 &&& (63 : Int32))) A at_11 rfl rfl ?_
  refine s_iconst (pc' := 13) (z := (1 : Int32)) A at_12 rfl (by decide) ?_
  obtain ⟨d1, ed1⟩ : ∃ z, z = ((q1 &&& (63 : Int32)) + (1 : Int32)) := ⟨_, rfl⟩
  have fd1 : 1 ≤ d1.toInt ∧ d1.toInt ≤ 64 := by rw [ed1]; have _ := rng32 q1; have _ : (63 : Int32).toInt = 63 := (by decide); have _ := rng32 (q1 &&& (63 : Int32)); have _ : (q1 &&& (63 : Int32)).toInt = q1.toInt % 64 := c_mask q1 (63 : Int32) 6 (by decide) (by decide); have _ : (1 : Int32).toInt = 1 := (by decide); have _ := rng32 ((q1 &&& (63 : Int32)) + (1 : Int32)); have _ := c_iadd (q1 &&& (63 : Int32)) (1 : Int32); omega
  refine s_iadd (pc' := 14) (z := d1) A at_13 rfl ed1.symm ?_
  refine s_istore (pc' := 16) (Ls' := #[iv q0, iv q1, iv q2, iv q3, iv d0, iv d1, U0, U0, U0, U0, U0, U0, U0, U0, U0, U0, U0]) A at_14 rfl rfl ?_
  refine s_iloadN (pc' := 17) A at_16 rfl rfl ?_
  refine s_bipush (pc' := 19) (z := (63 : Int32)) A at_17 rfl (by decide) ?_
  refine s_iand (pc' := 20) (z := (q2 &&& (63 : Int32))) A at_19 rfl rfl ?_
  refine s_iconst (pc' := 21) (z := (1 : Int32)) A at_20 rfl (by decide) ?_
  obtain ⟨d2, ed2⟩ : ∃ z, z = ((q2 &&& (63 : Int32)) + (1 : Int32)) := ⟨_, rfl⟩
  have fd2 : 1 ≤ d2.toInt ∧ d2.toInt ≤ 64 := by rw [ed2]; have _ := rng32 q2; have _ : (63 : Int32).toInt = 63 := (by decide); have _ := rng32 (q2 &&& (63 : Int32)); have _ : (q2 &&& (63 : Int32)).toInt = q2.toInt % 64 := c_mask q2 (63 : Int32) 6 (by decide) (by decide); have _ : (1 : Int32).toInt = 1 := (by decide); have _ := rng32 ((q2 &&& (63 : Int32)) + (1 : Int32)); have _ := c_iadd (q2 &&& (63 : Int32)) (1 : Int32); omega
  refine s_iadd (pc' := 22) (z := d2) A at_21 rfl ed2.symm ?_
  refine s_istore (pc' := 24) (Ls' := #[iv q0, iv q1, iv q2, iv q3, iv d0, iv d1, iv d2, U0, U0, U0, U0, U0, U0, U0, U0, U0, U0]) A at_22 rfl rfl ?_
  refine s_iloadN (pc' := 25) A at_24 rfl rfl ?_
  refine s_bipush (pc' := 27) (z := (63 : Int32)) A at_25 rfl (by decide) ?_
  obtain ⟨s0, es0⟩ : ∃ z, z = (q3 &&& (63 : Int32)) := ⟨_, rfl⟩
  have fs0 : 0 ≤ s0.toInt ∧ s0.toInt ≤ 63 := by rw [es0]; have _ := rng32 q3; have _ : (63 : Int32).toInt = 63 := (by decide); have _ := rng32 (q3 &&& (63 : Int32)); have _ : (q3 &&& (63 : Int32)).toInt = q3.toInt % 64 := c_mask q3 (63 : Int32) 6 (by decide) (by decide); omega
  refine s_iand (pc' := 28) (z := s0) A at_27 rfl es0.symm ?_
  refine s_istore (pc' := 30) (Ls' := #[iv q0, iv q1, iv q2, iv q3, iv d0, iv d1, iv d2, iv s0, U0, U0, U0, U0, U0, U0, U0, U0, U0]) A at_28 rfl rfl ?_
  refine s_iload (pc' := 32) A at_30 rfl rfl ?_
  refine s_iload (pc' := 34) A at_32 rfl rfl ?_
  obtain ⟨s1, es1⟩ : ∃ z, z = (s0 + d0) := ⟨_, rfl⟩
  have fs1 : s1.toInt = s0.toInt + d0.toInt := by rw [es1]; have _ := rng32 s0; have _ := rng32 d0; have _ := rng32 (s0 + d0); have _ := c_iadd s0 d0; have _ := fs0; have _ := fd0; omega
  refine s_iadd (pc' := 35) (z := s1) A at_34 rfl es1.symm ?_
  refine s_istore (pc' := 37) (Ls' := #[iv q0, iv q1, iv q2, iv q3, iv d0, iv d1, iv d2, iv s0, iv s1, U0, U0, U0, U0, U0, U0, U0, U0]) A at_35 rfl rfl ?_
  refine s_iload (pc' := 39) A at_37 rfl rfl ?_
  refine s_iload (pc' := 41) A at_39 rfl rfl ?_
  obtain ⟨s2, es2⟩ : ∃ z, z = (s1 + d1) := ⟨_, rfl⟩
  have fs2 : s2.toInt = s1.toInt + d1.toInt := by rw [es2]; have _ := rng32 s1; have _ := rng32 d1; have _ := rng32 (s1 + d1); have _ := c_iadd s1 d1; have _ := fs0; have _ := fd0; have _ := fs1; have _ := fd1; omega
  refine s_iadd (pc' := 42) (z := s2) A at_41 rfl es2.symm ?_
  refine s_istore (pc' := 44) (Ls' := #[iv q0, iv q1, iv q2, iv q3, iv d0, iv d1, iv d2, iv s0, iv s1, iv s2, U0, U0, U0, U0, U0, U0, U0]) A at_42 rfl rfl ?_
  refine s_iload (pc' := 46) A at_44 rfl rfl ?_
  refine s_iload (pc' := 48) A at_46 rfl rfl ?_
  obtain ⟨s3, es3⟩ : ∃ z, z = (s2 + d2) := ⟨_, rfl⟩
  have fs3 : s3.toInt = s2.toInt + d2.toInt := by rw [es3]; have _ := rng32 s2; have _ := rng32 d2; have _ := rng32 (s2 + d2); have _ := c_iadd s2 d2; have _ := fs0; have _ := fd0; have _ := fs1; have _ := fd1; have _ := fs2; have _ := fd2; omega
  refine s_iadd (pc' := 49) (z := s3) A at_48 rfl es3.symm ?_
  refine s_istore (pc' := 51) (Ls' := #[iv q0, iv q1, iv q2, iv q3, iv d0, iv d1, iv d2, iv s0, iv s1, iv s2, iv s3, U0, U0, U0, U0, U0, U0]) A at_49 rfl rfl ?_
  refine s_iconst (pc' := 52) (z := (4 : Int32)) A at_51 rfl (by decide) ?_
  refine s_newarray (pc' := 54) (aty := .int) (ty := .int) (dv := (.int (0 : Int32))) (i := 4) (cap := 4) A rfl rfl (w0 hw) (by decide) (by decide) (by decide) (by decide) (by decide) at_52 rfl fun T h1 b2 A g3 ge4 X5 V6 => ?_
  have V6 : AA Z h1 b2 .int [.int (0 : Int32), .int (0 : Int32), .int (0 : Int32), .int (0 : Int32)] := V6
  refine s_dup (pc' := 55) A at_54 rfl rfl ?_
  refine s_iconst (pc' := 56) (z := (0 : Int32)) A at_55 rfl (by decide) ?_
  refine s_iload (pc' := 58) A at_56 rfl rfl ?_
  refine s_iastore (pc' := 59) (i := 0) A V6 (by decide) (Nat.le_of_ble_eq_true rfl) ge4 at_58 rfl fun T h7 A W8 V9 => ?_
  have V9 : AA Z h7 b2 .int [.int s0, .int (0 : Int32), .int (0 : Int32), .int (0 : Int32)] := V9
  refine s_dup (pc' := 60) A at_59 rfl rfl ?_
  refine s_iconst (pc' := 61) (z := (1 : Int32)) A at_60 rfl (by decide) ?_
  refine s_iload (pc' := 63) A at_61 rfl rfl ?_
  refine s_iastore (pc' := 64) (i := 1) A V9 (by decide) (Nat.le_of_ble_eq_true rfl) ge4 at_63 rfl fun T h10 A W11 V12 => ?_
  have V12 : AA Z h10 b2 .int [.int s0, .int s1, .int (0 : Int32), .int (0 : Int32)] := V12
  refine s_dup (pc' := 65) A at_64 rfl rfl ?_
  refine s_iconst (pc' := 66) (z := (2 : Int32)) A at_65 rfl (by decide) ?_
  refine s_iload (pc' := 68) A at_66 rfl rfl ?_
  refine s_iastore (pc' := 69) (i := 2) A V12 (by decide) (Nat.le_of_ble_eq_true rfl) ge4 at_68 rfl fun T h13 A W14 V15 => ?_
  have V15 : AA Z h13 b2 .int [.int s0, .int s1, .int s2, .int (0 : Int32)] := V15
  refine s_dup (pc' := 70) A at_69 rfl rfl ?_
  refine s_iconst (pc' := 71) (z := (3 : Int32)) A at_70 rfl (by decide) ?_
  refine s_iload (pc' := 73) A at_71 rfl rfl ?_
  refine s_iastore (pc' := 74) (i := 3) A V15 (by decide) (Nat.le_of_ble_eq_true rfl) ge4 at_73 rfl fun T h16 A W17 V18 => ?_
  have V18 : AA Z h16 b2 .int [.int s0, .int s1, .int s2, .int s3] := V18
  refine s_astore (pc' := 76) (Ls' := #[iv q0, iv q1, iv q2, iv q3, iv d0, iv d1, iv d2, iv s0, iv s1, iv s2, iv s3, rv b2, U0, U0, U0, U0, U0]) A at_74 rfl rfl rfl ?_
  refine s_iload (pc' := 78) A at_76 rfl rfl ?_
  obtain ⟨i3, h3⟩ : ∃ i : Nat, s3.toInt = (i : Int) := ⟨s3.toInt.toNat, by omega⟩
  refine s_newarray (pc' := 80) (aty := .int) (ty := .int) (dv := (.int (0 : Int32))) (i := i3) (cap := 255) A rfl rfl (w0 hw) h3 (by omega) (by decide) (by decide) (by decide) at_78 rfl fun T h19 b20 A g21 ge22 X23 V24 => ?_
  have ne25 : b2 ≠ b20 := lt_ne V18.lt g21
  have V24 : AA Z h19 b20 .int (List.replicate i3 (.int (0 : Int32))) := V24
  refine s_astore (pc' := 82) (Ls' := #[iv q0, iv q1, iv q2, iv q3, iv d0, iv d1, iv d2, iv s0, iv s1, iv s2, iv s3, rv b2, rv b20, U0, U0, U0, U0]) A at_80 rfl rfl rfl ?_
  refine s_aload (pc' := 84) A at_82 rfl rfl rfl ?_
  refine s_iload (pc' := 86) A at_84 rfl rfl ?_
  refine s_iconst (pc' := 87) (z := (1 : Int32)) A at_86 rfl (by decide) ?_
  refine s_isub (pc' := 88) (z := (s1 - (1 : Int32))) A at_87 rfl rfl ?_
  refine s_bipush (pc' := 90) (z := (101 : Int32)) A at_88 rfl (by decide) ?_
  obtain ⟨j1, hj1⟩ : ∃ i : Nat, (s1 - (1 : Int32)).toInt = (i : Int) := ⟨(s1 - (1 : Int32)).toInt.toNat, by have _ := rng32 s1; have _ : (1 : Int32).toInt = 1 := (by decide); have _ := rng32 (s1 - (1 : Int32)); have _ := c_isub s1 (1 : Int32); omega⟩
  have gj1 : (j1 : Int) = s1.toInt - 1 := by rw [← hj1]; have _ := rng32 s1; have _ : (1 : Int32).toInt = 1 := (by decide); have _ := rng32 (s1 - (1 : Int32)); have _ := c_isub s1 (1 : Int32); omega
  refine s_iastore (pc' := 91) (i := j1) A V24 hj1 (by simp only [List.length_set, List.length_replicate]; omega) ge22 at_90 rfl fun T h26 A W27 V28 => ?_
  have V28 : AA Z h26 b20 .int ((List.replicate i3 (.int (0 : Int32))).set j1 (.int (101 : Int32))) := V28
  refine s_aload (pc' := 93) A at_91 rfl rfl rfl ?_
  refine s_iload (pc' := 95) A at_93 rfl rfl ?_
  refine s_iconst (pc' := 96) (z := (1 : Int32)) A at_95 rfl (by decide) ?_
  refine s_isub (pc' := 97) (z := (s2 - (1 : Int32))) A at_96 rfl rfl ?_
  refine s_bipush (pc' := 99) (z := (102 : Int32)) A at_97 rfl (by decide) ?_
  obtain ⟨j2, hj2⟩ : ∃ i : Nat, (s2 - (1 : Int32)).toInt = (i : Int) := ⟨(s2 - (1 : Int32)).toInt.toNat, by have _ := rng32 s2; have _ : (1 : Int32).toInt = 1 := (by decide); have _ := rng32 (s2 - (1 : Int32)); have _ := c_isub s2 (1 : Int32); omega⟩
  have gj2 : (j2 : Int) = s2.toInt - 1 := by rw [← hj2]; have _ := rng32 s2; have _ : (1 : Int32).toInt = 1 := (by decide); have _ := rng32 (s2 - (1 : Int32)); have _ := c_isub s2 (1 : Int32); omega
  refine s_iastore (pc' := 100) (i := j2) A V28 hj2 (by simp only [List.length_set, List.length_replicate]; omega) ge22 at_99 rfl fun T h29 A W30 V31 => ?_
  have V31 : AA Z h29 b20 .int (((List.replicate i3 (.int (0 : Int32))).set j1 (.int (101 : Int32))).set j2 (.int (102 : Int32))) := V31
  refine s_aload (pc' := 102) A at_100 rfl rfl rfl ?_
  refine s_iload (pc' := 104) A at_102 rfl rfl ?_
  refine s_iconst (pc' := 105) (z := (1 : Int32)) A at_104 rfl (by decide) ?_
  refine s_isub (pc' := 106) (z := (s3 - (1 : Int32))) A at_105 rfl rfl ?_
  refine s_bipush (pc' := 108) (z := (103 : Int32)) A at_106 rfl (by decide) ?_
  obtain ⟨j3, hj3⟩ : ∃ i : Nat, (s3 - (1 : Int32)).toInt = (i : Int) := ⟨(s3 - (1 : Int32)).toInt.toNat, by have _ := rng32 s3; have _ : (1 : Int32).toInt = 1 := (by decide); have _ := rng32 (s3 - (1 : Int32)); have _ := c_isub s3 (1 : Int32); omega⟩
  have gj3 : (j3 : Int) = s3.toInt - 1 := by rw [← hj3]; have _ := rng32 s3; have _ : (1 : Int32).toInt = 1 := (by decide); have _ := rng32 (s3 - (1 : Int32)); have _ := c_isub s3 (1 : Int32); omega
  refine s_iastore (pc' := 109) (i := j3) A V31 hj3 (by simp only [List.length_set, List.length_replicate]; omega) ge22 at_108 rfl fun T h32 A W33 V34 => ?_
  have V34 : AA Z h32 b20 .int ((((List.replicate i3 (.int (0 : Int32))).set j1 (.int (101 : Int32))).set j2 (.int (102 : Int32))).set j3 (.int (103 : Int32))) := V34
  have V42 := ((((V18.ext X23).other W27 ne25).other W30 ne25).other W33 ne25)
  refine s_new (pc' := 112) A (w1 hw) (w2 hw) (w3 hw) (by decide) (by decide) at_109 rfl fun T h35 b36 A g37 ge38 X39 E40 D41 => ?_
  have ne43 : b2 ≠ b36 := lt_ne V42.lt g37
  have ne44 : b20 ≠ b36 := lt_ne V34.lt g37
  have F45 : Fld Z h35 b36 "com/example/keys_into_trees/keysintotrees/index/DeweyPostings" "documents" "[I" .null := D41 (Or.inr (w11 hw)) (ty := (.array .int)) (by decide)
  have F46 : Fld Z h35 b36 "com/example/keys_into_trees/keysintotrees/index/DeweyPostings" "starts" "[I" .null := D41 (Or.inr (w13 hw)) (ty := (.array .int)) (by decide)
  have F47 : Fld Z h35 b36 "com/example/keys_into_trees/keysintotrees/index/DeweyPostings" "components" "[I" .null := D41 (Or.inr (w15 hw)) (ty := (.array .int)) (by decide)
  have F48 : Fld Z h35 b36 "com/example/keys_into_trees/keysintotrees/index/DeweyPostings" "frequencies" "[I" .null := D41 (Or.inr (w17 hw)) (ty := (.array .int)) (by decide)
  refine s_dup (pc' := 113) A at_112 rfl rfl ?_
  refine s_iconst (pc' := 114) (z := (3 : Int32)) A at_113 rfl (by decide) ?_
  have V55 := (V42.ext X39)
  have V56 := (V34.ext X39)
  refine s_newarray (pc' := 116) (aty := .int) (ty := .int) (dv := (.int (0 : Int32))) (i := 3) (cap := 3) A rfl rfl (w0 hw) (by decide) (by decide) (by decide) (by decide) (by decide) at_114 rfl fun T h49 b50 A g51 ge52 X53 V54 => ?_
  have ne57 : b2 ≠ b50 := lt_ne V55.lt g51
  have ne58 : b20 ≠ b50 := lt_ne V56.lt g51
  have ne59 : b36 ≠ b50 := lt_ne E40.lt g51
  have V54 : AA Z h49 b50 .int [.int (0 : Int32), .int (0 : Int32), .int (0 : Int32)] := V54
  refine s_dup (pc' := 117) A at_116 rfl rfl ?_
  refine s_iconst (pc' := 118) (z := (0 : Int32)) A at_117 rfl (by decide) ?_
  refine s_iconst (pc' := 119) (z := (0 : Int32)) A at_118 rfl (by decide) ?_
  refine s_iastore (pc' := 120) (i := 0) A V54 (by decide) (Nat.le_of_ble_eq_true rfl) ge52 at_119 rfl fun T h60 A W61 V62 => ?_
  have V62 : AA Z h60 b50 .int [.int (0 : Int32), .int (0 : Int32), .int (0 : Int32)] := V62
  refine s_dup (pc' := 121) A at_120 rfl rfl ?_
  refine s_iconst (pc' := 122) (z := (1 : Int32)) A at_121 rfl (by decide) ?_
  refine s_iconst (pc' := 123) (z := (0 : Int32)) A at_122 rfl (by decide) ?_
  refine s_iastore (pc' := 124) (i := 1) A V62 (by decide) (Nat.le_of_ble_eq_true rfl) ge52 at_123 rfl fun T h63 A W64 V65 => ?_
  have V65 : AA Z h63 b50 .int [.int (0 : Int32), .int (0 : Int32), .int (0 : Int32)] := V65
  refine s_dup (pc' := 125) A at_124 rfl rfl ?_
  refine s_iconst (pc' := 126) (z := (2 : Int32)) A at_125 rfl (by decide) ?_
  refine s_iconst (pc' := 127) (z := (1 : Int32)) A at_126 rfl (by decide) ?_
  refine s_iastore (pc' := 128) (i := 2) A V65 (by decide) (Nat.le_of_ble_eq_true rfl) ge52 at_127 rfl fun T h66 A W67 V68 => ?_
  have V68 : AA Z h66 b50 .int [.int (0 : Int32), .int (0 : Int32), .int (1 : Int32)] := V68
  refine s_aload (pc' := 130) A at_128 rfl rfl rfl ?_
  refine s_aload (pc' := 132) A at_130 rfl rfl rfl ?_
  refine s_iconst (pc' := 133) (z := (3 : Int32)) A at_132 rfl (by decide) ?_
  have V75 := ((((V55.ext X53).other W61 ne57).other W64 ne57).other W67 ne57)
  have V76 := ((((V56.ext X53).other W61 ne58).other W64 ne58).other W67 ne58)
  have E77 := ((((E40.ext X53).wr W61).wr W64).wr W67)
  refine s_newarray (pc' := 135) (aty := .int) (ty := .int) (dv := (.int (0 : Int32))) (i := 3) (cap := 3) A rfl rfl (w0 hw) (by decide) (by decide) (by decide) (by decide) (by decide) at_133 rfl fun T h69 b70 A g71 ge72 X73 V74 => ?_
  have ne78 : b2 ≠ b70 := lt_ne V75.lt g71
  have ne79 : b20 ≠ b70 := lt_ne V76.lt g71
  have ne80 : b36 ≠ b70 := lt_ne E77.lt g71
  have ne81 : b50 ≠ b70 := lt_ne V68.lt g71
  have V74 : AA Z h69 b70 .int [.int (0 : Int32), .int (0 : Int32), .int (0 : Int32)] := V74
  refine s_dup (pc' := 136) A at_135 rfl rfl ?_
  refine s_iconst (pc' := 137) (z := (0 : Int32)) A at_136 rfl (by decide) ?_
  refine s_iconst (pc' := 138) (z := (1 : Int32)) A at_137 rfl (by decide) ?_
  refine s_iastore (pc' := 139) (i := 0) A V74 (by decide) (Nat.le_of_ble_eq_true rfl) ge72 at_138 rfl fun T h82 A W83 V84 => ?_
  have V84 : AA Z h82 b70 .int [.int (1 : Int32), .int (0 : Int32), .int (0 : Int32)] := V84
  refine s_dup (pc' := 140) A at_139 rfl rfl ?_
  refine s_iconst (pc' := 141) (z := (1 : Int32)) A at_140 rfl (by decide) ?_
  refine s_iconst (pc' := 142) (z := (1 : Int32)) A at_141 rfl (by decide) ?_
  refine s_iastore (pc' := 143) (i := 1) A V84 (by decide) (Nat.le_of_ble_eq_true rfl) ge72 at_142 rfl fun T h85 A W86 V87 => ?_
  have V87 : AA Z h85 b70 .int [.int (1 : Int32), .int (1 : Int32), .int (0 : Int32)] := V87
  refine s_dup (pc' := 144) A at_143 rfl rfl ?_
  refine s_iconst (pc' := 145) (z := (2 : Int32)) A at_144 rfl (by decide) ?_
  refine s_iconst (pc' := 146) (z := (1 : Int32)) A at_145 rfl (by decide) ?_
  refine s_iastore (pc' := 147) (i := 2) A V87 (by decide) (Nat.le_of_ble_eq_true rfl) ge72 at_146 rfl fun T h88 A W89 V90 => ?_
  have V90 : AA Z h88 b70 .int [.int (1 : Int32), .int (1 : Int32), .int (1 : Int32)] := V90
  have F91 := ((((((((F45.ext X53).other W61 (Or.inl ne59)).other W64 (Or.inl ne59)).other W67 (Or.inl ne59)).ext X73).other W83 (Or.inl ne80)).other W86 (Or.inl ne80)).other W89 (Or.inl ne80))
  have F92 := ((((((((F46.ext X53).other W61 (Or.inl ne59)).other W64 (Or.inl ne59)).other W67 (Or.inl ne59)).ext X73).other W83 (Or.inl ne80)).other W86 (Or.inl ne80)).other W89 (Or.inl ne80))
  have F93 := ((((((((F47.ext X53).other W61 (Or.inl ne59)).other W64 (Or.inl ne59)).other W67 (Or.inl ne59)).ext X73).other W83 (Or.inl ne80)).other W86 (Or.inl ne80)).other W89 (Or.inl ne80))
  have F94 := ((((((((F48.ext X53).other W61 (Or.inl ne59)).other W64 (Or.inl ne59)).other W67 (Or.inl ne59)).ext X73).other W83 (Or.inl ne80)).other W86 (Or.inl ne80)).other W89 (Or.inl ne80))
  have E95 := ((((E77.ext X73).wr W83).wr W86).wr W89)
  refine s_special (pc' := 150) (y := y0_init) (argsL := [(.ref b50), (.ref b2), (.ref b20), (.ref b70)]) (rest := [(.ref b36)]) A (ini l Z a0 hw n0 h88 A.size b36 b50 b2 b20 b70 E95 F91 F92 F93 F94 ge38) rfl (w4 hw) (w5 hw) (w3 hw) (w6 hw) (by decide) pd___I_I_I_I_V rfl (W := 1) (by decide) (by decide) (Nat.le_of_eq rfl) (by decide) (by decide) rfl rfl at_147 rfl fun T h102 v103 A Q104 => ?_
  obtain ⟨rfl, K96, E97, F98, F99, F100, F101⟩ := Q104
  refine Wp.stk (st' := [(.ref b36)]) rfl ?_
  refine s_astore (pc' := 152) (Ls' := #[iv q0, iv q1, iv q2, iv q3, iv d0, iv d1, iv d2, iv s0, iv s1, iv s2, iv s3, rv b2, rv b20, rv b36, U0, U0, U0]) A at_150 rfl rfl rfl ?_
  refine s_aload (pc' := 154) A at_152 rfl rfl rfl ?_
  refine s_iconst (pc' := 155) (z := (0 : Int32)) A at_154 rfl (by decide) ?_
  have V105 := (((((V75.ext X73).other W83 ne78).other W86 ne78).other W89 ne78).keep K96 (ninS ne43 nin0))
  refine s_virtual (pc' := 158) (y := y1_depth) (argsL := [(.int (0 : Int32))]) (rest := []) (z := y1_depth) A E97 (dep0 l Z a0 hw n0 h102 A.size b36 b2 s0 s1 s2 s3 F99 V105) (w18 hw) (w19 hw) (nf_same (C := "") (w21 hw)) (w21 hw) (w20 hw) (w3 hw) (w22 hw) (by decide) pd__I_I rfl (W := 0) (by decide) (by decide) (Nat.le_of_eq rfl) (by decide) (by decide) rfl rfl at_155 rfl fun T h106 v107 A Q108 => ?_
  obtain ⟨rfl, eh⟩ := Q108
  rw [eh] at A
  refine Wp.stk (st' := [(.int (s1 - s0))]) rfl ?_
  refine s_istore (pc' := 160) (Ls' := #[iv q0, iv q1, iv q2, iv q3, iv d0, iv d1, iv d2, iv s0, iv s1, iv s2, iv s3, rv b2, rv b20, rv b36, iv (s1 - s0), U0, U0]) A at_158 rfl rfl ?_
  refine s_aload (pc' := 162) A at_160 rfl rfl rfl ?_
  refine s_iconst (pc' := 163) (z := (1 : Int32)) A at_162 rfl (by decide) ?_
  refine s_virtual (pc' := 166) (y := y1_depth) (argsL := [(.int (1 : Int32))]) (rest := []) (z := y1_depth) A E97 (dep1 l Z a0 hw n0 h102 A.size b36 b2 s0 s1 s2 s3 F99 V105) (w18 hw) (w19 hw) (nf_same (C := "") (w21 hw)) (w21 hw) (w20 hw) (w3 hw) (w22 hw) (by decide) pd__I_I rfl (W := 0) (by decide) (by decide) (Nat.le_of_eq rfl) (by decide) (by decide) rfl rfl at_163 rfl fun T h109 v110 A Q111 => ?_
  obtain ⟨rfl, eh⟩ := Q111
  rw [eh] at A
  refine Wp.stk (st' := [(.int (s2 - s1))]) rfl ?_
  refine s_istore (pc' := 168) (Ls' := #[iv q0, iv q1, iv q2, iv q3, iv d0, iv d1, iv d2, iv s0, iv s1, iv s2, iv s3, rv b2, rv b20, rv b36, iv (s1 - s0), iv (s2 - s1), U0]) A at_166 rfl rfl ?_
  refine s_aload (pc' := 170) A at_168 rfl rfl rfl ?_
  refine s_iconst (pc' := 171) (z := (2 : Int32)) A at_170 rfl (by decide) ?_
  refine s_virtual (pc' := 174) (y := y1_depth) (argsL := [(.int (2 : Int32))]) (rest := []) (z := y1_depth) A E97 (dep2 l Z a0 hw n0 h102 A.size b36 b2 s0 s1 s2 s3 F99 V105) (w18 hw) (w19 hw) (nf_same (C := "") (w21 hw)) (w21 hw) (w20 hw) (w3 hw) (w22 hw) (by decide) pd__I_I rfl (W := 0) (by decide) (by decide) (Nat.le_of_eq rfl) (by decide) (by decide) rfl rfl at_171 rfl fun T h112 v113 A Q114 => ?_
  obtain ⟨rfl, eh⟩ := Q114
  rw [eh] at A
  refine Wp.stk (st' := [(.int (s3 - s2))]) rfl ?_
  refine s_istore (pc' := 176) (Ls' := #[iv q0, iv q1, iv q2, iv q3, iv d0, iv d1, iv d2, iv s0, iv s1, iv s2, iv s3, rv b2, rv b20, rv b36, iv (s1 - s0), iv (s2 - s1), iv (s3 - s2)]) A at_174 rfl rfl ?_
  refine s_iload (pc' := 178) A at_176 rfl rfl ?_
  refine s_iload (pc' := 180) A at_178 rfl rfl ?_
  refine s_icmpN (pc' := 183) A at_180 rfl (teq (show (s1 - s0) = d0 from (by have _ := rng32 s1; have _ := rng32 s0; have _ := rng32 (s1 - s0); have _ := c_isub s1 s0; have _ := rng32 d0; have _ := fd0; have _ := fd1; have _ := fd2; have _ := fs0; have _ := fs1; have _ := fs2; have _ := fs3; apply Int32.toInt_inj.mp; omega))).2 ?_
  refine s_iload (pc' := 185) A at_183 rfl rfl ?_
  refine s_iload (pc' := 187) A at_185 rfl rfl ?_
  refine s_icmpN (pc' := 190) A at_187 rfl (teq (show (s2 - s1) = d1 from (by have _ := rng32 s2; have _ := rng32 s1; have _ := rng32 (s2 - s1); have _ := c_isub s2 s1; have _ := rng32 d1; have _ := fd0; have _ := fd1; have _ := fd2; have _ := fs0; have _ := fs1; have _ := fs2; have _ := fs3; apply Int32.toInt_inj.mp; omega))).2 ?_
  refine s_iload (pc' := 192) A at_190 rfl rfl ?_
  refine s_iload (pc' := 194) A at_192 rfl rfl ?_
  refine s_icmpY (pc' := 199) A at_194 (teq (show (s3 - s2) = d2 from (by have _ := rng32 s3; have _ := rng32 s2; have _ := rng32 (s3 - s2); have _ := c_isub s3 s2; have _ := rng32 d2; have _ := fd0; have _ := fd1; have _ := fd2; have _ := fs0; have _ := fs1; have _ := fs2; have _ := fs3; apply Int32.toInt_inj.mp; omega))).1 (by decide) (by decide) ?_
  refine s_aload (pc' := 201) A at_199 rfl rfl rfl ?_
  refine s_iconst (pc' := 202) (z := (0 : Int32)) A at_201 rfl (by decide) ?_
  refine s_iload (pc' := 204) A at_202 rfl rfl ?_
  refine s_iconst (pc' := 205) (z := (1 : Int32)) A at_204 rfl (by decide) ?_
  refine s_isub (pc' := 206) (z := ((s1 - s0) - (1 : Int32))) A at_205 rfl rfl ?_
  have V115 := (((((V76.ext X73).other W83 ne79).other W86 ne79).other W89 ne79).keep K96 (ninS ne44 nin0))
  refine s_virtual (pc' := 209) (y := y2_component) (argsL := [(.int (0 : Int32)), (.int ((s1 - s0) - (1 : Int32)))]) (rest := []) (z := y2_component) A E97 (com0 l Z a0 hw n0 h102 A.size b36 b2 b20 s0 s1 s2 s3 ((s1 - s0) - (1 : Int32)) (101 : Int32) ((((List.replicate i3 (.int (0 : Int32))).set j1 (.int (101 : Int32))).set j2 (.int (102 : Int32))).set j3 (.int (103 : Int32))) j1 F99 V105 F100 V115 (by rw [gj1]; have _ := rng32 s0; have _ := rng32 s1; have _ := rng32 (s1 - s0); have _ := c_isub s1 s0; have _ : (1 : Int32).toInt = 1 := (by decide); have _ := rng32 ((s1 - s0) - (1 : Int32)); have _ := c_isub (s1 - s0) (1 : Int32); have _ := rng32 (s0 + ((s1 - s0) - (1 : Int32))); have _ := c_iadd s0 ((s1 - s0) - (1 : Int32)); omega) (by simp only [List.getElem?_set, List.length_set, List.length_replicate]; rw [if_neg (by omega), if_neg (by omega), if_pos trivial, if_pos (by omega)])) (w23 hw) (w24 hw) (nf_same (C := "") (w26 hw)) (w26 hw) (w25 hw) (w3 hw) (w27 hw) (by decide) pd__II_I rfl (W := 0) (by decide) (by decide) (Nat.le_of_eq rfl) (by decide) (by decide) rfl rfl at_206 rfl fun T h116 v117 A Q118 => ?_
  obtain ⟨rfl, eh⟩ := Q118
  rw [eh] at A
  refine Wp.stk (st' := [(.int (101 : Int32))]) rfl ?_
  refine s_bipush (pc' := 211) (z := (101 : Int32)) A at_209 rfl (by decide) ?_
  refine s_icmpN (pc' := 214) A at_211 rfl (by decide) ?_
  refine s_aload (pc' := 216) A at_214 rfl rfl rfl ?_
  refine s_iconst (pc' := 217) (z := (1 : Int32)) A at_216 rfl (by decide) ?_
  refine s_iload (pc' := 219) A at_217 rfl rfl ?_
  refine s_iconst (pc' := 220) (z := (1 : Int32)) A at_219 rfl (by decide) ?_
  refine s_isub (pc' := 221) (z := ((s2 - s1) - (1 : Int32))) A at_220 rfl rfl ?_
  refine s_virtual (pc' := 224) (y := y2_component) (argsL := [(.int (1 : Int32)), (.int ((s2 - s1) - (1 : Int32)))]) (rest := []) (z := y2_component) A E97 (com1 l Z a0 hw n0 h102 A.size b36 b2 b20 s0 s1 s2 s3 ((s2 - s1) - (1 : Int32)) (102 : Int32) ((((List.replicate i3 (.int (0 : Int32))).set j1 (.int (101 : Int32))).set j2 (.int (102 : Int32))).set j3 (.int (103 : Int32))) j2 F99 V105 F100 V115 (by rw [gj2]; have _ := rng32 s1; have _ := rng32 s2; have _ := rng32 (s2 - s1); have _ := c_isub s2 s1; have _ : (1 : Int32).toInt = 1 := (by decide); have _ := rng32 ((s2 - s1) - (1 : Int32)); have _ := c_isub (s2 - s1) (1 : Int32); have _ := rng32 (s1 + ((s2 - s1) - (1 : Int32))); have _ := c_iadd s1 ((s2 - s1) - (1 : Int32)); omega) (by simp only [List.getElem?_set, List.length_set, List.length_replicate]; rw [if_neg (by omega), if_pos trivial, if_pos (by omega)])) (w23 hw) (w24 hw) (nf_same (C := "") (w26 hw)) (w26 hw) (w25 hw) (w3 hw) (w27 hw) (by decide) pd__II_I rfl (W := 0) (by decide) (by decide) (Nat.le_of_eq rfl) (by decide) (by decide) rfl rfl at_221 rfl fun T h119 v120 A Q121 => ?_
  obtain ⟨rfl, eh⟩ := Q121
  rw [eh] at A
  refine Wp.stk (st' := [(.int (102 : Int32))]) rfl ?_
  refine s_bipush (pc' := 226) (z := (102 : Int32)) A at_224 rfl (by decide) ?_
  refine s_icmpN (pc' := 229) A at_226 rfl (by decide) ?_
  refine s_aload (pc' := 231) A at_229 rfl rfl rfl ?_
  refine s_iconst (pc' := 232) (z := (2 : Int32)) A at_231 rfl (by decide) ?_
  refine s_iload (pc' := 234) A at_232 rfl rfl ?_
  refine s_iconst (pc' := 235) (z := (1 : Int32)) A at_234 rfl (by decide) ?_
  refine s_isub (pc' := 236) (z := ((s3 - s2) - (1 : Int32))) A at_235 rfl rfl ?_
  refine s_virtual (pc' := 239) (y := y2_component) (argsL := [(.int (2 : Int32)), (.int ((s3 - s2) - (1 : Int32)))]) (rest := []) (z := y2_component) A E97 (com2 l Z a0 hw n0 h102 A.size b36 b2 b20 s0 s1 s2 s3 ((s3 - s2) - (1 : Int32)) (103 : Int32) ((((List.replicate i3 (.int (0 : Int32))).set j1 (.int (101 : Int32))).set j2 (.int (102 : Int32))).set j3 (.int (103 : Int32))) j3 F99 V105 F100 V115 (by rw [gj3]; have _ := rng32 s2; have _ := rng32 s3; have _ := rng32 (s3 - s2); have _ := c_isub s3 s2; have _ : (1 : Int32).toInt = 1 := (by decide); have _ := rng32 ((s3 - s2) - (1 : Int32)); have _ := c_isub (s3 - s2) (1 : Int32); have _ := rng32 (s2 + ((s3 - s2) - (1 : Int32))); have _ := c_iadd s2 ((s3 - s2) - (1 : Int32)); omega) (by simp only [List.getElem?_set, List.length_set, List.length_replicate]; rw [if_pos trivial, if_pos (by omega)])) (w23 hw) (w24 hw) (nf_same (C := "") (w26 hw)) (w26 hw) (w25 hw) (w3 hw) (w27 hw) (by decide) pd__II_I rfl (W := 0) (by decide) (by decide) (Nat.le_of_eq rfl) (by decide) (by decide) rfl rfl at_236 rfl fun T h122 v123 A Q124 => ?_
  obtain ⟨rfl, eh⟩ := Q124
  rw [eh] at A
  refine Wp.stk (st' := [(.int (103 : Int32))]) rfl ?_
  refine s_bipush (pc' := 241) (z := (103 : Int32)) A at_239 rfl (by decide) ?_
  refine s_icmpN (pc' := 244) A at_241 rfl (by decide) ?_
  refine s_iconst (pc' := 245) (z := (1 : Int32)) A at_244 rfl (by decide) ?_
  refine s_goto (pc' := 249) A at_245 (by decide) (by decide) ?_
  exact r_bool A rfl (by decide) at_249 (by decide) (by decide) (rfl)
set_option maxRecDepth 65536 in
set_option maxHeartbeats 40000000 in
theorem comes_1 {Post : Tables → Env → Array Value → State → Outcome → State → Prop} (hpost : ∀ tb e args s v u, (limb_1_1.after args s (.returned v) u = true ∧ limb_1_2.after args s (.returned v) u = true ∧ True) → FrameEnd s (.returned v) u (Jvm.fieldLocs frame_1_writes args s ++ Jvm.arrayLocs frame_1_arrays args s ++ Jvm.staticLocs frame_1_statics s) 24 576 → Post tb e args s (.returned v) u) :
    ArmFor flags0 classFile x code maxLocals ret World_1 tables_1 room_1 Calls_1 rest_1 Pre_1 Post := by
  intro l hfl _ _ p e ha hc hk s m args below hf hA hF happ hP
  obtain ⟨hcalls, hrest, hpre⟩ := hP
  obtain ⟨-, -, -, hnamed, -, -, -, hat⟩ := (Spec.applies_iff hf).mp happ
  obtain ⟨hg, hn⟩ := and_e (Cond.before_iff.mp (show (Jvm.Cond.and given_1 narrow_1).before args s = true from hpre))
  obtain ⟨hcnt, hg⟩ := and_e hg
  obtain ⟨w0, w1, w2, w3, rfl⟩ : ∃ w0 w1 w2 w3 : Value, args = #[w0, w1, w2, w3] := by
    have hs : args.size = 4 := by simpa [Cond.value, given_1] using hcnt
    obtain ⟨L⟩ := args
    match L, hs with
    | [w0, w1, w2, w3], _ => exact ⟨w0, w1, w2, w3, rfl⟩
  have hw := fun d (hd : d ∈ tables_1) => atoms_spec (ws := Jvm.Cond.code x code maxLocals ret :: tables_1) hat d (List.mem_cons_of_mem _ hd)
  have hfit : Fit s := fun {y c} hc i hi => by
    obtain ⟨ha, rfl⟩ := Array.getElem?_eq_some_iff.mp hc
    have q := List.all_eq_true.mp ((Array.all_eq_true_iff_forall_mem.mp hF) _ (Array.getElem_mem ha)) i (List.mem_range.mpr hi)
    simpa [Array.getElem?_eq_getElem hi] using q
  obtain ⟨g0, hg⟩ := and_e hg
  obtain ⟨x0, e0⟩ := is_v g0
  obtain rfl : w0 = (.int x0) := Option.some.inj e0
  obtain ⟨g1, hg⟩ := and_e hg
  obtain ⟨x1, e1⟩ := is_v g1
  obtain rfl : w1 = (.int x1) := Option.some.inj e1
  obtain ⟨g2, hg⟩ := and_e hg
  obtain ⟨x2, e2⟩ := is_v g2
  obtain rfl : w2 = (.int x2) := Option.some.inj e2
  obtain ⟨x3, e3⟩ := is_v hg
  obtain rfl : w3 = (.int x3) := Option.some.inj e3
  obtain ⟨n, o, h1, h2, h3, _, L, rfl, ⟨N, rfl⟩, hq⟩ := rm0 l s _ hw s.heap.size s.heap (Nat.le_refl _) x0 x1 x2 x3 tables_1 p e ha hc hk s m _ below hf ((Spec.applies_iff_loose hf).mp happ).1 ⟨rfl, State.Warmed39.refl s, rfl⟩ trivial
  refine ⟨n, _, h1, h2, h3, hpost _ _ _ _ _ _ ⟨Cond.after_iff.mpr rfl, Cond.after_iff.mpr (eq_i res_at (Term.int_eval (1)) rfl), trivial⟩ ⟨hq.1, hq.2.1, (hq.2.2.sift fun y hy => Or.inr (N y hy)).mono (by decide) (by decide)⟩⟩
theorem main_1_1 : Claimed_1_1 := comes_1 fun _ _ _ _ _ _ h hF => ⟨h.1, hF⟩
theorem main_1_2 : Claimed_1_2 := comes_1 fun _ _ _ _ _ _ h hF => ⟨h.2.1, hF⟩
end Jvm.Pilot.@@N@@
namespace Jvm.Pilot.@@N@@
open Jvm Jvm.ClassFile Sem Op Lib Jvm.Free Jvm.Stand Jvm.Pilot.@@N@@.Jvm.D
/-! MADE BY PROGRAM (witnessworld.py) out of the Statement's table words and the real class files: 9 classes; the members and pool entries that the words name. The judged class is class 1, her method 1. -/
namespace start1
open Jvm.ClassFile
def u (s : String) : CpInfo := .utf8 (stringToUtf16 s)
/-- a pool by its gaps: so many unusable entries, then the entry; so many at the end -/
def gap : Nat → List CpInfo → List CpInfo
  | 0, r => r
  | n + 1, r => .unusable :: gap n r
def poolList (es : List (Nat × CpInfo)) (last : Nat) : List CpInfo := es.foldr (fun e r => gap e.1 (e.2 :: r)) (gap last [])
def pool (es : List (Nat × CpInfo)) (last : Nat) : Array CpInfo := ⟨poolList es last⟩
def fileOf (pool : Array CpInfo) (this : Nat) (attrs : Array Attribute := #[]) (ms : Array MethodInfo := #[]) (fl : Nat := 33) (sup : Nat := 0) (ifs : Array Nat := #[]) (fds : Array FieldInfo := #[]) : ClassFile where
  minorVersion := 0
  majorVersion := 65
  constantPool := pool
  accessFlags := fl
  thisClass := this
  superClass := sup
  interfaces := ifs
  fields := fds
  methods := ms
  attributes := attrs
def plain (name : String) (sup : Option ClassId) : Class where
  name := name
  kind := .ordinary
  loader := none
  accessFlags := 33
  super := sup
  interfaces := #[]
  cf := none
  fields := #[]
  methods := #[]
  instanceTypes := #[]
  staticTypes := #[]
  resolved := #[]
  callSites := []
  init := .initialized
  statics := none
  mirror := none

def pool0 : Array CpInfo := pool [(5, u "<init>"), (0, u "()V"), (1, .class_ 10), (1, u "java/lang/Object")] 113

def k0c0 : Code := { maxStack := 0, maxLocals := 1, code := object_method_1_code, exceptionTable := #[], attributes := #[] }
def k0m0 : Method := { name := "<init>", desc := "()V", sig := { parameters := [], returnType := none }, accessFlags := 1, code := some k0c0 }
/-- java/lang/Object -/
def k0 : Class := { plain "java/lang/Object" none with
  accessFlags := 33
  interfaces := #[]
  cf := some (fileOf pool0 8 #[] #[{ accessFlags := 1, nameIndex := 5, descriptorIndex := 6, attributes := #[] }] 33 0 #[] #[])
  fields := #[]
  methods := #[k0m0]
  instanceTypes := #[]
  staticTypes := #[]
  resolved := Array.replicate 124 none
  statics := none }

def pool1 : Array CpInfo := pool [(2, .class_ 4), (1, u "java/lang/Object"), (0, u "<init>"), (0, u "()V"), (0, .class_ 8), (0, u "com/example/keys_into_trees/keysintotrees/index/DeweyPostings"), (0, .methodref 7 10), (0, .nameAndType 5 11), (0, u "([I[I[I[I)V"), (0, .methodref 7 13), (0, .nameAndType 14 15), (0, u "depth"), (0, u "(I)I"), (0, .methodref 7 17), (0, .nameAndType 18 19), (0, u "component"), (0, u "(II)I"), (0, .class_ 21), (0, u "com/example/keys_into_trees/keysintotrees/index/DeweyPostingsDepthPinLaw"), (2, u "law"), (0, u "(IIII)Z")] 5

def k1m0 : Method := { name := "<init>", desc := "()V", sig := { parameters := [], returnType := none }, accessFlags := 1, code := none }
def k1c1 : Code := { maxStack := 9, maxLocals := 17, code := code, exceptionTable := #[], attributes := #[] }
def k1m1 : Method := { name := "law", desc := "(IIII)Z", sig := { parameters := [.int, .int, .int, .int], returnType := some .boolean }, accessFlags := 9, code := some k1c1 }
/-- com/example/keys_into_trees/keysintotrees/index/DeweyPostingsDepthPinLaw -/
def k1 : Class := { plain "com/example/keys_into_trees/keysintotrees/index/DeweyPostingsDepthPinLaw" (some 0) with
  accessFlags := 49
  interfaces := #[]
  cf := some (fileOf pool1 20 #[] #[{ accessFlags := 1, nameIndex := 5, descriptorIndex := 6, attributes := #[] }, { accessFlags := 9, nameIndex := 24, descriptorIndex := 25, attributes := #[] }] 49 2 #[] #[])
  fields := #[]
  methods := #[k1m0, k1m1]
  instanceTypes := #[]
  staticTypes := #[]
  resolved := Array.replicate 31 none
  statics := none }

def pool2 : Array CpInfo := pool [(1, .methodref 2 3), (0, .class_ 4), (0, .nameAndType 5 6), (0, u "java/lang/Object"), (0, u "<init>"), (0, u "()V"), (0, .fieldref 8 9), (0, .class_ 10), (0, .nameAndType 11 12), (0, u "com/example/keys_into_trees/keysintotrees/index/DeweyPostings"), (0, u "documents"), (0, u "[I"), (0, .fieldref 8 14), (0, .nameAndType 15 12), (0, u "starts"), (0, .fieldref 8 17), (0, .nameAndType 18 12), (0, u "components"), (0, .fieldref 8 20), (0, .nameAndType 21 12), (0, u "frequencies"), (0, u "([I[I[I[I)V"), (5, u "(I)I"), (0, u "depth"), (0, u "component"), (0, u "(II)I")] 3

def k2c0 : Code := { maxStack := 2, maxLocals := 5, code := prog_11_method_1_code, exceptionTable := #[], attributes := #[] }
def k2m0 : Method := { name := "<init>", desc := "([I[I[I[I)V", sig := { parameters := [(.array .int), (.array .int), (.array .int), (.array .int)], returnType := none }, accessFlags := 0, code := some k2c0 }
def k2c1 : Code := { maxStack := 3, maxLocals := 2, code := prog_11_method_4_code, exceptionTable := #[], attributes := #[] }
def k2m1 : Method := { name := "depth", desc := "(I)I", sig := { parameters := [.int], returnType := some .int }, accessFlags := 1, code := some k2c1 }
def k2c2 : Code := { maxStack := 3, maxLocals := 3, code := prog_11_method_5_code, exceptionTable := #[], attributes := #[] }
def k2m2 : Method := { name := "component", desc := "(II)I", sig := { parameters := [.int, .int], returnType := some .int }, accessFlags := 1, code := some k2c2 }
/-- com/example/keys_into_trees/keysintotrees/index/DeweyPostings -/
def k2 : Class := { plain "com/example/keys_into_trees/keysintotrees/index/DeweyPostings" (some 0) with
  accessFlags := 49
  interfaces := #[]
  cf := some (fileOf pool2 8 #[] #[{ accessFlags := 0, nameIndex := 5, descriptorIndex := 22, attributes := #[] }, { accessFlags := 1, nameIndex := 29, descriptorIndex := 28, attributes := #[] }, { accessFlags := 1, nameIndex := 30, descriptorIndex := 31, attributes := #[] }] 49 2 #[] #[{ accessFlags := 18, nameIndex := 11, descriptorIndex := 12, attributes := #[] }, { accessFlags := 18, nameIndex := 15, descriptorIndex := 12, attributes := #[] }, { accessFlags := 18, nameIndex := 18, descriptorIndex := 12, attributes := #[] }, { accessFlags := 18, nameIndex := 21, descriptorIndex := 12, attributes := #[] }])
  fields := #[{ name := "documents", type := (.array .int), accessFlags := 18, slot := 0, constantValue := 0 }, { name := "starts", type := (.array .int), accessFlags := 18, slot := 1, constantValue := 0 }, { name := "components", type := (.array .int), accessFlags := 18, slot := 2, constantValue := 0 }, { name := "frequencies", type := (.array .int), accessFlags := 18, slot := 3, constantValue := 0 }]
  methods := #[k2m0, k2m1, k2m2]
  instanceTypes := #[(.array .int), (.array .int), (.array .int), (.array .int)]
  staticTypes := #[]
  resolved := Array.replicate 35 none
  statics := none }

def pool3 : Array CpInfo := pool [(1, u "java/lang/Cloneable"), (0, .class_ 1), (0, u "java/lang/Object"), (0, .class_ 3)] 3

/-- java/lang/Cloneable -/
def k3 : Class := { plain "java/lang/Cloneable" (some 0) with
  accessFlags := 1537
  interfaces := #[]
  cf := some (fileOf pool3 2 #[] #[] 1537 4 #[] #[])
  fields := #[]
  methods := #[]
  instanceTypes := #[]
  staticTypes := #[]
  resolved := Array.replicate 8 none
  statics := none }

def pool4 : Array CpInfo := pool [(1, u "java/io/Serializable"), (0, .class_ 1), (0, u "java/lang/Object"), (0, .class_ 3)] 3

/-- java/io/Serializable -/
def k4 : Class := { plain "java/io/Serializable" (some 0) with
  accessFlags := 1537
  interfaces := #[]
  cf := some (fileOf pool4 2 #[] #[] 1537 4 #[] #[])
  fields := #[]
  methods := #[]
  instanceTypes := #[]
  staticTypes := #[]
  resolved := Array.replicate 8 none
  statics := none }

/-- the primitive byte -/
def k5 : Class := { plain "byte" none with kind := .primitive 'B', accessFlags := 0x411 }
/-- [B -/
def k6 : Class := { plain "[B" (some 0) with kind := .array 5 .byte, interfaces := #[3, 4], accessFlags := 1041 }

/-- the primitive int -/
def k7 : Class := { plain "int" none with kind := .primitive 'I', accessFlags := 0x411 }
/-- [I -/
def k8 : Class := { plain "[I" (some 0) with kind := .array 7 .int, interfaces := #[3, 4], accessFlags := 1041 }

def heap : Heap := #[]
def classes : Array Class := #[k0, k1, k2, k3, k4, k5, k6, k7, k8]
def interned : List (Array UInt16 × Addr) := []
def slotsUsed : Nat := 0
def theMethod : MethodId := ⟨1, 1⟩
def args0 : Array Value := #[.int 5, .int 7, .int 9, .int 3]
def aboutOver (below : List Frame) : State where
  vm := { classes := classes, interned := interned.toArray }
  heap := heap
  slotsUsed := slotsUsed
  threads := #[{ frames := .invoking theMethod args0 :: below }]
def below0 : List Frame := [.native { method := ⟨0, 0⟩, args := #[] }]
def about1 : State := aboutOver below0
def p0 : Program := .bare "" "" ""
def e0 : Env := launch0.env 0 0 0
theorem w_frames : about1.frames = Frame.invoking theMethod args0 :: below0 := rfl
set_option maxRecDepth 65536 in
theorem w_args : argsFit about1.vm theMethod args0 = true := by decide +kernel
set_option maxRecDepth 65536 in
theorem w_heap : heapFits about1 = true := by decide +kernel
set_option maxRecDepth 65536 in
theorem w_runnable : about1.curStatus? = some .runnable := by decide +kernel
set_option maxRecDepth 65536 in
theorem w_alone : about1.alone = true := by decide +kernel
set_option maxRecDepth 65536 in
theorem w_named : about1.methodNamed? x = some theMethod := by decide +kernel
set_option maxRecDepth 65536 in
theorem w_hears : about1.hears theMethod below0 = true := by decide +kernel
set_option maxRecDepth 65536 in
theorem w_ripe : about1.ripe theMethod args0 below0 = true := by decide +kernel
theorem w_running : about1.status = .running := rfl
set_option maxRecDepth 65536 in
theorem w_room : about1.hasRoom e0.platform room_1 = true :=
  launch0.hasRoom_least _ room_1 (by decide +kernel) (by decide +kernel) (by decide +kernel) (by decide +kernel) (by decide +kernel) (by decide +kernel)
theorem allAtoms_all (ts : List Jvm.Cond) (a : Array Jvm.Value) (st : Jvm.State) : (allAtoms ts).before a st = ts.all (fun c => c.before a st) := by
  induction ts with
  | nil => rfl
  | cons c t ih =>
    show (Jvm.Cond.and c (allAtoms t)).before a st = _
    rw [Jvm.Cond.before_and, ih, List.all_cons]
def words1 : List Jvm.Cond := Jvm.Cond.code x code maxLocals ret :: tables_1
/-- a 'code' word, met by the world's own term for the bytes: nothing is compared byte by byte -/
theorem code_word {y : MethodName} {bytes : ByteArray} {mx : Nat} {rt : Option FieldType} {a : Array Value} {s : State} {m : MethodId} {meth : Method} {c : Code} (h1 : s.methodNamed? y = some m) (h2 : s.vm.method? m = some meth) (h3 : meth.code = some c) (h4 : c.code = bytes)
    (h5 : (c.maxLocals == mx && c.exceptionTable.isEmpty && decide (c.maxStack ≤ mostOperands) && decide (meth.sig.returnType = rt) && !meth.locks && decide (parseMethodDescriptor y.desc = some meth.sig)) = true) : (Jvm.Cond.code y bytes mx rt).before a s = true := by
  simp only [Bool.and_eq_true, beq_iff_eq, Bool.not_eq_true', decide_eq_true_eq] at h5
  obtain ⟨⟨⟨⟨⟨g1, g2⟩, g3⟩, g4⟩, g5⟩, g6⟩ := h5
  simp [Cond.before, Cond.holds, Cond.value, h1, h2, h3, h4, g1, g2, g3, g4, g5, g6]
def isCode : Jvm.Cond → Bool
  | .code _ _ _ _ => true
  | _ => false
theorem all_split {L : List Jvm.Cond} {P : Jvm.Cond → Bool} (h1 : L.all (fun c => isCode c || P c) = true) (h2 : ∀ c ∈ L.filter isCode, P c = true) : L.all P = true := by
  refine List.all_eq_true.mpr fun c hc => ?_
  have h := List.all_eq_true.mp h1 c hc
  rcases Bool.eq_false_or_eq_true (isCode c) with hi | hi
  · exact h2 c (List.mem_filter.mpr ⟨hc, hi⟩)
  · simpa [hi] using h
set_option maxRecDepth 65536 in
theorem w_c0 : (Jvm.Cond.code x code maxLocals ret).before args0 about1 = true := code_word (m := ⟨1, 1⟩) (meth := k1m1) (c := k1c1) (by decide +kernel) rfl rfl rfl (by decide +kernel)
set_option maxRecDepth 65536 in
theorem w_c1 : (Jvm.Cond.code ({ cls := "com/example/keys_into_trees/keysintotrees/index/DeweyPostings", name := "<init>", desc := "([I[I[I[I)V" } : Jvm.MethodName) prog_11_method_1_code (5 : Nat) (Option.none : Option Jvm.ClassFile.FieldType)).before args0 about1 = true := code_word (m := ⟨2, 0⟩) (meth := k2m0) (c := k2c0) (by decide +kernel) rfl rfl rfl (by decide +kernel)
set_option maxRecDepth 65536 in
theorem w_c2 : (Jvm.Cond.code ({ cls := "java/lang/Object", name := "<init>", desc := "()V" } : Jvm.MethodName) object_method_1_code (1 : Nat) (Option.none : Option Jvm.ClassFile.FieldType)).before args0 about1 = true := code_word (m := ⟨0, 0⟩) (meth := k0m0) (c := k0c0) (by decide +kernel) rfl rfl rfl (by decide +kernel)
set_option maxRecDepth 65536 in
theorem w_c3 : (Jvm.Cond.code ({ cls := "com/example/keys_into_trees/keysintotrees/index/DeweyPostings", name := "depth", desc := "(I)I" } : Jvm.MethodName) prog_11_method_4_code (2 : Nat) (Option.some Jvm.ClassFile.FieldType.int)).before args0 about1 = true := code_word (m := ⟨2, 1⟩) (meth := k2m1) (c := k2c1) (by decide +kernel) rfl rfl rfl (by decide +kernel)
set_option maxRecDepth 65536 in
theorem w_c4 : (Jvm.Cond.code ({ cls := "com/example/keys_into_trees/keysintotrees/index/DeweyPostings", name := "component", desc := "(II)I" } : Jvm.MethodName) prog_11_method_5_code (3 : Nat) (Option.some Jvm.ClassFile.FieldType.int)).before args0 about1 = true := code_word (m := ⟨2, 2⟩) (meth := k2m2) (c := k2c2) (by decide +kernel) rfl rfl rfl (by decide +kernel)
def codes1 : List Jvm.Cond := [Jvm.Cond.code x code maxLocals ret, Jvm.Cond.code ({ cls := "com/example/keys_into_trees/keysintotrees/index/DeweyPostings", name := "<init>", desc := "([I[I[I[I)V" } : Jvm.MethodName) prog_11_method_1_code (5 : Nat) (Option.none : Option Jvm.ClassFile.FieldType), Jvm.Cond.code ({ cls := "java/lang/Object", name := "<init>", desc := "()V" } : Jvm.MethodName) object_method_1_code (1 : Nat) (Option.none : Option Jvm.ClassFile.FieldType), Jvm.Cond.code ({ cls := "com/example/keys_into_trees/keysintotrees/index/DeweyPostings", name := "depth", desc := "(I)I" } : Jvm.MethodName) prog_11_method_4_code (2 : Nat) (Option.some Jvm.ClassFile.FieldType.int), Jvm.Cond.code ({ cls := "com/example/keys_into_trees/keysintotrees/index/DeweyPostings", name := "component", desc := "(II)I" } : Jvm.MethodName) prog_11_method_5_code (3 : Nat) (Option.some Jvm.ClassFile.FieldType.int)]
set_option maxRecDepth 65536 in
theorem codes_eq : words1.filter isCode = codes1 := rfl
theorem w_codes : ∀ c ∈ words1.filter isCode, c.before args0 about1 = true := by
  rw [codes_eq]
  intro c hc
  simp only [codes1, List.mem_cons, List.not_mem_nil, or_false] at hc
  rcases hc with rfl | rfl | rfl | rfl | rfl
  · exact w_c0
  · exact w_c1
  · exact w_c2
  · exact w_c3
  · exact w_c4
set_option maxRecDepth 65536 in
theorem w_t1 : (words1.take 24).all (fun c => isCode c || c.before args0 about1) = true := by decide +kernel
set_option maxRecDepth 65536 in
theorem w_t2 : (words1.drop 24).all (fun c => isCode c || c.before args0 about1) = true := by decide +kernel
theorem w_tables : (allAtoms (Jvm.Cond.code x code maxLocals ret :: tables_1)).before args0 about1 = true := by
  rw [allAtoms_all]
  show words1.all (fun c => c.before args0 about1) = true
  refine all_split ?_ w_codes
  rw [← List.take_append_drop 24 words1, List.all_append, w_t1, w_t2]
  rfl
set_option maxRecDepth 65536 in
theorem w_case : (Jvm.Cond.and given_1 narrow_1).before args0 about1 = true := by decide +kernel
theorem w_applies : (headSpec (Jvm.Cond.code x code maxLocals ret :: tables_1) room_1).applies x e0.platform about1 = true :=
  (Spec.applies_iff w_frames).mpr ⟨w_running, w_runnable, w_alone, w_named, w_hears, w_ripe, w_room, w_tables⟩
theorem atStart : AtStart classFile x code maxLocals ret World_1 tables_1 room_1 Calls_1 rest_1 Pre_1 launch0 p0 e0 about1 theMethod args0 below0 :=
  ⟨lists_1, trivial, launch0.admits_env _ _ _, launch0.least_env, fairChoices_fair.cas, fairChoices_fair.clock, w_frames, w_args, w_heap, w_applies, trivial, trivial, w_case⟩
end start1
theorem witness_1 : WitnessClaimed_1 := ⟨start1.p0, start1.e0, start1.about1, start1.theMethod, start1.args0, start1.below0, start1.atStart⟩
end Jvm.Pilot.@@N@@
