import JvmDerived
import JvmDerived.Pilot.@@N@@Statement
import JvmDerived.Pilot.@@N@@Code
set_option linter.unusedVariables false
set_option linter.unusedSimpArgs false
namespace Jvm.Ow
open Sem ClassFile Op Lib Jvm.Stand Jvm.Free Jvm.LawKit Jvm.RoadKit
abbrev jv (x : Int64) : Slot := .val (.long x)
abbrev U0 : Slot := .unset
abbrev S2 : Slot := .second
def ush (x y : Int32) : Int32 := (x.toUInt32 >>> (y &&& 31).toUInt32).toInt32
def ushL (x : Int64) (y : Int32) : Int64 := (x.toUInt64 >>> (y &&& 0x3f).toInt64.toUInt64).toInt64
def On (l : Launch) (Z : State) (n0 : Nat) (own : String) (bytes : ByteArray) (maxL : Nat) (ret : Option FieldType) (R : Room) (p : Program) (e : Env) (s : State) (m : MethodId) (args : Array Value) (below : List Frame) (meth : Method) (c : Code) (T : State) (h : Heap) (k n : Nat) : Prop :=
  ∃ locs, Stand p l e R s m args below meth c T locs k n ∧ Fr n0 locs ∧ T.heap = h ∧ p.tables.exec = Jvm.exec ∧ Z.Warmed39 s.vm ∧ c.code = bytes ∧ c.maxLocals = maxL ∧ s.vm.findClass own = some m.cls ∧ meth.sig.returnType = ret ∧ meth.locks = false ∧ n0 ≤ s.heap.size
def Wp (p : Program) (e : Env) (below : List Frame) (s : State) (n0 ck cs : Nat) (Q : Option Value → Heap → Prop) (U : State) : Prop :=
  ∃ t o, Steps p.tables e below U t ∧ t.status = .running ∧ Ended t below o ∧ ∃ v L, o = .returned v ∧ (Fr n0 L ∧ Q v t.heap) ∧ FrameEnd s o t L ck cs
def Met (l : Launch) (Z : State) (n0 : Nat) (y : MethodName) (bytes : ByteArray) (maxL : Nat) (ret : Option FieldType) (rm : Room) (as : Array Value) (h : Heap) (Q : Option Value → Heap → Prop) : Prop :=
  ∀ ws, MetFree l y (head1 (Cond.code y bytes maxL ret :: ws) rm) (fun a U => a = as ∧ Z.Warmed39 U.vm ∧ U.heap = h) (fun _ _ _ _ _ => True) (fun _ U o U' => ∃ v L, o = .returned v ∧ (Fr n0 L ∧ Q v U'.heap) ∧ FrameEnd U o U' L rm.cells rm.slots)
/-- an array of the component type ty, whose components are vs -/
def AA (Z : State) (h : Heap) (a : Addr) (ty : FieldType) (vs : List Value) : Prop := ∃ c : Cell, Arr Z h a c ty ∧ c.slots = vs.toArray ∧ vs.length < 2147483648
section Kit
variable {l : Launch} {Z : State} {n0 : Nat} {own : String} {bytes : ByteArray} {maxL : Nat} {ret : Option FieldType} {R : Room} {p : Program} {e : Env} {s : State} {m : MethodId} {args : Array Value} {below : List Frame} {meth : Method} {c : Code} {T : State} {h h' : Heap} {k n ck cs : Nat} {Q : Option Value → Heap → Prop} {pc pc' : Nat} {Ls Ls' : Array Slot} {st : List Value} {a0 : Array Value} {a b : Addr} {ty : FieldType} {vs : List Value} {sl : Nat} {v w : Value} {ws : List Addr}
theorem AA.ext (F : AA Z h a ty vs) (E : Ext h h') : AA Z h' a ty vs := by obtain ⟨c, A, r⟩ := F; exact ⟨c, A.ext E, r⟩
theorem AA.other (F : AA Z h b ty vs) (W : Wr h h' a sl v) (q : b ≠ a) : AA Z h' b ty vs := by obtain ⟨c, A, r⟩ := F; exact ⟨c, A.other W q, r⟩
theorem AA.keep (F : AA Z h a ty vs) (K : Keep h h' ws) (q : a ∉ ws) : AA Z h' a ty vs := by obtain ⟨c, A, r⟩ := F; exact ⟨c, ⟨K.2.1 a c A.1 q, A.2⟩, r⟩
theorem AA.set (F : AA Z h a ty vs) (W : Wr h h' a sl v) : AA Z h' a ty (vs.set sl v) := by
  obtain ⟨c, A, r1, r2⟩ := F
  exact ⟨_, A.same W, by simp [Cell.setSlot, r1], by simpa using r2⟩
theorem AA.lt (F : AA Z h a ty vs) : a < h.size := by obtain ⟨c, A, -⟩ := F; exact A.lt
theorem AA.len (F : AA Z h a ty vs) : vs.length < 2147483648 := F.choose_spec.2.2
theorem AA.cast {vs' : List Value} (F : AA Z h a ty vs) (q : vs = vs') : AA Z h a ty vs' := q ▸ F
theorem Fld.cast {C f d : String} (F : Fld Z h a C f d v) (q : v = w) : Fld Z h a C f d w := q ▸ F
theorem AA.new {cA : ClassId} {z : Int32} {i : Nat} (A : Arr Z h a (newA cA ty z) ty) (hz : z.toInt = (i : Int)) : AA Z h a ty (List.replicate i (defaultValue ty)) := by
  have q : z.toNatClampNeg = i := by show z.toInt.toNat = i; omega
  have := z.toInt_lt
  refine ⟨_, A, ?_, ?_⟩
  · simp [newA, q]
  · simp; omega
theorem AA.ne_exa {C : String} {kk : Nat} (F : AA Z h a ty vs) (E : Exa Z h b C) (wi : (Cond.instantiable C kk).before a0 Z = true) : b ≠ a := by obtain ⟨c, A, -⟩ := F; exact ne_arr E wi A
theorem lt_ne {x y z : Nat} (q : x < y) (r : y = z) : x ≠ z := by omega
theorem le_eq {x y z : Nat} (q : x ≤ y) (r : y = z) : x ≤ z := by omega
theorem On.size(A : On l Z n0 own bytes maxL ret R p e s m args below meth c T h k n) : n0 ≤ h.size := by
  obtain ⟨locs, X, N, eT, hx, hZ, hby, hml, hown, hret, hlk, hsz⟩ := A
  have := X.same.2.1
  subst eT
  exact Nat.le_trans hsz this
theorem Wp.goo {U U' : State} (f : ∀ t, Steps p.tables e below U' t → Steps p.tables e below U t) (K : Wp p e below s n0 ck cs Q U') : Wp p e below s n0 ck cs Q U := by
  obtain ⟨t, o, q, r⟩ := K; exact ⟨t, o, f t q, r⟩
theorem Wp.cast {g g' : JFrame} (q : g = g') (K : Wp p e below s n0 ck cs Q (T.setTop g')) : Wp p e below s n0 ck cs Q (T.setTop g) := q ▸ K
theorem Wp.stk {st' : List Value} (q : st = st') (K : Wp p e below s n0 ck cs Q (T.setTop (mkF m pc Ls st'))) : Wp p e below s n0 ck cs Q (T.setTop (mkF m pc Ls st)) := q ▸ K
theorem Wp.mono {Q' : Option Value → Heap → Prop} {U : State} (K : Wp p e below s n0 ck cs Q U) (q : ∀ v h, Q v h → Q' v h) : Wp p e below s n0 ck cs Q' U := by
  obtain ⟨t, o, h1, h2, h3, v, L, h4, ⟨h5, h6⟩, h7⟩ := K; exact ⟨t, o, h1, h2, h3, v, L, h4, ⟨h5, q _ _ h6⟩, h7⟩
theorem met_intro {y : MethodName} {rm : Room} {as : Array Value} (hpl : plainFor y = true) (ho : y.cls = own) (hsz : n0 ≤ h.size)
    (body : ∀ p e s m below meth c T, On l Z n0 own bytes maxL ret rm p e s m as below meth c T h 0 0 → meth.name = y.name → Wp p e below s n0 rm.cells rm.slots Q (T.setTop (entryFrame m as maxL))) : Met l Z n0 y bytes maxL ret rm as h Q := by
  subst ho
  intro ws
  refine MetFree.of_bodySF hpl hisR ?_
  intro p e s m args below meth c s₁ Bd hml0 hP hK
  obtain ⟨rfl, hZ, hh⟩ := hP
  have X0 : Stand p l e rm s m args below meth c s₁ [] 0 0 := Stand.of_body Bd
  have e0 : s₁.heap = h := by rw [← hh, Bd.state]; rfl
  exact body p e s m below meth c s₁ ⟨[], X0, Fr.nil n0, e0, Bd.exec, hZ, Bd.bytes, hml0, findClass_of_methodNamed Bd.named, Bd.returns, Bd.notSynchronized, by rw [hh]; exact hsz⟩ (name_of_methodNamed Bd.named Bd.method).1
theorem Met.mono {y : MethodName} {rm : Room} {as : Array Value} {Q' : Option Value → Heap → Prop} (M : Met l Z n0 y bytes maxL ret rm as h Q) (q : ∀ v h, Q v h → Q' v h) : Met l Z n0 y bytes maxL ret rm as h Q' := by
  intro ws p e ha hc hk s m args below hf happ hP hK
  obtain ⟨n, o, h1, h2, h3, v, L, h4, ⟨h5, h6⟩, h7⟩ := M ws p e ha hc hk s m args below hf happ hP hK
  exact ⟨n, o, h1, h2, h3, v, L, h4, ⟨h5, q _ _ h6⟩, h7⟩
theorem s_iloadN (A : On l Z n0 own bytes maxL ret R p e s m args below meth c T h k n) {i : Fin 4} {z : Int32} (hd : decode bytes pc = .ok (.iload_n i, 1)) (hp : pc + 1 = pc') (hl : Ls[i.val]? = some (.val (.int z))) (K : Wp p e below s n0 ck cs Q (T.setTop (mkF m pc' Ls (.int z :: st)))) : Wp p e below s n0 ck cs Q (T.setTop (mkF m pc Ls st)) := by
  obtain ⟨locs, X, N, eT, hx, hZ, hby, hml, hown, hret, hlk, hsz⟩ := A
  subst hp
  exact K.goo fun t q => XS.iloadN X.here hx rfl (hb hby hd) hl q
theorem s_lloadN (A : On l Z n0 own bytes maxL ret R p e s m args below meth c T h k n) {i : Fin 4} {z : Int64} (hd : decode bytes pc = .ok (.lload_n i, 1)) (hp : pc + 1 = pc') (hl : Ls[i.val]? = some (.val (.long z))) (K : Wp p e below s n0 ck cs Q (T.setTop (mkF m pc' Ls (.long z :: st)))) : Wp p e below s n0 ck cs Q (T.setTop (mkF m pc Ls st)) := by
  obtain ⟨locs, X, N, eT, hx, hZ, hby, hml, hown, hret, hlk, hsz⟩ := A
  subst hp
  exact K.goo fun t q => XS.lloadN X.here hx rfl (hb hby hd) hl q
theorem s_aloadN (A : On l Z n0 own bytes maxL ret R p e s m args below meth c T h k n) {i : Fin 4} (hd : decode bytes pc = .ok (.aload_n i, 1)) (hp : pc + 1 = pc') (hl : Ls[i.val]? = some (.val v)) (hv : v.isRef = true) (K : Wp p e below s n0 ck cs Q (T.setTop (mkF m pc' Ls (v :: st)))) : Wp p e below s n0 ck cs Q (T.setTop (mkF m pc Ls st)) := by
  obtain ⟨locs, X, N, eT, hx, hZ, hby, hml, hown, hret, hlk, hsz⟩ := A
  subst hp
  exact K.goo fun t q => XS.aloadN X.here hx rfl (hb hby hd) hl hv q
theorem s_istoreN (A : On l Z n0 own bytes maxL ret R p e s m args below meth c T h k n) {i : Fin 4} {z : Int32} (hd : decode bytes pc = .ok (.istore_n i, 1)) (hp : pc + 1 = pc') (hl : storeLocals Ls i.val (.int z) = some Ls') (K : Wp p e below s n0 ck cs Q (T.setTop (mkF m pc' Ls' st))) : Wp p e below s n0 ck cs Q (T.setTop (mkF m pc Ls (.int z :: st))) := by
  obtain ⟨locs, X, N, eT, hx, hZ, hby, hml, hown, hret, hlk, hsz⟩ := A
  subst hp
  exact K.goo fun t q => XS.istoreN X.here hx rfl (hb hby hd) rfl hl q
theorem s_lstoreN (A : On l Z n0 own bytes maxL ret R p e s m args below meth c T h k n) {i : Fin 4} {z : Int64} (hd : decode bytes pc = .ok (.lstore_n i, 1)) (hp : pc + 1 = pc') (hl : storeLocals Ls i.val (.long z) = some Ls') (K : Wp p e below s n0 ck cs Q (T.setTop (mkF m pc' Ls' st))) : Wp p e below s n0 ck cs Q (T.setTop (mkF m pc Ls (.long z :: st))) := by
  obtain ⟨locs, X, N, eT, hx, hZ, hby, hml, hown, hret, hlk, hsz⟩ := A
  subst hp
  exact K.goo fun t q => XS.lstoreN X.here hx rfl (hb hby hd) rfl hl q
theorem s_astoreN (A : On l Z n0 own bytes maxL ret R p e s m args below meth c T h k n) {i : Fin 4} (hd : decode bytes pc = .ok (.astore_n i, 1)) (hp : pc + 1 = pc') (hv : v.isRef = true) (hl : storeLocals Ls i.val v = some Ls') (K : Wp p e below s n0 ck cs Q (T.setTop (mkF m pc' Ls' st))) : Wp p e below s n0 ck cs Q (T.setTop (mkF m pc Ls (v :: st))) := by
  obtain ⟨locs, X, N, eT, hx, hZ, hby, hml, hown, hret, hlk, hsz⟩ := A
  subst hp
  exact K.goo fun t q => XS.astoreN X.here hx rfl (hb hby hd) rfl hv hl q
theorem s_iload (A : On l Z n0 own bytes maxL ret R p e s m args below meth c T h k n) {i : Nat} {z : Int32} (hd : decode bytes pc = .ok (.iload i, 2)) (hp : pc + 2 = pc') (hl : Ls[i]? = some (.val (.int z))) (K : Wp p e below s n0 ck cs Q (T.setTop (mkF m pc' Ls (.int z :: st)))) : Wp p e below s n0 ck cs Q (T.setTop (mkF m pc Ls st)) := by
  obtain ⟨locs, X, N, eT, hx, hZ, hby, hml, hown, hret, hlk, hsz⟩ := A
  subst hp
  exact K.goo fun t q => XS.iload X.here hx rfl (hb hby hd) hl q
theorem s_lload (A : On l Z n0 own bytes maxL ret R p e s m args below meth c T h k n) {i : Nat} {z : Int64} (hd : decode bytes pc = .ok (.lload i, 2)) (hp : pc + 2 = pc') (hl : Ls[i]? = some (.val (.long z))) (K : Wp p e below s n0 ck cs Q (T.setTop (mkF m pc' Ls (.long z :: st)))) : Wp p e below s n0 ck cs Q (T.setTop (mkF m pc Ls st)) := by
  obtain ⟨locs, X, N, eT, hx, hZ, hby, hml, hown, hret, hlk, hsz⟩ := A
  subst hp
  exact K.goo fun t q => XS.lload X.here hx rfl (hb hby hd) hl q
theorem s_aload (A : On l Z n0 own bytes maxL ret R p e s m args below meth c T h k n) {i : Nat} (hd : decode bytes pc = .ok (.aload i, 2)) (hp : pc + 2 = pc') (hl : Ls[i]? = some (.val v)) (hv : v.isRef = true) (K : Wp p e below s n0 ck cs Q (T.setTop (mkF m pc' Ls (v :: st)))) : Wp p e below s n0 ck cs Q (T.setTop (mkF m pc Ls st)) := by
  obtain ⟨locs, X, N, eT, hx, hZ, hby, hml, hown, hret, hlk, hsz⟩ := A
  subst hp
  exact K.goo fun t q => XS.aload X.here hx rfl (hb hby hd) hl hv q
theorem s_istore (A : On l Z n0 own bytes maxL ret R p e s m args below meth c T h k n) {i : Nat} {z : Int32} (hd : decode bytes pc = .ok (.istore i, 2)) (hp : pc + 2 = pc') (hl : storeLocals Ls i (.int z) = some Ls') (K : Wp p e below s n0 ck cs Q (T.setTop (mkF m pc' Ls' st))) : Wp p e below s n0 ck cs Q (T.setTop (mkF m pc Ls (.int z :: st))) := by
  obtain ⟨locs, X, N, eT, hx, hZ, hby, hml, hown, hret, hlk, hsz⟩ := A
  subst hp
  exact K.goo fun t q => XS.istore X.here hx rfl (hb hby hd) rfl hl q
theorem s_lstore (A : On l Z n0 own bytes maxL ret R p e s m args below meth c T h k n) {i : Nat} {z : Int64} (hd : decode bytes pc = .ok (.lstore i, 2)) (hp : pc + 2 = pc') (hl : storeLocals Ls i (.long z) = some Ls') (K : Wp p e below s n0 ck cs Q (T.setTop (mkF m pc' Ls' st))) : Wp p e below s n0 ck cs Q (T.setTop (mkF m pc Ls (.long z :: st))) := by
  obtain ⟨locs, X, N, eT, hx, hZ, hby, hml, hown, hret, hlk, hsz⟩ := A
  subst hp
  exact K.goo fun t q => XS.lstore X.here hx rfl (hb hby hd) rfl hl q
theorem s_astore (A : On l Z n0 own bytes maxL ret R p e s m args below meth c T h k n) {i : Nat} (hd : decode bytes pc = .ok (.astore i, 2)) (hp : pc + 2 = pc') (hv : v.isRef = true) (hl : storeLocals Ls i v = some Ls') (K : Wp p e below s n0 ck cs Q (T.setTop (mkF m pc' Ls' st))) : Wp p e below s n0 ck cs Q (T.setTop (mkF m pc Ls (v :: st))) := by
  obtain ⟨locs, X, N, eT, hx, hZ, hby, hml, hown, hret, hlk, hsz⟩ := A
  subst hp
  exact K.goo fun t q => XS.astore X.here hx rfl (hb hby hd) rfl hv hl q
theorem s_iconst (A : On l Z n0 own bytes maxL ret R p e s m args below meth c T h k n) {i : Int} {z : Int32} (hd : decode bytes pc = .ok (.iconst i, 1)) (hp : pc + 1 = pc') (hz : Int32.ofInt i = z) (K : Wp p e below s n0 ck cs Q (T.setTop (mkF m pc' Ls (.int z :: st)))) : Wp p e below s n0 ck cs Q (T.setTop (mkF m pc Ls st)) := by
  obtain ⟨locs, X, N, eT, hx, hZ, hby, hml, hown, hret, hlk, hsz⟩ := A
  subst hp
  subst hz
  exact K.goo fun t q => XS.iconst X.here hx rfl (hb hby hd) q
theorem s_bipush (A : On l Z n0 own bytes maxL ret R p e s m args below meth c T h k n) {i : Int} {z : Int32} (hd : decode bytes pc = .ok (.bipush i, 2)) (hp : pc + 2 = pc') (hz : (Int8.ofInt i).toInt32 = z) (K : Wp p e below s n0 ck cs Q (T.setTop (mkF m pc' Ls (.int z :: st)))) : Wp p e below s n0 ck cs Q (T.setTop (mkF m pc Ls st)) := by
  obtain ⟨locs, X, N, eT, hx, hZ, hby, hml, hown, hret, hlk, hsz⟩ := A
  subst hp
  subst hz
  exact K.goo fun t q => XS.bipush X.here hx rfl (hb hby hd) q
theorem s_sipush (A : On l Z n0 own bytes maxL ret R p e s m args below meth c T h k n) {i : Int} {z : Int32} (hd : decode bytes pc = .ok (.sipush i, 3)) (hp : pc + 3 = pc') (hz : (Int16.ofInt i).toInt32 = z) (K : Wp p e below s n0 ck cs Q (T.setTop (mkF m pc' Ls (.int z :: st)))) : Wp p e below s n0 ck cs Q (T.setTop (mkF m pc Ls st)) := by
  obtain ⟨locs, X, N, eT, hx, hZ, hby, hml, hown, hret, hlk, hsz⟩ := A
  subst hp
  subst hz
  exact K.goo fun t q => XS.sipush X.here hx rfl (hb hby hd) q
theorem s_lconst (A : On l Z n0 own bytes maxL ret R p e s m args below meth c T h k n) {i : Fin 2} {z : Int64} (hd : decode bytes pc = .ok (.lconst i, 1)) (hp : pc + 1 = pc') (hz : Int64.ofNat i = z) (K : Wp p e below s n0 ck cs Q (T.setTop (mkF m pc' Ls (.long z :: st)))) : Wp p e below s n0 ck cs Q (T.setTop (mkF m pc Ls st)) := by
  obtain ⟨locs, X, N, eT, hx, hZ, hby, hml, hown, hret, hlk, hsz⟩ := A
  subst hp
  subst hz
  exact K.goo fun t q => XS.lconst X.here hx rfl (hb hby hd) q
theorem s_aconstNull (A : On l Z n0 own bytes maxL ret R p e s m args below meth c T h k n)  (hd : decode bytes pc = .ok (.aconst_null, 1)) (hp : pc + 1 = pc') (K : Wp p e below s n0 ck cs Q (T.setTop (mkF m pc' Ls (.null :: st)))) : Wp p e below s n0 ck cs Q (T.setTop (mkF m pc Ls st)) := by
  obtain ⟨locs, X, N, eT, hx, hZ, hby, hml, hown, hret, hlk, hsz⟩ := A
  subst hp
  exact K.goo fun t q => XS.aconstNull X.here hx rfl (hb hby hd) q
theorem s_iadd (A : On l Z n0 own bytes maxL ret R p e s m args below meth c T h k n) {x y z : Int32} (hd : decode bytes pc = .ok (.iadd, 1)) (hp : pc + 1 = pc') (hz : x + y = z) (K : Wp p e below s n0 ck cs Q (T.setTop (mkF m pc' Ls (.int z :: st)))) : Wp p e below s n0 ck cs Q (T.setTop (mkF m pc Ls (.int y :: .int x :: st))) := by
  obtain ⟨locs, X, N, eT, hx, hZ, hby, hml, hown, hret, hlk, hsz⟩ := A
  subst hp
  subst hz
  exact K.goo fun t q => XS.iadd X.here hx rfl (hb hby hd) rfl q
theorem s_ladd (A : On l Z n0 own bytes maxL ret R p e s m args below meth c T h k n) {x y z : Int64} (hd : decode bytes pc = .ok (.ladd, 1)) (hp : pc + 1 = pc') (hz : x + y = z) (K : Wp p e below s n0 ck cs Q (T.setTop (mkF m pc' Ls (.long z :: st)))) : Wp p e below s n0 ck cs Q (T.setTop (mkF m pc Ls (.long y :: .long x :: st))) := by
  obtain ⟨locs, X, N, eT, hx, hZ, hby, hml, hown, hret, hlk, hsz⟩ := A
  subst hp
  subst hz
  exact K.goo fun t q => XS.ladd X.here hx rfl (hb hby hd) rfl q
theorem s_isub (A : On l Z n0 own bytes maxL ret R p e s m args below meth c T h k n) {x y z : Int32} (hd : decode bytes pc = .ok (.isub, 1)) (hp : pc + 1 = pc') (hz : x - y = z) (K : Wp p e below s n0 ck cs Q (T.setTop (mkF m pc' Ls (.int z :: st)))) : Wp p e below s n0 ck cs Q (T.setTop (mkF m pc Ls (.int y :: .int x :: st))) := by
  obtain ⟨locs, X, N, eT, hx, hZ, hby, hml, hown, hret, hlk, hsz⟩ := A
  subst hp
  subst hz
  exact K.goo fun t q => XS.isub X.here hx rfl (hb hby hd) rfl q
theorem s_lsub (A : On l Z n0 own bytes maxL ret R p e s m args below meth c T h k n) {x y z : Int64} (hd : decode bytes pc = .ok (.lsub, 1)) (hp : pc + 1 = pc') (hz : x - y = z) (K : Wp p e below s n0 ck cs Q (T.setTop (mkF m pc' Ls (.long z :: st)))) : Wp p e below s n0 ck cs Q (T.setTop (mkF m pc Ls (.long y :: .long x :: st))) := by
  obtain ⟨locs, X, N, eT, hx, hZ, hby, hml, hown, hret, hlk, hsz⟩ := A
  subst hp
  subst hz
  exact K.goo fun t q => XS.lsub X.here hx rfl (hb hby hd) rfl q
theorem s_imul (A : On l Z n0 own bytes maxL ret R p e s m args below meth c T h k n) {x y z : Int32} (hd : decode bytes pc = .ok (.imul, 1)) (hp : pc + 1 = pc') (hz : x * y = z) (K : Wp p e below s n0 ck cs Q (T.setTop (mkF m pc' Ls (.int z :: st)))) : Wp p e below s n0 ck cs Q (T.setTop (mkF m pc Ls (.int y :: .int x :: st))) := by
  obtain ⟨locs, X, N, eT, hx, hZ, hby, hml, hown, hret, hlk, hsz⟩ := A
  subst hp
  subst hz
  exact K.goo fun t q => XS.imul X.here hx rfl (hb hby hd) rfl q
theorem s_lmul (A : On l Z n0 own bytes maxL ret R p e s m args below meth c T h k n) {x y z : Int64} (hd : decode bytes pc = .ok (.lmul, 1)) (hp : pc + 1 = pc') (hz : x * y = z) (K : Wp p e below s n0 ck cs Q (T.setTop (mkF m pc' Ls (.long z :: st)))) : Wp p e below s n0 ck cs Q (T.setTop (mkF m pc Ls (.long y :: .long x :: st))) := by
  obtain ⟨locs, X, N, eT, hx, hZ, hby, hml, hown, hret, hlk, hsz⟩ := A
  subst hp
  subst hz
  exact K.goo fun t q => XS.lmul X.here hx rfl (hb hby hd) rfl q
theorem s_iand (A : On l Z n0 own bytes maxL ret R p e s m args below meth c T h k n) {x y z : Int32} (hd : decode bytes pc = .ok (.iand, 1)) (hp : pc + 1 = pc') (hz : x &&& y = z) (K : Wp p e below s n0 ck cs Q (T.setTop (mkF m pc' Ls (.int z :: st)))) : Wp p e below s n0 ck cs Q (T.setTop (mkF m pc Ls (.int y :: .int x :: st))) := by
  obtain ⟨locs, X, N, eT, hx, hZ, hby, hml, hown, hret, hlk, hsz⟩ := A
  subst hp
  subst hz
  exact K.goo fun t q => XS.iand X.here hx rfl (hb hby hd) rfl q
theorem s_land (A : On l Z n0 own bytes maxL ret R p e s m args below meth c T h k n) {x y z : Int64} (hd : decode bytes pc = .ok (.land, 1)) (hp : pc + 1 = pc') (hz : x &&& y = z) (K : Wp p e below s n0 ck cs Q (T.setTop (mkF m pc' Ls (.long z :: st)))) : Wp p e below s n0 ck cs Q (T.setTop (mkF m pc Ls (.long y :: .long x :: st))) := by
  obtain ⟨locs, X, N, eT, hx, hZ, hby, hml, hown, hret, hlk, hsz⟩ := A
  subst hp
  subst hz
  exact K.goo fun t q => XS.land X.here hx rfl (hb hby hd) rfl q
theorem s_ior (A : On l Z n0 own bytes maxL ret R p e s m args below meth c T h k n) {x y z : Int32} (hd : decode bytes pc = .ok (.ior, 1)) (hp : pc + 1 = pc') (hz : x ||| y = z) (K : Wp p e below s n0 ck cs Q (T.setTop (mkF m pc' Ls (.int z :: st)))) : Wp p e below s n0 ck cs Q (T.setTop (mkF m pc Ls (.int y :: .int x :: st))) := by
  obtain ⟨locs, X, N, eT, hx, hZ, hby, hml, hown, hret, hlk, hsz⟩ := A
  subst hp
  subst hz
  exact K.goo fun t q => XS.ior X.here hx rfl (hb hby hd) rfl q
theorem s_lor (A : On l Z n0 own bytes maxL ret R p e s m args below meth c T h k n) {x y z : Int64} (hd : decode bytes pc = .ok (.lor, 1)) (hp : pc + 1 = pc') (hz : x ||| y = z) (K : Wp p e below s n0 ck cs Q (T.setTop (mkF m pc' Ls (.long z :: st)))) : Wp p e below s n0 ck cs Q (T.setTop (mkF m pc Ls (.long y :: .long x :: st))) := by
  obtain ⟨locs, X, N, eT, hx, hZ, hby, hml, hown, hret, hlk, hsz⟩ := A
  subst hp
  subst hz
  exact K.goo fun t q => XS.lor X.here hx rfl (hb hby hd) rfl q
theorem s_ixor (A : On l Z n0 own bytes maxL ret R p e s m args below meth c T h k n) {x y z : Int32} (hd : decode bytes pc = .ok (.ixor, 1)) (hp : pc + 1 = pc') (hz : x ^^^ y = z) (K : Wp p e below s n0 ck cs Q (T.setTop (mkF m pc' Ls (.int z :: st)))) : Wp p e below s n0 ck cs Q (T.setTop (mkF m pc Ls (.int y :: .int x :: st))) := by
  obtain ⟨locs, X, N, eT, hx, hZ, hby, hml, hown, hret, hlk, hsz⟩ := A
  subst hp
  subst hz
  exact K.goo fun t q => XS.ixor X.here hx rfl (hb hby hd) rfl q
theorem s_lxor (A : On l Z n0 own bytes maxL ret R p e s m args below meth c T h k n) {x y z : Int64} (hd : decode bytes pc = .ok (.lxor, 1)) (hp : pc + 1 = pc') (hz : x ^^^ y = z) (K : Wp p e below s n0 ck cs Q (T.setTop (mkF m pc' Ls (.long z :: st)))) : Wp p e below s n0 ck cs Q (T.setTop (mkF m pc Ls (.long y :: .long x :: st))) := by
  obtain ⟨locs, X, N, eT, hx, hZ, hby, hml, hown, hret, hlk, hsz⟩ := A
  subst hp
  subst hz
  exact K.goo fun t q => XS.lxor X.here hx rfl (hb hby hd) rfl q
theorem s_idiv (A : On l Z n0 own bytes maxL ret R p e s m args below meth c T h k n) {x y z : Int32} (hd : decode bytes pc = .ok (.idiv, 1)) (hp : pc + 1 = pc') (hy : y ≠ 0) (hz : x / y = z) (K : Wp p e below s n0 ck cs Q (T.setTop (mkF m pc' Ls (.int z :: st)))) : Wp p e below s n0 ck cs Q (T.setTop (mkF m pc Ls (.int y :: .int x :: st))) := by
  obtain ⟨locs, X, N, eT, hx, hZ, hby, hml, hown, hret, hlk, hsz⟩ := A
  subst hp
  subst hz
  exact K.goo fun t q => XS.idiv X.here hx rfl (hb hby hd) rfl hy q
theorem s_ldiv (A : On l Z n0 own bytes maxL ret R p e s m args below meth c T h k n) {x y z : Int64} (hd : decode bytes pc = .ok (.ldiv, 1)) (hp : pc + 1 = pc') (hy : y ≠ 0) (hz : x / y = z) (K : Wp p e below s n0 ck cs Q (T.setTop (mkF m pc' Ls (.long z :: st)))) : Wp p e below s n0 ck cs Q (T.setTop (mkF m pc Ls (.long y :: .long x :: st))) := by
  obtain ⟨locs, X, N, eT, hx, hZ, hby, hml, hown, hret, hlk, hsz⟩ := A
  subst hp
  subst hz
  exact K.goo fun t q => XS.ldiv X.here hx rfl (hb hby hd) rfl hy q
theorem s_irem (A : On l Z n0 own bytes maxL ret R p e s m args below meth c T h k n) {x y z : Int32} (hd : decode bytes pc = .ok (.irem, 1)) (hp : pc + 1 = pc') (hy : y ≠ 0) (hz : x % y = z) (K : Wp p e below s n0 ck cs Q (T.setTop (mkF m pc' Ls (.int z :: st)))) : Wp p e below s n0 ck cs Q (T.setTop (mkF m pc Ls (.int y :: .int x :: st))) := by
  obtain ⟨locs, X, N, eT, hx, hZ, hby, hml, hown, hret, hlk, hsz⟩ := A
  subst hp
  subst hz
  exact K.goo fun t q => iremM X hx rfl (hb hby hd) rfl hy q
theorem s_ineg (A : On l Z n0 own bytes maxL ret R p e s m args below meth c T h k n) {x z : Int32} (hd : decode bytes pc = .ok (.ineg, 1)) (hp : pc + 1 = pc') (hz : -x = z) (K : Wp p e below s n0 ck cs Q (T.setTop (mkF m pc' Ls (.int z :: st)))) : Wp p e below s n0 ck cs Q (T.setTop (mkF m pc Ls (.int x :: st))) := by
  obtain ⟨locs, X, N, eT, hx, hZ, hby, hml, hown, hret, hlk, hsz⟩ := A
  subst hp
  subst hz
  exact K.goo fun t q => XS.ineg X.here hx rfl (hb hby hd) rfl q
theorem s_ishl (A : On l Z n0 own bytes maxL ret R p e s m args below meth c T h k n) {x y z : Int32} (hd : decode bytes pc = .ok (.ishl, 1)) (hp : pc + 1 = pc') (hz : x <<< (y &&& 31) = z) (K : Wp p e below s n0 ck cs Q (T.setTop (mkF m pc' Ls (.int z :: st)))) : Wp p e below s n0 ck cs Q (T.setTop (mkF m pc Ls (.int y :: .int x :: st))) := by
  obtain ⟨locs, X, N, eT, hx, hZ, hby, hml, hown, hret, hlk, hsz⟩ := A
  subst hp
  subst hz
  exact K.goo fun t q => XS.ishl X.here hx rfl (hb hby hd) rfl q
theorem s_ishr (A : On l Z n0 own bytes maxL ret R p e s m args below meth c T h k n) {x y z : Int32} (hd : decode bytes pc = .ok (.ishr, 1)) (hp : pc + 1 = pc') (hz : x >>> (y &&& 31) = z) (K : Wp p e below s n0 ck cs Q (T.setTop (mkF m pc' Ls (.int z :: st)))) : Wp p e below s n0 ck cs Q (T.setTop (mkF m pc Ls (.int y :: .int x :: st))) := by
  obtain ⟨locs, X, N, eT, hx, hZ, hby, hml, hown, hret, hlk, hsz⟩ := A
  subst hp
  subst hz
  exact K.goo fun t q => XS.ishr X.here hx rfl (hb hby hd) rfl q
theorem s_iushr (A : On l Z n0 own bytes maxL ret R p e s m args below meth c T h k n) {x y z : Int32} (hd : decode bytes pc = .ok (.iushr, 1)) (hp : pc + 1 = pc') (hz : ush x y = z) (K : Wp p e below s n0 ck cs Q (T.setTop (mkF m pc' Ls (.int z :: st)))) : Wp p e below s n0 ck cs Q (T.setTop (mkF m pc Ls (.int y :: .int x :: st))) := by
  obtain ⟨locs, X, N, eT, hx, hZ, hby, hml, hown, hret, hlk, hsz⟩ := A
  subst hp
  subst hz
  exact K.goo fun t q => XS.iushr X.here hx rfl (hb hby hd) rfl q
theorem s_lshl (A : On l Z n0 own bytes maxL ret R p e s m args below meth c T h k n) {x z : Int64} {y : Int32} (hd : decode bytes pc = .ok (.lshl, 1)) (hp : pc + 1 = pc') (hz : x <<< (y &&& 0x3f).toInt64 = z) (K : Wp p e below s n0 ck cs Q (T.setTop (mkF m pc' Ls (.long z :: st)))) : Wp p e below s n0 ck cs Q (T.setTop (mkF m pc Ls (.int y :: .long x :: st))) := by
  obtain ⟨locs, X, N, eT, hx, hZ, hby, hml, hown, hret, hlk, hsz⟩ := A
  subst hp
  subst hz
  exact K.goo fun t q => XS.lshl X.here hx rfl (hb hby hd) rfl q
theorem s_lshr (A : On l Z n0 own bytes maxL ret R p e s m args below meth c T h k n) {x z : Int64} {y : Int32} (hd : decode bytes pc = .ok (.lshr, 1)) (hp : pc + 1 = pc') (hz : x >>> (y &&& 0x3f).toInt64 = z) (K : Wp p e below s n0 ck cs Q (T.setTop (mkF m pc' Ls (.long z :: st)))) : Wp p e below s n0 ck cs Q (T.setTop (mkF m pc Ls (.int y :: .long x :: st))) := by
  obtain ⟨locs, X, N, eT, hx, hZ, hby, hml, hown, hret, hlk, hsz⟩ := A
  subst hp
  subst hz
  exact K.goo fun t q => XS.lshr X.here hx rfl (hb hby hd) rfl q
theorem s_lushr (A : On l Z n0 own bytes maxL ret R p e s m args below meth c T h k n) {x z : Int64} {y : Int32} (hd : decode bytes pc = .ok (.lushr, 1)) (hp : pc + 1 = pc') (hz : ushL x y = z) (K : Wp p e below s n0 ck cs Q (T.setTop (mkF m pc' Ls (.long z :: st)))) : Wp p e below s n0 ck cs Q (T.setTop (mkF m pc Ls (.int y :: .long x :: st))) := by
  obtain ⟨locs, X, N, eT, hx, hZ, hby, hml, hown, hret, hlk, hsz⟩ := A
  subst hp
  subst hz
  exact K.goo fun t q => XS.lushr X.here hx rfl (hb hby hd) rfl q
theorem s_lcmp (A : On l Z n0 own bytes maxL ret R p e s m args below meth c T h k n) {x y : Int64} (hd : decode bytes pc = .ok (.lcmp, 1)) (hp : pc + 1 = pc') (K : Wp p e below s n0 ck cs Q (T.setTop (mkF m pc' Ls (.int (lcmpW x y) :: st)))) : Wp p e below s n0 ck cs Q (T.setTop (mkF m pc Ls (.long y :: .long x :: st))) := by
  obtain ⟨locs, X, N, eT, hx, hZ, hby, hml, hown, hret, hlk, hsz⟩ := A
  subst hp
  exact K.goo fun t q => XS.lcmp X.here hx rfl (hb hby hd) rfl q
theorem s_i2l (A : On l Z n0 own bytes maxL ret R p e s m args below meth c T h k n) {x : Int32} {z : Int64} (hd : decode bytes pc = .ok (.i2l, 1)) (hp : pc + 1 = pc') (hz : x.toInt64 = z) (K : Wp p e below s n0 ck cs Q (T.setTop (mkF m pc' Ls (.long z :: st)))) : Wp p e below s n0 ck cs Q (T.setTop (mkF m pc Ls (.int x :: st))) := by
  obtain ⟨locs, X, N, eT, hx, hZ, hby, hml, hown, hret, hlk, hsz⟩ := A
  subst hp
  subst hz
  exact K.goo fun t q => XS.i2l X.here hx rfl (hb hby hd) rfl q
theorem s_l2i (A : On l Z n0 own bytes maxL ret R p e s m args below meth c T h k n) {x : Int64} {z : Int32} (hd : decode bytes pc = .ok (.l2i, 1)) (hp : pc + 1 = pc') (hz : x.toInt32 = z) (K : Wp p e below s n0 ck cs Q (T.setTop (mkF m pc' Ls (.int z :: st)))) : Wp p e below s n0 ck cs Q (T.setTop (mkF m pc Ls (.long x :: st))) := by
  obtain ⟨locs, X, N, eT, hx, hZ, hby, hml, hown, hret, hlk, hsz⟩ := A
  subst hp
  subst hz
  exact K.goo fun t q => XS.l2i X.here hx rfl (hb hby hd) rfl q
theorem s_i2b (A : On l Z n0 own bytes maxL ret R p e s m args below meth c T h k n) {x z : Int32} (hd : decode bytes pc = .ok (.i2b, 1)) (hp : pc + 1 = pc') (hz : x.toInt8.toInt32 = z) (K : Wp p e below s n0 ck cs Q (T.setTop (mkF m pc' Ls (.int z :: st)))) : Wp p e below s n0 ck cs Q (T.setTop (mkF m pc Ls (.int x :: st))) := by
  obtain ⟨locs, X, N, eT, hx, hZ, hby, hml, hown, hret, hlk, hsz⟩ := A
  subst hp
  subst hz
  exact K.goo fun t q => XS.i2b X.here hx rfl (hb hby hd) rfl q
theorem s_dup (A : On l Z n0 own bytes maxL ret R p e s m args below meth c T h k n)  (hd : decode bytes pc = .ok (.dup, 1)) (hp : pc + 1 = pc') (hc : v.category = 1) (K : Wp p e below s n0 ck cs Q (T.setTop (mkF m pc' Ls (v :: v :: st)))) : Wp p e below s n0 ck cs Q (T.setTop (mkF m pc Ls (v :: st))) := by
  obtain ⟨locs, X, N, eT, hx, hZ, hby, hml, hown, hret, hlk, hsz⟩ := A
  subst hp
  exact K.goo fun t q => XS.dup X.here hx rfl (hb hby hd) rfl hc q
theorem s_dup2 (A : On l Z n0 own bytes maxL ret R p e s m args below meth c T h k n)  (hd : decode bytes pc = .ok (.dup2, 1)) (hp : pc + 1 = pc') (hc : v.category = 1) (hc' : w.category = 1) (K : Wp p e below s n0 ck cs Q (T.setTop (mkF m pc' Ls (v :: w :: v :: w :: st)))) : Wp p e below s n0 ck cs Q (T.setTop (mkF m pc Ls (v :: w :: st))) := by
  obtain ⟨locs, X, N, eT, hx, hZ, hby, hml, hown, hret, hlk, hsz⟩ := A
  subst hp
  exact K.goo fun t q => XT.dup2 X.here hx rfl (hb hby hd) rfl hc hc' q
theorem s_dup2L (A : On l Z n0 own bytes maxL ret R p e s m args below meth c T h k n) {x : Int64} (hd : decode bytes pc = .ok (.dup2, 1)) (hp : pc + 1 = pc') (K : Wp p e below s n0 ck cs Q (T.setTop (mkF m pc' Ls (.long x :: .long x :: st)))) : Wp p e below s n0 ck cs Q (T.setTop (mkF m pc Ls (.long x :: st))) := by
  obtain ⟨locs, X, N, eT, hx, hZ, hby, hml, hown, hret, hlk, hsz⟩ := A
  subst hp
  exact K.goo fun t q => XT.dup2L X.here hx rfl (hb hby hd) rfl q
theorem s_dupX1 (A : On l Z n0 own bytes maxL ret R p e s m args below meth c T h k n)  (hd : decode bytes pc = .ok (.dup_x1, 1)) (hp : pc + 1 = pc') (hc : v.category = 1) (hc' : w.category = 1) (K : Wp p e below s n0 ck cs Q (T.setTop (mkF m pc' Ls (v :: w :: v :: st)))) : Wp p e below s n0 ck cs Q (T.setTop (mkF m pc Ls (v :: w :: st))) := by
  obtain ⟨locs, X, N, eT, hx, hZ, hby, hml, hown, hret, hlk, hsz⟩ := A
  subst hp
  exact K.goo fun t q => XS.dupX1 X.here hx rfl (hb hby hd) rfl hc hc' q
theorem s_dup2X1L (A : On l Z n0 own bytes maxL ret R p e s m args below meth c T h k n) {x : Int64} (hd : decode bytes pc = .ok (.dup2_x1, 1)) (hp : pc + 1 = pc') (hc' : w.category = 1) (K : Wp p e below s n0 ck cs Q (T.setTop (mkF m pc' Ls (.long x :: w :: .long x :: st)))) : Wp p e below s n0 ck cs Q (T.setTop (mkF m pc Ls (.long x :: w :: st))) := by
  obtain ⟨locs, X, N, eT, hx, hZ, hby, hml, hown, hret, hlk, hsz⟩ := A
  subst hp
  refine K.goo fun t q => ?_
  jvm_step X.here [X.here.top, hx, (hb hby hd), Value.category, hc']
  exact ⟨hc', q⟩
theorem s_pop (A : On l Z n0 own bytes maxL ret R p e s m args below meth c T h k n)  (hd : decode bytes pc = .ok (.pop, 1)) (hp : pc + 1 = pc') (hc : v.category = 1) (K : Wp p e below s n0 ck cs Q (T.setTop (mkF m pc' Ls st))) : Wp p e below s n0 ck cs Q (T.setTop (mkF m pc Ls (v :: st))) := by
  obtain ⟨locs, X, N, eT, hx, hZ, hby, hml, hown, hret, hlk, hsz⟩ := A
  subst hp
  exact K.goo fun t q => XS.pop X.here hx rfl (hb hby hd) rfl hc q
theorem s_pop2L (A : On l Z n0 own bytes maxL ret R p e s m args below meth c T h k n) {x : Int64} (hd : decode bytes pc = .ok (.pop2, 1)) (hp : pc + 1 = pc') (K : Wp p e below s n0 ck cs Q (T.setTop (mkF m pc' Ls st))) : Wp p e below s n0 ck cs Q (T.setTop (mkF m pc Ls (.long x :: st))) := by
  obtain ⟨locs, X, N, eT, hx, hZ, hby, hml, hown, hret, hlk, hsz⟩ := A
  subst hp
  refine K.goo fun t q => ?_
  jvm_step X.here [X.here.top, hx, (hb hby hd), Value.category]
  exact q
theorem s_iinc (A : On l Z n0 own bytes maxL ret R p e s m args below meth c T h k n) {i : Nat} {j : Int} {x z : Int32} (hd : decode bytes pc = .ok (.iinc i j, 3)) (hp : pc + 3 = pc') (hl : Ls[i]? = some (.val (.int x))) (hz : x + Int32.ofInt j = z) (hs : storeLocals Ls i (.int z) = some Ls') (K : Wp p e below s n0 ck cs Q (T.setTop (mkF m pc' Ls' st))) : Wp p e below s n0 ck cs Q (T.setTop (mkF m pc Ls st)) := by
  obtain ⟨locs, X, N, eT, hx, hZ, hby, hml, hown, hret, hlk, hsz⟩ := A
  subst hp
  subst hz
  exact K.goo fun t q => XS.iinc X.here hx rfl (hb hby hd) hl hs q
theorem s_goto (A : On l Z n0 own bytes maxL ret R p e s m args below meth c T h k n)  {o : Int} (hd : decode bytes pc = .ok (.goto o, 3))  (ho : 0 ≤ (pc : Int) + o) (hp : ((pc : Int) + o).toNat = pc') (K : Wp p e below s n0 ck cs Q (T.setTop (mkF m pc' Ls st))) : Wp p e below s n0 ck cs Q (T.setTop (mkF m pc Ls st)) := by
  obtain ⟨locs, X, N, eT, hx, hZ, hby, hml, hown, hret, hlk, hsz⟩ := A
  exact K.goo fun t q => XS.goto X.here hx rfl (pc0 := pc) rfl (hb hby hd) ho hp q
theorem s_ifY (A : On l Z n0 own bytes maxL ret R p e s m args below meth c T h k n) {cd : ClassFile.Cond} {x : Int32} {o : Int} (hd : decode bytes pc = .ok (.ifCond cd o, 3)) (hc : ifCond.holds cd x = true) (ho : 0 ≤ (pc : Int) + o) (hp : ((pc : Int) + o).toNat = pc') (K : Wp p e below s n0 ck cs Q (T.setTop (mkF m pc' Ls st))) : Wp p e below s n0 ck cs Q (T.setTop (mkF m pc Ls (.int x :: st))) := by
  obtain ⟨locs, X, N, eT, hx, hZ, hby, hml, hown, hret, hlk, hsz⟩ := A
  exact K.goo fun t q => XS.ifYes X.here hx rfl (pc0 := pc) rfl (hb hby hd) rfl hc ho hp q
theorem s_icmpY (A : On l Z n0 own bytes maxL ret R p e s m args below meth c T h k n) {cd : ClassFile.Cond} {x y : Int32} {o : Int} (hd : decode bytes pc = .ok (.if_icmp cd o, 3)) (hc : if_icmp.holds cd x y = true) (ho : 0 ≤ (pc : Int) + o) (hp : ((pc : Int) + o).toNat = pc') (K : Wp p e below s n0 ck cs Q (T.setTop (mkF m pc' Ls st))) : Wp p e below s n0 ck cs Q (T.setTop (mkF m pc Ls (.int y :: .int x :: st))) := by
  obtain ⟨locs, X, N, eT, hx, hZ, hby, hml, hown, hret, hlk, hsz⟩ := A
  exact K.goo fun t q => XS.icmpYes X.here hx rfl (pc0 := pc) rfl (hb hby hd) rfl hc ho hp q
theorem s_ifnullY (A : On l Z n0 own bytes maxL ret R p e s m args below meth c T h k n)  {o : Int} (hd : decode bytes pc = .ok (.ifnull o, 3))  (ho : 0 ≤ (pc : Int) + o) (hp : ((pc : Int) + o).toNat = pc') (K : Wp p e below s n0 ck cs Q (T.setTop (mkF m pc' Ls st))) : Wp p e below s n0 ck cs Q (T.setTop (mkF m pc Ls (.null :: st))) := by
  obtain ⟨locs, X, N, eT, hx, hZ, hby, hml, hown, hret, hlk, hsz⟩ := A
  exact K.goo fun t q => XS.ifnullYes X.here hx rfl (pc0 := pc) rfl (hb hby hd) rfl ho hp q
theorem s_ifnonnullY (A : On l Z n0 own bytes maxL ret R p e s m args below meth c T h k n)  {o : Int} (hd : decode bytes pc = .ok (.ifnonnull o, 3))  (ho : 0 ≤ (pc : Int) + o) (hp : ((pc : Int) + o).toNat = pc') (K : Wp p e below s n0 ck cs Q (T.setTop (mkF m pc' Ls st))) : Wp p e below s n0 ck cs Q (T.setTop (mkF m pc Ls (.ref b :: st))) := by
  obtain ⟨locs, X, N, eT, hx, hZ, hby, hml, hown, hret, hlk, hsz⟩ := A
  exact K.goo fun t q => XS.ifnonnullYes X.here hx rfl (pc0 := pc) rfl (hb hby hd) rfl ho hp q
theorem s_acmpY (A : On l Z n0 own bytes maxL ret R p e s m args below meth c T h k n) {cd : ACond} {o : Int} (hd : decode bytes pc = .ok (.if_acmp cd o, 3)) (hv : v.isRef = true) (hw : w.isRef = true) (hc : XT.acmp cd v w = true) (ho : 0 ≤ (pc : Int) + o) (hp : ((pc : Int) + o).toNat = pc') (K : Wp p e below s n0 ck cs Q (T.setTop (mkF m pc' Ls st))) : Wp p e below s n0 ck cs Q (T.setTop (mkF m pc Ls (w :: v :: st))) := by
  obtain ⟨locs, X, N, eT, hx, hZ, hby, hml, hown, hret, hlk, hsz⟩ := A
  exact K.goo fun t q => XT.acmpYes X.here hx rfl (pc0 := pc) rfl (hb hby hd) rfl hv hw hc ho hp q
theorem s_ifN (A : On l Z n0 own bytes maxL ret R p e s m args below meth c T h k n) {cd : ClassFile.Cond} {x : Int32} {o : Int} (hd : decode bytes pc = .ok (.ifCond cd o, 3)) (hp : pc + 3 = pc') (hc : ifCond.holds cd x = false) (K : Wp p e below s n0 ck cs Q (T.setTop (mkF m pc' Ls st))) : Wp p e below s n0 ck cs Q (T.setTop (mkF m pc Ls (.int x :: st))) := by
  obtain ⟨locs, X, N, eT, hx, hZ, hby, hml, hown, hret, hlk, hsz⟩ := A
  subst hp
  exact K.goo fun t q => XS.ifNo X.here hx rfl (hb hby hd) rfl hc q
theorem s_icmpN (A : On l Z n0 own bytes maxL ret R p e s m args below meth c T h k n) {cd : ClassFile.Cond} {x y : Int32} {o : Int} (hd : decode bytes pc = .ok (.if_icmp cd o, 3)) (hp : pc + 3 = pc') (hc : if_icmp.holds cd x y = false) (K : Wp p e below s n0 ck cs Q (T.setTop (mkF m pc' Ls st))) : Wp p e below s n0 ck cs Q (T.setTop (mkF m pc Ls (.int y :: .int x :: st))) := by
  obtain ⟨locs, X, N, eT, hx, hZ, hby, hml, hown, hret, hlk, hsz⟩ := A
  subst hp
  exact K.goo fun t q => XS.icmpNo X.here hx rfl (hb hby hd) rfl hc q
theorem s_ifnullN (A : On l Z n0 own bytes maxL ret R p e s m args below meth c T h k n) {o : Int} (hd : decode bytes pc = .ok (.ifnull o, 3)) (hp : pc + 3 = pc') (K : Wp p e below s n0 ck cs Q (T.setTop (mkF m pc' Ls st))) : Wp p e below s n0 ck cs Q (T.setTop (mkF m pc Ls (.ref b :: st))) := by
  obtain ⟨locs, X, N, eT, hx, hZ, hby, hml, hown, hret, hlk, hsz⟩ := A
  subst hp
  exact K.goo fun t q => XS.ifnullNo X.here hx rfl (hb hby hd) rfl q
theorem s_ifnonnullN (A : On l Z n0 own bytes maxL ret R p e s m args below meth c T h k n) {o : Int} (hd : decode bytes pc = .ok (.ifnonnull o, 3)) (hp : pc + 3 = pc') (K : Wp p e below s n0 ck cs Q (T.setTop (mkF m pc' Ls st))) : Wp p e below s n0 ck cs Q (T.setTop (mkF m pc Ls (.null :: st))) := by
  obtain ⟨locs, X, N, eT, hx, hZ, hby, hml, hown, hret, hlk, hsz⟩ := A
  subst hp
  exact K.goo fun t q => XS.ifnonnullNo X.here hx rfl (hb hby hd) rfl q
theorem s_acmpN (A : On l Z n0 own bytes maxL ret R p e s m args below meth c T h k n) {cd : ACond} {o : Int} (hd : decode bytes pc = .ok (.if_acmp cd o, 3)) (hp : pc + 3 = pc') (hv : v.isRef = true) (hw : w.isRef = true) (hc : XT.acmp cd v w = false) (K : Wp p e below s n0 ck cs Q (T.setTop (mkF m pc' Ls st))) : Wp p e below s n0 ck cs Q (T.setTop (mkF m pc Ls (w :: v :: st))) := by
  obtain ⟨locs, X, N, eT, hx, hZ, hby, hml, hown, hret, hlk, hsz⟩ := A
  subst hp
  exact K.goo fun t q => XT.acmpNo X.here hx rfl (hb hby hd) rfl hv hw hc q
theorem s_ldcInt (A : On l Z n0 own bytes maxL ret R p e s m args below meth c T h k n) {i : Nat} {z : Int32} (hd : decode bytes pc = .ok (.ldc i, 2)) (hp : pc + 2 = pc') (w0 : (Cond.constant own i z).before a0 Z = true) (K : Wp p e below s n0 ck cs Q (T.setTop (mkF m pc' Ls (.int z :: st)))) : Wp p e below s n0 ck cs Q (T.setTop (mkF m pc Ls st)) := by
  obtain ⟨locs, X, N, eT, hx, hZ, hby, hml, hown, hret, hlk, hsz⟩ := A
  subst hp
  exact K.goo fun t q => X.ldcInt hx hown (mvT hZ w0) (g := mkF m pc Ls st) rfl (hb hby hd) t q
theorem s_ldcwInt (A : On l Z n0 own bytes maxL ret R p e s m args below meth c T h k n) {i : Nat} {z : Int32} (hd : decode bytes pc = .ok (.ldc_w i, 3)) (hp : pc + 3 = pc') (w0 : (Cond.constant own i z).before a0 Z = true) (K : Wp p e below s n0 ck cs Q (T.setTop (mkF m pc' Ls (.int z :: st)))) : Wp p e below s n0 ck cs Q (T.setTop (mkF m pc Ls st)) := by
  obtain ⟨locs, X, N, eT, hx, hZ, hby, hml, hown, hret, hlk, hsz⟩ := A
  subst hp
  exact K.goo fun t q => X.ldcwInt hx hown (mvT hZ w0) (g := mkF m pc Ls st) rfl (hb hby hd) t q
theorem s_ldc2Long (A : On l Z n0 own bytes maxL ret R p e s m args below meth c T h k n) {i : Nat} {z : Int64} (hd : decode bytes pc = .ok (.ldc2_w i, 3)) (hp : pc + 3 = pc') (w0 : (Cond.constantLong own i z).before a0 Z = true) (K : Wp p e below s n0 ck cs Q (T.setTop (mkF m pc' Ls (.long z :: st)))) : Wp p e below s n0 ck cs Q (T.setTop (mkF m pc Ls st)) := by
  obtain ⟨locs, X, N, eT, hx, hZ, hby, hml, hown, hret, hlk, hsz⟩ := A
  subst hp
  exact K.goo fun t q => X.ldc2Long hx hown (mvT hZ w0) (g := mkF m pc Ls st) rfl (hb hby hd) t q
theorem idx_ok {j : Int32} {i : Nat} (hj : j.toInt = (i : Int)) : j.toNatClampNeg = i := by show j.toInt.toNat = i; omega
theorem idx_in' {j : Int32} {i : Nat} {N : Nat} (hj : j.toInt = (i : Int)) (hi : i < N) : ¬ (j < 0 ∨ N ≤ j.toNatClampNeg) := by
  rw [idx_ok hj, Int32.lt_iff_toInt_lt, hj]
  have : (0 : Int32).toInt = 0 := by decide
  omega
theorem s_getfield (A : On l Z n0 own bytes maxL ret R p e s m args below meth c T h k n) {index : Nat} {R0 O f d host : String} (w0 : (Cond.fieldLink own index R0 f d).before a0 Z = true ∨ (Cond.fieldLinkNest own index R0 f d host).before a0 Z = true) (via : Via Z R0 O f d) (F : Fld Z h a O f d v) (hd : decode bytes pc = .ok (.getfield index, 3)) (hp : pc + 3 = pc') (K : ∀ T' , On l Z n0 own bytes maxL ret R p e s m args below meth c T' h k n → Wp p e below s n0 ck cs Q (T'.setTop (mkF m pc' Ls (v :: st)))) : Wp p e below s n0 ck cs Q (T.setTop (mkF m pc Ls (.ref a :: st))) := by
  obtain ⟨locs, X, N, eT, hx, hZ, hby, hml, hown, hret, hlk, hsz⟩ := A
  subst hp
  obtain ⟨T', X', e', q⟩ := getF X hx hZ hown w0 via eT F (g := mkF m pc Ls (.ref a :: st)) rfl rfl (hb hby hd)
  exact (K T' ⟨_, X', N, e', hx, hZ, hby, hml, hown, hret, hlk, hsz⟩).goo q
theorem s_getstatic (A : On l Z n0 own bytes maxL ret R p e s m args below meth c T h k n) {index : Nat} {R0 O f d host : String} (w0 : (Cond.fieldLink own index R0 f d).before a0 Z = true ∨ (Cond.fieldLinkNest own index R0 f d host).before a0 Z = true) (via : Via Z R0 O f d) (F : Sta Z h O f d v) (hd : decode bytes pc = .ok (.getstatic index, 3)) (hp : pc + 3 = pc') (K : ∀ T' , On l Z n0 own bytes maxL ret R p e s m args below meth c T' h k n → Wp p e below s n0 ck cs Q (T'.setTop (mkF m pc' Ls (v :: st)))) : Wp p e below s n0 ck cs Q (T.setTop (mkF m pc Ls st)) := by
  obtain ⟨locs, X, N, eT, hx, hZ, hby, hml, hown, hret, hlk, hsz⟩ := A
  subst hp
  obtain ⟨T', X', e', q⟩ := getS2 X hx hZ hown w0 via eT F (g := mkF m pc Ls st) rfl (hb hby hd)
  exact (K T' ⟨_, X', N, e', hx, hZ, hby, hml, hown, hret, hlk, hsz⟩).goo q
theorem s_putfield (A : On l Z n0 own bytes maxL ret R p e s m args below meth c T h k n) {index kk : Nat} {R0 O f d host C : String} (w0 : (Cond.fieldLink own index R0 f d).before a0 Z = true ∨ (Cond.fieldLinkNest own index R0 f d host).before a0 Z = true) (via : Via Z R0 O f d) (F : Fld Z h a O f d w) (E : Exa Z h a C) (L : (Cond.lays C O f d).before a0 Z = true ∨ ((Cond.laysFinal C O f d).before a0 Z = true ∧ own = O ∧ meth.name = "<init>")) (wi : (Cond.instantiable C kk).before a0 Z = true) (hty : parseFieldDescriptor d = some ty) (hnar : narrow ty v = v) (hfit : fits ty v = true) (ha : n0 ≤ a) (hd : decode bytes pc = .ok (.putfield index, 3)) (hp : pc + 3 = pc') (K : ∀ T' h', On l Z n0 own bytes maxL ret R p e s m args below meth c T' h' k n → Wr h h' a (Jvm.RoadKit.slotOf Z O f d) v → Wp p e below s n0 ck cs Q (T'.setTop (mkF m pc' Ls st))) : Wp p e below s n0 ck cs Q (T.setTop (mkF m pc Ls (v :: .ref a :: st))) := by
  obtain ⟨locs, X, N, eT, hx, hZ, hby, hml, hown, hret, hlk, hsz⟩ := A
  subst hp
  obtain ⟨T', h', X', e', W, q⟩ := putF X hx hZ hown w0 via eT F E L wi hty hnar hfit (g := mkF m pc Ls (v :: .ref a :: st)) rfl rfl (hb hby hd)
  exact (K T' h' ⟨_, X', Fr.snoc X' N ha, e', hx, hZ, hby, hml, hown, hret, hlk, hsz⟩ W).goo q
theorem s_putfieldN (A : On l Z n0 own bytes maxL ret R p e s m args below meth c T h k n) {index kk : Nat} {R0 O f d C : String} {v' : Value} (w0 : (Cond.fieldLink own index R0 f d).before a0 Z = true) (via : Via Z R0 O f d) (F : Fld Z h a O f d w) (E : Exa Z h a C) (L : (Cond.lays C O f d).before a0 Z = true ∨ ((Cond.laysFinal C O f d).before a0 Z = true ∧ own = O ∧ meth.name = "<init>")) (wi : (Cond.instantiable C kk).before a0 Z = true) (hty : parseFieldDescriptor d = some ty) (hnar : narrow ty v = v') (hfit : fits ty v' = true) (ha : n0 ≤ a) (hd : decode bytes pc = .ok (.putfield index, 3)) (hp : pc + 3 = pc') (K : ∀ T' h', On l Z n0 own bytes maxL ret R p e s m args below meth c T' h' k n → Wr h h' a (Jvm.RoadKit.slotOf Z O f d) v' → Wp p e below s n0 ck cs Q (T'.setTop (mkF m pc' Ls st))) : Wp p e below s n0 ck cs Q (T.setTop (mkF m pc Ls (v :: .ref a :: st))) := by
  obtain ⟨locs, X, N, eT, hx, hZ, hby, hml, hown, hret, hlk, hsz⟩ := A
  subst hp
  obtain ⟨T', h', X', e', W, q⟩ := putFN X hx hZ hown w0 via eT F E L wi hty hnar hfit (g := mkF m pc Ls (v :: .ref a :: st)) rfl rfl (hb hby hd)
  exact (K T' h' ⟨_, X', Fr.snoc X' N ha, e', hx, hZ, hby, hml, hown, hret, hlk, hsz⟩ W).goo q
theorem s_new (A : On l Z n0 own bytes maxL ret R p e s m args below meth c T h k n) {index ns : Nat} {C : String} (w0 : (Cond.classLink own index C).before a0 Z = true) (wi : (Cond.instantiable C ns).before a0 Z = true) (wz : (Cond.initialized C).before a0 Z = true) (hc : k + 1 ≤ R.cells) (hs : n + ns ≤ R.slots) (hd : decode bytes pc = .ok (.new index, 3)) (hp : pc + 3 = pc') (K : ∀ T' h' b, On l Z n0 own bytes maxL ret R p e s m args below meth c T' h' (k + 1) (n + ns) → h.size = b → n0 ≤ b → Ext h h' → Exa Z h' b C → (∀ {O nm d : String} {ty : FieldType}, Laid Z a0 C O nm d → parseFieldDescriptor d = some ty → Fld Z h' b O nm d (defaultValue ty)) → Wp p e below s n0 ck cs Q (T'.setTop (mkF m pc' Ls (.ref b :: st)))) : Wp p e below s n0 ck cs Q (T.setTop (mkF m pc Ls st)) := by
  obtain ⟨locs, X, N, eT, hx, hZ, hby, hml, hown, hret, hlk, hsz⟩ := A
  subst hp
  obtain ⟨T', h', X', e', E, A', D, -, q⟩ := newO X hx hZ hown w0 wi wz eT (g := mkF m pc Ls st) rfl (hb hby hd) hc hs
  have hz : n0 ≤ h.size := by rw [← eT]; exact Nat.le_trans hsz X.same.2.1
  exact (K T' h' _ ⟨_, X', N, e', hx, hZ, hby, hml, hown, hret, hlk, hsz⟩ rfl hz E A' D).goo q
theorem s_newarray (A : On l Z n0 own bytes maxL ret R p e s m args below meth c T h k n) {aty : ArrayType} {dv : Value} {z : Int32} {i cap : Nat} (hty : newarray.typeOf aty = ty) (hdv : defaultValue ty = dv) (wa : (Cond.arrayClass ty).before a0 Z = true) (hz : z.toInt = (i : Int)) (hcap : i ≤ cap) (hbig : cap * 8 ≤ 536870912) (hc : k + 1 ≤ R.cells) (hs : n + cap ≤ R.slots) (hd : decode bytes pc = .ok (.newarray aty, 2)) (hp : pc + 2 = pc') (K : ∀ T' h' b, On l Z n0 own bytes maxL ret R p e s m args below meth c T' h' (k + 1) (n + cap) → h.size = b → n0 ≤ b → Ext h h' → AA Z h' b ty (List.replicate i dv) → Wp p e below s n0 ck cs Q (T'.setTop (mkF m pc' Ls (.ref b :: st)))) : Wp p e below s n0 ck cs Q (T.setTop (mkF m pc Ls (.int z :: st))) := by
  obtain ⟨locs, X, N, eT, hx, hZ, hby, hml, hown, hret, hlk, hsz⟩ := A
  subst hp
  subst hty hdv
  have z0 : ¬ z < 0 := by rw [Int32.lt_iff_toInt_lt, hz]; have : (0 : Int32).toInt = 0 := by decide
                          omega
  obtain ⟨T', h', cA, X', e', E, A', q⟩ := newP X hx hZ wa eT (g := mkF m pc Ls (.int z :: st)) rfl (hb hby hd) rfl z0 (cap := cap) (by rw [idx_ok hz]; exact hcap) hbig hc hs
  have hz' : n0 ≤ h.size := by rw [← eT]; exact Nat.le_trans hsz X.same.2.1
  exact (K T' h' _ ⟨_, X', N, e', hx, hZ, hby, hml, hown, hret, hlk, hsz⟩ rfl hz' E (AA.new A' hz)).goo q
theorem s_iastore (A : On l Z n0 own bytes maxL ret R p e s m args below meth c T h k n) {x : Int32} {j : Int32} {i : Nat} (V : AA Z h a .int vs) (hj : j.toInt = (i : Int)) (hi : i < vs.length) (ha : n0 ≤ a) (hd : decode bytes pc = .ok (.iastore, 1)) (hp : pc + 1 = pc') (K : ∀ T' h', On l Z n0 own bytes maxL ret R p e s m args below meth c T' h' k n → Wr h h' a i (.int x) → AA Z h' a .int (vs.set i (.int x)) → Wp p e below s n0 ck cs Q (T'.setTop (mkF m pc' Ls st))) : Wp p e below s n0 ck cs Q (T.setTop (mkF m pc Ls (.int x :: .int j :: .ref a :: st))) := by
  obtain ⟨locs, X, N, eT, hx, hZ, hby, hml, hown, hret, hlk, hsz⟩ := A
  subst hp
  have V0 := V
  obtain ⟨cl, Ar, r1, r2⟩ := V0
  obtain ⟨T', h', X', e', W, q⟩ := stI X hx hZ eT Ar (j := j) (idx_in' hj (by rw [r1]; simpa using hi)) (g := mkF m pc Ls (.int x :: .int j :: .ref a :: st)) rfl rfl (hb hby hd)
  have W' := W
  rw [idx_ok hj] at W'
  exact (K T' h' ⟨_, X', Fr.snoc X' N ha, e', hx, hZ, hby, hml, hown, hret, hlk, hsz⟩ W' (V.set W')).goo q
theorem s_lastore (A : On l Z n0 own bytes maxL ret R p e s m args below meth c T h k n) {x : Int64} {j : Int32} {i : Nat} (V : AA Z h a .long vs) (hj : j.toInt = (i : Int)) (hi : i < vs.length) (ha : n0 ≤ a) (hd : decode bytes pc = .ok (.lastore, 1)) (hp : pc + 1 = pc') (K : ∀ T' h', On l Z n0 own bytes maxL ret R p e s m args below meth c T' h' k n → Wr h h' a i (.long x) → AA Z h' a .long (vs.set i (.long x)) → Wp p e below s n0 ck cs Q (T'.setTop (mkF m pc' Ls st))) : Wp p e below s n0 ck cs Q (T.setTop (mkF m pc Ls (.long x :: .int j :: .ref a :: st))) := by
  obtain ⟨locs, X, N, eT, hx, hZ, hby, hml, hown, hret, hlk, hsz⟩ := A
  subst hp
  have V0 := V
  obtain ⟨cl, Ar, r1, r2⟩ := V0
  obtain ⟨T', h', X', e', W, q⟩ := stJ X hx hZ eT Ar (j := j) (idx_in' hj (by rw [r1]; simpa using hi)) (g := mkF m pc Ls (.long x :: .int j :: .ref a :: st)) rfl rfl (hb hby hd)
  have W' := W
  rw [idx_ok hj] at W'
  exact (K T' h' ⟨_, X', Fr.snoc X' N ha, e', hx, hZ, hby, hml, hown, hret, hlk, hsz⟩ W' (V.set W')).goo q
theorem s_bastore (A : On l Z n0 own bytes maxL ret R p e s m args below meth c T h k n) {x : Int32} {j : Int32} {i : Nat} (V : AA Z h a .byte vs) (hj : j.toInt = (i : Int)) (hi : i < vs.length) (ha : n0 ≤ a) (hd : decode bytes pc = .ok (.bastore, 1)) (hp : pc + 1 = pc') (K : ∀ T' h', On l Z n0 own bytes maxL ret R p e s m args below meth c T' h' k n → Wr h h' a i (.int x.toInt8.toInt32) → AA Z h' a .byte (vs.set i (.int x.toInt8.toInt32)) → Wp p e below s n0 ck cs Q (T'.setTop (mkF m pc' Ls st))) : Wp p e below s n0 ck cs Q (T.setTop (mkF m pc Ls (.int x :: .int j :: .ref a :: st))) := by
  obtain ⟨locs, X, N, eT, hx, hZ, hby, hml, hown, hret, hlk, hsz⟩ := A
  subst hp
  have V0 := V
  obtain ⟨cl, Ar, r1, r2⟩ := V0
  obtain ⟨T', h', X', e', W, q⟩ := stB X hx hZ eT Ar (j := j) (idx_in' hj (by rw [r1]; simpa using hi)) (g := mkF m pc Ls (.int x :: .int j :: .ref a :: st)) rfl rfl (hb hby hd)
  have W' := W
  rw [idx_ok hj] at W'
  exact (K T' h' ⟨_, X', Fr.snoc X' N ha, e', hx, hZ, hby, hml, hown, hret, hlk, hsz⟩ W' (V.set W')).goo q
theorem s_iaload (A : On l Z n0 own bytes maxL ret R p e s m args below meth c T h k n) {j : Int32} {i : Nat} (V : AA Z h a .int vs) (hj : j.toInt = (i : Int)) (hv : vs[i]? = some v) (hd : decode bytes pc = .ok (.iaload, 1)) (hp : pc + 1 = pc') (K : Wp p e below s n0 ck cs Q (T.setTop (mkF m pc' Ls (v :: st)))) : Wp p e below s n0 ck cs Q (T.setTop (mkF m pc Ls (.int j :: .ref a :: st))) := by
  obtain ⟨locs, X, N, eT, hx, hZ, hby, hml, hown, hret, hlk, hsz⟩ := A
  subst hp
  obtain ⟨cl, Ar, r1, r2⟩ := V
  have hi : i < vs.length := (List.getElem?_eq_some_iff.mp hv).1
  exact K.goo fun t q => X.iaload hx (j := j) (v := v) (by rw [eT]; exact Ar.1) (State.isArrayOf_alike hZ.alike Ar.2.1) Ar.2.2 (idx_in' hj (by rw [r1]; simpa using hi)) (by rw [idx_ok hj, r1]; simpa using hv) (g := mkF m pc Ls (.int j :: .ref a :: st)) rfl rfl (hb hby hd) t q
theorem s_laload (A : On l Z n0 own bytes maxL ret R p e s m args below meth c T h k n) {j : Int32} {i : Nat} (V : AA Z h a .long vs) (hj : j.toInt = (i : Int)) (hv : vs[i]? = some v) (hd : decode bytes pc = .ok (.laload, 1)) (hp : pc + 1 = pc') (K : Wp p e below s n0 ck cs Q (T.setTop (mkF m pc' Ls (v :: st)))) : Wp p e below s n0 ck cs Q (T.setTop (mkF m pc Ls (.int j :: .ref a :: st))) := by
  obtain ⟨locs, X, N, eT, hx, hZ, hby, hml, hown, hret, hlk, hsz⟩ := A
  subst hp
  obtain ⟨cl, Ar, r1, r2⟩ := V
  have hi : i < vs.length := (List.getElem?_eq_some_iff.mp hv).1
  exact K.goo fun t q => X.laload hx (j := j) (v := v) (by rw [eT]; exact Ar.1) (State.isArrayOf_alike hZ.alike Ar.2.1) Ar.2.2 (idx_in' hj (by rw [r1]; simpa using hi)) (by rw [idx_ok hj, r1]; simpa using hv) (g := mkF m pc Ls (.int j :: .ref a :: st)) rfl rfl (hb hby hd) t q
theorem s_baload (A : On l Z n0 own bytes maxL ret R p e s m args below meth c T h k n) {j : Int32} {i : Nat} (V : AA Z h a .byte vs) (hj : j.toInt = (i : Int)) (hv : vs[i]? = some v) (hd : decode bytes pc = .ok (.baload, 1)) (hp : pc + 1 = pc') (K : Wp p e below s n0 ck cs Q (T.setTop (mkF m pc' Ls (v :: st)))) : Wp p e below s n0 ck cs Q (T.setTop (mkF m pc Ls (.int j :: .ref a :: st))) := by
  obtain ⟨locs, X, N, eT, hx, hZ, hby, hml, hown, hret, hlk, hsz⟩ := A
  subst hp
  obtain ⟨cl, Ar, r1, r2⟩ := V
  have hi : i < vs.length := (List.getElem?_eq_some_iff.mp hv).1
  exact K.goo fun t q => X.baloadBytes hx (j := j) (v := v) (by rw [eT]; exact Ar.1) (State.isArrayOf_alike hZ.alike Ar.2.1) Ar.2.2 (idx_in' hj (by rw [r1]; simpa using hi)) (by rw [idx_ok hj, r1]; simpa using hv) (g := mkF m pc Ls (.int j :: .ref a :: st)) rfl rfl (hb hby hd) t q
theorem s_arraylength (A : On l Z n0 own bytes maxL ret R p e s m args below meth c T h k n) {z : Int32} (V : AA Z h a ty vs) (hz : z.toInt = (vs.length : Int)) (hd : decode bytes pc = .ok (.arraylength, 1)) (hp : pc + 1 = pc') (K : Wp p e below s n0 ck cs Q (T.setTop (mkF m pc' Ls (.int z :: st)))) : Wp p e below s n0 ck cs Q (T.setTop (mkF m pc Ls (.ref a :: st))) := by
  obtain ⟨locs, X, N, eT, hx, hZ, hby, hml, hown, hret, hlk, hsz⟩ := A
  subst hp
  obtain ⟨cl, Ar, r1, r2⟩ := V
  have q0 : cl.slots.size.toInt32 = z := by
    rw [r1]; apply Int32.toInt_inj.mp; rw [len_toInt (by simpa using r2), hz]; simp
  exact K.goo fun t q => X.arraylength hx (by rw [eT]; exact Ar.1) (State.isArrayOf_alike hZ.alike Ar.2.1) (g := mkF m pc Ls (.ref a :: st)) rfl rfl (hb hby hd) t (by rw [q0]; exact q)
theorem s_static (A : On l Z n0 own bytes maxL ret R p e s m args below meth c T h k n) {index : Nat} {y : MethodName} {bytes' : ByteArray} {maxL' : Nat} {ret' : Option FieldType} {rm : Room} {argsL rest : List Value} {Q' : Option Value → Heap → Prop} (M : Met l Z n0 y bytes' maxL' ret' rm argsL.toArray h Q') (wl : (Cond.methodLink own index y).before a0 Z = true) (ws : (Cond.static y).before a0 Z = true) (wz : (Cond.initialized y.cls).before a0 Z = true) (wc : (Cond.code y bytes' maxL' ret').before a0 Z = true) (hy : y.cls ≠ "java/lang/invoke/MethodHandle" ∧ y.cls ≠ "java/lang/invoke/VarHandle") {sig : MethodDescriptor} (hsig : parseMethodDescriptor y.desc = some sig) (hlen : argsL.length = sig.parameters.length) {W : Nat} (hf : rm.frames + 1 ≤ R.frames) (hl : W + (maxL' + 11) + rm.locals ≤ R.locals) (hW : (rest.map fun v => v.category).sum ≤ W) (hc : k + rm.cells ≤ R.cells) (hs : n + rm.slots ≤ R.slots) (hLs : Ls.size = maxL) {stk : List Value} (hst : stk = argsL.reverse ++ rest) (hd : decode bytes pc = .ok (.invokestatic index, 3)) (hp : pc + 3 = pc') (K : ∀ T' h' v, On l Z n0 own bytes maxL ret R p e s m args below meth c T' h' (k + rm.cells) (n + rm.slots) → Q' v h' → Wp p e below s n0 ck cs Q (T'.setTop (mkF m pc' Ls (v.toList ++ rest)))) : Wp p e below s n0 ck cs Q (T.setTop (mkF m pc Ls stk)) := by
  obtain ⟨locs, X, N, eT, hx, hZ, hby, hml, hown, hret, hlk, hsz⟩ := A
  subst hp
  obtain ⟨v, _, ⟨T', L', k', n'⟩, -, X', ⟨Lc, ⟨Nq, hQ⟩, l1, l2, l3⟩, q⟩ := Jvm.LawKit.callS X hx (y := y) hown (mvT hZ wl) (mvT hZ ws) (mvT hZ wz) (mvT hZ wc) hy (backOf (Q := fun v h L => Fr n0 L ∧ Q' v h) (W := W) (M []) hZ wc wz hf hl) (g := mkF m pc Ls stk) rfl (by rw [hml]; exact hLs) (argsL := argsL) (rest := rest) (lenOf hsig hlen) hst (by show 2 * 0 + _ ≤ _; simpa using hW) (hb hby hd) (fun _ _ => ⟨rfl, eT, hc, hs⟩)
  dsimp only [Pt.U, Pt.locs, Pt.cells, Pt.slots] at X' l1 l2 l3 q hQ Nq
  subst l1 l2 l3
  exact (K T' T'.heap v ⟨_, X', Fr.app N Nq, rfl, hx, hZ, hby, hml, hown, hret, hlk, hsz⟩ hQ).goo q
theorem s_virtual (A : On l Z n0 own bytes maxL ret R p e s m args below meth c T h k n) {index : Nat} {y : MethodName} {bytes' : ByteArray} {maxL' : Nat} {ret' : Option FieldType} {rm : Room} {argsL rest : List Value} {Q' : Option Value → Heap → Prop} {C : String} {z : MethodName} (E : Exa Z h b C) (M : Met l Z n0 z bytes' maxL' ret' rm (.ref b :: argsL).toArray h Q') (wl : (Cond.methodLink own index y).before a0 Z = true) (wd : (Cond.declares y).before a0 Z = true) (wn : ∀ (args : Array Value) (s : State), Z.Warmed39 s.vm → NotFace s y) (wsel : (Cond.selects C y z).before a0 Z = true) (wim : (Cond.instanceMethod z).before a0 Z = true) (wz : (Cond.initialized z.cls).before a0 Z = true) (wc : (Cond.code z bytes' maxL' ret').before a0 Z = true) (hy : y.cls ≠ "java/lang/invoke/MethodHandle" ∧ y.cls ≠ "java/lang/invoke/VarHandle") {sig : MethodDescriptor} (hsig : parseMethodDescriptor y.desc = some sig) (hlen : argsL.length = sig.parameters.length) {W : Nat} (hf : rm.frames + 1 ≤ R.frames) (hl : W + (maxL' + 11) + rm.locals ≤ R.locals) (hW : (rest.map fun v => v.category).sum ≤ W) (hc : k + rm.cells ≤ R.cells) (hs : n + rm.slots ≤ R.slots) (hLs : Ls.size = maxL) {stk : List Value} (hst : stk = argsL.reverse ++ .ref b :: rest) (hd : decode bytes pc = .ok (.invokevirtual index, 3)) (hp : pc + 3 = pc') (K : ∀ T' h' v, On l Z n0 own bytes maxL ret R p e s m args below meth c T' h' (k + rm.cells) (n + rm.slots) → Q' v h' → Wp p e below s n0 ck cs Q (T'.setTop (mkF m pc' Ls (v.toList ++ rest)))) : Wp p e below s n0 ck cs Q (T.setTop (mkF m pc Ls stk)) := by
  obtain ⟨locs, X, N, eT, hx, hZ, hby, hml, hown, hret, hlk, hsz⟩ := A
  subst hp
  obtain ⟨cq, kq, qa, qb, qc⟩ := isOf hZ eT E
  obtain ⟨v, _, ⟨T', L', k', n'⟩, -, X', ⟨Lc, ⟨Nq, hQ⟩, l1, l2, l3⟩, q⟩ := X.virtualBack hx (y := y) (z := z) hown (mvT hZ wl) (mvT hZ wd) (wn #[] s hZ) (mvT hZ wsel) (mvT hZ wim) hy (backOf (Q := fun v h L => Fr n0 L ∧ Q' v h) (W := W) (M []) hZ wc wz hf hl) qa qc (g := mkF m pc Ls stk) rfl (by rw [hml]; exact hLs) (Steps.refl _) (argsL := argsL) (rest := rest) (lenOf hsig hlen) hst (by show 2 * 0 + _ ≤ _; simpa using hW) (hb hby hd) (fun _ _ => ⟨rfl, eT, hc, hs⟩)
  dsimp only [Pt.U, Pt.locs, Pt.cells, Pt.slots] at X' l1 l2 l3 q hQ Nq
  subst l1 l2 l3
  exact (K T' T'.heap v ⟨_, X', Fr.app N Nq, rfl, hx, hZ, hby, hml, hown, hret, hlk, hsz⟩ hQ).goo (fun t r => q.trans r)
theorem nf_same {y : MethodName} {C : String} (wsel : (Cond.selects y.cls y y).before a0 Z = true) : ∀ (args : Array Value) (s : State), Z.Warmed39 s.vm → NotFace s y := fun args s hZ => notFace_of_selects (args := #[]) (mvT hZ wsel)
theorem s_special (A : On l Z n0 own bytes maxL ret R p e s m args below meth c T h k n) {index : Nat} {y : MethodName} {bytes' : ByteArray} {maxL' : Nat} {rm : Room} {argsL rest : List Value} {Q' : Option Value → Heap → Prop} (M : Met l Z n0 y bytes' maxL' none rm (.ref b :: argsL).toArray h Q') (hy1 : y.name = "<init>") (wl : (Cond.methodLink own index y).before a0 Z = true) (wim : (Cond.instanceMethod y).before a0 Z = true) (wz : (Cond.initialized y.cls).before a0 Z = true) (wc : (Cond.code y bytes' maxL' none).before a0 Z = true) (hy : y.cls ≠ "java/lang/invoke/MethodHandle" ∧ y.cls ≠ "java/lang/invoke/VarHandle") {sig : MethodDescriptor} (hsig : parseMethodDescriptor y.desc = some sig) (hlen : argsL.length = sig.parameters.length) {W : Nat} (hf : rm.frames + 1 ≤ R.frames) (hl : W + (maxL' + 11) + rm.locals ≤ R.locals) (hW : (rest.map fun v => v.category).sum ≤ W) (hc : k + rm.cells ≤ R.cells) (hs : n + rm.slots ≤ R.slots) (hLs : Ls.size = maxL) {stk : List Value} (hst : stk = argsL.reverse ++ .ref b :: rest) (hd : decode bytes pc = .ok (.invokespecial index, 3)) (hp : pc + 3 = pc') (K : ∀ T' h' v, On l Z n0 own bytes maxL ret R p e s m args below meth c T' h' (k + rm.cells) (n + rm.slots) → Q' v h' → Wp p e below s n0 ck cs Q (T'.setTop (mkF m pc' Ls (v.toList ++ rest)))) : Wp p e below s n0 ck cs Q (T.setTop (mkF m pc Ls stk)) := by
  obtain ⟨locs, X, N, eT, hx, hZ, hby, hml, hown, hret, hlk, hsz⟩ := A
  subst hp
  obtain ⟨v, _, ⟨T', L', k', n'⟩, -, X', ⟨Lc, ⟨Nq, hQ⟩, l1, l2, l3⟩, q⟩ := X.specialBack hx (y := y) hy1 hown (mvT hZ wl) (mvT hZ wim) (mvT hZ wc) hy (backOf (Q := fun v h L => Fr n0 L ∧ Q' v h) (W := W) (M []) hZ wc wz hf hl) (g := mkF m pc Ls stk) rfl (by rw [hml]; exact hLs) (Steps.refl _) (a := b) (argsL := argsL) (rest := rest) (lenOf hsig hlen) hst (by show 2 * 0 + _ ≤ _; simpa using hW) (hb hby hd) (fun _ _ => ⟨rfl, eT, hc, hs⟩)
  dsimp only [Pt.U, Pt.locs, Pt.cells, Pt.slots] at X' l1 l2 l3 q hQ Nq
  subst l1 l2 l3
  exact (K T' T'.heap v ⟨_, X', Fr.app N Nq, rfl, hx, hZ, hby, hml, hown, hret, hlk, hsz⟩ hQ).goo (fun t r => q.trans r)
theorem s_private (A : On l Z n0 own bytes maxL ret R p e s m args below meth c T h k n) {index : Nat} {y : MethodName} {bytes' : ByteArray} {maxL' : Nat} {ret' : Option FieldType} {rm : Room} {argsL rest : List Value} {Q' : Option Value → Heap → Prop} {C : String} (E : Exa Z h b C) (M : Met l Z n0 y bytes' maxL' ret' rm (.ref b :: argsL).toArray h Q') (wl : (Cond.methodLink own index y).before a0 Z = true) (wim : (Cond.instanceMethod y).before a0 Z = true) {kk : Nat} (wi : (Cond.instantiable y.cls kk).before a0 Z = true) (wp : (Cond.privateMethod y).before a0 Z = true) (wz : (Cond.initialized y.cls).before a0 Z = true) (wc : (Cond.code y bytes' maxL' ret').before a0 Z = true) (hy : y.cls ≠ "java/lang/invoke/MethodHandle" ∧ y.cls ≠ "java/lang/invoke/VarHandle") {sig : MethodDescriptor} (hsig : parseMethodDescriptor y.desc = some sig) (hlen : argsL.length = sig.parameters.length) {W : Nat} (hf : rm.frames + 1 ≤ R.frames) (hl : W + (maxL' + 11) + rm.locals ≤ R.locals) (hW : (rest.map fun v => v.category).sum ≤ W) (hc : k + rm.cells ≤ R.cells) (hs : n + rm.slots ≤ R.slots) (hLs : Ls.size = maxL) {stk : List Value} (hst : stk = argsL.reverse ++ .ref b :: rest) (hd : decode bytes pc = .ok (.invokevirtual index, 3)) (hp : pc + 3 = pc') (K : ∀ T' h' v, On l Z n0 own bytes maxL ret R p e s m args below meth c T' h' (k + rm.cells) (n + rm.slots) → Q' v h' → Wp p e below s n0 ck cs Q (T'.setTop (mkF m pc' Ls (v.toList ++ rest)))) : Wp p e below s n0 ck cs Q (T.setTop (mkF m pc Ls stk)) := by
  obtain ⟨locs, X, N, eT, hx, hZ, hby, hml, hown, hret, hlk, hsz⟩ := A
  subst hp
  obtain ⟨cq, q0, q1⟩ := E.cell
  obtain ⟨ci, ki, i1, i2, -, i4, -⟩ := Cond.instantiable_spec (show (Cond.instantiable y.cls kk).before args s = true from mvT hZ wi)
  have i5 : ki.isInterface = false := by simp only [Bool.or_eq_false_iff] at i4; exact i4.1
  have hpriv := Cond.privateMethod_at (mvP hZ wp (args := args))
  have hsel := selects_self_of_private (args := args) i1 i2 i5 hpriv (mvT hZ wim) hy
  obtain ⟨v, _, ⟨T', L', k', n'⟩, -, X', ⟨Lc, ⟨Nq, hQ⟩, l1, l2, l3⟩, q⟩ := X.privateBack hx (y := y) hown (mvT hZ wl) (mvT hZ wim) hsel hpriv (mvT hZ wc) hy (backOf (Q := fun v h L => Fr n0 L ∧ Q' v h) (W := W) (M []) hZ wc wz hf hl) (g := mkF m pc Ls stk) rfl (by rw [hml]; exact hLs) (Steps.refl _) (a := b) (by rw [eT]; exact q0) q1 (argsL := argsL) (rest := rest) (lenOf hsig hlen) hst (by show 2 * 0 + _ ≤ _; simpa using hW) (hb hby hd) (fun _ _ => ⟨rfl, eT, hc, hs⟩)
  dsimp only [Pt.U, Pt.locs, Pt.cells, Pt.slots] at X' l1 l2 l3 q hQ Nq
  subst l1 l2 l3
  exact (K T' T'.heap v ⟨_, X', Fr.app N Nq, rfl, hx, hZ, hby, hml, hown, hret, hlk, hsz⟩ hQ).goo (fun t r => q.trans r)
theorem s_initO (A : On l Z n0 own bytes maxL ret R p e s m args below meth c T h k n) {index : Nat} (w1 : (Cond.methodLink own index Lib.objectInit).before a0 Z = true) (w2 : (Cond.instanceMethod Lib.objectInit).before a0 Z = true) (w3 : (Cond.code Lib.objectInit ⟨#[0xb1]⟩ 1 none).before a0 Z = true) {W : Nat} (hf : 1 ≤ R.frames) (hW : (st.map fun v => v.category).sum ≤ W) (hl : W + 12 ≤ R.locals) (hLs : Ls.size = maxL) (hd : decode bytes pc = .ok (.invokespecial index, 3)) (hp : pc + 3 = pc') (K : ∀ T', On l Z n0 own bytes maxL ret R p e s m args below meth c T' h k n → Wp p e below s n0 ck cs Q (T'.setTop (mkF m pc' Ls st))) : Wp p e below s n0 ck cs Q (T.setTop (mkF m pc Ls (.ref a :: st))) := by
  obtain ⟨locs, X, N, eT, hx, hZ, hby, hml, hown, hret, hlk, hsz⟩ := A
  subst hp
  obtain ⟨T', X', e', q⟩ := initO X hx hZ hown w1 w2 w3 eT (g := mkF m pc Ls (.ref a :: st)) rfl (by rw [hml]; exact hLs) rfl (hb hby hd) hf (W := W) (by show 2 * 0 + _ ≤ _; simpa using hW) hl
  exact (K T' ⟨_, X', N, e', hx, hZ, hby, hml, hown, hret, hlk, hsz⟩).goo q
theorem AA.arv (F : AA Z h a ty vs) (fit : ∀ v ∈ vs, fits ty v = true) (dv : Value) : ∃ (kc : ClassId) (z : Int32), z.toInt = (vs.length : Int) ∧ Arv Z h a kc ty z vs dv := by
  obtain ⟨c, A, r1, r2⟩ := F
  have ez : vs.length.toInt32.toInt = (vs.length : Int) := len_toInt r2
  have es : c.slots.size = vs.length := by rw [r1]; simp
  refine ⟨c.cls, vs.length.toInt32, ez, c, A, rfl, ?_, ?_, ?_, ?_⟩
  · rw [es, idx_ok ez]
  · rw [Int32.lt_iff_toInt_lt, ez]; have : (0 : Int32).toInt = 0 := by decide
    omega
  · intro q hq
    rw [es] at hq
    rw [r1]; simp [List.getD_eq_getElem?_getD, hq]
  · intro q hq
    rw [es] at hq
    have : vs.getD q dv = vs[q] := by simp [List.getD_eq_getElem?_getD, hq]
    rw [this]; exact fit _ (List.getElem_mem hq)
theorem aa_of_arv {kc : ClassId} {z : Int32} {dv : Value} (F : Arv Z h a kc ty z vs dv) (hl : z.toInt = (vs.length : Int)) : AA Z h a ty vs := by
  obtain ⟨c, A, q, S, N, H, G⟩ := F
  rw [idx_ok hl] at S
  refine ⟨c, A, ?_, ?_⟩
  · apply Array.ext
    · simp [S]
    · intro i h1 h2
      have := H i h1
      rw [Array.getElem?_eq_getElem h1] at this
      have h3 : i < vs.length := by simpa using h2
      simpa [List.getD_eq_getElem?_getD, h3] using this
  · have := z.toInt_lt; omega
theorem range_map (vs : List Value) (dv : Value) (i N : Nat) (hb : i + N ≤ vs.length) : (List.range N).map (fun q => vs.getD (i + q) dv) = (vs.drop i).take N := by
  apply List.ext_getElem
  · simp; omega
  · intro q h1 h2
    have h3 : q < N := by simpa using h1
    have h4 : i + q < vs.length := by omega
    simp [List.getD_eq_getElem?_getD, h4]
theorem s_arraycopy (A : On l Z n0 own bytes maxL ret R p e s m args below meth c T h k n) {index : Nat} {vd : List Value} {sp dp nn : Int32} {i j cnt : Nat} (w1 : (Cond.methodLink own index Jvm.Stand.acN).before a0 Z = true) (w2 : (Cond.native Jvm.Stand.acN).before a0 Z = true) (w3 : (Cond.static Jvm.Stand.acN).before a0 Z = true) (w4 : (Cond.initialized "java/lang/System").before a0 Z = true) (V : AA Z h a ty vs) (V' : AA Z h b ty vd) (fit : ∀ v ∈ vs, fits ty v = true) (fit' : ∀ v ∈ vd, fits ty v = true) (hpr : refKind ty = false) (hsp : sp.toInt = (i : Int)) (hdp : dp.toInt = (j : Int)) (hnn : nn.toInt = (cnt : Int)) (h4 : i + cnt ≤ vs.length) (h5 : j + cnt ≤ vd.length) (ge : n0 ≤ b) {W : Nat} (hf : 1 ≤ R.frames) (hW : (st.map fun v => v.category).sum ≤ W) (hlo : W + (nativeFrameWords "java/lang/System" "arraycopy" 5 + 11) ≤ R.locals) (hLs : Ls.size = maxL) (hd : decode bytes pc = .ok (.invokestatic index, 3)) (hp : pc + 3 = pc') (K : ∀ T' h', On l Z n0 own bytes maxL ret R p e s m args below meth c T' h' k n → Keep h h' [b] → AA Z h' b ty (vd.take j ++ (vs.drop i).take cnt ++ vd.drop (j + cnt)) → Wp p e below s n0 ck cs Q (T'.setTop (mkF m pc' Ls st))) : Wp p e below s n0 ck cs Q (T.setTop (mkF m pc Ls (.int nn :: .int dp :: .ref b :: .int sp :: .ref a :: st))) := by
  obtain ⟨locs, X, N, eT, hx, hZ, hby, hml, hown, hret, hlk, hsz⟩ := A
  subst hp
  obtain ⟨k1, z1, ez1, A1⟩ := V.arv fit .null
  obtain ⟨k2, z2, ez2, A2⟩ := V'.arv fit' .null
  have neg : ∀ {x : Int32} {q : Nat}, x.toInt = (q : Int) → ¬ x < 0 := fun {x q} hq => by
    rw [Int32.lt_iff_toInt_lt, hq]; have : (0 : Int32).toInt = 0 := by decide
    omega
  obtain ⟨T', h', L, X', e', N', K', A', q⟩ := cpA X hx hZ hown w1 w2 w3 w4 eT A1 A2 (us := (vs.drop i).take cnt) (sp := sp) (dp := dp) (nn := nn) (Or.inl ⟨rfl, hpr⟩) (neg hsp) (neg hdp) (neg hnn) (by rw [idx_ok hsp, idx_ok hnn, idx_ok ez1]; exact h4) (by rw [idx_ok hdp, idx_ok hnn, idx_ok ez2]; exact h5) (by rw [idx_ok hsp, idx_ok hnn]; exact (range_map vs _ i cnt h4).symm) (by rw [idx_ok hdp, idx_ok hnn]; exact h5) N ge (g := mkF m pc Ls (.int nn :: .int dp :: .ref b :: .int sp :: .ref a :: st)) rfl (by rw [hml]; exact hLs) rfl (hb hby hd) hf (W := W) (by show 2 * 0 + _ ≤ _; simpa using hW) hlo
  rw [idx_ok hdp, idx_ok hnn] at A'
  exact (K T' h' ⟨L, X', N', e', hx, hZ, hby, hml, hown, hret, hlk, hsz⟩ K' (aa_of_arv A' (by rw [ez2]; simp; omega))).goo q
theorem r_void (A : On l Z n0 own bytes maxL ret R p e s m args below meth c T h k n) (hr : ret = none) (hd : decode bytes pc = .ok (.return_, 1)) (hk : k ≤ ck) (hn : n ≤ cs) (q : Q none h) : Wp p e below s n0 ck cs Q (T.setTop (mkF m pc Ls [])) := by
  obtain ⟨locs, X, N, eT, hx, hZ, hby, hml, hown, hret, hlk, hsz⟩ := A
  have hR : meth.sig.returnType = none := hret.trans hr
  obtain ⟨fs, h1, hrun, hended, hW, hsame⟩ := X.leave (v := none) (fun _ => rfl) hlk
  exact ⟨_, _, X.returnOut hx hR (hb hby hd) h1, hrun, hended, _, _, rfl, ⟨N, by show Q none T.heap; rw [eT]; exact q⟩, ⟨_, rfl⟩, hW, hsame.mono hk hn⟩
theorem r_val (A : On l Z n0 own bytes maxL ret R p e s m args below meth c T h k n) {i : Instr} {t : FieldType} (hr : ret = some t) (hn0 : narrow t v = v) (hi : (i = .ireturn ∧ (t = .int ∨ t = .boolean ∨ t = .byte ∨ t = .char ∨ t = .short) ∧ ∃ z, v = .int z) ∨ (i = .lreturn ∧ t = .long ∧ ∃ z, v = .long z) ∨ (i = .dreturn ∧ t = .double ∧ ∃ z, v = .double z) ∨ (i = .freturn ∧ t = .float ∧ ∃ z, v = .float z) ∨ (i = .areturn ∧ t.isReference = true ∧ v.isRef = true)) (hd : decode bytes pc = .ok (i, 1)) (hk : k ≤ ck) (hn : n ≤ cs) (q : Q (some v) h) : Wp p e below s n0 ck cs Q (T.setTop (mkF m pc Ls (v :: st))) := by
  obtain ⟨locs, X, N, eT, hx, hZ, hby, hml, hown, hret, hlk, hsz⟩ := A
  have hR : meth.sig.returnType = some t := hret.trans hr
  obtain ⟨fs, h1, hrun, hended, hW, hsame⟩ := X.leave (v := some v) (fun z => by rw [hR] at z; cases z) hlk
  exact ⟨_, _, retOut X hx hR hn0 hi (hb hby hd) h1, hrun, hended, _, _, rfl, ⟨N, by show Q (some v) T.heap; rw [eT]; exact q⟩, ⟨_, rfl⟩, hW, hsame.mono hk hn⟩
theorem r_int (A : On l Z n0 own bytes maxL ret R p e s m args below meth c T h k n) {z : Int32} (hr : ret = some .int) (hd : decode bytes pc = .ok (.ireturn, 1)) (hk : k ≤ ck) (hn : n ≤ cs) (q : Q (some (.int z)) h) : Wp p e below s n0 ck cs Q (T.setTop (mkF m pc Ls (.int z :: st))) := r_val A hr rfl (Or.inl ⟨rfl, Or.inl rfl, _, rfl⟩) hd hk hn q
theorem r_bool (A : On l Z n0 own bytes maxL ret R p e s m args below meth c T h k n) {z : Int32} (hr : ret = some .boolean) (hz : z = 0 ∨ z = 1) (hd : decode bytes pc = .ok (.ireturn, 1)) (hk : k ≤ ck) (hn : n ≤ cs) (q : Q (some (.int z)) h) : Wp p e below s n0 ck cs Q (T.setTop (mkF m pc Ls (.int z :: st))) := r_val A hr (by rcases hz with rfl | rfl <;> rfl) (Or.inl ⟨rfl, Or.inr (Or.inl rfl), _, rfl⟩) hd hk hn q
theorem r_long (A : On l Z n0 own bytes maxL ret R p e s m args below meth c T h k n) {z : Int64} (hr : ret = some .long) (hd : decode bytes pc = .ok (.lreturn, 1)) (hk : k ≤ ck) (hn : n ≤ cs) (q : Q (some (.long z)) h) : Wp p e below s n0 ck cs Q (T.setTop (mkF m pc Ls (.long z :: st))) := r_val A hr rfl (Or.inr (Or.inl ⟨rfl, rfl, _, rfl⟩)) hd hk hn q
theorem r_ref (A : On l Z n0 own bytes maxL ret R p e s m args below meth c T h k n) {t : FieldType} (hr : ret = some t) (ht : t.isReference = true) (hv : v.isRef = true) (hd : decode bytes pc = .ok (.areturn, 1)) (hk : k ≤ ck) (hn : n ≤ cs) (q : Q (some v) h) : Wp p e below s n0 ck cs Q (T.setTop (mkF m pc Ls (v :: st))) := r_val A hr (by cases t <;> first | rfl | cases ht) (Or.inr (Or.inr (Or.inr (Or.inr ⟨rfl, ht, hv⟩)))) hd hk hn q
end Kit
end Jvm.Ow
namespace Jvm.Pilot.@@N@@
open Jvm Jvm.ClassFile Sem Op Lib Jvm.Free Jvm.Stand Jvm.LawKit Jvm.RoadKit Jvm.Ow Bundle Jvm.Pilot.@@N@@.Jvm.D
theorem d1_0 : decode prog_49_method_1_code 0 = .ok (.aload_n 0, 1) := by decide +kernel
theorem d1_1 : decode prog_49_method_1_code 1 = .ok (.invokespecial 1, 3) := by decide +kernel
theorem w6 {Z : State} {a0 : Array Value} (hw : ∀ d ∈ tables_1, d.before a0 Z = true) : (Jvm.Cond.methodLink "com/example/otab/otab/tableau/IntList" (1 : Nat) ({ cls := "java/lang/Object", name := "<init>", desc := "()V" } : Jvm.MethodName)).before a0 Z = true := hw _ (List.mem_of_getElem? (i := 6) rfl)
theorem w7 {Z : State} {a0 : Array Value} (hw : ∀ d ∈ tables_1, d.before a0 Z = true) : (Jvm.Cond.instanceMethod ({ cls := "java/lang/Object", name := "<init>", desc := "()V" } : Jvm.MethodName)).before a0 Z = true := hw _ (List.mem_of_getElem? (i := 7) rfl)
theorem w8 {Z : State} {a0 : Array Value} (hw : ∀ d ∈ tables_1, d.before a0 Z = true) : (Jvm.Cond.code ({ cls := "java/lang/Object", name := "<init>", desc := "()V" } : Jvm.MethodName) object_method_1_code (1 : Nat) (Option.none : Option Jvm.ClassFile.FieldType)).before a0 Z = true := hw _ (List.mem_of_getElem? (i := 8) rfl)
theorem d1_4 : decode prog_49_method_1_code 4 = .ok (.aload_n 0, 1) := by decide +kernel
theorem d1_5 : decode prog_49_method_1_code 5 = .ok (.bipush 16, 2) := by decide +kernel
theorem d1_7 : decode prog_49_method_1_code 7 = .ok (.newarray .int, 2) := by decide +kernel
theorem w9 {Z : State} {a0 : Array Value} (hw : ∀ d ∈ tables_1, d.before a0 Z = true) : (Jvm.Cond.arrayClass Jvm.ClassFile.FieldType.int).before a0 Z = true := hw _ (List.mem_of_getElem? (i := 9) rfl)
theorem d1_9 : decode prog_49_method_1_code 9 = .ok (.putfield 7, 3) := by decide +kernel
theorem w10 {Z : State} {a0 : Array Value} (hw : ∀ d ∈ tables_1, d.before a0 Z = true) : (Jvm.Cond.fieldLink "com/example/otab/otab/tableau/IntList" (7 : Nat) "com/example/otab/otab/tableau/IntList" "values" "[I").before a0 Z = true := hw _ (List.mem_of_getElem? (i := 10) rfl)
theorem w11 {Z : State} {a0 : Array Value} (hw : ∀ d ∈ tables_1, d.before a0 Z = true) : (Jvm.Cond.lays "com/example/otab/otab/tableau/IntList" "com/example/otab/otab/tableau/IntList" "values" "[I").before a0 Z = true := hw _ (List.mem_of_getElem? (i := 11) rfl)
theorem w1 {Z : State} {a0 : Array Value} (hw : ∀ d ∈ tables_1, d.before a0 Z = true) : (Jvm.Cond.instantiable "com/example/otab/otab/tableau/IntList" (2 : Nat)).before a0 Z = true := hw _ (List.mem_of_getElem? (i := 1) rfl)
theorem d1_12 : decode prog_49_method_1_code 12 = .ok (.return_, 1) := by decide +kernel
theorem w18 {Z : State} {a0 : Array Value} (hw : ∀ d ∈ tables_1, d.before a0 Z = true) : (Jvm.Cond.lays "com/example/otab/otab/tableau/IntList" "com/example/otab/otab/tableau/IntList" "size" "I").before a0 Z = true := hw _ (List.mem_of_getElem? (i := 18) rfl)
theorem sn_IntList_size_values {Z : State} {a0 : Array Value} (hw : ∀ d ∈ tables_1, d.before a0 Z = true) : Jvm.RoadKit.slotOf Z "com/example/otab/otab/tableau/IntList" "size" "I" ≠ Jvm.RoadKit.slotOf Z "com/example/otab/otab/tableau/IntList" "values" "[I" := slot_ne (a0 := a0) (C := "com/example/otab/otab/tableau/IntList") (Or.inl (w18 hw)) (Or.inl (w11 hw)) (by decide) (t := .int) (t' := (.array .int)) (by decide) (by decide)
abbrev y0_init : MethodName := ⟨"com/example/otab/otab/tableau/IntList", "<init>", "()V"⟩
theorem pn_com_example_otab_otab_tableau_IntList : plainName "com/example/otab/otab/tableau/IntList" = true := by first | (simp [plainName, overriddenIn]; done) | decide +kernel
abbrev c0_IntList : String := "com/example/otab/otab/tableau/IntList"
theorem d5_0 : decode prog_49_method_2_code 0 = .ok (.aload_n 0, 1) := by decide +kernel
theorem d5_1 : decode prog_49_method_2_code 1 = .ok (.getfield 13, 3) := by decide +kernel
theorem w17 {Z : State} {a0 : Array Value} (hw : ∀ d ∈ tables_1, d.before a0 Z = true) : (Jvm.Cond.fieldLink "com/example/otab/otab/tableau/IntList" (13 : Nat) "com/example/otab/otab/tableau/IntList" "size" "I").before a0 Z = true := hw _ (List.mem_of_getElem? (i := 17) rfl)
theorem d5_4 : decode prog_49_method_2_code 4 = .ok (.ireturn, 1) := by decide +kernel
abbrev y1_size : MethodName := ⟨"com/example/otab/otab/tableau/IntList", "size", "()I"⟩
theorem d6_0 : decode prog_49_method_3_code 0 = .ok (.iload_n 1, 1) := by decide +kernel
theorem d6_1 : decode prog_49_method_3_code 1 = .ok (.aload_n 0, 1) := by decide +kernel
theorem d6_2 : decode prog_49_method_3_code 2 = .ok (.getfield 13, 3) := by decide +kernel
theorem d6_5 : decode prog_49_method_3_code 5 = .ok (.if_icmp .lt 12, 3) := by decide +kernel
theorem d6_17 : decode prog_49_method_3_code 17 = .ok (.aload_n 0, 1) := by decide +kernel
theorem d6_18 : decode prog_49_method_3_code 18 = .ok (.getfield 7, 3) := by decide +kernel
theorem d6_21 : decode prog_49_method_3_code 21 = .ok (.iload_n 1, 1) := by decide +kernel
theorem d6_22 : decode prog_49_method_3_code 22 = .ok (.iaload, 1) := by decide +kernel
theorem d6_23 : decode prog_49_method_3_code 23 = .ok (.ireturn, 1) := by decide +kernel
abbrev y2_get : MethodName := ⟨"com/example/otab/otab/tableau/IntList", "get", "(I)I"⟩
theorem d3_0 : decode prog_49_method_5_code 0 = .ok (.aload_n 0, 1) := by decide +kernel
theorem d3_1 : decode prog_49_method_5_code 1 = .ok (.getfield 13, 3) := by decide +kernel
theorem d3_4 : decode prog_49_method_5_code 4 = .ok (.aload_n 0, 1) := by decide +kernel
theorem d3_5 : decode prog_49_method_5_code 5 = .ok (.getfield 7, 3) := by decide +kernel
theorem d3_8 : decode prog_49_method_5_code 8 = .ok (.arraylength, 1) := by decide +kernel
theorem d3_9 : decode prog_49_method_5_code 9 = .ok (.if_icmp .ne 20, 3) := by decide +kernel
theorem d3_29 : decode prog_49_method_5_code 29 = .ok (.aload_n 0, 1) := by decide +kernel
theorem d3_30 : decode prog_49_method_5_code 30 = .ok (.getfield 7, 3) := by decide +kernel
theorem d3_33 : decode prog_49_method_5_code 33 = .ok (.aload_n 0, 1) := by decide +kernel
theorem d3_34 : decode prog_49_method_5_code 34 = .ok (.dup, 1) := by decide +kernel
theorem d3_35 : decode prog_49_method_5_code 35 = .ok (.getfield 13, 3) := by decide +kernel
theorem d3_38 : decode prog_49_method_5_code 38 = .ok (.dup_x1, 1) := by decide +kernel
theorem d3_39 : decode prog_49_method_5_code 39 = .ok (.iconst 1, 1) := by decide +kernel
theorem d3_40 : decode prog_49_method_5_code 40 = .ok (.iadd, 1) := by decide +kernel
theorem d3_41 : decode prog_49_method_5_code 41 = .ok (.putfield 13, 3) := by decide +kernel
theorem d3_44 : decode prog_49_method_5_code 44 = .ok (.iload_n 1, 1) := by decide +kernel
theorem d3_45 : decode prog_49_method_5_code 45 = .ok (.iastore, 1) := by decide +kernel
theorem d3_46 : decode prog_49_method_5_code 46 = .ok (.return_, 1) := by decide +kernel
theorem sn_IntList_values_size {Z : State} {a0 : Array Value} (hw : ∀ d ∈ tables_1, d.before a0 Z = true) : Jvm.RoadKit.slotOf Z "com/example/otab/otab/tableau/IntList" "values" "[I" ≠ Jvm.RoadKit.slotOf Z "com/example/otab/otab/tableau/IntList" "size" "I" := slot_ne (a0 := a0) (C := "com/example/otab/otab/tableau/IntList") (Or.inl (w11 hw)) (Or.inl (w18 hw)) (by decide) (t := (.array .int)) (t' := .int) (by decide) (by decide)
abbrev y3_add : MethodName := ⟨"com/example/otab/otab/tableau/IntList", "add", "(I)V"⟩
theorem d4_0 : decode prog_49_method_6_code 0 = .ok (.aload_n 0, 1) := by decide +kernel
theorem d4_1 : decode prog_49_method_6_code 1 = .ok (.getfield 13, 3) := by decide +kernel
theorem d4_4 : decode prog_49_method_6_code 4 = .ok (.ifCond .ne 13, 3) := by decide +kernel
theorem d4_17 : decode prog_49_method_6_code 17 = .ok (.aload_n 0, 1) := by decide +kernel
theorem d4_18 : decode prog_49_method_6_code 18 = .ok (.getfield 7, 3) := by decide +kernel
theorem d4_21 : decode prog_49_method_6_code 21 = .ok (.aload_n 0, 1) := by decide +kernel
theorem d4_22 : decode prog_49_method_6_code 22 = .ok (.dup, 1) := by decide +kernel
theorem d4_23 : decode prog_49_method_6_code 23 = .ok (.getfield 13, 3) := by decide +kernel
theorem d4_26 : decode prog_49_method_6_code 26 = .ok (.iconst 1, 1) := by decide +kernel
theorem d4_27 : decode prog_49_method_6_code 27 = .ok (.isub, 1) := by decide +kernel
theorem d4_28 : decode prog_49_method_6_code 28 = .ok (.dup_x1, 1) := by decide +kernel
theorem d4_29 : decode prog_49_method_6_code 29 = .ok (.putfield 13, 3) := by decide +kernel
theorem d4_32 : decode prog_49_method_6_code 32 = .ok (.iaload, 1) := by decide +kernel
theorem d4_33 : decode prog_49_method_6_code 33 = .ok (.ireturn, 1) := by decide +kernel
abbrev y4_removeLast : MethodName := ⟨"com/example/otab/otab/tableau/IntList", "removeLast", "()I"⟩
theorem w0 {Z : State} {a0 : Array Value} (hw : ∀ d ∈ tables_1, d.before a0 Z = true) : (Jvm.Cond.classLink "com/example/otab/otab/tableau/IntListRemoveLastPinLaw" (7 : Nat) "com/example/otab/otab/tableau/IntList").before a0 Z = true := hw _ (List.mem_of_getElem? (i := 0) rfl)
theorem w2 {Z : State} {a0 : Array Value} (hw : ∀ d ∈ tables_1, d.before a0 Z = true) : (Jvm.Cond.initialized "com/example/otab/otab/tableau/IntList").before a0 Z = true := hw _ (List.mem_of_getElem? (i := 2) rfl)
theorem w3 {Z : State} {a0 : Array Value} (hw : ∀ d ∈ tables_1, d.before a0 Z = true) : (Jvm.Cond.methodLink "com/example/otab/otab/tableau/IntListRemoveLastPinLaw" (9 : Nat) ({ cls := "com/example/otab/otab/tableau/IntList", name := "<init>", desc := "()V" } : Jvm.MethodName)).before a0 Z = true := hw _ (List.mem_of_getElem? (i := 3) rfl)
theorem pd___V : parseMethodDescriptor "()V" = some ⟨[], none⟩ := by decide +kernel
theorem w5 {Z : State} {a0 : Array Value} (hw : ∀ d ∈ tables_1, d.before a0 Z = true) : (Jvm.Cond.code ({ cls := "com/example/otab/otab/tableau/IntList", name := "<init>", desc := "()V" } : Jvm.MethodName) prog_49_method_1_code (1 : Nat) (Option.none : Option Jvm.ClassFile.FieldType)).before a0 Z = true := hw _ (List.mem_of_getElem? (i := 5) rfl)
theorem w4 {Z : State} {a0 : Array Value} (hw : ∀ d ∈ tables_1, d.before a0 Z = true) : (Jvm.Cond.instanceMethod ({ cls := "com/example/otab/otab/tableau/IntList", name := "<init>", desc := "()V" } : Jvm.MethodName)).before a0 Z = true := hw _ (List.mem_of_getElem? (i := 4) rfl)
theorem w12 {Z : State} {a0 : Array Value} (hw : ∀ d ∈ tables_1, d.before a0 Z = true) : (Jvm.Cond.methodLink "com/example/otab/otab/tableau/IntListRemoveLastPinLaw" (10 : Nat) ({ cls := "com/example/otab/otab/tableau/IntList", name := "add", desc := "(I)V" } : Jvm.MethodName)).before a0 Z = true := hw _ (List.mem_of_getElem? (i := 12) rfl)
theorem pd__I_V : parseMethodDescriptor "(I)V" = some ⟨[.int], none⟩ := by decide +kernel
theorem w16 {Z : State} {a0 : Array Value} (hw : ∀ d ∈ tables_1, d.before a0 Z = true) : (Jvm.Cond.code ({ cls := "com/example/otab/otab/tableau/IntList", name := "add", desc := "(I)V" } : Jvm.MethodName) prog_49_method_5_code (2 : Nat) (Option.none : Option Jvm.ClassFile.FieldType)).before a0 Z = true := hw _ (List.mem_of_getElem? (i := 16) rfl)
theorem w15 {Z : State} {a0 : Array Value} (hw : ∀ d ∈ tables_1, d.before a0 Z = true) : (Jvm.Cond.selects "com/example/otab/otab/tableau/IntList" ({ cls := "com/example/otab/otab/tableau/IntList", name := "add", desc := "(I)V" } : Jvm.MethodName) ({ cls := "com/example/otab/otab/tableau/IntList", name := "add", desc := "(I)V" } : Jvm.MethodName)).before a0 Z = true := hw _ (List.mem_of_getElem? (i := 15) rfl)
theorem w13 {Z : State} {a0 : Array Value} (hw : ∀ d ∈ tables_1, d.before a0 Z = true) : (Jvm.Cond.declares ({ cls := "com/example/otab/otab/tableau/IntList", name := "add", desc := "(I)V" } : Jvm.MethodName)).before a0 Z = true := hw _ (List.mem_of_getElem? (i := 13) rfl)
theorem w14 {Z : State} {a0 : Array Value} (hw : ∀ d ∈ tables_1, d.before a0 Z = true) : (Jvm.Cond.instanceMethod ({ cls := "com/example/otab/otab/tableau/IntList", name := "add", desc := "(I)V" } : Jvm.MethodName)).before a0 Z = true := hw _ (List.mem_of_getElem? (i := 14) rfl)
theorem w19 {Z : State} {a0 : Array Value} (hw : ∀ d ∈ tables_1, d.before a0 Z = true) : (Jvm.Cond.methodLink "com/example/otab/otab/tableau/IntListRemoveLastPinLaw" (14 : Nat) ({ cls := "com/example/otab/otab/tableau/IntList", name := "removeLast", desc := "()I" } : Jvm.MethodName)).before a0 Z = true := hw _ (List.mem_of_getElem? (i := 19) rfl)
theorem pd___I : parseMethodDescriptor "()I" = some ⟨[], some .int⟩ := by decide +kernel
theorem w23 {Z : State} {a0 : Array Value} (hw : ∀ d ∈ tables_1, d.before a0 Z = true) : (Jvm.Cond.code ({ cls := "com/example/otab/otab/tableau/IntList", name := "removeLast", desc := "()I" } : Jvm.MethodName) prog_49_method_6_code (1 : Nat) (Option.some Jvm.ClassFile.FieldType.int)).before a0 Z = true := hw _ (List.mem_of_getElem? (i := 23) rfl)
theorem w22 {Z : State} {a0 : Array Value} (hw : ∀ d ∈ tables_1, d.before a0 Z = true) : (Jvm.Cond.selects "com/example/otab/otab/tableau/IntList" ({ cls := "com/example/otab/otab/tableau/IntList", name := "removeLast", desc := "()I" } : Jvm.MethodName) ({ cls := "com/example/otab/otab/tableau/IntList", name := "removeLast", desc := "()I" } : Jvm.MethodName)).before a0 Z = true := hw _ (List.mem_of_getElem? (i := 22) rfl)
theorem w20 {Z : State} {a0 : Array Value} (hw : ∀ d ∈ tables_1, d.before a0 Z = true) : (Jvm.Cond.declares ({ cls := "com/example/otab/otab/tableau/IntList", name := "removeLast", desc := "()I" } : Jvm.MethodName)).before a0 Z = true := hw _ (List.mem_of_getElem? (i := 20) rfl)
theorem w21 {Z : State} {a0 : Array Value} (hw : ∀ d ∈ tables_1, d.before a0 Z = true) : (Jvm.Cond.instanceMethod ({ cls := "com/example/otab/otab/tableau/IntList", name := "removeLast", desc := "()I" } : Jvm.MethodName)).before a0 Z = true := hw _ (List.mem_of_getElem? (i := 21) rfl)
theorem w24 {Z : State} {a0 : Array Value} (hw : ∀ d ∈ tables_1, d.before a0 Z = true) : (Jvm.Cond.methodLink "com/example/otab/otab/tableau/IntListRemoveLastPinLaw" (18 : Nat) ({ cls := "com/example/otab/otab/tableau/IntList", name := "size", desc := "()I" } : Jvm.MethodName)).before a0 Z = true := hw _ (List.mem_of_getElem? (i := 24) rfl)
theorem w28 {Z : State} {a0 : Array Value} (hw : ∀ d ∈ tables_1, d.before a0 Z = true) : (Jvm.Cond.code ({ cls := "com/example/otab/otab/tableau/IntList", name := "size", desc := "()I" } : Jvm.MethodName) prog_49_method_2_code (1 : Nat) (Option.some Jvm.ClassFile.FieldType.int)).before a0 Z = true := hw _ (List.mem_of_getElem? (i := 28) rfl)
theorem w27 {Z : State} {a0 : Array Value} (hw : ∀ d ∈ tables_1, d.before a0 Z = true) : (Jvm.Cond.selects "com/example/otab/otab/tableau/IntList" ({ cls := "com/example/otab/otab/tableau/IntList", name := "size", desc := "()I" } : Jvm.MethodName) ({ cls := "com/example/otab/otab/tableau/IntList", name := "size", desc := "()I" } : Jvm.MethodName)).before a0 Z = true := hw _ (List.mem_of_getElem? (i := 27) rfl)
theorem w25 {Z : State} {a0 : Array Value} (hw : ∀ d ∈ tables_1, d.before a0 Z = true) : (Jvm.Cond.declares ({ cls := "com/example/otab/otab/tableau/IntList", name := "size", desc := "()I" } : Jvm.MethodName)).before a0 Z = true := hw _ (List.mem_of_getElem? (i := 25) rfl)
theorem w26 {Z : State} {a0 : Array Value} (hw : ∀ d ∈ tables_1, d.before a0 Z = true) : (Jvm.Cond.instanceMethod ({ cls := "com/example/otab/otab/tableau/IntList", name := "size", desc := "()I" } : Jvm.MethodName)).before a0 Z = true := hw _ (List.mem_of_getElem? (i := 26) rfl)
theorem w29 {Z : State} {a0 : Array Value} (hw : ∀ d ∈ tables_1, d.before a0 Z = true) : (Jvm.Cond.methodLink "com/example/otab/otab/tableau/IntListRemoveLastPinLaw" (21 : Nat) ({ cls := "com/example/otab/otab/tableau/IntList", name := "get", desc := "(I)I" } : Jvm.MethodName)).before a0 Z = true := hw _ (List.mem_of_getElem? (i := 29) rfl)
theorem pd__I_I : parseMethodDescriptor "(I)I" = some ⟨[.int], some .int⟩ := by decide +kernel
theorem w33 {Z : State} {a0 : Array Value} (hw : ∀ d ∈ tables_1, d.before a0 Z = true) : (Jvm.Cond.code ({ cls := "com/example/otab/otab/tableau/IntList", name := "get", desc := "(I)I" } : Jvm.MethodName) prog_49_method_3_code (2 : Nat) (Option.some Jvm.ClassFile.FieldType.int)).before a0 Z = true := hw _ (List.mem_of_getElem? (i := 33) rfl)
theorem w32 {Z : State} {a0 : Array Value} (hw : ∀ d ∈ tables_1, d.before a0 Z = true) : (Jvm.Cond.selects "com/example/otab/otab/tableau/IntList" ({ cls := "com/example/otab/otab/tableau/IntList", name := "get", desc := "(I)I" } : Jvm.MethodName) ({ cls := "com/example/otab/otab/tableau/IntList", name := "get", desc := "(I)I" } : Jvm.MethodName)).before a0 Z = true := hw _ (List.mem_of_getElem? (i := 32) rfl)
theorem w30 {Z : State} {a0 : Array Value} (hw : ∀ d ∈ tables_1, d.before a0 Z = true) : (Jvm.Cond.declares ({ cls := "com/example/otab/otab/tableau/IntList", name := "get", desc := "(I)I" } : Jvm.MethodName)).before a0 Z = true := hw _ (List.mem_of_getElem? (i := 30) rfl)
theorem w31 {Z : State} {a0 : Array Value} (hw : ∀ d ∈ tables_1, d.before a0 Z = true) : (Jvm.Cond.instanceMethod ({ cls := "com/example/otab/otab/tableau/IntList", name := "get", desc := "(I)I" } : Jvm.MethodName)).before a0 Z = true := hw _ (List.mem_of_getElem? (i := 31) rfl)
theorem pn_com_example_otab_otab_tableau_IntListRemoveLastPinLaw : plainName "com/example/otab/otab/tableau/IntListRemoveLastPinLaw" = true := by first | (simp [plainName, overriddenIn]; done) | decide +kernel
abbrev c1_IntListRemoveLastPinLaw : String := "com/example/otab/otab/tableau/IntListRemoveLastPinLaw"
def Lst (Z : State) (n0 : Nat) (h : Heap) (a arr : Addr) (n : Int32) (vs : List Value) : Prop :=
  Exa Z h a "com/example/otab/otab/tableau/IntList" ∧ Fld Z h a "com/example/otab/otab/tableau/IntList" "values" "[I" (.ref arr) ∧ Fld Z h a "com/example/otab/otab/tableau/IntList" "size" "I" (.int n) ∧ AA Z h arr .int vs ∧ a ≠ arr ∧ n0 ≤ a ∧ n0 ≤ arr
theorem Lst.keep {Z : State} {n0 : Nat} {h h' : Heap} {a arr : Addr} {n : Int32} {vs : List Value} {ws : List Addr} (H : Lst Z n0 h a arr n vs) (K : Keep h h' ws) (q1 : a ∉ ws) (q2 : arr ∉ ws) : Lst Z n0 h' a arr n vs :=
  ⟨H.1.keep K, H.2.1.keep K q1, H.2.2.1.keep K q1, H.2.2.2.1.keep K q2, H.2.2.2.2⟩
set_option maxRecDepth 65536 in
set_option maxHeartbeats 40000000 in
theorem l_init (l : Launch) (Z : State) (a0 : Array Value) (hw : ∀ d ∈ tables_1, d.before a0 Z = true) (n0 : Nat) (h0 : Heap) (Z0 : n0 ≤ h0.size) (a : Addr) (E : Exa Z h0 a "com/example/otab/otab/tableau/IntList") (Fv : Fld Z h0 a "com/example/otab/otab/tableau/IntList" "values" "[I" .null) (Fs : Fld Z h0 a "com/example/otab/otab/tableau/IntList" "size" "I" (.int 0)) (ga : n0 ≤ a) :
    Met l Z n0 y0_init prog_49_method_1_code 1 (Option.none : Option Jvm.ClassFile.FieldType) ({ frames := 1, cells := 1, slots := 16, locals := 12 } : Room) #[(.ref a)] h0 (fun v h => v = none ∧ Keep h0 h [a] ∧ ∃ arr, Lst Z n0 h a arr 0 [.int (0 : Int32), .int (0 : Int32), .int (0 : Int32), .int (0 : Int32), .int (0 : Int32), .int (0 : Int32), .int (0 : Int32), .int (0 : Int32), .int (0 : Int32), .int (0 : Int32), .int (0 : Int32), .int (0 : Int32), .int (0 : Int32), .int (0 : Int32), .int (0 : Int32), .int (0 : Int32)] ∧ h0.size ≤ arr) := by
  refine met_intro (own := c0_IntList) (plainFor_of_name pn_com_example_otab_otab_tableau_IntList) rfl Z0 ?_
  intro p e s m below meth c T A hnm
  refine Wp.cast (g' := mkF m 0 #[rv a] []) (by first | (simp [entryFrame, mkF, argsToLocals, Value.category, maxLocals]; done) | rfl) ?_
  refine s_aloadN (pc' := 1) A d1_0 rfl rfl rfl ?_
  refine s_initO (pc' := 4) (W := 0) A (w6 hw) (w7 hw) (w8 hw) (by decide) (Nat.le_of_eq rfl) (by decide) rfl d1_1 rfl fun T A => ?_
  refine s_aloadN (pc' := 5) A d1_4 rfl rfl rfl ?_
  refine s_bipush (pc' := 7) (z := (16 : Int32)) A d1_5 rfl (by decide) ?_
  refine s_newarray (pc' := 9) (aty := .int) (ty := .int) (dv := (.int (0 : Int32))) (i := 16) (cap := 16) A rfl rfl (w9 hw) (by decide) (by decide) (by decide) (by decide) (by decide) d1_7 rfl fun T h1 b2 A g3 ge4 X5 V6 => ?_
  have ne7 : a ≠ b2 := lt_ne E.lt g3
  have bo8 : h0.size ≤ b2 := le_eq (Keep.refl h0 [a]).1 g3
  have V6 : AA Z h1 b2 .int [.int (0 : Int32), .int (0 : Int32), .int (0 : Int32), .int (0 : Int32), .int (0 : Int32), .int (0 : Int32), .int (0 : Int32), .int (0 : Int32), .int (0 : Int32), .int (0 : Int32), .int (0 : Int32), .int (0 : Int32), .int (0 : Int32), .int (0 : Int32), .int (0 : Int32), .int (0 : Int32)] := V6
  have F9 := (Fv.ext X5)
  have E10 := (E.ext X5)
  refine s_putfield (pc' := 12) (host := "") A (Or.inl (w10 hw)) Via.refl F9 E10 (Or.inl (w11 hw)) (w1 hw) (ty := (.array .int)) (by decide) rfl rfl ga d1_9 rfl fun T h11 A W12 => ?_
  have F13 := F9.same W12
  have K14 := (((Keep.refl h0 [a]).ext X5).wr W12 (Or.inl (List.mem_of_getElem? (i := 0) rfl)))
  have E15 := (E10.wr W12)
  have F16 := ((Fs.ext X5).other W12 (Or.inr (sn_IntList_size_values hw)))
  have V17 := (V6.other W12 (Ne.symm ne7))
  exact r_void A rfl d1_12 (by decide) (by decide) (⟨rfl, K14, b2, ⟨E15, F13, F16, V17, ne7, ga, ge4⟩, bo8⟩)
set_option maxRecDepth 65536 in
set_option maxHeartbeats 40000000 in
theorem l_size (l : Launch) (Z : State) (a0 : Array Value) (hw : ∀ d ∈ tables_1, d.before a0 Z = true) (n0 : Nat) (h0 : Heap) (Z0 : n0 ≤ h0.size) (a arr : Addr) (n : Int32) (vs : List Value) (H : Lst Z n0 h0 a arr n vs) :
    Met l Z n0 y1_size prog_49_method_2_code 1 (Option.some Jvm.ClassFile.FieldType.int) ({ frames := 0, cells := 0, slots := 0, locals := 0 } : Room) #[(.ref a)] h0 (fun v h => v = some (.int n) ∧ h = h0) := by
  refine met_intro (own := c0_IntList) (plainFor_of_name pn_com_example_otab_otab_tableau_IntList) rfl Z0 ?_
  intro p e s m below meth c T A hnm
  refine Wp.cast (g' := mkF m 0 #[rv a] []) (by first | (simp [entryFrame, mkF, argsToLocals, Value.category, maxLocals]; done) | rfl) ?_
  obtain ⟨E, Fv, Fs, V, ne, ga, gr⟩ := H
  refine s_aloadN (pc' := 1) A d5_0 rfl rfl rfl ?_
  refine s_getfield (pc' := 4) (host := "") A (Or.inl (w17 hw)) Via.refl Fs d5_1 rfl fun T A => ?_
  exact r_int A rfl d5_4 (by decide) (by decide) (⟨rfl, rfl⟩)
set_option maxRecDepth 65536 in
set_option maxHeartbeats 40000000 in
theorem l_get (l : Launch) (Z : State) (a0 : Array Value) (hw : ∀ d ∈ tables_1, d.before a0 Z = true) (n0 : Nat) (h0 : Heap) (Z0 : n0 ≤ h0.size) (a arr : Addr) (n : Int32) (vs : List Value) (j : Int32) (i : Nat) (x : Int32) (H : Lst Z n0 h0 a arr n vs) (hj : j.toInt = (i : Int)) (hv : vs[i]? = some (.int x)) (hlt : j < n) :
    Met l Z n0 y2_get prog_49_method_3_code 2 (Option.some Jvm.ClassFile.FieldType.int) ({ frames := 0, cells := 0, slots := 0, locals := 0 } : Room) #[(.ref a), (.int j)] h0 (fun v h => v = some (.int x) ∧ h = h0) := by
  refine met_intro (own := c0_IntList) (plainFor_of_name pn_com_example_otab_otab_tableau_IntList) rfl Z0 ?_
  intro p e s m below meth c T A hnm
  refine Wp.cast (g' := mkF m 0 #[rv a, iv j] []) (by first | (simp [entryFrame, mkF, argsToLocals, Value.category, maxLocals]; done) | rfl) ?_
  obtain ⟨E, Fv, Fs, V, ne, ga, gr⟩ := H
  refine s_iloadN (pc' := 1) A d6_0 rfl rfl ?_
  refine s_aloadN (pc' := 2) A d6_1 rfl rfl rfl ?_
  refine s_getfield (pc' := 5) (host := "") A (Or.inl (w17 hw)) Via.refl Fs d6_2 rfl fun T A => ?_
  refine s_icmpY (pc' := 17) A d6_5 (tlt hlt).1 (by decide) (by decide) ?_
  refine s_aloadN (pc' := 18) A d6_17 rfl rfl rfl ?_
  refine s_getfield (pc' := 21) (host := "") A (Or.inl (w10 hw)) Via.refl Fv d6_18 rfl fun T A => ?_
  refine s_iloadN (pc' := 22) A d6_21 rfl rfl ?_
  refine s_iaload (pc' := 23) (i := i) (v := (.int x)) A V hj hv d6_22 rfl ?_
  exact r_int A rfl d6_23 (by decide) (by decide) (⟨rfl, rfl⟩)
set_option maxRecDepth 65536 in
set_option maxHeartbeats 40000000 in
theorem l_add (l : Launch) (Z : State) (a0 : Array Value) (hw : ∀ d ∈ tables_1, d.before a0 Z = true) (n0 : Nat) (h0 : Heap) (Z0 : n0 ≤ h0.size) (a arr : Addr) (n : Int32) (vs : List Value) (x n' z : Int32) (i : Nat) (vs' : List Value) (H : Lst Z n0 h0 a arr n vs) (hn : n.toInt = (i : Int)) (hi : i < vs.length) (hz : z.toInt = (vs.length : Int)) (hn' : n + 1 = n') (hvs : vs.set i (.int x) = vs') :
    Met l Z n0 y3_add prog_49_method_5_code 2 (Option.none : Option Jvm.ClassFile.FieldType) ({ frames := 0, cells := 0, slots := 0, locals := 0 } : Room) #[(.ref a), (.int x)] h0 (fun v h => v = none ∧ Keep h0 h [a, arr] ∧ Lst Z n0 h a arr n' vs') := by
  refine met_intro (own := c0_IntList) (plainFor_of_name pn_com_example_otab_otab_tableau_IntList) rfl Z0 ?_
  intro p e s m below meth c T A hnm
  refine Wp.cast (g' := mkF m 0 #[rv a, iv x] []) (by first | (simp [entryFrame, mkF, argsToLocals, Value.category, maxLocals]; done) | rfl) ?_
  obtain ⟨E, Fv, Fs, V, ne, ga, gr⟩ := H
  refine s_aloadN (pc' := 1) A d3_0 rfl rfl rfl ?_
  refine s_getfield (pc' := 4) (host := "") A (Or.inl (w17 hw)) Via.refl Fs d3_1 rfl fun T A => ?_
  refine s_aloadN (pc' := 5) A d3_4 rfl rfl rfl ?_
  refine s_getfield (pc' := 8) (host := "") A (Or.inl (w10 hw)) Via.refl Fv d3_5 rfl fun T A => ?_
  refine s_arraylength (pc' := 9) (z := z) A V hz d3_8 rfl ?_
  refine s_icmpY (pc' := 29) A d3_9 (feq (fun q => by have q1 := congrArg Int32.toInt q; rw [hn, hz] at q1; omega)).2 (by decide) (by decide) ?_
  refine s_aloadN (pc' := 30) A d3_29 rfl rfl rfl ?_
  refine s_getfield (pc' := 33) (host := "") A (Or.inl (w10 hw)) Via.refl Fv d3_30 rfl fun T A => ?_
  refine s_aloadN (pc' := 34) A d3_33 rfl rfl rfl ?_
  refine s_dup (pc' := 35) A d3_34 rfl rfl ?_
  refine s_getfield (pc' := 38) (host := "") A (Or.inl (w17 hw)) Via.refl Fs d3_35 rfl fun T A => ?_
  refine s_dupX1 (pc' := 39) A d3_38 rfl rfl rfl ?_
  refine s_iconst (pc' := 40) (z := (1 : Int32)) A d3_39 rfl (by decide) ?_
  refine s_iadd (pc' := 41) (z := n') A d3_40 rfl hn' ?_
  refine s_putfield (pc' := 44) (host := "") A (Or.inl (w17 hw)) Via.refl Fs E (Or.inl (w18 hw)) (w1 hw) (ty := .int) (by decide) rfl rfl ga d3_41 rfl fun T h1 A W2 => ?_
  have F3 := Fs.same W2
  refine s_iloadN (pc' := 45) A d3_44 rfl rfl ?_
  have V4 := (V.other W2 (Ne.symm ne))
  refine s_iastore (pc' := 46) (i := i) A V4 hn hi gr d3_45 rfl fun T h5 A W6 V7 => ?_
  have V7 : AA Z h5 arr .int vs' := (AA.cast V7 hvs)
  have K8 := (((Keep.refl h0 [a, arr]).wr W2 (Or.inl (List.mem_of_getElem? (i := 0) rfl))).wr W6 (Or.inl (List.mem_of_getElem? (i := 1) rfl)))
  have E9 := ((E.wr W2).wr W6)
  have F10 := ((Fv.other W2 (Or.inr (sn_IntList_values_size hw))).other W6 (Or.inl ne))
  have F11 := (F3.other W6 (Or.inl ne))
  exact r_void A rfl d3_46 (by decide) (by decide) (⟨rfl, K8, E9, F10, F11, V7, ne, ga, gr⟩)
set_option maxRecDepth 65536 in
set_option maxHeartbeats 40000000 in
theorem l_rem (l : Launch) (Z : State) (a0 : Array Value) (hw : ∀ d ∈ tables_1, d.before a0 Z = true) (n0 : Nat) (h0 : Heap) (Z0 : n0 ≤ h0.size) (a arr : Addr) (n : Int32) (vs : List Value) (n' x : Int32) (i : Nat) (H : Lst Z n0 h0 a arr n vs) (hnz : ¬ n = (0 : Int32)) (hn' : n - 1 = n') (hj : n'.toInt = (i : Int)) (hv : vs[i]? = some (.int x)) :
    Met l Z n0 y4_removeLast prog_49_method_6_code 1 (Option.some Jvm.ClassFile.FieldType.int) ({ frames := 0, cells := 0, slots := 0, locals := 0 } : Room) #[(.ref a)] h0 (fun v h => v = some (.int x) ∧ Keep h0 h [a] ∧ Lst Z n0 h a arr n' vs) := by
  refine met_intro (own := c0_IntList) (plainFor_of_name pn_com_example_otab_otab_tableau_IntList) rfl Z0 ?_
  intro p e s m below meth c T A hnm
  refine Wp.cast (g' := mkF m 0 #[rv a] []) (by first | (simp [entryFrame, mkF, argsToLocals, Value.category, maxLocals]; done) | rfl) ?_
  obtain ⟨E, Fv, Fs, V, ne, ga, gr⟩ := H
  refine s_aloadN (pc' := 1) A d4_0 rfl rfl rfl ?_
  refine s_getfield (pc' := 4) (host := "") A (Or.inl (w17 hw)) Via.refl Fs d4_1 rfl fun T A => ?_
  refine s_ifY (pc' := 17) A d4_4 ((if0 _ _).trans (feq hnz).2) (by decide) (by decide) ?_
  refine s_aloadN (pc' := 18) A d4_17 rfl rfl rfl ?_
  refine s_getfield (pc' := 21) (host := "") A (Or.inl (w10 hw)) Via.refl Fv d4_18 rfl fun T A => ?_
  refine s_aloadN (pc' := 22) A d4_21 rfl rfl rfl ?_
  refine s_dup (pc' := 23) A d4_22 rfl rfl ?_
  refine s_getfield (pc' := 26) (host := "") A (Or.inl (w17 hw)) Via.refl Fs d4_23 rfl fun T A => ?_
  refine s_iconst (pc' := 27) (z := (1 : Int32)) A d4_26 rfl (by decide) ?_
  refine s_isub (pc' := 28) (z := n') A d4_27 rfl hn' ?_
  refine s_dupX1 (pc' := 29) A d4_28 rfl rfl rfl ?_
  refine s_putfield (pc' := 32) (host := "") A (Or.inl (w17 hw)) Via.refl Fs E (Or.inl (w18 hw)) (w1 hw) (ty := .int) (by decide) rfl rfl ga d4_29 rfl fun T h1 A W2 => ?_
  have F3 := Fs.same W2
  have V4 := (V.other W2 (Ne.symm ne))
  refine s_iaload (pc' := 33) (i := i) (v := (.int x)) A V4 hj hv d4_32 rfl ?_
  have K5 := ((Keep.refl h0 [a]).wr W2 (Or.inl (List.mem_of_getElem? (i := 0) rfl)))
  have E6 := (E.wr W2)
  have F7 := (Fv.other W2 (Or.inr (sn_IntList_values_size hw)))
  exact r_int A rfl d4_33 (by decide) (by decide) (⟨rfl, K5, E6, F7, F3, V4, ne, ga, gr⟩)
theorem own_m (n : Int32) : (((1 : Int32) + (n &&& (1 : Int32))) + ((ush n (1 : Int32)) &&& (1 : Int32))) = 1 ∨ (((1 : Int32) + (n &&& (1 : Int32))) + ((ush n (1 : Int32)) &&& (1 : Int32))) = 2 ∨ (((1 : Int32) + (n &&& (1 : Int32))) + ((ush n (1 : Int32)) &&& (1 : Int32))) = 3 := by
  have h1 : (n &&& (1 : Int32)) = 0 ∨ (n &&& (1 : Int32)) = 1 := by
    have e := c_mask n (1 : Int32) 1 (by decide) (by decide)
    have e0 : (0 : Int32).toInt = 0 := by decide
    have e1 : (1 : Int32).toInt = 1 := by decide
    rcases (by omega : (n &&& (1 : Int32)).toInt = 0 ∨ (n &&& (1 : Int32)).toInt = 1) with q | q
    · exact Or.inl (Int32.toInt_inj.mp (by omega))
    · exact Or.inr (Int32.toInt_inj.mp (by omega))
  have h2 : ∀ k : Int32, (k &&& (1 : Int32)) = 0 ∨ (k &&& (1 : Int32)) = 1 := fun k => by
    have e := c_mask k (1 : Int32) 1 (by decide) (by decide)
    have e0 : (0 : Int32).toInt = 0 := by decide
    have e1 : (1 : Int32).toInt = 1 := by decide
    rcases (by omega : (k &&& (1 : Int32)).toInt = 0 ∨ (k &&& (1 : Int32)).toInt = 1) with q | q
    · exact Or.inl (Int32.toInt_inj.mp (by omega))
    · exact Or.inr (Int32.toInt_inj.mp (by omega))
  rcases h1 with h1 | h1 <;> rcases h2 (ush n (1 : Int32)) with h2 | h2 <;> rw [h1, h2] <;> decide
set_option maxRecDepth 65536 in
set_option maxHeartbeats 40000000 in
theorem rm0 (l : Launch) (Z : State) (a0 : Array Value) (hw : ∀ d ∈ tables_1, d.before a0 Z = true) (n0 : Nat) (h0 : Heap) (Z0 : n0 ≤ h0.size) (q0 q1 q2 q3 : Int32)  :
    Met l Z n0 x code maxLocals ret room_1 #[(.int q0), (.int q1), (.int q2), (.int q3)] h0 (fun v h => v = some (.int 1)) := by
  refine met_intro (own := c1_IntListRemoveLastPinLaw) (plainFor_of_name pn_com_example_otab_otab_tableau_IntListRemoveLastPinLaw) rfl Z0 ?_
  intro p e s m below meth c T A hnm
  refine Wp.cast (g' := mkF m 0 #[iv q0, iv q1, iv q2, iv q3, U0, U0, U0, U0, U0, U0, U0] []) (by first | (simp [entryFrame, mkF, argsToLocals, Value.category, maxLocals]; done) | rfl) ?_
  refine s_iconst (pc' := 1) (z := (1 : Int32)) A at_0 rfl (by decide) ?_
  refine s_iloadN (pc' := 2) A at_1 rfl rfl ?_
  refine s_iconst (pc' := 3) (z := (1 : Int32)) A at_2 rfl (by decide) ?_
  refine s_iand (pc' := 4) (z := (q3 &&& (1 : Int32))) A at_3 rfl rfl ?_
  refine s_iadd (pc' := 5) (z := ((1 : Int32) + (q3 &&& (1 : Int32)))) A at_4 rfl rfl ?_
  refine s_iloadN (pc' := 6) A at_5 rfl rfl ?_
  refine s_iconst (pc' := 7) (z := (1 : Int32)) A at_6 rfl (by decide) ?_
  refine s_iushr (pc' := 8) (z := (ush q3 (1 : Int32))) A at_7 rfl rfl ?_
  refine s_iconst (pc' := 9) (z := (1 : Int32)) A at_8 rfl (by decide) ?_
  refine s_iand (pc' := 10) (z := ((ush q3 (1 : Int32)) &&& (1 : Int32))) A at_9 rfl rfl ?_
  obtain ⟨mm, hmm⟩ : ∃ z, z = (((1 : Int32) + (q3 &&& (1 : Int32))) + ((ush q3 (1 : Int32)) &&& (1 : Int32))) := ⟨_, rfl⟩
  have cm : mm = 1 ∨ mm = 2 ∨ mm = 3 := by rw [hmm]; exact own_m q3
  rcases cm with rfl | rfl | rfl
  ·
    refine s_iadd (pc' := 11) (z := (1 : Int32)) A at_10 rfl hmm.symm ?_
    refine s_istore (pc' := 13) (Ls' := #[iv q0, iv q1, iv q2, iv q3, iv 1, U0, U0, U0, U0, U0, U0]) A at_11 rfl rfl ?_
    refine s_new (pc' := 16) A (w0 hw) (w1 hw) (w2 hw) (by decide) (by decide) at_13 rfl fun T h1 b2 A g3 ge4 X5 E6 D7 => ?_
    have F8 : Fld Z h1 b2 "com/example/otab/otab/tableau/IntList" "values" "[I" .null := D7 (Or.inl (w11 hw)) (ty := (.array .int)) (by decide)
    have F9 : Fld Z h1 b2 "com/example/otab/otab/tableau/IntList" "size" "I" (.int (0 : Int32)) := D7 (Or.inl (w18 hw)) (ty := .int) (by decide)
    refine s_dup (pc' := 17) A at_16 rfl rfl ?_
    refine s_special (pc' := 20) (y := y0_init) (argsL := []) (rest := [(.ref b2)]) A (l_init l Z a0 hw n0 h1 A.size b2 E6 F8 F9 ge4) rfl (w3 hw) (w4 hw) (w2 hw) (w5 hw) (by decide) pd___V rfl (W := 1) (by decide) (by decide) (Nat.le_of_eq rfl) (by decide) (by decide) rfl rfl at_17 rfl fun T h13 v14 A Q15 => ?_
    obtain ⟨rfl, K12, r10, H11, -⟩ := Q15
    refine Wp.stk (st' := [(.ref b2)]) rfl ?_
    refine s_astore (pc' := 22) (Ls' := #[iv q0, iv q1, iv q2, iv q3, iv 1, rv b2, U0, U0, U0, U0, U0]) A at_20 rfl rfl rfl ?_
    refine s_aload (pc' := 24) A at_22 rfl rfl rfl ?_
    refine s_iloadN (pc' := 25) A at_24 rfl rfl ?_
    refine s_virtual (pc' := 28) (y := y3_add) (argsL := [(.int q0)]) (rest := []) (z := y3_add) A H11.1 (l_add l Z a0 hw n0 h13 A.size b2 r10 (0 : Int32) [.int (0 : Int32), .int (0 : Int32), .int (0 : Int32), .int (0 : Int32), .int (0 : Int32), .int (0 : Int32), .int (0 : Int32), .int (0 : Int32), .int (0 : Int32), .int (0 : Int32), .int (0 : Int32), .int (0 : Int32), .int (0 : Int32), .int (0 : Int32), .int (0 : Int32), .int (0 : Int32)] q0 (1 : Int32) (16 : Int32) 0 [.int q0, .int (0 : Int32), .int (0 : Int32), .int (0 : Int32), .int (0 : Int32), .int (0 : Int32), .int (0 : Int32), .int (0 : Int32), .int (0 : Int32), .int (0 : Int32), .int (0 : Int32), .int (0 : Int32), .int (0 : Int32), .int (0 : Int32), .int (0 : Int32), .int (0 : Int32)] H11 (by decide) (Nat.le_of_ble_eq_true rfl) (by show _ = ((16 : Nat) : Int); decide) (by decide) rfl) (w12 hw) (w13 hw) (nf_same (C := "") (w15 hw)) (w15 hw) (w14 hw) (w2 hw) (w16 hw) (by decide) pd__I_V rfl (W := 0) (by decide) (by decide) (Nat.le_of_eq rfl) (by decide) (by decide) rfl rfl at_25 rfl fun T h18 v19 A Q20 => ?_
    obtain ⟨rfl, K17, H16⟩ := Q20
    refine Wp.stk (st' := []) rfl ?_
    refine s_iload (pc' := 30) A at_28 rfl rfl ?_
    refine s_iconst (pc' := 31) (z := (2 : Int32)) A at_30 rfl (by decide) ?_
    refine s_icmpY (pc' := 40) A at_31 (by decide) (by decide) (by decide) ?_
    refine s_iload (pc' := 42) A at_40 rfl rfl ?_
    refine s_iconst (pc' := 43) (z := (3 : Int32)) A at_42 rfl (by decide) ?_
    refine s_icmpY (pc' := 52) A at_43 (by decide) (by decide) (by decide) ?_
    refine s_iload (pc' := 54) A at_52 rfl rfl ?_
    refine s_iconst (pc' := 55) (z := (1 : Int32)) A at_54 rfl (by decide) ?_
    refine s_icmpN (pc' := 58) A at_55 rfl (by decide) ?_
    refine s_iloadN (pc' := 59) A at_58 rfl rfl ?_
    refine s_goto (pc' := 73) A at_59 (by decide) (by decide) ?_
    refine s_istore (pc' := 75) (Ls' := #[iv q0, iv q1, iv q2, iv q3, iv 1, rv b2, iv q0, U0, U0, U0, U0]) A at_73 rfl rfl ?_
    refine s_aload (pc' := 77) A at_75 rfl rfl rfl ?_
    refine s_virtual (pc' := 80) (y := y4_removeLast) (argsL := []) (rest := []) (z := y4_removeLast) A H16.1 (l_rem l Z a0 hw n0 h18 A.size b2 r10 (1 : Int32) [.int q0, .int (0 : Int32), .int (0 : Int32), .int (0 : Int32), .int (0 : Int32), .int (0 : Int32), .int (0 : Int32), .int (0 : Int32), .int (0 : Int32), .int (0 : Int32), .int (0 : Int32), .int (0 : Int32), .int (0 : Int32), .int (0 : Int32), .int (0 : Int32), .int (0 : Int32)] (0 : Int32) q0 0 H16 (by decide) (by decide) (by decide) rfl) (w19 hw) (w20 hw) (nf_same (C := "") (w22 hw)) (w22 hw) (w21 hw) (w2 hw) (w23 hw) (by decide) pd___I rfl (W := 0) (by decide) (by decide) (Nat.le_of_eq rfl) (by decide) (by decide) rfl rfl at_77 rfl fun T h23 v24 A Q25 => ?_
    obtain ⟨rfl, K22, H21⟩ := Q25
    refine Wp.stk (st' := [(.int q0)]) rfl ?_
    refine s_istore (pc' := 82) (Ls' := #[iv q0, iv q1, iv q2, iv q3, iv 1, rv b2, iv q0, iv q0, U0, U0, U0]) A at_80 rfl rfl ?_
    refine s_iload (pc' := 84) A at_82 rfl rfl ?_
    refine s_iload (pc' := 86) A at_84 rfl rfl ?_
    refine s_icmpN (pc' := 89) A at_86 rfl (teq (rfl : q0 = q0)).2 ?_
    refine s_aload (pc' := 91) A at_89 rfl rfl rfl ?_
    refine s_virtual (pc' := 94) (y := y1_size) (argsL := []) (rest := []) (z := y1_size) A H21.1 (l_size l Z a0 hw n0 h23 A.size b2 r10 (0 : Int32) [.int q0, .int (0 : Int32), .int (0 : Int32), .int (0 : Int32), .int (0 : Int32), .int (0 : Int32), .int (0 : Int32), .int (0 : Int32), .int (0 : Int32), .int (0 : Int32), .int (0 : Int32), .int (0 : Int32), .int (0 : Int32), .int (0 : Int32), .int (0 : Int32), .int (0 : Int32)] H21) (w24 hw) (w25 hw) (nf_same (C := "") (w27 hw)) (w27 hw) (w26 hw) (w2 hw) (w28 hw) (by decide) pd___I rfl (W := 0) (by decide) (by decide) (Nat.le_of_eq rfl) (by decide) (by decide) rfl rfl at_91 rfl fun T h26 v27 A Q28 => ?_
    obtain ⟨rfl, eh⟩ := Q28
    rw [eh] at A
    refine Wp.stk (st' := [(.int (0 : Int32))]) rfl ?_
    refine s_iload (pc' := 96) A at_94 rfl rfl ?_
    refine s_iconst (pc' := 97) (z := (1 : Int32)) A at_96 rfl (by decide) ?_
    refine s_isub (pc' := 98) (z := (0 : Int32)) A at_97 rfl (by decide) ?_
    refine s_icmpN (pc' := 101) A at_98 rfl (by decide) ?_
    refine s_iconst (pc' := 102) (z := (1 : Int32)) A at_101 rfl (by decide) ?_
    refine s_goto (pc' := 106) A at_102 (by decide) (by decide) ?_
    refine s_istore (pc' := 108) (Ls' := #[iv q0, iv q1, iv q2, iv q3, iv 1, rv b2, iv q0, iv q0, iv 1, U0, U0]) A at_106 rfl rfl ?_
    refine s_iload (pc' := 110) A at_108 rfl rfl ?_
    refine s_iconst (pc' := 111) (z := (3 : Int32)) A at_110 rfl (by decide) ?_
    refine s_icmpY (pc' := 136) A at_111 (by decide) (by decide) (by decide) ?_
    refine s_iload (pc' := 138) A at_136 rfl rfl ?_
    refine s_iconst (pc' := 139) (z := (2 : Int32)) A at_138 rfl (by decide) ?_
    refine s_icmpY (pc' := 215) A at_139 (by decide) (by decide) (by decide) ?_
    refine s_iload (pc' := 217) A at_215 rfl rfl ?_
    exact r_bool A rfl (by decide) at_217 (by decide) (by decide) (rfl)
  ·
    refine s_iadd (pc' := 11) (z := (2 : Int32)) A at_10 rfl hmm.symm ?_
    refine s_istore (pc' := 13) (Ls' := #[iv q0, iv q1, iv q2, iv q3, iv 2, U0, U0, U0, U0, U0, U0]) A at_11 rfl rfl ?_
    refine s_new (pc' := 16) A (w0 hw) (w1 hw) (w2 hw) (by decide) (by decide) at_13 rfl fun T h29 b30 A g31 ge32 X33 E34 D35 => ?_
    have F36 : Fld Z h29 b30 "com/example/otab/otab/tableau/IntList" "values" "[I" .null := D35 (Or.inl (w11 hw)) (ty := (.array .int)) (by decide)
    have F37 : Fld Z h29 b30 "com/example/otab/otab/tableau/IntList" "size" "I" (.int (0 : Int32)) := D35 (Or.inl (w18 hw)) (ty := .int) (by decide)
    refine s_dup (pc' := 17) A at_16 rfl rfl ?_
    refine s_special (pc' := 20) (y := y0_init) (argsL := []) (rest := [(.ref b30)]) A (l_init l Z a0 hw n0 h29 A.size b30 E34 F36 F37 ge32) rfl (w3 hw) (w4 hw) (w2 hw) (w5 hw) (by decide) pd___V rfl (W := 1) (by decide) (by decide) (Nat.le_of_eq rfl) (by decide) (by decide) rfl rfl at_17 rfl fun T h41 v42 A Q43 => ?_
    obtain ⟨rfl, K40, r38, H39, -⟩ := Q43
    refine Wp.stk (st' := [(.ref b30)]) rfl ?_
    refine s_astore (pc' := 22) (Ls' := #[iv q0, iv q1, iv q2, iv q3, iv 2, rv b30, U0, U0, U0, U0, U0]) A at_20 rfl rfl rfl ?_
    refine s_aload (pc' := 24) A at_22 rfl rfl rfl ?_
    refine s_iloadN (pc' := 25) A at_24 rfl rfl ?_
    refine s_virtual (pc' := 28) (y := y3_add) (argsL := [(.int q0)]) (rest := []) (z := y3_add) A H39.1 (l_add l Z a0 hw n0 h41 A.size b30 r38 (0 : Int32) [.int (0 : Int32), .int (0 : Int32), .int (0 : Int32), .int (0 : Int32), .int (0 : Int32), .int (0 : Int32), .int (0 : Int32), .int (0 : Int32), .int (0 : Int32), .int (0 : Int32), .int (0 : Int32), .int (0 : Int32), .int (0 : Int32), .int (0 : Int32), .int (0 : Int32), .int (0 : Int32)] q0 (1 : Int32) (16 : Int32) 0 [.int q0, .int (0 : Int32), .int (0 : Int32), .int (0 : Int32), .int (0 : Int32), .int (0 : Int32), .int (0 : Int32), .int (0 : Int32), .int (0 : Int32), .int (0 : Int32), .int (0 : Int32), .int (0 : Int32), .int (0 : Int32), .int (0 : Int32), .int (0 : Int32), .int (0 : Int32)] H39 (by decide) (Nat.le_of_ble_eq_true rfl) (by show _ = ((16 : Nat) : Int); decide) (by decide) rfl) (w12 hw) (w13 hw) (nf_same (C := "") (w15 hw)) (w15 hw) (w14 hw) (w2 hw) (w16 hw) (by decide) pd__I_V rfl (W := 0) (by decide) (by decide) (Nat.le_of_eq rfl) (by decide) (by decide) rfl rfl at_25 rfl fun T h46 v47 A Q48 => ?_
    obtain ⟨rfl, K45, H44⟩ := Q48
    refine Wp.stk (st' := []) rfl ?_
    refine s_iload (pc' := 30) A at_28 rfl rfl ?_
    refine s_iconst (pc' := 31) (z := (2 : Int32)) A at_30 rfl (by decide) ?_
    refine s_icmpN (pc' := 34) A at_31 rfl (by decide) ?_
    refine s_aload (pc' := 36) A at_34 rfl rfl rfl ?_
    refine s_iloadN (pc' := 37) A at_36 rfl rfl ?_
    refine s_virtual (pc' := 40) (y := y3_add) (argsL := [(.int q1)]) (rest := []) (z := y3_add) A H44.1 (l_add l Z a0 hw n0 h46 A.size b30 r38 (1 : Int32) [.int q0, .int (0 : Int32), .int (0 : Int32), .int (0 : Int32), .int (0 : Int32), .int (0 : Int32), .int (0 : Int32), .int (0 : Int32), .int (0 : Int32), .int (0 : Int32), .int (0 : Int32), .int (0 : Int32), .int (0 : Int32), .int (0 : Int32), .int (0 : Int32), .int (0 : Int32)] q1 (2 : Int32) (16 : Int32) 1 [.int q0, .int q1, .int (0 : Int32), .int (0 : Int32), .int (0 : Int32), .int (0 : Int32), .int (0 : Int32), .int (0 : Int32), .int (0 : Int32), .int (0 : Int32), .int (0 : Int32), .int (0 : Int32), .int (0 : Int32), .int (0 : Int32), .int (0 : Int32), .int (0 : Int32)] H44 (by decide) (Nat.le_of_ble_eq_true rfl) (by show _ = ((16 : Nat) : Int); decide) (by decide) rfl) (w12 hw) (w13 hw) (nf_same (C := "") (w15 hw)) (w15 hw) (w14 hw) (w2 hw) (w16 hw) (by decide) pd__I_V rfl (W := 0) (by decide) (by decide) (Nat.le_of_eq rfl) (by decide) (by decide) rfl rfl at_37 rfl fun T h51 v52 A Q53 => ?_
    obtain ⟨rfl, K50, H49⟩ := Q53
    refine Wp.stk (st' := []) rfl ?_
    refine s_iload (pc' := 42) A at_40 rfl rfl ?_
    refine s_iconst (pc' := 43) (z := (3 : Int32)) A at_42 rfl (by decide) ?_
    refine s_icmpY (pc' := 52) A at_43 (by decide) (by decide) (by decide) ?_
    refine s_iload (pc' := 54) A at_52 rfl rfl ?_
    refine s_iconst (pc' := 55) (z := (1 : Int32)) A at_54 rfl (by decide) ?_
    refine s_icmpY (pc' := 62) A at_55 (by decide) (by decide) (by decide) ?_
    refine s_iload (pc' := 64) A at_62 rfl rfl ?_
    refine s_iconst (pc' := 65) (z := (2 : Int32)) A at_64 rfl (by decide) ?_
    refine s_icmpN (pc' := 68) A at_65 rfl (by decide) ?_
    refine s_iloadN (pc' := 69) A at_68 rfl rfl ?_
    refine s_goto (pc' := 73) A at_69 (by decide) (by decide) ?_
    refine s_istore (pc' := 75) (Ls' := #[iv q0, iv q1, iv q2, iv q3, iv 2, rv b30, iv q1, U0, U0, U0, U0]) A at_73 rfl rfl ?_
    refine s_aload (pc' := 77) A at_75 rfl rfl rfl ?_
    refine s_virtual (pc' := 80) (y := y4_removeLast) (argsL := []) (rest := []) (z := y4_removeLast) A H49.1 (l_rem l Z a0 hw n0 h51 A.size b30 r38 (2 : Int32) [.int q0, .int q1, .int (0 : Int32), .int (0 : Int32), .int (0 : Int32), .int (0 : Int32), .int (0 : Int32), .int (0 : Int32), .int (0 : Int32), .int (0 : Int32), .int (0 : Int32), .int (0 : Int32), .int (0 : Int32), .int (0 : Int32), .int (0 : Int32), .int (0 : Int32)] (1 : Int32) q1 1 H49 (by decide) (by decide) (by decide) rfl) (w19 hw) (w20 hw) (nf_same (C := "") (w22 hw)) (w22 hw) (w21 hw) (w2 hw) (w23 hw) (by decide) pd___I rfl (W := 0) (by decide) (by decide) (Nat.le_of_eq rfl) (by decide) (by decide) rfl rfl at_77 rfl fun T h56 v57 A Q58 => ?_
    obtain ⟨rfl, K55, H54⟩ := Q58
    refine Wp.stk (st' := [(.int q1)]) rfl ?_
    refine s_istore (pc' := 82) (Ls' := #[iv q0, iv q1, iv q2, iv q3, iv 2, rv b30, iv q1, iv q1, U0, U0, U0]) A at_80 rfl rfl ?_
    refine s_iload (pc' := 84) A at_82 rfl rfl ?_
    refine s_iload (pc' := 86) A at_84 rfl rfl ?_
    refine s_icmpN (pc' := 89) A at_86 rfl (teq (rfl : q1 = q1)).2 ?_
    refine s_aload (pc' := 91) A at_89 rfl rfl rfl ?_
    refine s_virtual (pc' := 94) (y := y1_size) (argsL := []) (rest := []) (z := y1_size) A H54.1 (l_size l Z a0 hw n0 h56 A.size b30 r38 (1 : Int32) [.int q0, .int q1, .int (0 : Int32), .int (0 : Int32), .int (0 : Int32), .int (0 : Int32), .int (0 : Int32), .int (0 : Int32), .int (0 : Int32), .int (0 : Int32), .int (0 : Int32), .int (0 : Int32), .int (0 : Int32), .int (0 : Int32), .int (0 : Int32), .int (0 : Int32)] H54) (w24 hw) (w25 hw) (nf_same (C := "") (w27 hw)) (w27 hw) (w26 hw) (w2 hw) (w28 hw) (by decide) pd___I rfl (W := 0) (by decide) (by decide) (Nat.le_of_eq rfl) (by decide) (by decide) rfl rfl at_91 rfl fun T h59 v60 A Q61 => ?_
    obtain ⟨rfl, eh⟩ := Q61
    rw [eh] at A
    refine Wp.stk (st' := [(.int (1 : Int32))]) rfl ?_
    refine s_iload (pc' := 96) A at_94 rfl rfl ?_
    refine s_iconst (pc' := 97) (z := (1 : Int32)) A at_96 rfl (by decide) ?_
    refine s_isub (pc' := 98) (z := (1 : Int32)) A at_97 rfl (by decide) ?_
    refine s_icmpN (pc' := 101) A at_98 rfl (by decide) ?_
    refine s_iconst (pc' := 102) (z := (1 : Int32)) A at_101 rfl (by decide) ?_
    refine s_goto (pc' := 106) A at_102 (by decide) (by decide) ?_
    refine s_istore (pc' := 108) (Ls' := #[iv q0, iv q1, iv q2, iv q3, iv 2, rv b30, iv q1, iv q1, iv 1, U0, U0]) A at_106 rfl rfl ?_
    refine s_iload (pc' := 110) A at_108 rfl rfl ?_
    refine s_iconst (pc' := 111) (z := (3 : Int32)) A at_110 rfl (by decide) ?_
    refine s_icmpY (pc' := 136) A at_111 (by decide) (by decide) (by decide) ?_
    refine s_iload (pc' := 138) A at_136 rfl rfl ?_
    refine s_iconst (pc' := 139) (z := (2 : Int32)) A at_138 rfl (by decide) ?_
    refine s_icmpN (pc' := 142) A at_139 rfl (by decide) ?_
    refine s_iload (pc' := 144) A at_142 rfl rfl ?_
    refine s_ifN (pc' := 147) A at_144 rfl (by decide) ?_
    refine s_aload (pc' := 149) A at_147 rfl rfl rfl ?_
    refine s_iconst (pc' := 150) (z := (0 : Int32)) A at_149 rfl (by decide) ?_
    refine s_virtual (pc' := 153) (y := y2_get) (argsL := [(.int (0 : Int32))]) (rest := []) (z := y2_get) A H54.1 (l_get l Z a0 hw n0 h56 A.size b30 r38 (1 : Int32) [.int q0, .int q1, .int (0 : Int32), .int (0 : Int32), .int (0 : Int32), .int (0 : Int32), .int (0 : Int32), .int (0 : Int32), .int (0 : Int32), .int (0 : Int32), .int (0 : Int32), .int (0 : Int32), .int (0 : Int32), .int (0 : Int32), .int (0 : Int32), .int (0 : Int32)] (0 : Int32) 0 q0 H54 (by decide) rfl (by decide)) (w29 hw) (w30 hw) (nf_same (C := "") (w32 hw)) (w32 hw) (w31 hw) (w2 hw) (w33 hw) (by decide) pd__I_I rfl (W := 0) (by decide) (by decide) (Nat.le_of_eq rfl) (by decide) (by decide) rfl rfl at_150 rfl fun T h62 v63 A Q64 => ?_
    obtain ⟨rfl, eh⟩ := Q64
    rw [eh] at A
    refine Wp.stk (st' := [(.int q0)]) rfl ?_
    refine s_iloadN (pc' := 154) A at_153 rfl rfl ?_
    refine s_icmpN (pc' := 157) A at_154 rfl (teq (rfl : q0 = q0)).2 ?_
    refine s_iconst (pc' := 158) (z := (1 : Int32)) A at_157 rfl (by decide) ?_
    refine s_goto (pc' := 162) A at_158 (by decide) (by decide) ?_
    refine s_istore (pc' := 164) (Ls' := #[iv q0, iv q1, iv q2, iv q3, iv 2, rv b30, iv q1, iv q1, iv 1, U0, U0]) A at_162 rfl rfl ?_
    refine s_iload (pc' := 166) A at_164 rfl rfl ?_
    refine s_iconst (pc' := 167) (z := (2 : Int32)) A at_166 rfl (by decide) ?_
    refine s_icmpN (pc' := 170) A at_167 rfl (by decide) ?_
    refine s_iloadN (pc' := 171) A at_170 rfl rfl ?_
    refine s_goto (pc' := 175) A at_171 (by decide) (by decide) ?_
    refine s_istore (pc' := 177) (Ls' := #[iv q0, iv q1, iv q2, iv q3, iv 2, rv b30, iv q1, iv q1, iv 1, iv q0, U0]) A at_175 rfl rfl ?_
    refine s_aload (pc' := 179) A at_177 rfl rfl rfl ?_
    refine s_virtual (pc' := 182) (y := y4_removeLast) (argsL := []) (rest := []) (z := y4_removeLast) A H54.1 (l_rem l Z a0 hw n0 h56 A.size b30 r38 (1 : Int32) [.int q0, .int q1, .int (0 : Int32), .int (0 : Int32), .int (0 : Int32), .int (0 : Int32), .int (0 : Int32), .int (0 : Int32), .int (0 : Int32), .int (0 : Int32), .int (0 : Int32), .int (0 : Int32), .int (0 : Int32), .int (0 : Int32), .int (0 : Int32), .int (0 : Int32)] (0 : Int32) q0 0 H54 (by decide) (by decide) (by decide) rfl) (w19 hw) (w20 hw) (nf_same (C := "") (w22 hw)) (w22 hw) (w21 hw) (w2 hw) (w23 hw) (by decide) pd___I rfl (W := 0) (by decide) (by decide) (Nat.le_of_eq rfl) (by decide) (by decide) rfl rfl at_179 rfl fun T h67 v68 A Q69 => ?_
    obtain ⟨rfl, K66, H65⟩ := Q69
    refine Wp.stk (st' := [(.int q0)]) rfl ?_
    refine s_istore (pc' := 184) (Ls' := #[iv q0, iv q1, iv q2, iv q3, iv 2, rv b30, iv q1, iv q1, iv 1, iv q0, iv q0]) A at_182 rfl rfl ?_
    refine s_iload (pc' := 186) A at_184 rfl rfl ?_
    refine s_ifN (pc' := 189) A at_186 rfl (by decide) ?_
    refine s_iload (pc' := 191) A at_189 rfl rfl ?_
    refine s_iload (pc' := 193) A at_191 rfl rfl ?_
    refine s_icmpN (pc' := 196) A at_193 rfl (teq (rfl : q0 = q0)).2 ?_
    refine s_aload (pc' := 198) A at_196 rfl rfl rfl ?_
    refine s_virtual (pc' := 201) (y := y1_size) (argsL := []) (rest := []) (z := y1_size) A H65.1 (l_size l Z a0 hw n0 h67 A.size b30 r38 (0 : Int32) [.int q0, .int q1, .int (0 : Int32), .int (0 : Int32), .int (0 : Int32), .int (0 : Int32), .int (0 : Int32), .int (0 : Int32), .int (0 : Int32), .int (0 : Int32), .int (0 : Int32), .int (0 : Int32), .int (0 : Int32), .int (0 : Int32), .int (0 : Int32), .int (0 : Int32)] H65) (w24 hw) (w25 hw) (nf_same (C := "") (w27 hw)) (w27 hw) (w26 hw) (w2 hw) (w28 hw) (by decide) pd___I rfl (W := 0) (by decide) (by decide) (Nat.le_of_eq rfl) (by decide) (by decide) rfl rfl at_198 rfl fun T h70 v71 A Q72 => ?_
    obtain ⟨rfl, eh⟩ := Q72
    rw [eh] at A
    refine Wp.stk (st' := [(.int (0 : Int32))]) rfl ?_
    refine s_iload (pc' := 203) A at_201 rfl rfl ?_
    refine s_iconst (pc' := 204) (z := (2 : Int32)) A at_203 rfl (by decide) ?_
    refine s_isub (pc' := 205) (z := (0 : Int32)) A at_204 rfl (by decide) ?_
    refine s_icmpN (pc' := 208) A at_205 rfl (by decide) ?_
    refine s_iconst (pc' := 209) (z := (1 : Int32)) A at_208 rfl (by decide) ?_
    refine s_goto (pc' := 213) A at_209 (by decide) (by decide) ?_
    refine s_istore (pc' := 215) (Ls' := #[iv q0, iv q1, iv q2, iv q3, iv 2, rv b30, iv q1, iv q1, iv 1, iv q0, iv q0]) A at_213 rfl rfl ?_
    refine s_iload (pc' := 217) A at_215 rfl rfl ?_
    exact r_bool A rfl (by decide) at_217 (by decide) (by decide) (rfl)
  ·
    refine s_iadd (pc' := 11) (z := (3 : Int32)) A at_10 rfl hmm.symm ?_
    refine s_istore (pc' := 13) (Ls' := #[iv q0, iv q1, iv q2, iv q3, iv 3, U0, U0, U0, U0, U0, U0]) A at_11 rfl rfl ?_
    refine s_new (pc' := 16) A (w0 hw) (w1 hw) (w2 hw) (by decide) (by decide) at_13 rfl fun T h73 b74 A g75 ge76 X77 E78 D79 => ?_
    have F80 : Fld Z h73 b74 "com/example/otab/otab/tableau/IntList" "values" "[I" .null := D79 (Or.inl (w11 hw)) (ty := (.array .int)) (by decide)
    have F81 : Fld Z h73 b74 "com/example/otab/otab/tableau/IntList" "size" "I" (.int (0 : Int32)) := D79 (Or.inl (w18 hw)) (ty := .int) (by decide)
    refine s_dup (pc' := 17) A at_16 rfl rfl ?_
    refine s_special (pc' := 20) (y := y0_init) (argsL := []) (rest := [(.ref b74)]) A (l_init l Z a0 hw n0 h73 A.size b74 E78 F80 F81 ge76) rfl (w3 hw) (w4 hw) (w2 hw) (w5 hw) (by decide) pd___V rfl (W := 1) (by decide) (by decide) (Nat.le_of_eq rfl) (by decide) (by decide) rfl rfl at_17 rfl fun T h85 v86 A Q87 => ?_
    obtain ⟨rfl, K84, r82, H83, -⟩ := Q87
    refine Wp.stk (st' := [(.ref b74)]) rfl ?_
    refine s_astore (pc' := 22) (Ls' := #[iv q0, iv q1, iv q2, iv q3, iv 3, rv b74, U0, U0, U0, U0, U0]) A at_20 rfl rfl rfl ?_
    refine s_aload (pc' := 24) A at_22 rfl rfl rfl ?_
    refine s_iloadN (pc' := 25) A at_24 rfl rfl ?_
    refine s_virtual (pc' := 28) (y := y3_add) (argsL := [(.int q0)]) (rest := []) (z := y3_add) A H83.1 (l_add l Z a0 hw n0 h85 A.size b74 r82 (0 : Int32) [.int (0 : Int32), .int (0 : Int32), .int (0 : Int32), .int (0 : Int32), .int (0 : Int32), .int (0 : Int32), .int (0 : Int32), .int (0 : Int32), .int (0 : Int32), .int (0 : Int32), .int (0 : Int32), .int (0 : Int32), .int (0 : Int32), .int (0 : Int32), .int (0 : Int32), .int (0 : Int32)] q0 (1 : Int32) (16 : Int32) 0 [.int q0, .int (0 : Int32), .int (0 : Int32), .int (0 : Int32), .int (0 : Int32), .int (0 : Int32), .int (0 : Int32), .int (0 : Int32), .int (0 : Int32), .int (0 : Int32), .int (0 : Int32), .int (0 : Int32), .int (0 : Int32), .int (0 : Int32), .int (0 : Int32), .int (0 : Int32)] H83 (by decide) (Nat.le_of_ble_eq_true rfl) (by show _ = ((16 : Nat) : Int); decide) (by decide) rfl) (w12 hw) (w13 hw) (nf_same (C := "") (w15 hw)) (w15 hw) (w14 hw) (w2 hw) (w16 hw) (by decide) pd__I_V rfl (W := 0) (by decide) (by decide) (Nat.le_of_eq rfl) (by decide) (by decide) rfl rfl at_25 rfl fun T h90 v91 A Q92 => ?_
    obtain ⟨rfl, K89, H88⟩ := Q92
    refine Wp.stk (st' := []) rfl ?_
    refine s_iload (pc' := 30) A at_28 rfl rfl ?_
    refine s_iconst (pc' := 31) (z := (2 : Int32)) A at_30 rfl (by decide) ?_
    refine s_icmpN (pc' := 34) A at_31 rfl (by decide) ?_
    refine s_aload (pc' := 36) A at_34 rfl rfl rfl ?_
    refine s_iloadN (pc' := 37) A at_36 rfl rfl ?_
    refine s_virtual (pc' := 40) (y := y3_add) (argsL := [(.int q1)]) (rest := []) (z := y3_add) A H88.1 (l_add l Z a0 hw n0 h90 A.size b74 r82 (1 : Int32) [.int q0, .int (0 : Int32), .int (0 : Int32), .int (0 : Int32), .int (0 : Int32), .int (0 : Int32), .int (0 : Int32), .int (0 : Int32), .int (0 : Int32), .int (0 : Int32), .int (0 : Int32), .int (0 : Int32), .int (0 : Int32), .int (0 : Int32), .int (0 : Int32), .int (0 : Int32)] q1 (2 : Int32) (16 : Int32) 1 [.int q0, .int q1, .int (0 : Int32), .int (0 : Int32), .int (0 : Int32), .int (0 : Int32), .int (0 : Int32), .int (0 : Int32), .int (0 : Int32), .int (0 : Int32), .int (0 : Int32), .int (0 : Int32), .int (0 : Int32), .int (0 : Int32), .int (0 : Int32), .int (0 : Int32)] H88 (by decide) (Nat.le_of_ble_eq_true rfl) (by show _ = ((16 : Nat) : Int); decide) (by decide) rfl) (w12 hw) (w13 hw) (nf_same (C := "") (w15 hw)) (w15 hw) (w14 hw) (w2 hw) (w16 hw) (by decide) pd__I_V rfl (W := 0) (by decide) (by decide) (Nat.le_of_eq rfl) (by decide) (by decide) rfl rfl at_37 rfl fun T h95 v96 A Q97 => ?_
    obtain ⟨rfl, K94, H93⟩ := Q97
    refine Wp.stk (st' := []) rfl ?_
    refine s_iload (pc' := 42) A at_40 rfl rfl ?_
    refine s_iconst (pc' := 43) (z := (3 : Int32)) A at_42 rfl (by decide) ?_
    refine s_icmpN (pc' := 46) A at_43 rfl (by decide) ?_
    refine s_aload (pc' := 48) A at_46 rfl rfl rfl ?_
    refine s_iloadN (pc' := 49) A at_48 rfl rfl ?_
    refine s_virtual (pc' := 52) (y := y3_add) (argsL := [(.int q2)]) (rest := []) (z := y3_add) A H93.1 (l_add l Z a0 hw n0 h95 A.size b74 r82 (2 : Int32) [.int q0, .int q1, .int (0 : Int32), .int (0 : Int32), .int (0 : Int32), .int (0 : Int32), .int (0 : Int32), .int (0 : Int32), .int (0 : Int32), .int (0 : Int32), .int (0 : Int32), .int (0 : Int32), .int (0 : Int32), .int (0 : Int32), .int (0 : Int32), .int (0 : Int32)] q2 (3 : Int32) (16 : Int32) 2 [.int q0, .int q1, .int q2, .int (0 : Int32), .int (0 : Int32), .int (0 : Int32), .int (0 : Int32), .int (0 : Int32), .int (0 : Int32), .int (0 : Int32), .int (0 : Int32), .int (0 : Int32), .int (0 : Int32), .int (0 : Int32), .int (0 : Int32), .int (0 : Int32)] H93 (by decide) (Nat.le_of_ble_eq_true rfl) (by show _ = ((16 : Nat) : Int); decide) (by decide) rfl) (w12 hw) (w13 hw) (nf_same (C := "") (w15 hw)) (w15 hw) (w14 hw) (w2 hw) (w16 hw) (by decide) pd__I_V rfl (W := 0) (by decide) (by decide) (Nat.le_of_eq rfl) (by decide) (by decide) rfl rfl at_49 rfl fun T h100 v101 A Q102 => ?_
    obtain ⟨rfl, K99, H98⟩ := Q102
    refine Wp.stk (st' := []) rfl ?_
    refine s_iload (pc' := 54) A at_52 rfl rfl ?_
    refine s_iconst (pc' := 55) (z := (1 : Int32)) A at_54 rfl (by decide) ?_
    refine s_icmpY (pc' := 62) A at_55 (by decide) (by decide) (by decide) ?_
    refine s_iload (pc' := 64) A at_62 rfl rfl ?_
    refine s_iconst (pc' := 65) (z := (2 : Int32)) A at_64 rfl (by decide) ?_
    refine s_icmpY (pc' := 72) A at_65 (by decide) (by decide) (by decide) ?_
    refine s_iloadN (pc' := 73) A at_72 rfl rfl ?_
    refine s_istore (pc' := 75) (Ls' := #[iv q0, iv q1, iv q2, iv q3, iv 3, rv b74, iv q2, U0, U0, U0, U0]) A at_73 rfl rfl ?_
    refine s_aload (pc' := 77) A at_75 rfl rfl rfl ?_
    refine s_virtual (pc' := 80) (y := y4_removeLast) (argsL := []) (rest := []) (z := y4_removeLast) A H98.1 (l_rem l Z a0 hw n0 h100 A.size b74 r82 (3 : Int32) [.int q0, .int q1, .int q2, .int (0 : Int32), .int (0 : Int32), .int (0 : Int32), .int (0 : Int32), .int (0 : Int32), .int (0 : Int32), .int (0 : Int32), .int (0 : Int32), .int (0 : Int32), .int (0 : Int32), .int (0 : Int32), .int (0 : Int32), .int (0 : Int32)] (2 : Int32) q2 2 H98 (by decide) (by decide) (by decide) rfl) (w19 hw) (w20 hw) (nf_same (C := "") (w22 hw)) (w22 hw) (w21 hw) (w2 hw) (w23 hw) (by decide) pd___I rfl (W := 0) (by decide) (by decide) (Nat.le_of_eq rfl) (by decide) (by decide) rfl rfl at_77 rfl fun T h105 v106 A Q107 => ?_
    obtain ⟨rfl, K104, H103⟩ := Q107
    refine Wp.stk (st' := [(.int q2)]) rfl ?_
    refine s_istore (pc' := 82) (Ls' := #[iv q0, iv q1, iv q2, iv q3, iv 3, rv b74, iv q2, iv q2, U0, U0, U0]) A at_80 rfl rfl ?_
    refine s_iload (pc' := 84) A at_82 rfl rfl ?_
    refine s_iload (pc' := 86) A at_84 rfl rfl ?_
    refine s_icmpN (pc' := 89) A at_86 rfl (teq (rfl : q2 = q2)).2 ?_
    refine s_aload (pc' := 91) A at_89 rfl rfl rfl ?_
    refine s_virtual (pc' := 94) (y := y1_size) (argsL := []) (rest := []) (z := y1_size) A H103.1 (l_size l Z a0 hw n0 h105 A.size b74 r82 (2 : Int32) [.int q0, .int q1, .int q2, .int (0 : Int32), .int (0 : Int32), .int (0 : Int32), .int (0 : Int32), .int (0 : Int32), .int (0 : Int32), .int (0 : Int32), .int (0 : Int32), .int (0 : Int32), .int (0 : Int32), .int (0 : Int32), .int (0 : Int32), .int (0 : Int32)] H103) (w24 hw) (w25 hw) (nf_same (C := "") (w27 hw)) (w27 hw) (w26 hw) (w2 hw) (w28 hw) (by decide) pd___I rfl (W := 0) (by decide) (by decide) (Nat.le_of_eq rfl) (by decide) (by decide) rfl rfl at_91 rfl fun T h108 v109 A Q110 => ?_
    obtain ⟨rfl, eh⟩ := Q110
    rw [eh] at A
    refine Wp.stk (st' := [(.int (2 : Int32))]) rfl ?_
    refine s_iload (pc' := 96) A at_94 rfl rfl ?_
    refine s_iconst (pc' := 97) (z := (1 : Int32)) A at_96 rfl (by decide) ?_
    refine s_isub (pc' := 98) (z := (2 : Int32)) A at_97 rfl (by decide) ?_
    refine s_icmpN (pc' := 101) A at_98 rfl (by decide) ?_
    refine s_iconst (pc' := 102) (z := (1 : Int32)) A at_101 rfl (by decide) ?_
    refine s_goto (pc' := 106) A at_102 (by decide) (by decide) ?_
    refine s_istore (pc' := 108) (Ls' := #[iv q0, iv q1, iv q2, iv q3, iv 3, rv b74, iv q2, iv q2, iv 1, U0, U0]) A at_106 rfl rfl ?_
    refine s_iload (pc' := 110) A at_108 rfl rfl ?_
    refine s_iconst (pc' := 111) (z := (3 : Int32)) A at_110 rfl (by decide) ?_
    refine s_icmpN (pc' := 114) A at_111 rfl (by decide) ?_
    refine s_iload (pc' := 116) A at_114 rfl rfl ?_
    refine s_ifN (pc' := 119) A at_116 rfl (by decide) ?_
    refine s_aload (pc' := 121) A at_119 rfl rfl rfl ?_
    refine s_iconst (pc' := 122) (z := (1 : Int32)) A at_121 rfl (by decide) ?_
    refine s_virtual (pc' := 125) (y := y2_get) (argsL := [(.int (1 : Int32))]) (rest := []) (z := y2_get) A H103.1 (l_get l Z a0 hw n0 h105 A.size b74 r82 (2 : Int32) [.int q0, .int q1, .int q2, .int (0 : Int32), .int (0 : Int32), .int (0 : Int32), .int (0 : Int32), .int (0 : Int32), .int (0 : Int32), .int (0 : Int32), .int (0 : Int32), .int (0 : Int32), .int (0 : Int32), .int (0 : Int32), .int (0 : Int32), .int (0 : Int32)] (1 : Int32) 1 q1 H103 (by decide) rfl (by decide)) (w29 hw) (w30 hw) (nf_same (C := "") (w32 hw)) (w32 hw) (w31 hw) (w2 hw) (w33 hw) (by decide) pd__I_I rfl (W := 0) (by decide) (by decide) (Nat.le_of_eq rfl) (by decide) (by decide) rfl rfl at_122 rfl fun T h111 v112 A Q113 => ?_
    obtain ⟨rfl, eh⟩ := Q113
    rw [eh] at A
    refine Wp.stk (st' := [(.int q1)]) rfl ?_
    refine s_iloadN (pc' := 126) A at_125 rfl rfl ?_
    refine s_icmpN (pc' := 129) A at_126 rfl (teq (rfl : q1 = q1)).2 ?_
    refine s_iconst (pc' := 130) (z := (1 : Int32)) A at_129 rfl (by decide) ?_
    refine s_goto (pc' := 134) A at_130 (by decide) (by decide) ?_
    refine s_istore (pc' := 136) (Ls' := #[iv q0, iv q1, iv q2, iv q3, iv 3, rv b74, iv q2, iv q2, iv 1, U0, U0]) A at_134 rfl rfl ?_
    refine s_iload (pc' := 138) A at_136 rfl rfl ?_
    refine s_iconst (pc' := 139) (z := (2 : Int32)) A at_138 rfl (by decide) ?_
    refine s_icmpN (pc' := 142) A at_139 rfl (by decide) ?_
    refine s_iload (pc' := 144) A at_142 rfl rfl ?_
    refine s_ifN (pc' := 147) A at_144 rfl (by decide) ?_
    refine s_aload (pc' := 149) A at_147 rfl rfl rfl ?_
    refine s_iconst (pc' := 150) (z := (0 : Int32)) A at_149 rfl (by decide) ?_
    refine s_virtual (pc' := 153) (y := y2_get) (argsL := [(.int (0 : Int32))]) (rest := []) (z := y2_get) A H103.1 (l_get l Z a0 hw n0 h105 A.size b74 r82 (2 : Int32) [.int q0, .int q1, .int q2, .int (0 : Int32), .int (0 : Int32), .int (0 : Int32), .int (0 : Int32), .int (0 : Int32), .int (0 : Int32), .int (0 : Int32), .int (0 : Int32), .int (0 : Int32), .int (0 : Int32), .int (0 : Int32), .int (0 : Int32), .int (0 : Int32)] (0 : Int32) 0 q0 H103 (by decide) rfl (by decide)) (w29 hw) (w30 hw) (nf_same (C := "") (w32 hw)) (w32 hw) (w31 hw) (w2 hw) (w33 hw) (by decide) pd__I_I rfl (W := 0) (by decide) (by decide) (Nat.le_of_eq rfl) (by decide) (by decide) rfl rfl at_150 rfl fun T h114 v115 A Q116 => ?_
    obtain ⟨rfl, eh⟩ := Q116
    rw [eh] at A
    refine Wp.stk (st' := [(.int q0)]) rfl ?_
    refine s_iloadN (pc' := 154) A at_153 rfl rfl ?_
    refine s_icmpN (pc' := 157) A at_154 rfl (teq (rfl : q0 = q0)).2 ?_
    refine s_iconst (pc' := 158) (z := (1 : Int32)) A at_157 rfl (by decide) ?_
    refine s_goto (pc' := 162) A at_158 (by decide) (by decide) ?_
    refine s_istore (pc' := 164) (Ls' := #[iv q0, iv q1, iv q2, iv q3, iv 3, rv b74, iv q2, iv q2, iv 1, U0, U0]) A at_162 rfl rfl ?_
    refine s_iload (pc' := 166) A at_164 rfl rfl ?_
    refine s_iconst (pc' := 167) (z := (2 : Int32)) A at_166 rfl (by decide) ?_
    refine s_icmpY (pc' := 174) A at_167 (by decide) (by decide) (by decide) ?_
    refine s_iloadN (pc' := 175) A at_174 rfl rfl ?_
    refine s_istore (pc' := 177) (Ls' := #[iv q0, iv q1, iv q2, iv q3, iv 3, rv b74, iv q2, iv q2, iv 1, iv q1, U0]) A at_175 rfl rfl ?_
    refine s_aload (pc' := 179) A at_177 rfl rfl rfl ?_
    refine s_virtual (pc' := 182) (y := y4_removeLast) (argsL := []) (rest := []) (z := y4_removeLast) A H103.1 (l_rem l Z a0 hw n0 h105 A.size b74 r82 (2 : Int32) [.int q0, .int q1, .int q2, .int (0 : Int32), .int (0 : Int32), .int (0 : Int32), .int (0 : Int32), .int (0 : Int32), .int (0 : Int32), .int (0 : Int32), .int (0 : Int32), .int (0 : Int32), .int (0 : Int32), .int (0 : Int32), .int (0 : Int32), .int (0 : Int32)] (1 : Int32) q1 1 H103 (by decide) (by decide) (by decide) rfl) (w19 hw) (w20 hw) (nf_same (C := "") (w22 hw)) (w22 hw) (w21 hw) (w2 hw) (w23 hw) (by decide) pd___I rfl (W := 0) (by decide) (by decide) (Nat.le_of_eq rfl) (by decide) (by decide) rfl rfl at_179 rfl fun T h119 v120 A Q121 => ?_
    obtain ⟨rfl, K118, H117⟩ := Q121
    refine Wp.stk (st' := [(.int q1)]) rfl ?_
    refine s_istore (pc' := 184) (Ls' := #[iv q0, iv q1, iv q2, iv q3, iv 3, rv b74, iv q2, iv q2, iv 1, iv q1, iv q1]) A at_182 rfl rfl ?_
    refine s_iload (pc' := 186) A at_184 rfl rfl ?_
    refine s_ifN (pc' := 189) A at_186 rfl (by decide) ?_
    refine s_iload (pc' := 191) A at_189 rfl rfl ?_
    refine s_iload (pc' := 193) A at_191 rfl rfl ?_
    refine s_icmpN (pc' := 196) A at_193 rfl (teq (rfl : q1 = q1)).2 ?_
    refine s_aload (pc' := 198) A at_196 rfl rfl rfl ?_
    refine s_virtual (pc' := 201) (y := y1_size) (argsL := []) (rest := []) (z := y1_size) A H117.1 (l_size l Z a0 hw n0 h119 A.size b74 r82 (1 : Int32) [.int q0, .int q1, .int q2, .int (0 : Int32), .int (0 : Int32), .int (0 : Int32), .int (0 : Int32), .int (0 : Int32), .int (0 : Int32), .int (0 : Int32), .int (0 : Int32), .int (0 : Int32), .int (0 : Int32), .int (0 : Int32), .int (0 : Int32), .int (0 : Int32)] H117) (w24 hw) (w25 hw) (nf_same (C := "") (w27 hw)) (w27 hw) (w26 hw) (w2 hw) (w28 hw) (by decide) pd___I rfl (W := 0) (by decide) (by decide) (Nat.le_of_eq rfl) (by decide) (by decide) rfl rfl at_198 rfl fun T h122 v123 A Q124 => ?_
    obtain ⟨rfl, eh⟩ := Q124
    rw [eh] at A
    refine Wp.stk (st' := [(.int (1 : Int32))]) rfl ?_
    refine s_iload (pc' := 203) A at_201 rfl rfl ?_
    refine s_iconst (pc' := 204) (z := (2 : Int32)) A at_203 rfl (by decide) ?_
    refine s_isub (pc' := 205) (z := (1 : Int32)) A at_204 rfl (by decide) ?_
    refine s_icmpN (pc' := 208) A at_205 rfl (by decide) ?_
    refine s_iconst (pc' := 209) (z := (1 : Int32)) A at_208 rfl (by decide) ?_
    refine s_goto (pc' := 213) A at_209 (by decide) (by decide) ?_
    refine s_istore (pc' := 215) (Ls' := #[iv q0, iv q1, iv q2, iv q3, iv 3, rv b74, iv q2, iv q2, iv 1, iv q1, iv q1]) A at_213 rfl rfl ?_
    refine s_iload (pc' := 217) A at_215 rfl rfl ?_
    exact r_bool A rfl (by decide) at_217 (by decide) (by decide) (rfl)
set_option maxRecDepth 65536 in
set_option maxHeartbeats 40000000 in
theorem comes_1 {Post : Tables → Env → Array Value → State → Outcome → State → Prop} (hpost : ∀ tb e args s v u, (limb_1_1.after args s (.returned v) u = true ∧ limb_1_2.after args s (.returned v) u = true ∧ True) → FrameEnd s (.returned v) u (Jvm.fieldLocs frame_1_writes args s ++ Jvm.arrayLocs frame_1_arrays args s ++ Jvm.staticLocs frame_1_statics s) 16 128 → Post tb e args s (.returned v) u) :
    ArmFor flags0 classFile x code maxLocals ret World_1 tables_1 room_1 Calls_1 rest_1 Pre_1 Post := by
  intro l hfl _ _ p e ha hc hk s m args below hf hA hF happ hP
  obtain ⟨hcalls, hrest, hpre⟩ := hP
  obtain ⟨-, -, -, hnamed, -, -, -, hat⟩ := (Spec.applies_iff hf).mp happ
  obtain ⟨hg, hn⟩ := and_e (Cond.before_iff.mp (show (Jvm.Cond.and given_1 narrow_1).before args s = true from hpre))
  obtain ⟨hcnt, hg⟩ := and_e hg
  obtain ⟨w0, w1, w2, w3, rfl⟩ : ∃ w0 w1 w2 w3 : Value, args = #[w0, w1, w2, w3] := by
    have hs : args.size = 4 := by simpa [Cond.value, given_1] using hcnt
    obtain ⟨L⟩ := args
    match L, hs with
    | [w0, w1, w2, w3], _ => exact ⟨w0, w1, w2, w3, rfl⟩
  have hw := fun d (hd : d ∈ tables_1) => atoms_spec (ws := Jvm.Cond.code x code maxLocals ret :: tables_1) hat d (List.mem_cons_of_mem _ hd)
  have hfit : Fit s := fun {y c} hc i hi => by
    obtain ⟨ha, rfl⟩ := Array.getElem?_eq_some_iff.mp hc
    have q := List.all_eq_true.mp ((Array.all_eq_true_iff_forall_mem.mp hF) _ (Array.getElem_mem ha)) i (List.mem_range.mpr hi)
    simpa [Array.getElem?_eq_getElem hi] using q
  obtain ⟨g0, hg⟩ := and_e hg
  obtain ⟨x0, e0⟩ := is_v g0
  obtain rfl : w0 = (.int x0) := Option.some.inj e0
  obtain ⟨g1, hg⟩ := and_e hg
  obtain ⟨x1, e1⟩ := is_v g1
  obtain rfl : w1 = (.int x1) := Option.some.inj e1
  obtain ⟨g2, hg⟩ := and_e hg
  obtain ⟨x2, e2⟩ := is_v g2
  obtain rfl : w2 = (.int x2) := Option.some.inj e2
  obtain ⟨x3, e3⟩ := is_v hg
  obtain rfl : w3 = (.int x3) := Option.some.inj e3
  obtain ⟨n, o, h1, h2, h3, _, L, rfl, ⟨N, rfl⟩, hq⟩ := rm0 l s _ hw s.heap.size s.heap (Nat.le_refl _) x0 x1 x2 x3 tables_1 p e ha hc hk s m _ below hf ((Spec.applies_iff_loose hf).mp happ).1 ⟨rfl, State.Warmed39.refl s, rfl⟩ trivial
  refine ⟨n, _, h1, h2, h3, hpost _ _ _ _ _ _ ⟨Cond.after_iff.mpr rfl, Cond.after_iff.mpr (eq_i res_at (Term.int_eval (1)) rfl), trivial⟩ ⟨hq.1, hq.2.1, (hq.2.2.sift fun y hy => Or.inr (N y hy)).mono (by decide) (by decide)⟩⟩
theorem main_1_1 : Claimed_1_1 := comes_1 fun _ _ _ _ _ _ h hF => ⟨h.1, hF⟩
theorem main_1_2 : Claimed_1_2 := comes_1 fun _ _ _ _ _ _ h hF => ⟨h.2.1, hF⟩
end Jvm.Pilot.@@N@@
namespace Jvm.Pilot.@@N@@
open Jvm Jvm.ClassFile Sem Op Lib Jvm.Free Jvm.Stand Jvm.Pilot.@@N@@.Jvm.D
/-! MADE BY PROGRAM (witnessworld.py) out of the Statement's table words and the real class files: 9 classes; the members and pool entries that the words name. The judged class is class 1, her method 1. -/
namespace start1
open Jvm.ClassFile
def u (s : String) : CpInfo := .utf8 (stringToUtf16 s)
/-- a pool by its gaps: so many unusable entries, then the entry; so many at the end -/
def gap : Nat → List CpInfo → List CpInfo
  | 0, r => r
  | n + 1, r => .unusable :: gap n r
def poolList (es : List (Nat × CpInfo)) (last : Nat) : List CpInfo := es.foldr (fun e r => gap e.1 (e.2 :: r)) (gap last [])
def pool (es : List (Nat × CpInfo)) (last : Nat) : Array CpInfo := ⟨poolList es last⟩
def fileOf (pool : Array CpInfo) (this : Nat) (attrs : Array Attribute := #[]) (ms : Array MethodInfo := #[]) (fl : Nat := 33) (sup : Nat := 0) (ifs : Array Nat := #[]) (fds : Array FieldInfo := #[]) : ClassFile where
  minorVersion := 0
  majorVersion := 65
  constantPool := pool
  accessFlags := fl
  thisClass := this
  superClass := sup
  interfaces := ifs
  fields := fds
  methods := ms
  attributes := attrs
def plain (name : String) (sup : Option ClassId) : Class where
  name := name
  kind := .ordinary
  loader := none
  accessFlags := 33
  super := sup
  interfaces := #[]
  cf := none
  fields := #[]
  methods := #[]
  instanceTypes := #[]
  staticTypes := #[]
  resolved := #[]
  callSites := []
  init := .initialized
  statics := none
  mirror := none

def pool0 : Array CpInfo := pool [(5, u "<init>"), (0, u "()V"), (1, .class_ 10), (1, u "java/lang/Object")] 113

def k0c0 : Code := { maxStack := 0, maxLocals := 1, code := object_method_1_code, exceptionTable := #[], attributes := #[] }
def k0m0 : Method := { name := "<init>", desc := "()V", sig := { parameters := [], returnType := none }, accessFlags := 1, code := some k0c0 }
/-- java/lang/Object -/
def k0 : Class := { plain "java/lang/Object" none with
  accessFlags := 33
  interfaces := #[]
  cf := some (fileOf pool0 8 #[] #[{ accessFlags := 1, nameIndex := 5, descriptorIndex := 6, attributes := #[] }] 33 0 #[] #[])
  fields := #[]
  methods := #[k0m0]
  instanceTypes := #[]
  staticTypes := #[]
  resolved := Array.replicate 124 none
  statics := none }

def pool1 : Array CpInfo := pool [(2, .class_ 4), (0, .nameAndType 5 6), (0, u "java/lang/Object"), (0, u "<init>"), (0, u "()V"), (0, .class_ 8), (0, u "com/example/otab/otab/tableau/IntList"), (0, .methodref 7 3), (0, .methodref 7 11), (0, .nameAndType 12 13), (0, u "add"), (0, u "(I)V"), (0, .methodref 7 15), (0, .nameAndType 16 17), (0, u "removeLast"), (0, u "()I"), (0, .methodref 7 19), (0, .nameAndType 20 17), (0, u "size"), (0, .methodref 7 22), (0, .nameAndType 23 24), (0, u "get"), (0, u "(I)I"), (0, .class_ 26), (0, u "com/example/otab/otab/tableau/IntListRemoveLastPinLaw"), (2, u "law"), (0, u "(IIII)Z")] 3

def k1m0 : Method := { name := "<init>", desc := "()V", sig := { parameters := [], returnType := none }, accessFlags := 1, code := none }
def k1c1 : Code := { maxStack := 3, maxLocals := 11, code := code, exceptionTable := #[], attributes := #[] }
def k1m1 : Method := { name := "law", desc := "(IIII)Z", sig := { parameters := [.int, .int, .int, .int], returnType := some .boolean }, accessFlags := 9, code := some k1c1 }
/-- com/example/otab/otab/tableau/IntListRemoveLastPinLaw -/
def k1 : Class := { plain "com/example/otab/otab/tableau/IntListRemoveLastPinLaw" (some 0) with
  accessFlags := 49
  interfaces := #[]
  cf := some (fileOf pool1 25 #[] #[{ accessFlags := 1, nameIndex := 5, descriptorIndex := 6, attributes := #[] }, { accessFlags := 9, nameIndex := 29, descriptorIndex := 30, attributes := #[] }] 49 2 #[] #[])
  fields := #[]
  methods := #[k1m0, k1m1]
  instanceTypes := #[]
  staticTypes := #[]
  resolved := Array.replicate 34 none
  statics := none }

def pool2 : Array CpInfo := pool [(1, .methodref 2 3), (0, .class_ 4), (0, .nameAndType 5 6), (0, u "java/lang/Object"), (0, u "<init>"), (0, u "()V"), (0, .fieldref 8 9), (0, .class_ 10), (0, .nameAndType 11 12), (0, u "com/example/otab/otab/tableau/IntList"), (0, u "values"), (0, u "[I"), (0, .fieldref 8 14), (0, .nameAndType 15 16), (0, u "size"), (0, u "I"), (4, u "(I)V"), (15, u "()I"), (0, u "get"), (0, u "(I)I"), (3, u "add"), (0, u "removeLast")] 5

def k2c0 : Code := { maxStack := 2, maxLocals := 1, code := prog_49_method_1_code, exceptionTable := #[], attributes := #[] }
def k2m0 : Method := { name := "<init>", desc := "()V", sig := { parameters := [], returnType := none }, accessFlags := 0, code := some k2c0 }
def k2c1 : Code := { maxStack := 1, maxLocals := 1, code := prog_49_method_2_code, exceptionTable := #[], attributes := #[] }
def k2m1 : Method := { name := "size", desc := "()I", sig := { parameters := [], returnType := some .int }, accessFlags := 0, code := some k2c1 }
def k2c2 : Code := { maxStack := 3, maxLocals := 2, code := prog_49_method_3_code, exceptionTable := #[], attributes := #[] }
def k2m2 : Method := { name := "get", desc := "(I)I", sig := { parameters := [.int], returnType := some .int }, accessFlags := 0, code := some k2c2 }
def k2c3 : Code := { maxStack := 5, maxLocals := 2, code := prog_49_method_5_code, exceptionTable := #[], attributes := #[] }
def k2m3 : Method := { name := "add", desc := "(I)V", sig := { parameters := [.int], returnType := none }, accessFlags := 0, code := some k2c3 }
def k2c4 : Code := { maxStack := 4, maxLocals := 1, code := prog_49_method_6_code, exceptionTable := #[], attributes := #[] }
def k2m4 : Method := { name := "removeLast", desc := "()I", sig := { parameters := [], returnType := some .int }, accessFlags := 0, code := some k2c4 }
/-- com/example/otab/otab/tableau/IntList -/
def k2 : Class := { plain "com/example/otab/otab/tableau/IntList" (some 0) with
  accessFlags := 32
  interfaces := #[]
  cf := some (fileOf pool2 8 #[] #[{ accessFlags := 0, nameIndex := 5, descriptorIndex := 6, attributes := #[] }, { accessFlags := 0, nameIndex := 15, descriptorIndex := 37, attributes := #[] }, { accessFlags := 0, nameIndex := 38, descriptorIndex := 39, attributes := #[] }, { accessFlags := 0, nameIndex := 43, descriptorIndex := 21, attributes := #[] }, { accessFlags := 0, nameIndex := 44, descriptorIndex := 37, attributes := #[] }] 32 2 #[] #[{ accessFlags := 2, nameIndex := 11, descriptorIndex := 12, attributes := #[] }, { accessFlags := 2, nameIndex := 15, descriptorIndex := 16, attributes := #[] }])
  fields := #[{ name := "values", type := (.array .int), accessFlags := 2, slot := 0, constantValue := 0 }, { name := "size", type := .int, accessFlags := 2, slot := 1, constantValue := 0 }]
  methods := #[k2m0, k2m1, k2m2, k2m3, k2m4]
  instanceTypes := #[(.array .int), .int]
  staticTypes := #[]
  resolved := Array.replicate 50 none
  statics := none }

def pool3 : Array CpInfo := pool [(1, u "java/lang/Cloneable"), (0, .class_ 1), (0, u "java/lang/Object"), (0, .class_ 3)] 3

/-- java/lang/Cloneable -/
def k3 : Class := { plain "java/lang/Cloneable" (some 0) with
  accessFlags := 1537
  interfaces := #[]
  cf := some (fileOf pool3 2 #[] #[] 1537 4 #[] #[])
  fields := #[]
  methods := #[]
  instanceTypes := #[]
  staticTypes := #[]
  resolved := Array.replicate 8 none
  statics := none }

def pool4 : Array CpInfo := pool [(1, u "java/io/Serializable"), (0, .class_ 1), (0, u "java/lang/Object"), (0, .class_ 3)] 3

/-- java/io/Serializable -/
def k4 : Class := { plain "java/io/Serializable" (some 0) with
  accessFlags := 1537
  interfaces := #[]
  cf := some (fileOf pool4 2 #[] #[] 1537 4 #[] #[])
  fields := #[]
  methods := #[]
  instanceTypes := #[]
  staticTypes := #[]
  resolved := Array.replicate 8 none
  statics := none }

/-- the primitive byte -/
def k5 : Class := { plain "byte" none with kind := .primitive 'B', accessFlags := 0x411 }
/-- [B -/
def k6 : Class := { plain "[B" (some 0) with kind := .array 5 .byte, interfaces := #[3, 4], accessFlags := 1041 }

/-- the primitive int -/
def k7 : Class := { plain "int" none with kind := .primitive 'I', accessFlags := 0x411 }
/-- [I -/
def k8 : Class := { plain "[I" (some 0) with kind := .array 7 .int, interfaces := #[3, 4], accessFlags := 1041 }

def heap : Heap := #[]
def classes : Array Class := #[k0, k1, k2, k3, k4, k5, k6, k7, k8]
def interned : List (Array UInt16 × Addr) := []
def slotsUsed : Nat := 0
def theMethod : MethodId := ⟨1, 1⟩
def args0 : Array Value := #[.int 5, .int 7, .int 9, .int 3]
def aboutOver (below : List Frame) : State where
  vm := { classes := classes, interned := interned.toArray }
  heap := heap
  slotsUsed := slotsUsed
  threads := #[{ frames := .invoking theMethod args0 :: below }]
def below0 : List Frame := [.native { method := ⟨0, 0⟩, args := #[] }]
def about1 : State := aboutOver below0
def p0 : Program := .bare "" "" ""
def e0 : Env := launch0.env 0 0 0
theorem w_frames : about1.frames = Frame.invoking theMethod args0 :: below0 := rfl
set_option maxRecDepth 65536 in
theorem w_args : argsFit about1.vm theMethod args0 = true := by decide +kernel
set_option maxRecDepth 65536 in
theorem w_heap : heapFits about1 = true := by decide +kernel
set_option maxRecDepth 65536 in
theorem w_runnable : about1.curStatus? = some .runnable := by decide +kernel
set_option maxRecDepth 65536 in
theorem w_alone : about1.alone = true := by decide +kernel
set_option maxRecDepth 65536 in
theorem w_named : about1.methodNamed? x = some theMethod := by decide +kernel
set_option maxRecDepth 65536 in
theorem w_hears : about1.hears theMethod below0 = true := by decide +kernel
set_option maxRecDepth 65536 in
theorem w_ripe : about1.ripe theMethod args0 below0 = true := by decide +kernel
theorem w_running : about1.status = .running := rfl
set_option maxRecDepth 65536 in
theorem w_room : about1.hasRoom e0.platform room_1 = true :=
  launch0.hasRoom_least _ room_1 (by decide +kernel) (by decide +kernel) (by decide +kernel) (by decide +kernel) (by decide +kernel) (by decide +kernel)
theorem allAtoms_all (ts : List Jvm.Cond) (a : Array Jvm.Value) (st : Jvm.State) : (allAtoms ts).before a st = ts.all (fun c => c.before a st) := by
  induction ts with
  | nil => rfl
  | cons c t ih =>
    show (Jvm.Cond.and c (allAtoms t)).before a st = _
    rw [Jvm.Cond.before_and, ih, List.all_cons]
def words1 : List Jvm.Cond := Jvm.Cond.code x code maxLocals ret :: tables_1
/-- a 'code' word, met by the world's own term for the bytes: nothing is compared byte by byte -/
theorem code_word {y : MethodName} {bytes : ByteArray} {mx : Nat} {rt : Option FieldType} {a : Array Value} {s : State} {m : MethodId} {meth : Method} {c : Code} (h1 : s.methodNamed? y = some m) (h2 : s.vm.method? m = some meth) (h3 : meth.code = some c) (h4 : c.code = bytes)
    (h5 : (c.maxLocals == mx && c.exceptionTable.isEmpty && decide (c.maxStack ≤ mostOperands) && decide (meth.sig.returnType = rt) && !meth.locks && decide (parseMethodDescriptor y.desc = some meth.sig)) = true) : (Jvm.Cond.code y bytes mx rt).before a s = true := by
  simp only [Bool.and_eq_true, beq_iff_eq, Bool.not_eq_true', decide_eq_true_eq] at h5
  obtain ⟨⟨⟨⟨⟨g1, g2⟩, g3⟩, g4⟩, g5⟩, g6⟩ := h5
  simp [Cond.before, Cond.holds, Cond.value, h1, h2, h3, h4, g1, g2, g3, g4, g5, g6]
def isCode : Jvm.Cond → Bool
  | .code _ _ _ _ => true
  | _ => false
theorem all_split {L : List Jvm.Cond} {P : Jvm.Cond → Bool} (h1 : L.all (fun c => isCode c || P c) = true) (h2 : ∀ c ∈ L.filter isCode, P c = true) : L.all P = true := by
  refine List.all_eq_true.mpr fun c hc => ?_
  have h := List.all_eq_true.mp h1 c hc
  rcases Bool.eq_false_or_eq_true (isCode c) with hi | hi
  · exact h2 c (List.mem_filter.mpr ⟨hc, hi⟩)
  · simpa [hi] using h
set_option maxRecDepth 65536 in
theorem w_c0 : (Jvm.Cond.code x code maxLocals ret).before args0 about1 = true := code_word (m := ⟨1, 1⟩) (meth := k1m1) (c := k1c1) (by decide +kernel) rfl rfl rfl (by decide +kernel)
set_option maxRecDepth 65536 in
theorem w_c1 : (Jvm.Cond.code ({ cls := "com/example/otab/otab/tableau/IntList", name := "<init>", desc := "()V" } : Jvm.MethodName) prog_49_method_1_code (1 : Nat) (Option.none : Option Jvm.ClassFile.FieldType)).before args0 about1 = true := code_word (m := ⟨2, 0⟩) (meth := k2m0) (c := k2c0) (by decide +kernel) rfl rfl rfl (by decide +kernel)
set_option maxRecDepth 65536 in
theorem w_c2 : (Jvm.Cond.code ({ cls := "java/lang/Object", name := "<init>", desc := "()V" } : Jvm.MethodName) object_method_1_code (1 : Nat) (Option.none : Option Jvm.ClassFile.FieldType)).before args0 about1 = true := code_word (m := ⟨0, 0⟩) (meth := k0m0) (c := k0c0) (by decide +kernel) rfl rfl rfl (by decide +kernel)
set_option maxRecDepth 65536 in
theorem w_c3 : (Jvm.Cond.code ({ cls := "com/example/otab/otab/tableau/IntList", name := "add", desc := "(I)V" } : Jvm.MethodName) prog_49_method_5_code (2 : Nat) (Option.none : Option Jvm.ClassFile.FieldType)).before args0 about1 = true := code_word (m := ⟨2, 3⟩) (meth := k2m3) (c := k2c3) (by decide +kernel) rfl rfl rfl (by decide +kernel)
set_option maxRecDepth 65536 in
theorem w_c4 : (Jvm.Cond.code ({ cls := "com/example/otab/otab/tableau/IntList", name := "removeLast", desc := "()I" } : Jvm.MethodName) prog_49_method_6_code (1 : Nat) (Option.some Jvm.ClassFile.FieldType.int)).before args0 about1 = true := code_word (m := ⟨2, 4⟩) (meth := k2m4) (c := k2c4) (by decide +kernel) rfl rfl rfl (by decide +kernel)
set_option maxRecDepth 65536 in
theorem w_c5 : (Jvm.Cond.code ({ cls := "com/example/otab/otab/tableau/IntList", name := "size", desc := "()I" } : Jvm.MethodName) prog_49_method_2_code (1 : Nat) (Option.some Jvm.ClassFile.FieldType.int)).before args0 about1 = true := code_word (m := ⟨2, 1⟩) (meth := k2m1) (c := k2c1) (by decide +kernel) rfl rfl rfl (by decide +kernel)
set_option maxRecDepth 65536 in
theorem w_c6 : (Jvm.Cond.code ({ cls := "com/example/otab/otab/tableau/IntList", name := "get", desc := "(I)I" } : Jvm.MethodName) prog_49_method_3_code (2 : Nat) (Option.some Jvm.ClassFile.FieldType.int)).before args0 about1 = true := code_word (m := ⟨2, 2⟩) (meth := k2m2) (c := k2c2) (by decide +kernel) rfl rfl rfl (by decide +kernel)
def codes1 : List Jvm.Cond := [Jvm.Cond.code x code maxLocals ret, Jvm.Cond.code ({ cls := "com/example/otab/otab/tableau/IntList", name := "<init>", desc := "()V" } : Jvm.MethodName) prog_49_method_1_code (1 : Nat) (Option.none : Option Jvm.ClassFile.FieldType), Jvm.Cond.code ({ cls := "java/lang/Object", name := "<init>", desc := "()V" } : Jvm.MethodName) object_method_1_code (1 : Nat) (Option.none : Option Jvm.ClassFile.FieldType), Jvm.Cond.code ({ cls := "com/example/otab/otab/tableau/IntList", name := "add", desc := "(I)V" } : Jvm.MethodName) prog_49_method_5_code (2 : Nat) (Option.none : Option Jvm.ClassFile.FieldType), Jvm.Cond.code ({ cls := "com/example/otab/otab/tableau/IntList", name := "removeLast", desc := "()I" } : Jvm.MethodName) prog_49_method_6_code (1 : Nat) (Option.some Jvm.ClassFile.FieldType.int), Jvm.Cond.code ({ cls := "com/example/otab/otab/tableau/IntList", name := "size", desc := "()I" } : Jvm.MethodName) prog_49_method_2_code (1 : Nat) (Option.some Jvm.ClassFile.FieldType.int), Jvm.Cond.code ({ cls := "com/example/otab/otab/tableau/IntList", name := "get", desc := "(I)I" } : Jvm.MethodName) prog_49_method_3_code (2 : Nat) (Option.some Jvm.ClassFile.FieldType.int)]
set_option maxRecDepth 65536 in
theorem codes_eq : words1.filter isCode = codes1 := rfl
theorem w_codes : ∀ c ∈ words1.filter isCode, c.before args0 about1 = true := by
  rw [codes_eq]
  intro c hc
  simp only [codes1, List.mem_cons, List.not_mem_nil, or_false] at hc
  rcases hc with rfl | rfl | rfl | rfl | rfl | rfl | rfl
  · exact w_c0
  · exact w_c1
  · exact w_c2
  · exact w_c3
  · exact w_c4
  · exact w_c5
  · exact w_c6
set_option maxRecDepth 65536 in
theorem w_t1 : (words1.take 24).all (fun c => isCode c || c.before args0 about1) = true := by decide +kernel
set_option maxRecDepth 65536 in
theorem w_t2 : (words1.drop 24).all (fun c => isCode c || c.before args0 about1) = true := by decide +kernel
theorem w_tables : (allAtoms (Jvm.Cond.code x code maxLocals ret :: tables_1)).before args0 about1 = true := by
  rw [allAtoms_all]
  show words1.all (fun c => c.before args0 about1) = true
  refine all_split ?_ w_codes
  rw [← List.take_append_drop 24 words1, List.all_append, w_t1, w_t2]
  rfl
set_option maxRecDepth 65536 in
theorem w_case : (Jvm.Cond.and given_1 narrow_1).before args0 about1 = true := by decide +kernel
theorem w_applies : (headSpec (Jvm.Cond.code x code maxLocals ret :: tables_1) room_1).applies x e0.platform about1 = true :=
  (Spec.applies_iff w_frames).mpr ⟨w_running, w_runnable, w_alone, w_named, w_hears, w_ripe, w_room, w_tables⟩
theorem atStart : AtStart classFile x code maxLocals ret World_1 tables_1 room_1 Calls_1 rest_1 Pre_1 launch0 p0 e0 about1 theMethod args0 below0 :=
  ⟨lists_1, trivial, launch0.admits_env _ _ _, launch0.least_env, fairChoices_fair.cas, fairChoices_fair.clock, w_frames, w_args, w_heap, w_applies, trivial, trivial, w_case⟩
end start1
theorem witness_1 : WitnessClaimed_1 := ⟨start1.p0, start1.e0, start1.about1, start1.theMethod, start1.args0, start1.below0, start1.atStart⟩
end Jvm.Pilot.@@N@@
