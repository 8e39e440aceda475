import JvmDerived
import JvmDerived.Pilot.@@N@@Statement
import JvmDerived.Pilot.@@N@@Code
set_option linter.unusedVariables false
set_option linter.unusedSimpArgs false
namespace Jvm.Ow
open Sem ClassFile Op Lib Jvm.Stand Jvm.Free Jvm.LawKit Jvm.RoadKit
abbrev jv (x : Int64) : Slot := .val (.long x)
abbrev U0 : Slot := .unset
abbrev S2 : Slot := .second
def ush (x y : Int32) : Int32 := (x.toUInt32 >>> (y &&& 31).toUInt32).toInt32
def ushL (x : Int64) (y : Int32) : Int64 := (x.toUInt64 >>> (y &&& 0x3f).toInt64.toUInt64).toInt64
def On (l : Launch) (Z : State) (n0 : Nat) (own : String) (bytes : ByteArray) (maxL : Nat) (ret : Option FieldType) (R : Room) (p : Program) (e : Env) (s : State) (m : MethodId) (args : Array Value) (below : List Frame) (meth : Method) (c : Code) (T : State) (h : Heap) (k n : Nat) : Prop :=
  ∃ locs, Stand p l e R s m args below meth c T locs k n ∧ Fr n0 locs ∧ T.heap = h ∧ p.tables.exec = Jvm.exec ∧ Z.Warmed39 s.vm ∧ c.code = bytes ∧ c.maxLocals = maxL ∧ s.vm.findClass own = some m.cls ∧ meth.sig.returnType = ret ∧ meth.locks = false ∧ n0 ≤ s.heap.size
def Wp (p : Program) (e : Env) (below : List Frame) (s : State) (n0 ck cs : Nat) (Q : Option Value → Heap → Prop) (U : State) : Prop :=
  ∃ t o, Steps p.tables e below U t ∧ t.status = .running ∧ Ended t below o ∧ ∃ v L, o = .returned v ∧ (Fr n0 L ∧ Q v t.heap) ∧ FrameEnd s o t L ck cs
def Met (l : Launch) (Z : State) (n0 : Nat) (y : MethodName) (bytes : ByteArray) (maxL : Nat) (ret : Option FieldType) (rm : Room) (as : Array Value) (h : Heap) (Q : Option Value → Heap → Prop) : Prop :=
  ∀ ws, MetFree l y (head1 (Cond.code y bytes maxL ret :: ws) rm) (fun a U => a = as ∧ Z.Warmed39 U.vm ∧ U.heap = h) (fun _ _ _ _ _ => True) (fun _ U o U' => ∃ v L, o = .returned v ∧ (Fr n0 L ∧ Q v U'.heap) ∧ FrameEnd U o U' L rm.cells rm.slots)
/-- an array of the component type ty, whose components are vs -/
def AA (Z : State) (h : Heap) (a : Addr) (ty : FieldType) (vs : List Value) : Prop := ∃ c : Cell, Arr Z h a c ty ∧ c.slots = vs.toArray ∧ vs.length < 2147483648
section Kit
variable {l : Launch} {Z : State} {n0 : Nat} {own : String} {bytes : ByteArray} {maxL : Nat} {ret : Option FieldType} {R : Room} {p : Program} {e : Env} {s : State} {m : MethodId} {args : Array Value} {below : List Frame} {meth : Method} {c : Code} {T : State} {h h' : Heap} {k n ck cs : Nat} {Q : Option Value → Heap → Prop} {pc pc' : Nat} {Ls Ls' : Array Slot} {st : List Value} {a0 : Array Value} {a b : Addr} {ty : FieldType} {vs : List Value} {sl : Nat} {v w : Value} {ws : List Addr}
theorem AA.ext (F : AA Z h a ty vs) (E : Ext h h') : AA Z h' a ty vs := by obtain ⟨c, A, r⟩ := F; exact ⟨c, A.ext E, r⟩
theorem AA.other (F : AA Z h b ty vs) (W : Wr h h' a sl v) (q : b ≠ a) : AA Z h' b ty vs := by obtain ⟨c, A, r⟩ := F; exact ⟨c, A.other W q, r⟩
theorem AA.keep (F : AA Z h a ty vs) (K : Keep h h' ws) (q : a ∉ ws) : AA Z h' a ty vs := by obtain ⟨c, A, r⟩ := F; exact ⟨c, ⟨K.2.1 a c A.1 q, A.2⟩, r⟩
theorem AA.set (F : AA Z h a ty vs) (W : Wr h h' a sl v) : AA Z h' a ty (vs.set sl v) := by
  obtain ⟨c, A, r1, r2⟩ := F
  exact ⟨_, A.same W, by simp [Cell.setSlot, r1], by simpa using r2⟩
theorem AA.lt (F : AA Z h a ty vs) : a < h.size := by obtain ⟨c, A, -⟩ := F; exact A.lt
theorem AA.len (F : AA Z h a ty vs) : vs.length < 2147483648 := F.choose_spec.2.2
theorem AA.cast {vs' : List Value} (F : AA Z h a ty vs) (q : vs = vs') : AA Z h a ty vs' := q ▸ F
theorem Fld.cast {C f d : String} (F : Fld Z h a C f d v) (q : v = w) : Fld Z h a C f d w := q ▸ F
theorem AA.new {cA : ClassId} {z : Int32} {i : Nat} (A : Arr Z h a (newA cA ty z) ty) (hz : z.toInt = (i : Int)) : AA Z h a ty (List.replicate i (defaultValue ty)) := by
  have q : z.toNatClampNeg = i := by show z.toInt.toNat = i; omega
  have := z.toInt_lt
  refine ⟨_, A, ?_, ?_⟩
  · simp [newA, q]
  · simp; omega
theorem AA.ne_exa {C : String} {kk : Nat} (F : AA Z h a ty vs) (E : Exa Z h b C) (wi : (Cond.instantiable C kk).before a0 Z = true) : b ≠ a := by obtain ⟨c, A, -⟩ := F; exact ne_arr E wi A
theorem lt_ne {x y z : Nat} (q : x < y) (r : y = z) : x ≠ z := by omega
theorem le_eq {x y z : Nat} (q : x ≤ y) (r : y = z) : x ≤ z := by omega
theorem On.size(A : On l Z n0 own bytes maxL ret R p e s m args below meth c T h k n) : n0 ≤ h.size := by
  obtain ⟨locs, X, N, eT, hx, hZ, hby, hml, hown, hret, hlk, hsz⟩ := A
  have := X.same.2.1
  subst eT
  exact Nat.le_trans hsz this
theorem Wp.goo {U U' : State} (f : ∀ t, Steps p.tables e below U' t → Steps p.tables e below U t) (K : Wp p e below s n0 ck cs Q U') : Wp p e below s n0 ck cs Q U := by
  obtain ⟨t, o, q, r⟩ := K; exact ⟨t, o, f t q, r⟩
theorem Wp.cast {g g' : JFrame} (q : g = g') (K : Wp p e below s n0 ck cs Q (T.setTop g')) : Wp p e below s n0 ck cs Q (T.setTop g) := q ▸ K
theorem Wp.stk {st' : List Value} (q : st = st') (K : Wp p e below s n0 ck cs Q (T.setTop (mkF m pc Ls st'))) : Wp p e below s n0 ck cs Q (T.setTop (mkF m pc Ls st)) := q ▸ K
theorem Wp.mono {Q' : Option Value → Heap → Prop} {U : State} (K : Wp p e below s n0 ck cs Q U) (q : ∀ v h, Q v h → Q' v h) : Wp p e below s n0 ck cs Q' U := by
  obtain ⟨t, o, h1, h2, h3, v, L, h4, ⟨h5, h6⟩, h7⟩ := K; exact ⟨t, o, h1, h2, h3, v, L, h4, ⟨h5, q _ _ h6⟩, h7⟩
theorem met_intro {y : MethodName} {rm : Room} {as : Array Value} (hpl : plainFor y = true) (ho : y.cls = own) (hsz : n0 ≤ h.size)
    (body : ∀ p e s m below meth c T, On l Z n0 own bytes maxL ret rm p e s m as below meth c T h 0 0 → meth.name = y.name → Wp p e below s n0 rm.cells rm.slots Q (T.setTop (entryFrame m as maxL))) : Met l Z n0 y bytes maxL ret rm as h Q := by
  subst ho
  intro ws
  refine MetFree.of_bodySF hpl hisR ?_
  intro p e s m args below meth c s₁ Bd hml0 hP hK
  obtain ⟨rfl, hZ, hh⟩ := hP
  have X0 : Stand p l e rm s m args below meth c s₁ [] 0 0 := Stand.of_body Bd
  have e0 : s₁.heap = h := by rw [← hh, Bd.state]; rfl
  exact body p e s m below meth c s₁ ⟨[], X0, Fr.nil n0, e0, Bd.exec, hZ, Bd.bytes, hml0, findClass_of_methodNamed Bd.named, Bd.returns, Bd.notSynchronized, by rw [hh]; exact hsz⟩ (name_of_methodNamed Bd.named Bd.method).1
theorem Met.mono {y : MethodName} {rm : Room} {as : Array Value} {Q' : Option Value → Heap → Prop} (M : Met l Z n0 y bytes maxL ret rm as h Q) (q : ∀ v h, Q v h → Q' v h) : Met l Z n0 y bytes maxL ret rm as h Q' := by
  intro ws p e ha hc hk s m args below hf happ hP hK
  obtain ⟨n, o, h1, h2, h3, v, L, h4, ⟨h5, h6⟩, h7⟩ := M ws p e ha hc hk s m args below hf happ hP hK
  exact ⟨n, o, h1, h2, h3, v, L, h4, ⟨h5, q _ _ h6⟩, h7⟩
theorem s_iloadN (A : On l Z n0 own bytes maxL ret R p e s m args below meth c T h k n) {i : Fin 4} {z : Int32} (hd : decode bytes pc = .ok (.iload_n i, 1)) (hp : pc + 1 = pc') (hl : Ls[i.val]? = some (.val (.int z))) (K : Wp p e below s n0 ck cs Q (T.setTop (mkF m pc' Ls (.int z :: st)))) : Wp p e below s n0 ck cs Q (T.setTop (mkF m pc Ls st)) := by
  obtain ⟨locs, X, N, eT, hx, hZ, hby, hml, hown, hret, hlk, hsz⟩ := A
  subst hp
  exact K.goo fun t q => XS.iloadN X.here hx rfl (hb hby hd) hl q
theorem s_lloadN (A : On l Z n0 own bytes maxL ret R p e s m args below meth c T h k n) {i : Fin 4} {z : Int64} (hd : decode bytes pc = .ok (.lload_n i, 1)) (hp : pc + 1 = pc') (hl : Ls[i.val]? = some (.val (.long z))) (K : Wp p e below s n0 ck cs Q (T.setTop (mkF m pc' Ls (.long z :: st)))) : Wp p e below s n0 ck cs Q (T.setTop (mkF m pc Ls st)) := by
  obtain ⟨locs, X, N, eT, hx, hZ, hby, hml, hown, hret, hlk, hsz⟩ := A
  subst hp
  exact K.goo fun t q => XS.lloadN X.here hx rfl (hb hby hd) hl q
theorem s_aloadN (A : On l Z n0 own bytes maxL ret R p e s m args below meth c T h k n) {i : Fin 4} (hd : decode bytes pc = .ok (.aload_n i, 1)) (hp : pc + 1 = pc') (hl : Ls[i.val]? = some (.val v)) (hv : v.isRef = true) (K : Wp p e below s n0 ck cs Q (T.setTop (mkF m pc' Ls (v :: st)))) : Wp p e below s n0 ck cs Q (T.setTop (mkF m pc Ls st)) := by
  obtain ⟨locs, X, N, eT, hx, hZ, hby, hml, hown, hret, hlk, hsz⟩ := A
  subst hp
  exact K.goo fun t q => XS.aloadN X.here hx rfl (hb hby hd) hl hv q
theorem s_istoreN (A : On l Z n0 own bytes maxL ret R p e s m args below meth c T h k n) {i : Fin 4} {z : Int32} (hd : decode bytes pc = .ok (.istore_n i, 1)) (hp : pc + 1 = pc') (hl : storeLocals Ls i.val (.int z) = some Ls') (K : Wp p e below s n0 ck cs Q (T.setTop (mkF m pc' Ls' st))) : Wp p e below s n0 ck cs Q (T.setTop (mkF m pc Ls (.int z :: st))) := by
  obtain ⟨locs, X, N, eT, hx, hZ, hby, hml, hown, hret, hlk, hsz⟩ := A
  subst hp
  exact K.goo fun t q => XS.istoreN X.here hx rfl (hb hby hd) rfl hl q
theorem s_lstoreN (A : On l Z n0 own bytes maxL ret R p e s m args below meth c T h k n) {i : Fin 4} {z : Int64} (hd : decode bytes pc = .ok (.lstore_n i, 1)) (hp : pc + 1 = pc') (hl : storeLocals Ls i.val (.long z) = some Ls') (K : Wp p e below s n0 ck cs Q (T.setTop (mkF m pc' Ls' st))) : Wp p e below s n0 ck cs Q (T.setTop (mkF m pc Ls (.long z :: st))) := by
  obtain ⟨locs, X, N, eT, hx, hZ, hby, hml, hown, hret, hlk, hsz⟩ := A
  subst hp
  exact K.goo fun t q => XS.lstoreN X.here hx rfl (hb hby hd) rfl hl q
theorem s_astoreN (A : On l Z n0 own bytes maxL ret R p e s m args below meth c T h k n) {i : Fin 4} (hd : decode bytes pc = .ok (.astore_n i, 1)) (hp : pc + 1 = pc') (hv : v.isRef = true) (hl : storeLocals Ls i.val v = some Ls') (K : Wp p e below s n0 ck cs Q (T.setTop (mkF m pc' Ls' st))) : Wp p e below s n0 ck cs Q (T.setTop (mkF m pc Ls (v :: st))) := by
  obtain ⟨locs, X, N, eT, hx, hZ, hby, hml, hown, hret, hlk, hsz⟩ := A
  subst hp
  exact K.goo fun t q => XS.astoreN X.here hx rfl (hb hby hd) rfl hv hl q
theorem s_iload (A : On l Z n0 own bytes maxL ret R p e s m args below meth c T h k n) {i : Nat} {z : Int32} (hd : decode bytes pc = .ok (.iload i, 2)) (hp : pc + 2 = pc') (hl : Ls[i]? = some (.val (.int z))) (K : Wp p e below s n0 ck cs Q (T.setTop (mkF m pc' Ls (.int z :: st)))) : Wp p e below s n0 ck cs Q (T.setTop (mkF m pc Ls st)) := by
  obtain ⟨locs, X, N, eT, hx, hZ, hby, hml, hown, hret, hlk, hsz⟩ := A
  subst hp
  exact K.goo fun t q => XS.iload X.here hx rfl (hb hby hd) hl q
theorem s_lload (A : On l Z n0 own bytes maxL ret R p e s m args below meth c T h k n) {i : Nat} {z : Int64} (hd : decode bytes pc = .ok (.lload i, 2)) (hp : pc + 2 = pc') (hl : Ls[i]? = some (.val (.long z))) (K : Wp p e below s n0 ck cs Q (T.setTop (mkF m pc' Ls (.long z :: st)))) : Wp p e below s n0 ck cs Q (T.setTop (mkF m pc Ls st)) := by
  obtain ⟨locs, X, N, eT, hx, hZ, hby, hml, hown, hret, hlk, hsz⟩ := A
  subst hp
  exact K.goo fun t q => XS.lload X.here hx rfl (hb hby hd) hl q
theorem s_aload (A : On l Z n0 own bytes maxL ret R p e s m args below meth c T h k n) {i : Nat} (hd : decode bytes pc = .ok (.aload i, 2)) (hp : pc + 2 = pc') (hl : Ls[i]? = some (.val v)) (hv : v.isRef = true) (K : Wp p e below s n0 ck cs Q (T.setTop (mkF m pc' Ls (v :: st)))) : Wp p e below s n0 ck cs Q (T.setTop (mkF m pc Ls st)) := by
  obtain ⟨locs, X, N, eT, hx, hZ, hby, hml, hown, hret, hlk, hsz⟩ := A
  subst hp
  exact K.goo fun t q => XS.aload X.here hx rfl (hb hby hd) hl hv q
theorem s_istore (A : On l Z n0 own bytes maxL ret R p e s m args below meth c T h k n) {i : Nat} {z : Int32} (hd : decode bytes pc = .ok (.istore i, 2)) (hp : pc + 2 = pc') (hl : storeLocals Ls i (.int z) = some Ls') (K : Wp p e below s n0 ck cs Q (T.setTop (mkF m pc' Ls' st))) : Wp p e below s n0 ck cs Q (T.setTop (mkF m pc Ls (.int z :: st))) := by
  obtain ⟨locs, X, N, eT, hx, hZ, hby, hml, hown, hret, hlk, hsz⟩ := A
  subst hp
  exact K.goo fun t q => XS.istore X.here hx rfl (hb hby hd) rfl hl q
theorem s_lstore (A : On l Z n0 own bytes maxL ret R p e s m args below meth c T h k n) {i : Nat} {z : Int64} (hd : decode bytes pc = .ok (.lstore i, 2)) (hp : pc + 2 = pc') (hl : storeLocals Ls i (.long z) = some Ls') (K : Wp p e below s n0 ck cs Q (T.setTop (mkF m pc' Ls' st))) : Wp p e below s n0 ck cs Q (T.setTop (mkF m pc Ls (.long z :: st))) := by
  obtain ⟨locs, X, N, eT, hx, hZ, hby, hml, hown, hret, hlk, hsz⟩ := A
  subst hp
  exact K.goo fun t q => XS.lstore X.here hx rfl (hb hby hd) rfl hl q
theorem s_astore (A : On l Z n0 own bytes maxL ret R p e s m args below meth c T h k n) {i : Nat} (hd : decode bytes pc = .ok (.astore i, 2)) (hp : pc + 2 = pc') (hv : v.isRef = true) (hl : storeLocals Ls i v = some Ls') (K : Wp p e below s n0 ck cs Q (T.setTop (mkF m pc' Ls' st))) : Wp p e below s n0 ck cs Q (T.setTop (mkF m pc Ls (v :: st))) := by
  obtain ⟨locs, X, N, eT, hx, hZ, hby, hml, hown, hret, hlk, hsz⟩ := A
  subst hp
  exact K.goo fun t q => XS.astore X.here hx rfl (hb hby hd) rfl hv hl q
theorem s_iconst (A : On l Z n0 own bytes maxL ret R p e s m args below meth c T h k n) {i : Int} {z : Int32} (hd : decode bytes pc = .ok (.iconst i, 1)) (hp : pc + 1 = pc') (hz : Int32.ofInt i = z) (K : Wp p e below s n0 ck cs Q (T.setTop (mkF m pc' Ls (.int z :: st)))) : Wp p e below s n0 ck cs Q (T.setTop (mkF m pc Ls st)) := by
  obtain ⟨locs, X, N, eT, hx, hZ, hby, hml, hown, hret, hlk, hsz⟩ := A
  subst hp
  subst hz
  exact K.goo fun t q => XS.iconst X.here hx rfl (hb hby hd) q
theorem s_bipush (A : On l Z n0 own bytes maxL ret R p e s m args below meth c T h k n) {i : Int} {z : Int32} (hd : decode bytes pc = .ok (.bipush i, 2)) (hp : pc + 2 = pc') (hz : (Int8.ofInt i).toInt32 = z) (K : Wp p e below s n0 ck cs Q (T.setTop (mkF m pc' Ls (.int z :: st)))) : Wp p e below s n0 ck cs Q (T.setTop (mkF m pc Ls st)) := by
  obtain ⟨locs, X, N, eT, hx, hZ, hby, hml, hown, hret, hlk, hsz⟩ := A
  subst hp
  subst hz
  exact K.goo fun t q => XS.bipush X.here hx rfl (hb hby hd) q
theorem s_sipush (A : On l Z n0 own bytes maxL ret R p e s m args below meth c T h k n) {i : Int} {z : Int32} (hd : decode bytes pc = .ok (.sipush i, 3)) (hp : pc + 3 = pc') (hz : (Int16.ofInt i).toInt32 = z) (K : Wp p e below s n0 ck cs Q (T.setTop (mkF m pc' Ls (.int z :: st)))) : Wp p e below s n0 ck cs Q (T.setTop (mkF m pc Ls st)) := by
  obtain ⟨locs, X, N, eT, hx, hZ, hby, hml, hown, hret, hlk, hsz⟩ := A
  subst hp
  subst hz
  exact K.goo fun t q => XS.sipush X.here hx rfl (hb hby hd) q
theorem s_lconst (A : On l Z n0 own bytes maxL ret R p e s m args below meth c T h k n) {i : Fin 2} {z : Int64} (hd : decode bytes pc = .ok (.lconst i, 1)) (hp : pc + 1 = pc') (hz : Int64.ofNat i = z) (K : Wp p e below s n0 ck cs Q (T.setTop (mkF m pc' Ls (.long z :: st)))) : Wp p e below s n0 ck cs Q (T.setTop (mkF m pc Ls st)) := by
  obtain ⟨locs, X, N, eT, hx, hZ, hby, hml, hown, hret, hlk, hsz⟩ := A
  subst hp
  subst hz
  exact K.goo fun t q => XS.lconst X.here hx rfl (hb hby hd) q
theorem s_aconstNull (A : On l Z n0 own bytes maxL ret R p e s m args below meth c T h k n)  (hd : decode bytes pc = .ok (.aconst_null, 1)) (hp : pc + 1 = pc') (K : Wp p e below s n0 ck cs Q (T.setTop (mkF m pc' Ls (.null :: st)))) : Wp p e below s n0 ck cs Q (T.setTop (mkF m pc Ls st)) := by
  obtain ⟨locs, X, N, eT, hx, hZ, hby, hml, hown, hret, hlk, hsz⟩ := A
  subst hp
  exact K.goo fun t q => XS.aconstNull X.here hx rfl (hb hby hd) q
theorem s_iadd (A : On l Z n0 own bytes maxL ret R p e s m args below meth c T h k n) {x y z : Int32} (hd : decode bytes pc = .ok (.iadd, 1)) (hp : pc + 1 = pc') (hz : x + y = z) (K : Wp p e below s n0 ck cs Q (T.setTop (mkF m pc' Ls (.int z :: st)))) : Wp p e below s n0 ck cs Q (T.setTop (mkF m pc Ls (.int y :: .int x :: st))) := by
  obtain ⟨locs, X, N, eT, hx, hZ, hby, hml, hown, hret, hlk, hsz⟩ := A
  subst hp
  subst hz
  exact K.goo fun t q => XS.iadd X.here hx rfl (hb hby hd) rfl q
theorem s_ladd (A : On l Z n0 own bytes maxL ret R p e s m args below meth c T h k n) {x y z : Int64} (hd : decode bytes pc = .ok (.ladd, 1)) (hp : pc + 1 = pc') (hz : x + y = z) (K : Wp p e below s n0 ck cs Q (T.setTop (mkF m pc' Ls (.long z :: st)))) : Wp p e below s n0 ck cs Q (T.setTop (mkF m pc Ls (.long y :: .long x :: st))) := by
  obtain ⟨locs, X, N, eT, hx, hZ, hby, hml, hown, hret, hlk, hsz⟩ := A
  subst hp
  subst hz
  exact K.goo fun t q => XS.ladd X.here hx rfl (hb hby hd) rfl q
theorem s_isub (A : On l Z n0 own bytes maxL ret R p e s m args below meth c T h k n) {x y z : Int32} (hd : decode bytes pc = .ok (.isub, 1)) (hp : pc + 1 = pc') (hz : x - y = z) (K : Wp p e below s n0 ck cs Q (T.setTop (mkF m pc' Ls (.int z :: st)))) : Wp p e below s n0 ck cs Q (T.setTop (mkF m pc Ls (.int y :: .int x :: st))) := by
  obtain ⟨locs, X, N, eT, hx, hZ, hby, hml, hown, hret, hlk, hsz⟩ := A
  subst hp
  subst hz
  exact K.goo fun t q => XS.isub X.here hx rfl (hb hby hd) rfl q
theorem s_lsub (A : On l Z n0 own bytes maxL ret R p e s m args below meth c T h k n) {x y z : Int64} (hd : decode bytes pc = .ok (.lsub, 1)) (hp : pc + 1 = pc') (hz : x - y = z) (K : Wp p e below s n0 ck cs Q (T.setTop (mkF m pc' Ls (.long z :: st)))) : Wp p e below s n0 ck cs Q (T.setTop (mkF m pc Ls (.long y :: .long x :: st))) := by
  obtain ⟨locs, X, N, eT, hx, hZ, hby, hml, hown, hret, hlk, hsz⟩ := A
  subst hp
  subst hz
  exact K.goo fun t q => XS.lsub X.here hx rfl (hb hby hd) rfl q
theorem s_imul (A : On l Z n0 own bytes maxL ret R p e s m args below meth c T h k n) {x y z : Int32} (hd : decode bytes pc = .ok (.imul, 1)) (hp : pc + 1 = pc') (hz : x * y = z) (K : Wp p e below s n0 ck cs Q (T.setTop (mkF m pc' Ls (.int z :: st)))) : Wp p e below s n0 ck cs Q (T.setTop (mkF m pc Ls (.int y :: .int x :: st))) := by
  obtain ⟨locs, X, N, eT, hx, hZ, hby, hml, hown, hret, hlk, hsz⟩ := A
  subst hp
  subst hz
  exact K.goo fun t q => XS.imul X.here hx rfl (hb hby hd) rfl q
theorem s_lmul (A : On l Z n0 own bytes maxL ret R p e s m args below meth c T h k n) {x y z : Int64} (hd : decode bytes pc = .ok (.lmul, 1)) (hp : pc + 1 = pc') (hz : x * y = z) (K : Wp p e below s n0 ck cs Q (T.setTop (mkF m pc' Ls (.long z :: st)))) : Wp p e below s n0 ck cs Q (T.setTop (mkF m pc Ls (.long y :: .long x :: st))) := by
  obtain ⟨locs, X, N, eT, hx, hZ, hby, hml, hown, hret, hlk, hsz⟩ := A
  subst hp
  subst hz
  exact K.goo fun t q => XS.lmul X.here hx rfl (hb hby hd) rfl q
theorem s_iand (A : On l Z n0 own bytes maxL ret R p e s m args below meth c T h k n) {x y z : Int32} (hd : decode bytes pc = .ok (.iand, 1)) (hp : pc + 1 = pc') (hz : x &&& y = z) (K : Wp p e below s n0 ck cs Q (T.setTop (mkF m pc' Ls (.int z :: st)))) : Wp p e below s n0 ck cs Q (T.setTop (mkF m pc Ls (.int y :: .int x :: st))) := by
  obtain ⟨locs, X, N, eT, hx, hZ, hby, hml, hown, hret, hlk, hsz⟩ := A
  subst hp
  subst hz
  exact K.goo fun t q => XS.iand X.here hx rfl (hb hby hd) rfl q
theorem s_land (A : On l Z n0 own bytes maxL ret R p e s m args below meth c T h k n) {x y z : Int64} (hd : decode bytes pc = .ok (.land, 1)) (hp : pc + 1 = pc') (hz : x &&& y = z) (K : Wp p e below s n0 ck cs Q (T.setTop (mkF m pc' Ls (.long z :: st)))) : Wp p e below s n0 ck cs Q (T.setTop (mkF m pc Ls (.long y :: .long x :: st))) := by
  obtain ⟨locs, X, N, eT, hx, hZ, hby, hml, hown, hret, hlk, hsz⟩ := A
  subst hp
  subst hz
  exact K.goo fun t q => XS.land X.here hx rfl (hb hby hd) rfl q
theorem s_ior (A : On l Z n0 own bytes maxL ret R p e s m args below meth c T h k n) {x y z : Int32} (hd : decode bytes pc = .ok (.ior, 1)) (hp : pc + 1 = pc') (hz : x ||| y = z) (K : Wp p e below s n0 ck cs Q (T.setTop (mkF m pc' Ls (.int z :: st)))) : Wp p e below s n0 ck cs Q (T.setTop (mkF m pc Ls (.int y :: .int x :: st))) := by
  obtain ⟨locs, X, N, eT, hx, hZ, hby, hml, hown, hret, hlk, hsz⟩ := A
  subst hp
  subst hz
  exact K.goo fun t q => XS.ior X.here hx rfl (hb hby hd) rfl q
theorem s_lor (A : On l Z n0 own bytes maxL ret R p e s m args below meth c T h k n) {x y z : Int64} (hd : decode bytes pc = .ok (.lor, 1)) (hp : pc + 1 = pc') (hz : x ||| y = z) (K : Wp p e below s n0 ck cs Q (T.setTop (mkF m pc' Ls (.long z :: st)))) : Wp p e below s n0 ck cs Q (T.setTop (mkF m pc Ls (.long y :: .long x :: st))) := by
  obtain ⟨locs, X, N, eT, hx, hZ, hby, hml, hown, hret, hlk, hsz⟩ := A
  subst hp
  subst hz
  exact K.goo fun t q => XS.lor X.here hx rfl (hb hby hd) rfl q
theorem s_ixor (A : On l Z n0 own bytes maxL ret R p e s m args below meth c T h k n) {x y z : Int32} (hd : decode bytes pc = .ok (.ixor, 1)) (hp : pc + 1 = pc') (hz : x ^^^ y = z) (K : Wp p e below s n0 ck cs Q (T.setTop (mkF m pc' Ls (.int z :: st)))) : Wp p e below s n0 ck cs Q (T.setTop (mkF m pc Ls (.int y :: .int x :: st))) := by
  obtain ⟨locs, X, N, eT, hx, hZ, hby, hml, hown, hret, hlk, hsz⟩ := A
  subst hp
  subst hz
  exact K.goo fun t q => XS.ixor X.here hx rfl (hb hby hd) rfl q
theorem s_lxor (A : On l Z n0 own bytes maxL ret R p e s m args below meth c T h k n) {x y z : Int64} (hd : decode bytes pc = .ok (.lxor, 1)) (hp : pc + 1 = pc') (hz : x ^^^ y = z) (K : Wp p e below s n0 ck cs Q (T.setTop (mkF m pc' Ls (.long z :: st)))) : Wp p e below s n0 ck cs Q (T.setTop (mkF m pc Ls (.long y :: .long x :: st))) := by
  obtain ⟨locs, X, N, eT, hx, hZ, hby, hml, hown, hret, hlk, hsz⟩ := A
  subst hp
  subst hz
  exact K.goo fun t q => XS.lxor X.here hx rfl (hb hby hd) rfl q
theorem s_idiv (A : On l Z n0 own bytes maxL ret R p e s m args below meth c T h k n) {x y z : Int32} (hd : decode bytes pc = .ok (.idiv, 1)) (hp : pc + 1 = pc') (hy : y ≠ 0) (hz : x / y = z) (K : Wp p e below s n0 ck cs Q (T.setTop (mkF m pc' Ls (.int z :: st)))) : Wp p e below s n0 ck cs Q (T.setTop (mkF m pc Ls (.int y :: .int x :: st))) := by
  obtain ⟨locs, X, N, eT, hx, hZ, hby, hml, hown, hret, hlk, hsz⟩ := A
  subst hp
  subst hz
  exact K.goo fun t q => XS.idiv X.here hx rfl (hb hby hd) rfl hy q
theorem s_ldiv (A : On l Z n0 own bytes maxL ret R p e s m args below meth c T h k n) {x y z : Int64} (hd : decode bytes pc = .ok (.ldiv, 1)) (hp : pc + 1 = pc') (hy : y ≠ 0) (hz : x / y = z) (K : Wp p e below s n0 ck cs Q (T.setTop (mkF m pc' Ls (.long z :: st)))) : Wp p e below s n0 ck cs Q (T.setTop (mkF m pc Ls (.long y :: .long x :: st))) := by
  obtain ⟨locs, X, N, eT, hx, hZ, hby, hml, hown, hret, hlk, hsz⟩ := A
  subst hp
  subst hz
  exact K.goo fun t q => XS.ldiv X.here hx rfl (hb hby hd) rfl hy q
theorem s_irem (A : On l Z n0 own bytes maxL ret R p e s m args below meth c T h k n) {x y z : Int32} (hd : decode bytes pc = .ok (.irem, 1)) (hp : pc + 1 = pc') (hy : y ≠ 0) (hz : x % y = z) (K : Wp p e below s n0 ck cs Q (T.setTop (mkF m pc' Ls (.int z :: st)))) : Wp p e below s n0 ck cs Q (T.setTop (mkF m pc Ls (.int y :: .int x :: st))) := by
  obtain ⟨locs, X, N, eT, hx, hZ, hby, hml, hown, hret, hlk, hsz⟩ := A
  subst hp
  subst hz
  exact K.goo fun t q => iremM X hx rfl (hb hby hd) rfl hy q
theorem s_ineg (A : On l Z n0 own bytes maxL ret R p e s m args below meth c T h k n) {x z : Int32} (hd : decode bytes pc = .ok (.ineg, 1)) (hp : pc + 1 = pc') (hz : -x = z) (K : Wp p e below s n0 ck cs Q (T.setTop (mkF m pc' Ls (.int z :: st)))) : Wp p e below s n0 ck cs Q (T.setTop (mkF m pc Ls (.int x :: st))) := by
  obtain ⟨locs, X, N, eT, hx, hZ, hby, hml, hown, hret, hlk, hsz⟩ := A
  subst hp
  subst hz
  exact K.goo fun t q => XS.ineg X.here hx rfl (hb hby hd) rfl q
theorem s_ishl (A : On l Z n0 own bytes maxL ret R p e s m args below meth c T h k n) {x y z : Int32} (hd : decode bytes pc = .ok (.ishl, 1)) (hp : pc + 1 = pc') (hz : x <<< (y &&& 31) = z) (K : Wp p e below s n0 ck cs Q (T.setTop (mkF m pc' Ls (.int z :: st)))) : Wp p e below s n0 ck cs Q (T.setTop (mkF m pc Ls (.int y :: .int x :: st))) := by
  obtain ⟨locs, X, N, eT, hx, hZ, hby, hml, hown, hret, hlk, hsz⟩ := A
  subst hp
  subst hz
  exact K.goo fun t q => XS.ishl X.here hx rfl (hb hby hd) rfl q
theorem s_ishr (A : On l Z n0 own bytes maxL ret R p e s m args below meth c T h k n) {x y z : Int32} (hd : decode bytes pc = .ok (.ishr, 1)) (hp : pc + 1 = pc') (hz : x >>> (y &&& 31) = z) (K : Wp p e below s n0 ck cs Q (T.setTop (mkF m pc' Ls (.int z :: st)))) : Wp p e below s n0 ck cs Q (T.setTop (mkF m pc Ls (.int y :: .int x :: st))) := by
  obtain ⟨locs, X, N, eT, hx, hZ, hby, hml, hown, hret, hlk, hsz⟩ := A
  subst hp
  subst hz
  exact K.goo fun t q => XS.ishr X.here hx rfl (hb hby hd) rfl q
theorem s_iushr (A : On l Z n0 own bytes maxL ret R p e s m args below meth c T h k n) {x y z : Int32} (hd : decode bytes pc = .ok (.iushr, 1)) (hp : pc + 1 = pc') (hz : ush x y = z) (K : Wp p e below s n0 ck cs Q (T.setTop (mkF m pc' Ls (.int z :: st)))) : Wp p e below s n0 ck cs Q (T.setTop (mkF m pc Ls (.int y :: .int x :: st))) := by
  obtain ⟨locs, X, N, eT, hx, hZ, hby, hml, hown, hret, hlk, hsz⟩ := A
  subst hp
  subst hz
  exact K.goo fun t q => XS.iushr X.here hx rfl (hb hby hd) rfl q
theorem s_lshl (A : On l Z n0 own bytes maxL ret R p e s m args below meth c T h k n) {x z : Int64} {y : Int32} (hd : decode bytes pc = .ok (.lshl, 1)) (hp : pc + 1 = pc') (hz : x <<< (y &&& 0x3f).toInt64 = z) (K : Wp p e below s n0 ck cs Q (T.setTop (mkF m pc' Ls (.long z :: st)))) : Wp p e below s n0 ck cs Q (T.setTop (mkF m pc Ls (.int y :: .long x :: st))) := by
  obtain ⟨locs, X, N, eT, hx, hZ, hby, hml, hown, hret, hlk, hsz⟩ := A
  subst hp
  subst hz
  exact K.goo fun t q => XS.lshl X.here hx rfl (hb hby hd) rfl q
theorem s_lshr (A : On l Z n0 own bytes maxL ret R p e s m args below meth c T h k n) {x z : Int64} {y : Int32} (hd : decode bytes pc = .ok (.lshr, 1)) (hp : pc + 1 = pc') (hz : x >>> (y &&& 0x3f).toInt64 = z) (K : Wp p e below s n0 ck cs Q (T.setTop (mkF m pc' Ls (.long z :: st)))) : Wp p e below s n0 ck cs Q (T.setTop (mkF m pc Ls (.int y :: .long x :: st))) := by
  obtain ⟨locs, X, N, eT, hx, hZ, hby, hml, hown, hret, hlk, hsz⟩ := A
  subst hp
  subst hz
  exact K.goo fun t q => XS.lshr X.here hx rfl (hb hby hd) rfl q
theorem s_lushr (A : On l Z n0 own bytes maxL ret R p e s m args below meth c T h k n) {x z : Int64} {y : Int32} (hd : decode bytes pc = .ok (.lushr, 1)) (hp : pc + 1 = pc') (hz : ushL x y = z) (K : Wp p e below s n0 ck cs Q (T.setTop (mkF m pc' Ls (.long z :: st)))) : Wp p e below s n0 ck cs Q (T.setTop (mkF m pc Ls (.int y :: .long x :: st))) := by
  obtain ⟨locs, X, N, eT, hx, hZ, hby, hml, hown, hret, hlk, hsz⟩ := A
  subst hp
  subst hz
  exact K.goo fun t q => XS.lushr X.here hx rfl (hb hby hd) rfl q
theorem s_lcmp (A : On l Z n0 own bytes maxL ret R p e s m args below meth c T h k n) {x y : Int64} (hd : decode bytes pc = .ok (.lcmp, 1)) (hp : pc + 1 = pc') (K : Wp p e below s n0 ck cs Q (T.setTop (mkF m pc' Ls (.int (lcmpW x y) :: st)))) : Wp p e below s n0 ck cs Q (T.setTop (mkF m pc Ls (.long y :: .long x :: st))) := by
  obtain ⟨locs, X, N, eT, hx, hZ, hby, hml, hown, hret, hlk, hsz⟩ := A
  subst hp
  exact K.goo fun t q => XS.lcmp X.here hx rfl (hb hby hd) rfl q
theorem s_i2l (A : On l Z n0 own bytes maxL ret R p e s m args below meth c T h k n) {x : Int32} {z : Int64} (hd : decode bytes pc = .ok (.i2l, 1)) (hp : pc + 1 = pc') (hz : x.toInt64 = z) (K : Wp p e below s n0 ck cs Q (T.setTop (mkF m pc' Ls (.long z :: st)))) : Wp p e below s n0 ck cs Q (T.setTop (mkF m pc Ls (.int x :: st))) := by
  obtain ⟨locs, X, N, eT, hx, hZ, hby, hml, hown, hret, hlk, hsz⟩ := A
  subst hp
  subst hz
  exact K.goo fun t q => XS.i2l X.here hx rfl (hb hby hd) rfl q
theorem s_l2i (A : On l Z n0 own bytes maxL ret R p e s m args below meth c T h k n) {x : Int64} {z : Int32} (hd : decode bytes pc = .ok (.l2i, 1)) (hp : pc + 1 = pc') (hz : x.toInt32 = z) (K : Wp p e below s n0 ck cs Q (T.setTop (mkF m pc' Ls (.int z :: st)))) : Wp p e below s n0 ck cs Q (T.setTop (mkF m pc Ls (.long x :: st))) := by
  obtain ⟨locs, X, N, eT, hx, hZ, hby, hml, hown, hret, hlk, hsz⟩ := A
  subst hp
  subst hz
  exact K.goo fun t q => XS.l2i X.here hx rfl (hb hby hd) rfl q
theorem s_i2b (A : On l Z n0 own bytes maxL ret R p e s m args below meth c T h k n) {x z : Int32} (hd : decode bytes pc = .ok (.i2b, 1)) (hp : pc + 1 = pc') (hz : x.toInt8.toInt32 = z) (K : Wp p e below s n0 ck cs Q (T.setTop (mkF m pc' Ls (.int z :: st)))) : Wp p e below s n0 ck cs Q (T.setTop (mkF m pc Ls (.int x :: st))) := by
  obtain ⟨locs, X, N, eT, hx, hZ, hby, hml, hown, hret, hlk, hsz⟩ := A
  subst hp
  subst hz
  exact K.goo fun t q => XS.i2b X.here hx rfl (hb hby hd) rfl q
theorem s_dup (A : On l Z n0 own bytes maxL ret R p e s m args below meth c T h k n)  (hd : decode bytes pc = .ok (.dup, 1)) (hp : pc + 1 = pc') (hc : v.category = 1) (K : Wp p e below s n0 ck cs Q (T.setTop (mkF m pc' Ls (v :: v :: st)))) : Wp p e below s n0 ck cs Q (T.setTop (mkF m pc Ls (v :: st))) := by
  obtain ⟨locs, X, N, eT, hx, hZ, hby, hml, hown, hret, hlk, hsz⟩ := A
  subst hp
  exact K.goo fun t q => XS.dup X.here hx rfl (hb hby hd) rfl hc q
theorem s_dup2 (A : On l Z n0 own bytes maxL ret R p e s m args below meth c T h k n)  (hd : decode bytes pc = .ok (.dup2, 1)) (hp : pc + 1 = pc') (hc : v.category = 1) (hc' : w.category = 1) (K : Wp p e below s n0 ck cs Q (T.setTop (mkF m pc' Ls (v :: w :: v :: w :: st)))) : Wp p e below s n0 ck cs Q (T.setTop (mkF m pc Ls (v :: w :: st))) := by
  obtain ⟨locs, X, N, eT, hx, hZ, hby, hml, hown, hret, hlk, hsz⟩ := A
  subst hp
  exact K.goo fun t q => XT.dup2 X.here hx rfl (hb hby hd) rfl hc hc' q
theorem s_dup2L (A : On l Z n0 own bytes maxL ret R p e s m args below meth c T h k n) {x : Int64} (hd : decode bytes pc = .ok (.dup2, 1)) (hp : pc + 1 = pc') (K : Wp p e below s n0 ck cs Q (T.setTop (mkF m pc' Ls (.long x :: .long x :: st)))) : Wp p e below s n0 ck cs Q (T.setTop (mkF m pc Ls (.long x :: st))) := by
  obtain ⟨locs, X, N, eT, hx, hZ, hby, hml, hown, hret, hlk, hsz⟩ := A
  subst hp
  exact K.goo fun t q => XT.dup2L X.here hx rfl (hb hby hd) rfl q
theorem s_dupX1 (A : On l Z n0 own bytes maxL ret R p e s m args below meth c T h k n)  (hd : decode bytes pc = .ok (.dup_x1, 1)) (hp : pc + 1 = pc') (hc : v.category = 1) (hc' : w.category = 1) (K : Wp p e below s n0 ck cs Q (T.setTop (mkF m pc' Ls (v :: w :: v :: st)))) : Wp p e below s n0 ck cs Q (T.setTop (mkF m pc Ls (v :: w :: st))) := by
  obtain ⟨locs, X, N, eT, hx, hZ, hby, hml, hown, hret, hlk, hsz⟩ := A
  subst hp
  exact K.goo fun t q => XS.dupX1 X.here hx rfl (hb hby hd) rfl hc hc' q
theorem s_dup2X1L (A : On l Z n0 own bytes maxL ret R p e s m args below meth c T h k n) {x : Int64} (hd : decode bytes pc = .ok (.dup2_x1, 1)) (hp : pc + 1 = pc') (hc' : w.category = 1) (K : Wp p e below s n0 ck cs Q (T.setTop (mkF m pc' Ls (.long x :: w :: .long x :: st)))) : Wp p e below s n0 ck cs Q (T.setTop (mkF m pc Ls (.long x :: w :: st))) := by
  obtain ⟨locs, X, N, eT, hx, hZ, hby, hml, hown, hret, hlk, hsz⟩ := A
  subst hp
  refine K.goo fun t q => ?_
  jvm_step X.here [X.here.top, hx, (hb hby hd), Value.category, hc']
  exact ⟨hc', q⟩
theorem s_pop (A : On l Z n0 own bytes maxL ret R p e s m args below meth c T h k n)  (hd : decode bytes pc = .ok (.pop, 1)) (hp : pc + 1 = pc') (hc : v.category = 1) (K : Wp p e below s n0 ck cs Q (T.setTop (mkF m pc' Ls st))) : Wp p e below s n0 ck cs Q (T.setTop (mkF m pc Ls (v :: st))) := by
  obtain ⟨locs, X, N, eT, hx, hZ, hby, hml, hown, hret, hlk, hsz⟩ := A
  subst hp
  exact K.goo fun t q => XS.pop X.here hx rfl (hb hby hd) rfl hc q
theorem s_pop2L (A : On l Z n0 own bytes maxL ret R p e s m args below meth c T h k n) {x : Int64} (hd : decode bytes pc = .ok (.pop2, 1)) (hp : pc + 1 = pc') (K : Wp p e below s n0 ck cs Q (T.setTop (mkF m pc' Ls st))) : Wp p e below s n0 ck cs Q (T.setTop (mkF m pc Ls (.long x :: st))) := by
  obtain ⟨locs, X, N, eT, hx, hZ, hby, hml, hown, hret, hlk, hsz⟩ := A
  subst hp
  refine K.goo fun t q => ?_
  jvm_step X.here [X.here.top, hx, (hb hby hd), Value.category]
  exact q
theorem s_iinc (A : On l Z n0 own bytes maxL ret R p e s m args below meth c T h k n) {i : Nat} {j : Int} {x z : Int32} (hd : decode bytes pc = .ok (.iinc i j, 3)) (hp : pc + 3 = pc') (hl : Ls[i]? = some (.val (.int x))) (hz : x + Int32.ofInt j = z) (hs : storeLocals Ls i (.int z) = some Ls') (K : Wp p e below s n0 ck cs Q (T.setTop (mkF m pc' Ls' st))) : Wp p e below s n0 ck cs Q (T.setTop (mkF m pc Ls st)) := by
  obtain ⟨locs, X, N, eT, hx, hZ, hby, hml, hown, hret, hlk, hsz⟩ := A
  subst hp
  subst hz
  exact K.goo fun t q => XS.iinc X.here hx rfl (hb hby hd) hl hs q
theorem s_goto (A : On l Z n0 own bytes maxL ret R p e s m args below meth c T h k n)  {o : Int} (hd : decode bytes pc = .ok (.goto o, 3))  (ho : 0 ≤ (pc : Int) + o) (hp : ((pc : Int) + o).toNat = pc') (K : Wp p e below s n0 ck cs Q (T.setTop (mkF m pc' Ls st))) : Wp p e below s n0 ck cs Q (T.setTop (mkF m pc Ls st)) := by
  obtain ⟨locs, X, N, eT, hx, hZ, hby, hml, hown, hret, hlk, hsz⟩ := A
  exact K.goo fun t q => XS.goto X.here hx rfl (pc0 := pc) rfl (hb hby hd) ho hp q
theorem s_ifY (A : On l Z n0 own bytes maxL ret R p e s m args below meth c T h k n) {cd : ClassFile.Cond} {x : Int32} {o : Int} (hd : decode bytes pc = .ok (.ifCond cd o, 3)) (hc : ifCond.holds cd x = true) (ho : 0 ≤ (pc : Int) + o) (hp : ((pc : Int) + o).toNat = pc') (K : Wp p e below s n0 ck cs Q (T.setTop (mkF m pc' Ls st))) : Wp p e below s n0 ck cs Q (T.setTop (mkF m pc Ls (.int x :: st))) := by
  obtain ⟨locs, X, N, eT, hx, hZ, hby, hml, hown, hret, hlk, hsz⟩ := A
  exact K.goo fun t q => XS.ifYes X.here hx rfl (pc0 := pc) rfl (hb hby hd) rfl hc ho hp q
theorem s_icmpY (A : On l Z n0 own bytes maxL ret R p e s m args below meth c T h k n) {cd : ClassFile.Cond} {x y : Int32} {o : Int} (hd : decode bytes pc = .ok (.if_icmp cd o, 3)) (hc : if_icmp.holds cd x y = true) (ho : 0 ≤ (pc : Int) + o) (hp : ((pc : Int) + o).toNat = pc') (K : Wp p e below s n0 ck cs Q (T.setTop (mkF m pc' Ls st))) : Wp p e below s n0 ck cs Q (T.setTop (mkF m pc Ls (.int y :: .int x :: st))) := by
  obtain ⟨locs, X, N, eT, hx, hZ, hby, hml, hown, hret, hlk, hsz⟩ := A
  exact K.goo fun t q => XS.icmpYes X.here hx rfl (pc0 := pc) rfl (hb hby hd) rfl hc ho hp q
theorem s_ifnullY (A : On l Z n0 own bytes maxL ret R p e s m args below meth c T h k n)  {o : Int} (hd : decode bytes pc = .ok (.ifnull o, 3))  (ho : 0 ≤ (pc : Int) + o) (hp : ((pc : Int) + o).toNat = pc') (K : Wp p e below s n0 ck cs Q (T.setTop (mkF m pc' Ls st))) : Wp p e below s n0 ck cs Q (T.setTop (mkF m pc Ls (.null :: st))) := by
  obtain ⟨locs, X, N, eT, hx, hZ, hby, hml, hown, hret, hlk, hsz⟩ := A
  exact K.goo fun t q => XS.ifnullYes X.here hx rfl (pc0 := pc) rfl (hb hby hd) rfl ho hp q
theorem s_ifnonnullY (A : On l Z n0 own bytes maxL ret R p e s m args below meth c T h k n)  {o : Int} (hd : decode bytes pc = .ok (.ifnonnull o, 3))  (ho : 0 ≤ (pc : Int) + o) (hp : ((pc : Int) + o).toNat = pc') (K : Wp p e below s n0 ck cs Q (T.setTop (mkF m pc' Ls st))) : Wp p e below s n0 ck cs Q (T.setTop (mkF m pc Ls (.ref b :: st))) := by
  obtain ⟨locs, X, N, eT, hx, hZ, hby, hml, hown, hret, hlk, hsz⟩ := A
  exact K.goo fun t q => XS.ifnonnullYes X.here hx rfl (pc0 := pc) rfl (hb hby hd) rfl ho hp q
theorem s_acmpY (A : On l Z n0 own bytes maxL ret R p e s m args below meth c T h k n) {cd : ACond} {o : Int} (hd : decode bytes pc = .ok (.if_acmp cd o, 3)) (hv : v.isRef = true) (hw : w.isRef = true) (hc : XT.acmp cd v w = true) (ho : 0 ≤ (pc : Int) + o) (hp : ((pc : Int) + o).toNat = pc') (K : Wp p e below s n0 ck cs Q (T.setTop (mkF m pc' Ls st))) : Wp p e below s n0 ck cs Q (T.setTop (mkF m pc Ls (w :: v :: st))) := by
  obtain ⟨locs, X, N, eT, hx, hZ, hby, hml, hown, hret, hlk, hsz⟩ := A
  exact K.goo fun t q => XT.acmpYes X.here hx rfl (pc0 := pc) rfl (hb hby hd) rfl hv hw hc ho hp q
theorem s_ifN (A : On l Z n0 own bytes maxL ret R p e s m args below meth c T h k n) {cd : ClassFile.Cond} {x : Int32} {o : Int} (hd : decode bytes pc = .ok (.ifCond cd o, 3)) (hp : pc + 3 = pc') (hc : ifCond.holds cd x = false) (K : Wp p e below s n0 ck cs Q (T.setTop (mkF m pc' Ls st))) : Wp p e below s n0 ck cs Q (T.setTop (mkF m pc Ls (.int x :: st))) := by
  obtain ⟨locs, X, N, eT, hx, hZ, hby, hml, hown, hret, hlk, hsz⟩ := A
  subst hp
  exact K.goo fun t q => XS.ifNo X.here hx rfl (hb hby hd) rfl hc q
theorem s_icmpN (A : On l Z n0 own bytes maxL ret R p e s m args below meth c T h k n) {cd : ClassFile.Cond} {x y : Int32} {o : Int} (hd : decode bytes pc = .ok (.if_icmp cd o, 3)) (hp : pc + 3 = pc') (hc : if_icmp.holds cd x y = false) (K : Wp p e below s n0 ck cs Q (T.setTop (mkF m pc' Ls st))) : Wp p e below s n0 ck cs Q (T.setTop (mkF m pc Ls (.int y :: .int x :: st))) := by
  obtain ⟨locs, X, N, eT, hx, hZ, hby, hml, hown, hret, hlk, hsz⟩ := A
  subst hp
  exact K.goo fun t q => XS.icmpNo X.here hx rfl (hb hby hd) rfl hc q
theorem s_ifnullN (A : On l Z n0 own bytes maxL ret R p e s m args below meth c T h k n) {o : Int} (hd : decode bytes pc = .ok (.ifnull o, 3)) (hp : pc + 3 = pc') (K : Wp p e below s n0 ck cs Q (T.setTop (mkF m pc' Ls st))) : Wp p e below s n0 ck cs Q (T.setTop (mkF m pc Ls (.ref b :: st))) := by
  obtain ⟨locs, X, N, eT, hx, hZ, hby, hml, hown, hret, hlk, hsz⟩ := A
  subst hp
  exact K.goo fun t q => XS.ifnullNo X.here hx rfl (hb hby hd) rfl q
theorem s_ifnonnullN (A : On l Z n0 own bytes maxL ret R p e s m args below meth c T h k n) {o : Int} (hd : decode bytes pc = .ok (.ifnonnull o, 3)) (hp : pc + 3 = pc') (K : Wp p e below s n0 ck cs Q (T.setTop (mkF m pc' Ls st))) : Wp p e below s n0 ck cs Q (T.setTop (mkF m pc Ls (.null :: st))) := by
  obtain ⟨locs, X, N, eT, hx, hZ, hby, hml, hown, hret, hlk, hsz⟩ := A
  subst hp
  exact K.goo fun t q => XS.ifnonnullNo X.here hx rfl (hb hby hd) rfl q
theorem s_acmpN (A : On l Z n0 own bytes maxL ret R p e s m args below meth c T h k n) {cd : ACond} {o : Int} (hd : decode bytes pc = .ok (.if_acmp cd o, 3)) (hp : pc + 3 = pc') (hv : v.isRef = true) (hw : w.isRef = true) (hc : XT.acmp cd v w = false) (K : Wp p e below s n0 ck cs Q (T.setTop (mkF m pc' Ls st))) : Wp p e below s n0 ck cs Q (T.setTop (mkF m pc Ls (w :: v :: st))) := by
  obtain ⟨locs, X, N, eT, hx, hZ, hby, hml, hown, hret, hlk, hsz⟩ := A
  subst hp
  exact K.goo fun t q => XT.acmpNo X.here hx rfl (hb hby hd) rfl hv hw hc q
theorem s_ldcInt (A : On l Z n0 own bytes maxL ret R p e s m args below meth c T h k n) {i : Nat} {z : Int32} (hd : decode bytes pc = .ok (.ldc i, 2)) (hp : pc + 2 = pc') (w0 : (Cond.constant own i z).before a0 Z = true) (K : Wp p e below s n0 ck cs Q (T.setTop (mkF m pc' Ls (.int z :: st)))) : Wp p e below s n0 ck cs Q (T.setTop (mkF m pc Ls st)) := by
  obtain ⟨locs, X, N, eT, hx, hZ, hby, hml, hown, hret, hlk, hsz⟩ := A
  subst hp
  exact K.goo fun t q => X.ldcInt hx hown (mvT hZ w0) (g := mkF m pc Ls st) rfl (hb hby hd) t q
theorem s_ldcwInt (A : On l Z n0 own bytes maxL ret R p e s m args below meth c T h k n) {i : Nat} {z : Int32} (hd : decode bytes pc = .ok (.ldc_w i, 3)) (hp : pc + 3 = pc') (w0 : (Cond.constant own i z).before a0 Z = true) (K : Wp p e below s n0 ck cs Q (T.setTop (mkF m pc' Ls (.int z :: st)))) : Wp p e below s n0 ck cs Q (T.setTop (mkF m pc Ls st)) := by
  obtain ⟨locs, X, N, eT, hx, hZ, hby, hml, hown, hret, hlk, hsz⟩ := A
  subst hp
  exact K.goo fun t q => X.ldcwInt hx hown (mvT hZ w0) (g := mkF m pc Ls st) rfl (hb hby hd) t q
theorem s_ldc2Long (A : On l Z n0 own bytes maxL ret R p e s m args below meth c T h k n) {i : Nat} {z : Int64} (hd : decode bytes pc = .ok (.ldc2_w i, 3)) (hp : pc + 3 = pc') (w0 : (Cond.constantLong own i z).before a0 Z = true) (K : Wp p e below s n0 ck cs Q (T.setTop (mkF m pc' Ls (.long z :: st)))) : Wp p e below s n0 ck cs Q (T.setTop (mkF m pc Ls st)) := by
  obtain ⟨locs, X, N, eT, hx, hZ, hby, hml, hown, hret, hlk, hsz⟩ := A
  subst hp
  exact K.goo fun t q => X.ldc2Long hx hown (mvT hZ w0) (g := mkF m pc Ls st) rfl (hb hby hd) t q
theorem idx_ok {j : Int32} {i : Nat} (hj : j.toInt = (i : Int)) : j.toNatClampNeg = i := by show j.toInt.toNat = i; omega
theorem idx_in' {j : Int32} {i : Nat} {N : Nat} (hj : j.toInt = (i : Int)) (hi : i < N) : ¬ (j < 0 ∨ N ≤ j.toNatClampNeg) := by
  rw [idx_ok hj, Int32.lt_iff_toInt_lt, hj]
  have : (0 : Int32).toInt = 0 := by decide
  omega
theorem s_getfield (A : On l Z n0 own bytes maxL ret R p e s m args below meth c T h k n) {index : Nat} {R0 O f d host : String} (w0 : (Cond.fieldLink own index R0 f d).before a0 Z = true ∨ (Cond.fieldLinkNest own index R0 f d host).before a0 Z = true) (via : Via Z R0 O f d) (F : Fld Z h a O f d v) (hd : decode bytes pc = .ok (.getfield index, 3)) (hp : pc + 3 = pc') (K : ∀ T' , On l Z n0 own bytes maxL ret R p e s m args below meth c T' h k n → Wp p e below s n0 ck cs Q (T'.setTop (mkF m pc' Ls (v :: st)))) : Wp p e below s n0 ck cs Q (T.setTop (mkF m pc Ls (.ref a :: st))) := by
  obtain ⟨locs, X, N, eT, hx, hZ, hby, hml, hown, hret, hlk, hsz⟩ := A
  subst hp
  obtain ⟨T', X', e', q⟩ := getF X hx hZ hown w0 via eT F (g := mkF m pc Ls (.ref a :: st)) rfl rfl (hb hby hd)
  exact (K T' ⟨_, X', N, e', hx, hZ, hby, hml, hown, hret, hlk, hsz⟩).goo q
theorem s_getstatic (A : On l Z n0 own bytes maxL ret R p e s m args below meth c T h k n) {index : Nat} {R0 O f d host : String} (w0 : (Cond.fieldLink own index R0 f d).before a0 Z = true ∨ (Cond.fieldLinkNest own index R0 f d host).before a0 Z = true) (via : Via Z R0 O f d) (F : Sta Z h O f d v) (hd : decode bytes pc = .ok (.getstatic index, 3)) (hp : pc + 3 = pc') (K : ∀ T' , On l Z n0 own bytes maxL ret R p e s m args below meth c T' h k n → Wp p e below s n0 ck cs Q (T'.setTop (mkF m pc' Ls (v :: st)))) : Wp p e below s n0 ck cs Q (T.setTop (mkF m pc Ls st)) := by
  obtain ⟨locs, X, N, eT, hx, hZ, hby, hml, hown, hret, hlk, hsz⟩ := A
  subst hp
  obtain ⟨T', X', e', q⟩ := getS2 X hx hZ hown w0 via eT F (g := mkF m pc Ls st) rfl (hb hby hd)
  exact (K T' ⟨_, X', N, e', hx, hZ, hby, hml, hown, hret, hlk, hsz⟩).goo q
theorem s_putfield (A : On l Z n0 own bytes maxL ret R p e s m args below meth c T h k n) {index kk : Nat} {R0 O f d host C : String} (w0 : (Cond.fieldLink own index R0 f d).before a0 Z = true ∨ (Cond.fieldLinkNest own index R0 f d host).before a0 Z = true) (via : Via Z R0 O f d) (F : Fld Z h a O f d w) (E : Exa Z h a C) (L : (Cond.lays C O f d).before a0 Z = true ∨ ((Cond.laysFinal C O f d).before a0 Z = true ∧ own = O ∧ meth.name = "<init>")) (wi : (Cond.instantiable C kk).before a0 Z = true) (hty : parseFieldDescriptor d = some ty) (hnar : narrow ty v = v) (hfit : fits ty v = true) (ha : n0 ≤ a) (hd : decode bytes pc = .ok (.putfield index, 3)) (hp : pc + 3 = pc') (K : ∀ T' h', On l Z n0 own bytes maxL ret R p e s m args below meth c T' h' k n → Wr h h' a (Jvm.RoadKit.slotOf Z O f d) v → Wp p e below s n0 ck cs Q (T'.setTop (mkF m pc' Ls st))) : Wp p e below s n0 ck cs Q (T.setTop (mkF m pc Ls (v :: .ref a :: st))) := by
  obtain ⟨locs, X, N, eT, hx, hZ, hby, hml, hown, hret, hlk, hsz⟩ := A
  subst hp
  obtain ⟨T', h', X', e', W, q⟩ := putF X hx hZ hown w0 via eT F E L wi hty hnar hfit (g := mkF m pc Ls (v :: .ref a :: st)) rfl rfl (hb hby hd)
  exact (K T' h' ⟨_, X', Fr.snoc X' N ha, e', hx, hZ, hby, hml, hown, hret, hlk, hsz⟩ W).goo q
theorem s_putfieldN (A : On l Z n0 own bytes maxL ret R p e s m args below meth c T h k n) {index kk : Nat} {R0 O f d C : String} {v' : Value} (w0 : (Cond.fieldLink own index R0 f d).before a0 Z = true) (via : Via Z R0 O f d) (F : Fld Z h a O f d w) (E : Exa Z h a C) (L : (Cond.lays C O f d).before a0 Z = true ∨ ((Cond.laysFinal C O f d).before a0 Z = true ∧ own = O ∧ meth.name = "<init>")) (wi : (Cond.instantiable C kk).before a0 Z = true) (hty : parseFieldDescriptor d = some ty) (hnar : narrow ty v = v') (hfit : fits ty v' = true) (ha : n0 ≤ a) (hd : decode bytes pc = .ok (.putfield index, 3)) (hp : pc + 3 = pc') (K : ∀ T' h', On l Z n0 own bytes maxL ret R p e s m args below meth c T' h' k n → Wr h h' a (Jvm.RoadKit.slotOf Z O f d) v' → Wp p e below s n0 ck cs Q (T'.setTop (mkF m pc' Ls st))) : Wp p e below s n0 ck cs Q (T.setTop (mkF m pc Ls (v :: .ref a :: st))) := by
  obtain ⟨locs, X, N, eT, hx, hZ, hby, hml, hown, hret, hlk, hsz⟩ := A
  subst hp
  obtain ⟨T', h', X', e', W, q⟩ := putFN X hx hZ hown w0 via eT F E L wi hty hnar hfit (g := mkF m pc Ls (v :: .ref a :: st)) rfl rfl (hb hby hd)
  exact (K T' h' ⟨_, X', Fr.snoc X' N ha, e', hx, hZ, hby, hml, hown, hret, hlk, hsz⟩ W).goo q
theorem s_new (A : On l Z n0 own bytes maxL ret R p e s m args below meth c T h k n) {index ns : Nat} {C : String} (w0 : (Cond.classLink own index C).before a0 Z = true) (wi : (Cond.instantiable C ns).before a0 Z = true) (wz : (Cond.initialized C).before a0 Z = true) (hc : k + 1 ≤ R.cells) (hs : n + ns ≤ R.slots) (hd : decode bytes pc = .ok (.new index, 3)) (hp : pc + 3 = pc') (K : ∀ T' h' b, On l Z n0 own bytes maxL ret R p e s m args below meth c T' h' (k + 1) (n + ns) → h.size = b → n0 ≤ b → Ext h h' → Exa Z h' b C → (∀ {O nm d : String} {ty : FieldType}, Laid Z a0 C O nm d → parseFieldDescriptor d = some ty → Fld Z h' b O nm d (defaultValue ty)) → Wp p e below s n0 ck cs Q (T'.setTop (mkF m pc' Ls (.ref b :: st)))) : Wp p e below s n0 ck cs Q (T.setTop (mkF m pc Ls st)) := by
  obtain ⟨locs, X, N, eT, hx, hZ, hby, hml, hown, hret, hlk, hsz⟩ := A
  subst hp
  obtain ⟨T', h', X', e', E, A', D, -, q⟩ := newO X hx hZ hown w0 wi wz eT (g := mkF m pc Ls st) rfl (hb hby hd) hc hs
  have hz : n0 ≤ h.size := by rw [← eT]; exact Nat.le_trans hsz X.same.2.1
  exact (K T' h' _ ⟨_, X', N, e', hx, hZ, hby, hml, hown, hret, hlk, hsz⟩ rfl hz E A' D).goo q
theorem s_newarray (A : On l Z n0 own bytes maxL ret R p e s m args below meth c T h k n) {aty : ArrayType} {dv : Value} {z : Int32} {i cap : Nat} (hty : newarray.typeOf aty = ty) (hdv : defaultValue ty = dv) (wa : (Cond.arrayClass ty).before a0 Z = true) (hz : z.toInt = (i : Int)) (hcap : i ≤ cap) (hbig : cap * 8 ≤ 536870912) (hc : k + 1 ≤ R.cells) (hs : n + cap ≤ R.slots) (hd : decode bytes pc = .ok (.newarray aty, 2)) (hp : pc + 2 = pc') (K : ∀ T' h' b, On l Z n0 own bytes maxL ret R p e s m args below meth c T' h' (k + 1) (n + cap) → h.size = b → n0 ≤ b → Ext h h' → AA Z h' b ty (List.replicate i dv) → Wp p e below s n0 ck cs Q (T'.setTop (mkF m pc' Ls (.ref b :: st)))) : Wp p e below s n0 ck cs Q (T.setTop (mkF m pc Ls (.int z :: st))) := by
  obtain ⟨locs, X, N, eT, hx, hZ, hby, hml, hown, hret, hlk, hsz⟩ := A
  subst hp
  subst hty hdv
  have z0 : ¬ z < 0 := by rw [Int32.lt_iff_toInt_lt, hz]; have : (0 : Int32).toInt = 0 := by decide
                          omega
  obtain ⟨T', h', cA, X', e', E, A', q⟩ := newP X hx hZ wa eT (g := mkF m pc Ls (.int z :: st)) rfl (hb hby hd) rfl z0 (cap := cap) (by rw [idx_ok hz]; exact hcap) hbig hc hs
  have hz' : n0 ≤ h.size := by rw [← eT]; exact Nat.le_trans hsz X.same.2.1
  exact (K T' h' _ ⟨_, X', N, e', hx, hZ, hby, hml, hown, hret, hlk, hsz⟩ rfl hz' E (AA.new A' hz)).goo q
theorem s_iastore (A : On l Z n0 own bytes maxL ret R p e s m args below meth c T h k n) {x : Int32} {j : Int32} {i : Nat} (V : AA Z h a .int vs) (hj : j.toInt = (i : Int)) (hi : i < vs.length) (ha : n0 ≤ a) (hd : decode bytes pc = .ok (.iastore, 1)) (hp : pc + 1 = pc') (K : ∀ T' h', On l Z n0 own bytes maxL ret R p e s m args below meth c T' h' k n → Wr h h' a i (.int x) → AA Z h' a .int (vs.set i (.int x)) → Wp p e below s n0 ck cs Q (T'.setTop (mkF m pc' Ls st))) : Wp p e below s n0 ck cs Q (T.setTop (mkF m pc Ls (.int x :: .int j :: .ref a :: st))) := by
  obtain ⟨locs, X, N, eT, hx, hZ, hby, hml, hown, hret, hlk, hsz⟩ := A
  subst hp
  have V0 := V
  obtain ⟨cl, Ar, r1, r2⟩ := V0
  obtain ⟨T', h', X', e', W, q⟩ := stI X hx hZ eT Ar (j := j) (idx_in' hj (by rw [r1]; simpa using hi)) (g := mkF m pc Ls (.int x :: .int j :: .ref a :: st)) rfl rfl (hb hby hd)
  have W' := W
  rw [idx_ok hj] at W'
  exact (K T' h' ⟨_, X', Fr.snoc X' N ha, e', hx, hZ, hby, hml, hown, hret, hlk, hsz⟩ W' (V.set W')).goo q
theorem s_lastore (A : On l Z n0 own bytes maxL ret R p e s m args below meth c T h k n) {x : Int64} {j : Int32} {i : Nat} (V : AA Z h a .long vs) (hj : j.toInt = (i : Int)) (hi : i < vs.length) (ha : n0 ≤ a) (hd : decode bytes pc = .ok (.lastore, 1)) (hp : pc + 1 = pc') (K : ∀ T' h', On l Z n0 own bytes maxL ret R p e s m args below meth c T' h' k n → Wr h h' a i (.long x) → AA Z h' a .long (vs.set i (.long x)) → Wp p e below s n0 ck cs Q (T'.setTop (mkF m pc' Ls st))) : Wp p e below s n0 ck cs Q (T.setTop (mkF m pc Ls (.long x :: .int j :: .ref a :: st))) := by
  obtain ⟨locs, X, N, eT, hx, hZ, hby, hml, hown, hret, hlk, hsz⟩ := A
  subst hp
  have V0 := V
  obtain ⟨cl, Ar, r1, r2⟩ := V0
  obtain ⟨T', h', X', e', W, q⟩ := stJ X hx hZ eT Ar (j := j) (idx_in' hj (by rw [r1]; simpa using hi)) (g := mkF m pc Ls (.long x :: .int j :: .ref a :: st)) rfl rfl (hb hby hd)
  have W' := W
  rw [idx_ok hj] at W'
  exact (K T' h' ⟨_, X', Fr.snoc X' N ha, e', hx, hZ, hby, hml, hown, hret, hlk, hsz⟩ W' (V.set W')).goo q
theorem s_bastore (A : On l Z n0 own bytes maxL ret R p e s m args below meth c T h k n) {x : Int32} {j : Int32} {i : Nat} (V : AA Z h a .byte vs) (hj : j.toInt = (i : Int)) (hi : i < vs.length) (ha : n0 ≤ a) (hd : decode bytes pc = .ok (.bastore, 1)) (hp : pc + 1 = pc') (K : ∀ T' h', On l Z n0 own bytes maxL ret R p e s m args below meth c T' h' k n → Wr h h' a i (.int x.toInt8.toInt32) → AA Z h' a .byte (vs.set i (.int x.toInt8.toInt32)) → Wp p e below s n0 ck cs Q (T'.setTop (mkF m pc' Ls st))) : Wp p e below s n0 ck cs Q (T.setTop (mkF m pc Ls (.int x :: .int j :: .ref a :: st))) := by
  obtain ⟨locs, X, N, eT, hx, hZ, hby, hml, hown, hret, hlk, hsz⟩ := A
  subst hp
  have V0 := V
  obtain ⟨cl, Ar, r1, r2⟩ := V0
  obtain ⟨T', h', X', e', W, q⟩ := stB X hx hZ eT Ar (j := j) (idx_in' hj (by rw [r1]; simpa using hi)) (g := mkF m pc Ls (.int x :: .int j :: .ref a :: st)) rfl rfl (hb hby hd)
  have W' := W
  rw [idx_ok hj] at W'
  exact (K T' h' ⟨_, X', Fr.snoc X' N ha, e', hx, hZ, hby, hml, hown, hret, hlk, hsz⟩ W' (V.set W')).goo q
theorem s_iaload (A : On l Z n0 own bytes maxL ret R p e s m args below meth c T h k n) {j : Int32} {i : Nat} (V : AA Z h a .int vs) (hj : j.toInt = (i : Int)) (hv : vs[i]? = some v) (hd : decode bytes pc = .ok (.iaload, 1)) (hp : pc + 1 = pc') (K : Wp p e below s n0 ck cs Q (T.setTop (mkF m pc' Ls (v :: st)))) : Wp p e below s n0 ck cs Q (T.setTop (mkF m pc Ls (.int j :: .ref a :: st))) := by
  obtain ⟨locs, X, N, eT, hx, hZ, hby, hml, hown, hret, hlk, hsz⟩ := A
  subst hp
  obtain ⟨cl, Ar, r1, r2⟩ := V
  have hi : i < vs.length := (List.getElem?_eq_some_iff.mp hv).1
  exact K.goo fun t q => X.iaload hx (j := j) (v := v) (by rw [eT]; exact Ar.1) (State.isArrayOf_alike hZ.alike Ar.2.1) Ar.2.2 (idx_in' hj (by rw [r1]; simpa using hi)) (by rw [idx_ok hj, r1]; simpa using hv) (g := mkF m pc Ls (.int j :: .ref a :: st)) rfl rfl (hb hby hd) t q
theorem s_laload (A : On l Z n0 own bytes maxL ret R p e s m args below meth c T h k n) {j : Int32} {i : Nat} (V : AA Z h a .long vs) (hj : j.toInt = (i : Int)) (hv : vs[i]? = some v) (hd : decode bytes pc = .ok (.laload, 1)) (hp : pc + 1 = pc') (K : Wp p e below s n0 ck cs Q (T.setTop (mkF m pc' Ls (v :: st)))) : Wp p e below s n0 ck cs Q (T.setTop (mkF m pc Ls (.int j :: .ref a :: st))) := by
  obtain ⟨locs, X, N, eT, hx, hZ, hby, hml, hown, hret, hlk, hsz⟩ := A
  subst hp
  obtain ⟨cl, Ar, r1, r2⟩ := V
  have hi : i < vs.length := (List.getElem?_eq_some_iff.mp hv).1
  exact K.goo fun t q => X.laload hx (j := j) (v := v) (by rw [eT]; exact Ar.1) (State.isArrayOf_alike hZ.alike Ar.2.1) Ar.2.2 (idx_in' hj (by rw [r1]; simpa using hi)) (by rw [idx_ok hj, r1]; simpa using hv) (g := mkF m pc Ls (.int j :: .ref a :: st)) rfl rfl (hb hby hd) t q
theorem s_baload (A : On l Z n0 own bytes maxL ret R p e s m args below meth c T h k n) {j : Int32} {i : Nat} (V : AA Z h a .byte vs) (hj : j.toInt = (i : Int)) (hv : vs[i]? = some v) (hd : decode bytes pc = .ok (.baload, 1)) (hp : pc + 1 = pc') (K : Wp p e below s n0 ck cs Q (T.setTop (mkF m pc' Ls (v :: st)))) : Wp p e below s n0 ck cs Q (T.setTop (mkF m pc Ls (.int j :: .ref a :: st))) := by
  obtain ⟨locs, X, N, eT, hx, hZ, hby, hml, hown, hret, hlk, hsz⟩ := A
  subst hp
  obtain ⟨cl, Ar, r1, r2⟩ := V
  have hi : i < vs.length := (List.getElem?_eq_some_iff.mp hv).1
  exact K.goo fun t q => X.baloadBytes hx (j := j) (v := v) (by rw [eT]; exact Ar.1) (State.isArrayOf_alike hZ.alike Ar.2.1) Ar.2.2 (idx_in' hj (by rw [r1]; simpa using hi)) (by rw [idx_ok hj, r1]; simpa using hv) (g := mkF m pc Ls (.int j :: .ref a :: st)) rfl rfl (hb hby hd) t q
theorem s_arraylength (A : On l Z n0 own bytes maxL ret R p e s m args below meth c T h k n) {z : Int32} (V : AA Z h a ty vs) (hz : z.toInt = (vs.length : Int)) (hd : decode bytes pc = .ok (.arraylength, 1)) (hp : pc + 1 = pc') (K : Wp p e below s n0 ck cs Q (T.setTop (mkF m pc' Ls (.int z :: st)))) : Wp p e below s n0 ck cs Q (T.setTop (mkF m pc Ls (.ref a :: st))) := by
  obtain ⟨locs, X, N, eT, hx, hZ, hby, hml, hown, hret, hlk, hsz⟩ := A
  subst hp
  obtain ⟨cl, Ar, r1, r2⟩ := V
  have q0 : cl.slots.size.toInt32 = z := by
    rw [r1]; apply Int32.toInt_inj.mp; rw [len_toInt (by simpa using r2), hz]; simp
  exact K.goo fun t q => X.arraylength hx (by rw [eT]; exact Ar.1) (State.isArrayOf_alike hZ.alike Ar.2.1) (g := mkF m pc Ls (.ref a :: st)) rfl rfl (hb hby hd) t (by rw [q0]; exact q)
theorem s_static (A : On l Z n0 own bytes maxL ret R p e s m args below meth c T h k n) {index : Nat} {y : MethodName} {bytes' : ByteArray} {maxL' : Nat} {ret' : Option FieldType} {rm : Room} {argsL rest : List Value} {Q' : Option Value → Heap → Prop} (M : Met l Z n0 y bytes' maxL' ret' rm argsL.toArray h Q') (wl : (Cond.methodLink own index y).before a0 Z = true) (ws : (Cond.static y).before a0 Z = true) (wz : (Cond.initialized y.cls).before a0 Z = true) (wc : (Cond.code y bytes' maxL' ret').before a0 Z = true) (hy : y.cls ≠ "java/lang/invoke/MethodHandle" ∧ y.cls ≠ "java/lang/invoke/VarHandle") {sig : MethodDescriptor} (hsig : parseMethodDescriptor y.desc = some sig) (hlen : argsL.length = sig.parameters.length) {W : Nat} (hf : rm.frames + 1 ≤ R.frames) (hl : W + (maxL' + 11) + rm.locals ≤ R.locals) (hW : (rest.map fun v => v.category).sum ≤ W) (hc : k + rm.cells ≤ R.cells) (hs : n + rm.slots ≤ R.slots) (hLs : Ls.size = maxL) {stk : List Value} (hst : stk = argsL.reverse ++ rest) (hd : decode bytes pc = .ok (.invokestatic index, 3)) (hp : pc + 3 = pc') (K : ∀ T' h' v, On l Z n0 own bytes maxL ret R p e s m args below meth c T' h' (k + rm.cells) (n + rm.slots) → Q' v h' → Wp p e below s n0 ck cs Q (T'.setTop (mkF m pc' Ls (v.toList ++ rest)))) : Wp p e below s n0 ck cs Q (T.setTop (mkF m pc Ls stk)) := by
  obtain ⟨locs, X, N, eT, hx, hZ, hby, hml, hown, hret, hlk, hsz⟩ := A
  subst hp
  obtain ⟨v, _, ⟨T', L', k', n'⟩, -, X', ⟨Lc, ⟨Nq, hQ⟩, l1, l2, l3⟩, q⟩ := Jvm.LawKit.callS X hx (y := y) hown (mvT hZ wl) (mvT hZ ws) (mvT hZ wz) (mvT hZ wc) hy (backOf (Q := fun v h L => Fr n0 L ∧ Q' v h) (W := W) (M []) hZ wc wz hf hl) (g := mkF m pc Ls stk) rfl (by rw [hml]; exact hLs) (argsL := argsL) (rest := rest) (lenOf hsig hlen) hst (by show 2 * 0 + _ ≤ _; simpa using hW) (hb hby hd) (fun _ _ => ⟨rfl, eT, hc, hs⟩)
  dsimp only [Pt.U, Pt.locs, Pt.cells, Pt.slots] at X' l1 l2 l3 q hQ Nq
  subst l1 l2 l3
  exact (K T' T'.heap v ⟨_, X', Fr.app N Nq, rfl, hx, hZ, hby, hml, hown, hret, hlk, hsz⟩ hQ).goo q
theorem s_virtual (A : On l Z n0 own bytes maxL ret R p e s m args below meth c T h k n) {index : Nat} {y : MethodName} {bytes' : ByteArray} {maxL' : Nat} {ret' : Option FieldType} {rm : Room} {argsL rest : List Value} {Q' : Option Value → Heap → Prop} {C : String} {z : MethodName} (E : Exa Z h b C) (M : Met l Z n0 z bytes' maxL' ret' rm (.ref b :: argsL).toArray h Q') (wl : (Cond.methodLink own index y).before a0 Z = true) (wd : (Cond.declares y).before a0 Z = true) (wn : ∀ (args : Array Value) (s : State), Z.Warmed39 s.vm → NotFace s y) (wsel : (Cond.selects C y z).before a0 Z = true) (wim : (Cond.instanceMethod z).before a0 Z = true) (wz : (Cond.initialized z.cls).before a0 Z = true) (wc : (Cond.code z bytes' maxL' ret').before a0 Z = true) (hy : y.cls ≠ "java/lang/invoke/MethodHandle" ∧ y.cls ≠ "java/lang/invoke/VarHandle") {sig : MethodDescriptor} (hsig : parseMethodDescriptor y.desc = some sig) (hlen : argsL.length = sig.parameters.length) {W : Nat} (hf : rm.frames + 1 ≤ R.frames) (hl : W + (maxL' + 11) + rm.locals ≤ R.locals) (hW : (rest.map fun v => v.category).sum ≤ W) (hc : k + rm.cells ≤ R.cells) (hs : n + rm.slots ≤ R.slots) (hLs : Ls.size = maxL) {stk : List Value} (hst : stk = argsL.reverse ++ .ref b :: rest) (hd : decode bytes pc = .ok (.invokevirtual index, 3)) (hp : pc + 3 = pc') (K : ∀ T' h' v, On l Z n0 own bytes maxL ret R p e s m args below meth c T' h' (k + rm.cells) (n + rm.slots) → Q' v h' → Wp p e below s n0 ck cs Q (T'.setTop (mkF m pc' Ls (v.toList ++ rest)))) : Wp p e below s n0 ck cs Q (T.setTop (mkF m pc Ls stk)) := by
  obtain ⟨locs, X, N, eT, hx, hZ, hby, hml, hown, hret, hlk, hsz⟩ := A
  subst hp
  obtain ⟨cq, kq, qa, qb, qc⟩ := isOf hZ eT E
  obtain ⟨v, _, ⟨T', L', k', n'⟩, -, X', ⟨Lc, ⟨Nq, hQ⟩, l1, l2, l3⟩, q⟩ := X.virtualBack hx (y := y) (z := z) hown (mvT hZ wl) (mvT hZ wd) (wn #[] s hZ) (mvT hZ wsel) (mvT hZ wim) hy (backOf (Q := fun v h L => Fr n0 L ∧ Q' v h) (W := W) (M []) hZ wc wz hf hl) qa qc (g := mkF m pc Ls stk) rfl (by rw [hml]; exact hLs) (Steps.refl _) (argsL := argsL) (rest := rest) (lenOf hsig hlen) hst (by show 2 * 0 + _ ≤ _; simpa using hW) (hb hby hd) (fun _ _ => ⟨rfl, eT, hc, hs⟩)
  dsimp only [Pt.U, Pt.locs, Pt.cells, Pt.slots] at X' l1 l2 l3 q hQ Nq
  subst l1 l2 l3
  exact (K T' T'.heap v ⟨_, X', Fr.app N Nq, rfl, hx, hZ, hby, hml, hown, hret, hlk, hsz⟩ hQ).goo (fun t r => q.trans r)
theorem nf_same {y : MethodName} {C : String} (wsel : (Cond.selects y.cls y y).before a0 Z = true) : ∀ (args : Array Value) (s : State), Z.Warmed39 s.vm → NotFace s y := fun args s hZ => notFace_of_selects (args := #[]) (mvT hZ wsel)
theorem s_special (A : On l Z n0 own bytes maxL ret R p e s m args below meth c T h k n) {index : Nat} {y : MethodName} {bytes' : ByteArray} {maxL' : Nat} {rm : Room} {argsL rest : List Value} {Q' : Option Value → Heap → Prop} (M : Met l Z n0 y bytes' maxL' none rm (.ref b :: argsL).toArray h Q') (hy1 : y.name = "<init>") (wl : (Cond.methodLink own index y).before a0 Z = true) (wim : (Cond.instanceMethod y).before a0 Z = true) (wz : (Cond.initialized y.cls).before a0 Z = true) (wc : (Cond.code y bytes' maxL' none).before a0 Z = true) (hy : y.cls ≠ "java/lang/invoke/MethodHandle" ∧ y.cls ≠ "java/lang/invoke/VarHandle") {sig : MethodDescriptor} (hsig : parseMethodDescriptor y.desc = some sig) (hlen : argsL.length = sig.parameters.length) {W : Nat} (hf : rm.frames + 1 ≤ R.frames) (hl : W + (maxL' + 11) + rm.locals ≤ R.locals) (hW : (rest.map fun v => v.category).sum ≤ W) (hc : k + rm.cells ≤ R.cells) (hs : n + rm.slots ≤ R.slots) (hLs : Ls.size = maxL) {stk : List Value} (hst : stk = argsL.reverse ++ .ref b :: rest) (hd : decode bytes pc = .ok (.invokespecial index, 3)) (hp : pc + 3 = pc') (K : ∀ T' h' v, On l Z n0 own bytes maxL ret R p e s m args below meth c T' h' (k + rm.cells) (n + rm.slots) → Q' v h' → Wp p e below s n0 ck cs Q (T'.setTop (mkF m pc' Ls (v.toList ++ rest)))) : Wp p e below s n0 ck cs Q (T.setTop (mkF m pc Ls stk)) := by
  obtain ⟨locs, X, N, eT, hx, hZ, hby, hml, hown, hret, hlk, hsz⟩ := A
  subst hp
  obtain ⟨v, _, ⟨T', L', k', n'⟩, -, X', ⟨Lc, ⟨Nq, hQ⟩, l1, l2, l3⟩, q⟩ := X.specialBack hx (y := y) hy1 hown (mvT hZ wl) (mvT hZ wim) (mvT hZ wc) hy (backOf (Q := fun v h L => Fr n0 L ∧ Q' v h) (W := W) (M []) hZ wc wz hf hl) (g := mkF m pc Ls stk) rfl (by rw [hml]; exact hLs) (Steps.refl _) (a := b) (argsL := argsL) (rest := rest) (lenOf hsig hlen) hst (by show 2 * 0 + _ ≤ _; simpa using hW) (hb hby hd) (fun _ _ => ⟨rfl, eT, hc, hs⟩)
  dsimp only [Pt.U, Pt.locs, Pt.cells, Pt.slots] at X' l1 l2 l3 q hQ Nq
  subst l1 l2 l3
  exact (K T' T'.heap v ⟨_, X', Fr.app N Nq, rfl, hx, hZ, hby, hml, hown, hret, hlk, hsz⟩ hQ).goo (fun t r => q.trans r)
theorem s_private (A : On l Z n0 own bytes maxL ret R p e s m args below meth c T h k n) {index : Nat} {y : MethodName} {bytes' : ByteArray} {maxL' : Nat} {ret' : Option FieldType} {rm : Room} {argsL rest : List Value} {Q' : Option Value → Heap → Prop} {C : String} (E : Exa Z h b C) (M : Met l Z n0 y bytes' maxL' ret' rm (.ref b :: argsL).toArray h Q') (wl : (Cond.methodLink own index y).before a0 Z = true) (wim : (Cond.instanceMethod y).before a0 Z = true) {kk : Nat} (wi : (Cond.instantiable y.cls kk).before a0 Z = true) (wp : (Cond.privateMethod y).before a0 Z = true) (wz : (Cond.initialized y.cls).before a0 Z = true) (wc : (Cond.code y bytes' maxL' ret').before a0 Z = true) (hy : y.cls ≠ "java/lang/invoke/MethodHandle" ∧ y.cls ≠ "java/lang/invoke/VarHandle") {sig : MethodDescriptor} (hsig : parseMethodDescriptor y.desc = some sig) (hlen : argsL.length = sig.parameters.length) {W : Nat} (hf : rm.frames + 1 ≤ R.frames) (hl : W + (maxL' + 11) + rm.locals ≤ R.locals) (hW : (rest.map fun v => v.category).sum ≤ W) (hc : k + rm.cells ≤ R.cells) (hs : n + rm.slots ≤ R.slots) (hLs : Ls.size = maxL) {stk : List Value} (hst : stk = argsL.reverse ++ .ref b :: rest) (hd : decode bytes pc = .ok (.invokevirtual index, 3)) (hp : pc + 3 = pc') (K : ∀ T' h' v, On l Z n0 own bytes maxL ret R p e s m args below meth c T' h' (k + rm.cells) (n + rm.slots) → Q' v h' → Wp p e below s n0 ck cs Q (T'.setTop (mkF m pc' Ls (v.toList ++ rest)))) : Wp p e below s n0 ck cs Q (T.setTop (mkF m pc Ls stk)) := by
  obtain ⟨locs, X, N, eT, hx, hZ, hby, hml, hown, hret, hlk, hsz⟩ := A
  subst hp
  obtain ⟨cq, q0, q1⟩ := E.cell
  obtain ⟨ci, ki, i1, i2, -, i4, -⟩ := Cond.instantiable_spec (show (Cond.instantiable y.cls kk).before args s = true from mvT hZ wi)
  have i5 : ki.isInterface = false := by simp only [Bool.or_eq_false_iff] at i4; exact i4.1
  have hpriv := Cond.privateMethod_at (mvP hZ wp (args := args))
  have hsel := selects_self_of_private (args := args) i1 i2 i5 hpriv (mvT hZ wim) hy
  obtain ⟨v, _, ⟨T', L', k', n'⟩, -, X', ⟨Lc, ⟨Nq, hQ⟩, l1, l2, l3⟩, q⟩ := X.privateBack hx (y := y) hown (mvT hZ wl) (mvT hZ wim) hsel hpriv (mvT hZ wc) hy (backOf (Q := fun v h L => Fr n0 L ∧ Q' v h) (W := W) (M []) hZ wc wz hf hl) (g := mkF m pc Ls stk) rfl (by rw [hml]; exact hLs) (Steps.refl _) (a := b) (by rw [eT]; exact q0) q1 (argsL := argsL) (rest := rest) (lenOf hsig hlen) hst (by show 2 * 0 + _ ≤ _; simpa using hW) (hb hby hd) (fun _ _ => ⟨rfl, eT, hc, hs⟩)
  dsimp only [Pt.U, Pt.locs, Pt.cells, Pt.slots] at X' l1 l2 l3 q hQ Nq
  subst l1 l2 l3
  exact (K T' T'.heap v ⟨_, X', Fr.app N Nq, rfl, hx, hZ, hby, hml, hown, hret, hlk, hsz⟩ hQ).goo (fun t r => q.trans r)
theorem s_initO (A : On l Z n0 own bytes maxL ret R p e s m args below meth c T h k n) {index : Nat} (w1 : (Cond.methodLink own index Lib.objectInit).before a0 Z = true) (w2 : (Cond.instanceMethod Lib.objectInit).before a0 Z = true) (w3 : (Cond.code Lib.objectInit ⟨#[0xb1]⟩ 1 none).before a0 Z = true) {W : Nat} (hf : 1 ≤ R.frames) (hW : (st.map fun v => v.category).sum ≤ W) (hl : W + 12 ≤ R.locals) (hLs : Ls.size = maxL) (hd : decode bytes pc = .ok (.invokespecial index, 3)) (hp : pc + 3 = pc') (K : ∀ T', On l Z n0 own bytes maxL ret R p e s m args below meth c T' h k n → Wp p e below s n0 ck cs Q (T'.setTop (mkF m pc' Ls st))) : Wp p e below s n0 ck cs Q (T.setTop (mkF m pc Ls (.ref a :: st))) := by
  obtain ⟨locs, X, N, eT, hx, hZ, hby, hml, hown, hret, hlk, hsz⟩ := A
  subst hp
  obtain ⟨T', X', e', q⟩ := initO X hx hZ hown w1 w2 w3 eT (g := mkF m pc Ls (.ref a :: st)) rfl (by rw [hml]; exact hLs) rfl (hb hby hd) hf (W := W) (by show 2 * 0 + _ ≤ _; simpa using hW) hl
  exact (K T' ⟨_, X', N, e', hx, hZ, hby, hml, hown, hret, hlk, hsz⟩).goo q
theorem AA.arv (F : AA Z h a ty vs) (fit : ∀ v ∈ vs, fits ty v = true) (dv : Value) : ∃ (kc : ClassId) (z : Int32), z.toInt = (vs.length : Int) ∧ Arv Z h a kc ty z vs dv := by
  obtain ⟨c, A, r1, r2⟩ := F
  have ez : vs.length.toInt32.toInt = (vs.length : Int) := len_toInt r2
  have es : c.slots.size = vs.length := by rw [r1]; simp
  refine ⟨c.cls, vs.length.toInt32, ez, c, A, rfl, ?_, ?_, ?_, ?_⟩
  · rw [es, idx_ok ez]
  · rw [Int32.lt_iff_toInt_lt, ez]; have : (0 : Int32).toInt = 0 := by decide
    omega
  · intro q hq
    rw [es] at hq
    rw [r1]; simp [List.getD_eq_getElem?_getD, hq]
  · intro q hq
    rw [es] at hq
    have : vs.getD q dv = vs[q] := by simp [List.getD_eq_getElem?_getD, hq]
    rw [this]; exact fit _ (List.getElem_mem hq)
theorem aa_of_arv {kc : ClassId} {z : Int32} {dv : Value} (F : Arv Z h a kc ty z vs dv) (hl : z.toInt = (vs.length : Int)) : AA Z h a ty vs := by
  obtain ⟨c, A, q, S, N, H, G⟩ := F
  rw [idx_ok hl] at S
  refine ⟨c, A, ?_, ?_⟩
  · apply Array.ext
    · simp [S]
    · intro i h1 h2
      have := H i h1
      rw [Array.getElem?_eq_getElem h1] at this
      have h3 : i < vs.length := by simpa using h2
      simpa [List.getD_eq_getElem?_getD, h3] using this
  · have := z.toInt_lt; omega
theorem range_map (vs : List Value) (dv : Value) (i N : Nat) (hb : i + N ≤ vs.length) : (List.range N).map (fun q => vs.getD (i + q) dv) = (vs.drop i).take N := by
  apply List.ext_getElem
  · simp; omega
  · intro q h1 h2
    have h3 : q < N := by simpa using h1
    have h4 : i + q < vs.length := by omega
    simp [List.getD_eq_getElem?_getD, h4]
theorem s_arraycopy (A : On l Z n0 own bytes maxL ret R p e s m args below meth c T h k n) {index : Nat} {vd : List Value} {sp dp nn : Int32} {i j cnt : Nat} (w1 : (Cond.methodLink own index Jvm.Stand.acN).before a0 Z = true) (w2 : (Cond.native Jvm.Stand.acN).before a0 Z = true) (w3 : (Cond.static Jvm.Stand.acN).before a0 Z = true) (w4 : (Cond.initialized "java/lang/System").before a0 Z = true) (V : AA Z h a ty vs) (V' : AA Z h b ty vd) (fit : ∀ v ∈ vs, fits ty v = true) (fit' : ∀ v ∈ vd, fits ty v = true) (hpr : refKind ty = false) (hsp : sp.toInt = (i : Int)) (hdp : dp.toInt = (j : Int)) (hnn : nn.toInt = (cnt : Int)) (h4 : i + cnt ≤ vs.length) (h5 : j + cnt ≤ vd.length) (ge : n0 ≤ b) {W : Nat} (hf : 1 ≤ R.frames) (hW : (st.map fun v => v.category).sum ≤ W) (hlo : W + (nativeFrameWords "java/lang/System" "arraycopy" 5 + 11) ≤ R.locals) (hLs : Ls.size = maxL) (hd : decode bytes pc = .ok (.invokestatic index, 3)) (hp : pc + 3 = pc') (K : ∀ T' h', On l Z n0 own bytes maxL ret R p e s m args below meth c T' h' k n → Keep h h' [b] → AA Z h' b ty (vd.take j ++ (vs.drop i).take cnt ++ vd.drop (j + cnt)) → Wp p e below s n0 ck cs Q (T'.setTop (mkF m pc' Ls st))) : Wp p e below s n0 ck cs Q (T.setTop (mkF m pc Ls (.int nn :: .int dp :: .ref b :: .int sp :: .ref a :: st))) := by
  obtain ⟨locs, X, N, eT, hx, hZ, hby, hml, hown, hret, hlk, hsz⟩ := A
  subst hp
  obtain ⟨k1, z1, ez1, A1⟩ := V.arv fit .null
  obtain ⟨k2, z2, ez2, A2⟩ := V'.arv fit' .null
  have neg : ∀ {x : Int32} {q : Nat}, x.toInt = (q : Int) → ¬ x < 0 := fun {x q} hq => by
    rw [Int32.lt_iff_toInt_lt, hq]; have : (0 : Int32).toInt = 0 := by decide
    omega
  obtain ⟨T', h', L, X', e', N', K', A', q⟩ := cpA X hx hZ hown w1 w2 w3 w4 eT A1 A2 (us := (vs.drop i).take cnt) (sp := sp) (dp := dp) (nn := nn) (Or.inl ⟨rfl, hpr⟩) (neg hsp) (neg hdp) (neg hnn) (by rw [idx_ok hsp, idx_ok hnn, idx_ok ez1]; exact h4) (by rw [idx_ok hdp, idx_ok hnn, idx_ok ez2]; exact h5) (by rw [idx_ok hsp, idx_ok hnn]; exact (range_map vs _ i cnt h4).symm) (by rw [idx_ok hdp, idx_ok hnn]; exact h5) N ge (g := mkF m pc Ls (.int nn :: .int dp :: .ref b :: .int sp :: .ref a :: st)) rfl (by rw [hml]; exact hLs) rfl (hb hby hd) hf (W := W) (by show 2 * 0 + _ ≤ _; simpa using hW) hlo
  rw [idx_ok hdp, idx_ok hnn] at A'
  exact (K T' h' ⟨L, X', N', e', hx, hZ, hby, hml, hown, hret, hlk, hsz⟩ K' (aa_of_arv A' (by rw [ez2]; simp; omega))).goo q
theorem r_void (A : On l Z n0 own bytes maxL ret R p e s m args below meth c T h k n) (hr : ret = none) (hd : decode bytes pc = .ok (.return_, 1)) (hk : k ≤ ck) (hn : n ≤ cs) (q : Q none h) : Wp p e below s n0 ck cs Q (T.setTop (mkF m pc Ls [])) := by
  obtain ⟨locs, X, N, eT, hx, hZ, hby, hml, hown, hret, hlk, hsz⟩ := A
  have hR : meth.sig.returnType = none := hret.trans hr
  obtain ⟨fs, h1, hrun, hended, hW, hsame⟩ := X.leave (v := none) (fun _ => rfl) hlk
  exact ⟨_, _, X.returnOut hx hR (hb hby hd) h1, hrun, hended, _, _, rfl, ⟨N, by show Q none T.heap; rw [eT]; exact q⟩, ⟨_, rfl⟩, hW, hsame.mono hk hn⟩
theorem r_val (A : On l Z n0 own bytes maxL ret R p e s m args below meth c T h k n) {i : Instr} {t : FieldType} (hr : ret = some t) (hn0 : narrow t v = v) (hi : (i = .ireturn ∧ (t = .int ∨ t = .boolean ∨ t = .byte ∨ t = .char ∨ t = .short) ∧ ∃ z, v = .int z) ∨ (i = .lreturn ∧ t = .long ∧ ∃ z, v = .long z) ∨ (i = .dreturn ∧ t = .double ∧ ∃ z, v = .double z) ∨ (i = .freturn ∧ t = .float ∧ ∃ z, v = .float z) ∨ (i = .areturn ∧ t.isReference = true ∧ v.isRef = true)) (hd : decode bytes pc = .ok (i, 1)) (hk : k ≤ ck) (hn : n ≤ cs) (q : Q (some v) h) : Wp p e below s n0 ck cs Q (T.setTop (mkF m pc Ls (v :: st))) := by
  obtain ⟨locs, X, N, eT, hx, hZ, hby, hml, hown, hret, hlk, hsz⟩ := A
  have hR : meth.sig.returnType = some t := hret.trans hr
  obtain ⟨fs, h1, hrun, hended, hW, hsame⟩ := X.leave (v := some v) (fun z => by rw [hR] at z; cases z) hlk
  exact ⟨_, _, retOut X hx hR hn0 hi (hb hby hd) h1, hrun, hended, _, _, rfl, ⟨N, by show Q (some v) T.heap; rw [eT]; exact q⟩, ⟨_, rfl⟩, hW, hsame.mono hk hn⟩
theorem r_int (A : On l Z n0 own bytes maxL ret R p e s m args below meth c T h k n) {z : Int32} (hr : ret = some .int) (hd : decode bytes pc = .ok (.ireturn, 1)) (hk : k ≤ ck) (hn : n ≤ cs) (q : Q (some (.int z)) h) : Wp p e below s n0 ck cs Q (T.setTop (mkF m pc Ls (.int z :: st))) := r_val A hr rfl (Or.inl ⟨rfl, Or.inl rfl, _, rfl⟩) hd hk hn q
theorem r_bool (A : On l Z n0 own bytes maxL ret R p e s m args below meth c T h k n) {z : Int32} (hr : ret = some .boolean) (hz : z = 0 ∨ z = 1) (hd : decode bytes pc = .ok (.ireturn, 1)) (hk : k ≤ ck) (hn : n ≤ cs) (q : Q (some (.int z)) h) : Wp p e below s n0 ck cs Q (T.setTop (mkF m pc Ls (.int z :: st))) := r_val A hr (by rcases hz with rfl | rfl <;> rfl) (Or.inl ⟨rfl, Or.inr (Or.inl rfl), _, rfl⟩) hd hk hn q
theorem r_long (A : On l Z n0 own bytes maxL ret R p e s m args below meth c T h k n) {z : Int64} (hr : ret = some .long) (hd : decode bytes pc = .ok (.lreturn, 1)) (hk : k ≤ ck) (hn : n ≤ cs) (q : Q (some (.long z)) h) : Wp p e below s n0 ck cs Q (T.setTop (mkF m pc Ls (.long z :: st))) := r_val A hr rfl (Or.inr (Or.inl ⟨rfl, rfl, _, rfl⟩)) hd hk hn q
theorem r_ref (A : On l Z n0 own bytes maxL ret R p e s m args below meth c T h k n) {t : FieldType} (hr : ret = some t) (ht : t.isReference = true) (hv : v.isRef = true) (hd : decode bytes pc = .ok (.areturn, 1)) (hk : k ≤ ck) (hn : n ≤ cs) (q : Q (some v) h) : Wp p e below s n0 ck cs Q (T.setTop (mkF m pc Ls (v :: st))) := r_val A hr (by cases t <;> first | rfl | cases ht) (Or.inr (Or.inr (Or.inr (Or.inr ⟨rfl, ht, hv⟩)))) hd hk hn q
end Kit
end Jvm.Ow
namespace Jvm.Pilot.@@N@@
open Jvm Jvm.ClassFile Sem Op Lib Jvm.Free Jvm.Stand Jvm.LawKit Jvm.RoadKit Jvm.Ow Bundle Jvm.Pilot.@@N@@.Jvm.D
theorem d1_0 : decode prog_49_method_1_code 0 = .ok (.aload_n 0, 1) := by decide +kernel
theorem d1_1 : decode prog_49_method_1_code 1 = .ok (.invokespecial 1, 3) := by decide +kernel
theorem w6 {Z : State} {a0 : Array Value} (hw : ∀ d ∈ tables_1, d.before a0 Z = true) : (Jvm.Cond.methodLink "com/example/otab/otab/tableau/IntList" (1 : Nat) ({ cls := "java/lang/Object", name := "<init>", desc := "()V" } : Jvm.MethodName)).before a0 Z = true := hw _ (List.mem_of_getElem? (i := 6) rfl)
theorem w7 {Z : State} {a0 : Array Value} (hw : ∀ d ∈ tables_1, d.before a0 Z = true) : (Jvm.Cond.instanceMethod ({ cls := "java/lang/Object", name := "<init>", desc := "()V" } : Jvm.MethodName)).before a0 Z = true := hw _ (List.mem_of_getElem? (i := 7) rfl)
theorem w8 {Z : State} {a0 : Array Value} (hw : ∀ d ∈ tables_1, d.before a0 Z = true) : (Jvm.Cond.code ({ cls := "java/lang/Object", name := "<init>", desc := "()V" } : Jvm.MethodName) object_method_1_code (1 : Nat) (Option.none : Option Jvm.ClassFile.FieldType)).before a0 Z = true := hw _ (List.mem_of_getElem? (i := 8) rfl)
theorem d1_4 : decode prog_49_method_1_code 4 = .ok (.aload_n 0, 1) := by decide +kernel
theorem d1_5 : decode prog_49_method_1_code 5 = .ok (.bipush 16, 2) := by decide +kernel
theorem d1_7 : decode prog_49_method_1_code 7 = .ok (.newarray .int, 2) := by decide +kernel
theorem w9 {Z : State} {a0 : Array Value} (hw : ∀ d ∈ tables_1, d.before a0 Z = true) : (Jvm.Cond.arrayClass Jvm.ClassFile.FieldType.int).before a0 Z = true := hw _ (List.mem_of_getElem? (i := 9) rfl)
theorem d1_9 : decode prog_49_method_1_code 9 = .ok (.putfield 7, 3) := by decide +kernel
theorem w10 {Z : State} {a0 : Array Value} (hw : ∀ d ∈ tables_1, d.before a0 Z = true) : (Jvm.Cond.fieldLink "com/example/otab/otab/tableau/IntList" (7 : Nat) "com/example/otab/otab/tableau/IntList" "values" "[I").before a0 Z = true := hw _ (List.mem_of_getElem? (i := 10) rfl)
theorem w11 {Z : State} {a0 : Array Value} (hw : ∀ d ∈ tables_1, d.before a0 Z = true) : (Jvm.Cond.lays "com/example/otab/otab/tableau/IntList" "com/example/otab/otab/tableau/IntList" "values" "[I").before a0 Z = true := hw _ (List.mem_of_getElem? (i := 11) rfl)
theorem w1 {Z : State} {a0 : Array Value} (hw : ∀ d ∈ tables_1, d.before a0 Z = true) : (Jvm.Cond.instantiable "com/example/otab/otab/tableau/IntList" (2 : Nat)).before a0 Z = true := hw _ (List.mem_of_getElem? (i := 1) rfl)
theorem d1_12 : decode prog_49_method_1_code 12 = .ok (.return_, 1) := by decide +kernel
theorem w19 {Z : State} {a0 : Array Value} (hw : ∀ d ∈ tables_1, d.before a0 Z = true) : (Jvm.Cond.lays "com/example/otab/otab/tableau/IntList" "com/example/otab/otab/tableau/IntList" "size" "I").before a0 Z = true := hw _ (List.mem_of_getElem? (i := 19) rfl)
theorem sn_IntList_size_values {Z : State} {a0 : Array Value} (hw : ∀ d ∈ tables_1, d.before a0 Z = true) : Jvm.RoadKit.slotOf Z "com/example/otab/otab/tableau/IntList" "size" "I" ≠ Jvm.RoadKit.slotOf Z "com/example/otab/otab/tableau/IntList" "values" "[I" := slot_ne (a0 := a0) (C := "com/example/otab/otab/tableau/IntList") (Or.inl (w19 hw)) (Or.inl (w11 hw)) (by decide) (t := .int) (t' := (.array .int)) (by decide) (by decide)
abbrev y0_init : MethodName := ⟨"com/example/otab/otab/tableau/IntList", "<init>", "()V"⟩
theorem pn_com_example_otab_otab_tableau_IntList : plainName "com/example/otab/otab/tableau/IntList" = true := by first | (simp [plainName, overriddenIn]; done) | decide +kernel
abbrev c0_IntList : String := "com/example/otab/otab/tableau/IntList"
theorem d4_0 : decode prog_49_method_2_code 0 = .ok (.aload_n 0, 1) := by decide +kernel
theorem d4_1 : decode prog_49_method_2_code 1 = .ok (.getfield 13, 3) := by decide +kernel
theorem w18 {Z : State} {a0 : Array Value} (hw : ∀ d ∈ tables_1, d.before a0 Z = true) : (Jvm.Cond.fieldLink "com/example/otab/otab/tableau/IntList" (13 : Nat) "com/example/otab/otab/tableau/IntList" "size" "I").before a0 Z = true := hw _ (List.mem_of_getElem? (i := 18) rfl)
theorem d4_4 : decode prog_49_method_2_code 4 = .ok (.ireturn, 1) := by decide +kernel
abbrev y1_size : MethodName := ⟨"com/example/otab/otab/tableau/IntList", "size", "()I"⟩
theorem d9_0 : decode prog_49_method_3_code 0 = .ok (.iload_n 1, 1) := by decide +kernel
theorem d9_1 : decode prog_49_method_3_code 1 = .ok (.aload_n 0, 1) := by decide +kernel
theorem d9_2 : decode prog_49_method_3_code 2 = .ok (.getfield 13, 3) := by decide +kernel
theorem d9_5 : decode prog_49_method_3_code 5 = .ok (.if_icmp .lt 12, 3) := by decide +kernel
theorem d9_17 : decode prog_49_method_3_code 17 = .ok (.aload_n 0, 1) := by decide +kernel
theorem d9_18 : decode prog_49_method_3_code 18 = .ok (.getfield 7, 3) := by decide +kernel
theorem d9_21 : decode prog_49_method_3_code 21 = .ok (.iload_n 1, 1) := by decide +kernel
theorem d9_22 : decode prog_49_method_3_code 22 = .ok (.iaload, 1) := by decide +kernel
theorem d9_23 : decode prog_49_method_3_code 23 = .ok (.ireturn, 1) := by decide +kernel
abbrev y2_get : MethodName := ⟨"com/example/otab/otab/tableau/IntList", "get", "(I)I"⟩
theorem d8_0 : decode prog_49_method_5_code 0 = .ok (.aload_n 0, 1) := by decide +kernel
theorem d8_1 : decode prog_49_method_5_code 1 = .ok (.getfield 13, 3) := by decide +kernel
theorem d8_4 : decode prog_49_method_5_code 4 = .ok (.aload_n 0, 1) := by decide +kernel
theorem d8_5 : decode prog_49_method_5_code 5 = .ok (.getfield 7, 3) := by decide +kernel
theorem d8_8 : decode prog_49_method_5_code 8 = .ok (.arraylength, 1) := by decide +kernel
theorem d8_9 : decode prog_49_method_5_code 9 = .ok (.if_icmp .ne 20, 3) := by decide +kernel
theorem d8_29 : decode prog_49_method_5_code 29 = .ok (.aload_n 0, 1) := by decide +kernel
theorem d8_30 : decode prog_49_method_5_code 30 = .ok (.getfield 7, 3) := by decide +kernel
theorem d8_33 : decode prog_49_method_5_code 33 = .ok (.aload_n 0, 1) := by decide +kernel
theorem d8_34 : decode prog_49_method_5_code 34 = .ok (.dup, 1) := by decide +kernel
theorem d8_35 : decode prog_49_method_5_code 35 = .ok (.getfield 13, 3) := by decide +kernel
theorem d8_38 : decode prog_49_method_5_code 38 = .ok (.dup_x1, 1) := by decide +kernel
theorem d8_39 : decode prog_49_method_5_code 39 = .ok (.iconst 1, 1) := by decide +kernel
theorem d8_40 : decode prog_49_method_5_code 40 = .ok (.iadd, 1) := by decide +kernel
theorem d8_41 : decode prog_49_method_5_code 41 = .ok (.putfield 13, 3) := by decide +kernel
theorem d8_44 : decode prog_49_method_5_code 44 = .ok (.iload_n 1, 1) := by decide +kernel
theorem d8_45 : decode prog_49_method_5_code 45 = .ok (.iastore, 1) := by decide +kernel
theorem d8_46 : decode prog_49_method_5_code 46 = .ok (.return_, 1) := by decide +kernel
theorem sn_IntList_values_size {Z : State} {a0 : Array Value} (hw : ∀ d ∈ tables_1, d.before a0 Z = true) : Jvm.RoadKit.slotOf Z "com/example/otab/otab/tableau/IntList" "values" "[I" ≠ Jvm.RoadKit.slotOf Z "com/example/otab/otab/tableau/IntList" "size" "I" := slot_ne (a0 := a0) (C := "com/example/otab/otab/tableau/IntList") (Or.inl (w11 hw)) (Or.inl (w19 hw)) (by decide) (t := (.array .int)) (t' := .int) (by decide) (by decide)
abbrev y3_add : MethodName := ⟨"com/example/otab/otab/tableau/IntList", "add", "(I)V"⟩
theorem d3_0 : decode prog_49_method_7_code 0 = .ok (.iload_n 1, 1) := by decide +kernel
theorem d3_1 : decode prog_49_method_7_code 1 = .ok (.ifCond .lt 11, 3) := by decide +kernel
theorem d3_4 : decode prog_49_method_7_code 4 = .ok (.iload_n 1, 1) := by decide +kernel
theorem d3_5 : decode prog_49_method_7_code 5 = .ok (.aload_n 0, 1) := by decide +kernel
theorem d3_6 : decode prog_49_method_7_code 6 = .ok (.getfield 13, 3) := by decide +kernel
theorem d3_9 : decode prog_49_method_7_code 9 = .ok (.if_icmp .le 12, 3) := by decide +kernel
theorem d3_21 : decode prog_49_method_7_code 21 = .ok (.aload_n 0, 1) := by decide +kernel
theorem d3_22 : decode prog_49_method_7_code 22 = .ok (.iload_n 1, 1) := by decide +kernel
theorem d3_23 : decode prog_49_method_7_code 23 = .ok (.putfield 13, 3) := by decide +kernel
theorem d3_26 : decode prog_49_method_7_code 26 = .ok (.return_, 1) := by decide +kernel
abbrev y4_truncate : MethodName := ⟨"com/example/otab/otab/tableau/IntList", "truncate", "(I)V"⟩
theorem d7_0 : decode jdk_29_method_69_code 0 = .ok (.iload_n 0, 1) := by decide +kernel
theorem d7_1 : decode jdk_29_method_69_code 1 = .ok (.iload_n 1, 1) := by decide +kernel
theorem d7_2 : decode jdk_29_method_69_code 2 = .ok (.if_icmp .gt 7, 3) := by decide +kernel
theorem d7_9 : decode jdk_29_method_69_code 9 = .ok (.iload_n 1, 1) := by decide +kernel
theorem d7_10 : decode jdk_29_method_69_code 10 = .ok (.ireturn, 1) := by decide +kernel
abbrev y5_min : MethodName := ⟨"java/lang/Math", "min", "(II)I"⟩
abbrev c1_Math : String := "java/lang/Math"
theorem d7_5 : decode jdk_29_method_69_code 5 = .ok (.iload_n 0, 1) := by decide +kernel
theorem d7_6 : decode jdk_29_method_69_code 6 = .ok (.goto 4, 3) := by decide +kernel
theorem d6_0 : decode jdk_65_method_123_code 0 = .ok (.iload_n 1, 1) := by decide +kernel
theorem d6_1 : decode jdk_65_method_123_code 1 = .ok (.aload_n 0, 1) := by decide +kernel
theorem d6_2 : decode jdk_65_method_123_code 2 = .ok (.arraylength, 1) := by decide +kernel
theorem d6_3 : decode jdk_65_method_123_code 3 = .ok (.if_icmp .ne 11, 3) := by decide +kernel
theorem d6_14 : decode jdk_65_method_123_code 14 = .ok (.iload_n 1, 1) := by decide +kernel
theorem d6_15 : decode jdk_65_method_123_code 15 = .ok (.newarray .int, 2) := by decide +kernel
theorem d6_17 : decode jdk_65_method_123_code 17 = .ok (.astore_n 2, 1) := by decide +kernel
theorem d6_18 : decode jdk_65_method_123_code 18 = .ok (.aload_n 0, 1) := by decide +kernel
theorem d6_19 : decode jdk_65_method_123_code 19 = .ok (.iconst 0, 1) := by decide +kernel
theorem d6_20 : decode jdk_65_method_123_code 20 = .ok (.aload_n 2, 1) := by decide +kernel
theorem d6_21 : decode jdk_65_method_123_code 21 = .ok (.iconst 0, 1) := by decide +kernel
theorem d6_22 : decode jdk_65_method_123_code 22 = .ok (.aload_n 0, 1) := by decide +kernel
theorem d6_23 : decode jdk_65_method_123_code 23 = .ok (.arraylength, 1) := by decide +kernel
theorem d6_24 : decode jdk_65_method_123_code 24 = .ok (.iload_n 1, 1) := by decide +kernel
theorem d6_25 : decode jdk_65_method_123_code 25 = .ok (.invokestatic 304, 3) := by decide +kernel
theorem w34 {Z : State} {a0 : Array Value} (hw : ∀ d ∈ tables_1, d.before a0 Z = true) : (Jvm.Cond.methodLink "java/util/Arrays" (304 : Nat) ({ cls := "java/lang/Math", name := "min", desc := "(II)I" } : Jvm.MethodName)).before a0 Z = true := hw _ (List.mem_of_getElem? (i := 34) rfl)
theorem pd__II_I : parseMethodDescriptor "(II)I" = some ⟨[.int, .int], some .int⟩ := by decide +kernel
theorem w36 {Z : State} {a0 : Array Value} (hw : ∀ d ∈ tables_1, d.before a0 Z = true) : (Jvm.Cond.initialized "java/lang/Math").before a0 Z = true := hw _ (List.mem_of_getElem? (i := 36) rfl)
theorem w37 {Z : State} {a0 : Array Value} (hw : ∀ d ∈ tables_1, d.before a0 Z = true) : (Jvm.Cond.code ({ cls := "java/lang/Math", name := "min", desc := "(II)I" } : Jvm.MethodName) jdk_29_method_69_code (2 : Nat) (Option.some Jvm.ClassFile.FieldType.int)).before a0 Z = true := hw _ (List.mem_of_getElem? (i := 37) rfl)
theorem w35 {Z : State} {a0 : Array Value} (hw : ∀ d ∈ tables_1, d.before a0 Z = true) : (Jvm.Cond.static ({ cls := "java/lang/Math", name := "min", desc := "(II)I" } : Jvm.MethodName)).before a0 Z = true := hw _ (List.mem_of_getElem? (i := 35) rfl)
theorem d6_28 : decode jdk_65_method_123_code 28 = .ok (.invokestatic 150, 3) := by decide +kernel
theorem w38 {Z : State} {a0 : Array Value} (hw : ∀ d ∈ tables_1, d.before a0 Z = true) : (Jvm.Cond.methodLink "java/util/Arrays" (150 : Nat) ({ cls := "java/lang/System", name := "arraycopy", desc := "(Ljava/lang/Object;ILjava/lang/Object;II)V" } : Jvm.MethodName)).before a0 Z = true := hw _ (List.mem_of_getElem? (i := 38) rfl)
theorem w41 {Z : State} {a0 : Array Value} (hw : ∀ d ∈ tables_1, d.before a0 Z = true) : (Jvm.Cond.native ({ cls := "java/lang/System", name := "arraycopy", desc := "(Ljava/lang/Object;ILjava/lang/Object;II)V" } : Jvm.MethodName)).before a0 Z = true := hw _ (List.mem_of_getElem? (i := 41) rfl)
theorem w39 {Z : State} {a0 : Array Value} (hw : ∀ d ∈ tables_1, d.before a0 Z = true) : (Jvm.Cond.static ({ cls := "java/lang/System", name := "arraycopy", desc := "(Ljava/lang/Object;ILjava/lang/Object;II)V" } : Jvm.MethodName)).before a0 Z = true := hw _ (List.mem_of_getElem? (i := 39) rfl)
theorem w40 {Z : State} {a0 : Array Value} (hw : ∀ d ∈ tables_1, d.before a0 Z = true) : (Jvm.Cond.initialized "java/lang/System").before a0 Z = true := hw _ (List.mem_of_getElem? (i := 40) rfl)
theorem d6_31 : decode jdk_65_method_123_code 31 = .ok (.aload_n 2, 1) := by decide +kernel
theorem d6_32 : decode jdk_65_method_123_code 32 = .ok (.areturn, 1) := by decide +kernel
abbrev y6_copyOf : MethodName := ⟨"java/util/Arrays", "copyOf", "([II)[I"⟩
theorem pn_java_util_Arrays : plainName "java/util/Arrays" = true := by first | (simp [plainName, overriddenIn]; done) | decide +kernel
abbrev c2_Arrays : String := "java/util/Arrays"
theorem d5_0 : decode prog_49_method_8_code 0 = .ok (.aload_n 0, 1) := by decide +kernel
theorem d5_1 : decode prog_49_method_8_code 1 = .ok (.getfield 7, 3) := by decide +kernel
theorem d5_4 : decode prog_49_method_8_code 4 = .ok (.aload_n 0, 1) := by decide +kernel
theorem d5_5 : decode prog_49_method_8_code 5 = .ok (.getfield 13, 3) := by decide +kernel
theorem d5_8 : decode prog_49_method_8_code 8 = .ok (.invokestatic 22, 3) := by decide +kernel
theorem w30 {Z : State} {a0 : Array Value} (hw : ∀ d ∈ tables_1, d.before a0 Z = true) : (Jvm.Cond.methodLink "com/example/otab/otab/tableau/IntList" (22 : Nat) ({ cls := "java/util/Arrays", name := "copyOf", desc := "([II)[I" } : Jvm.MethodName)).before a0 Z = true := hw _ (List.mem_of_getElem? (i := 30) rfl)
theorem pd___II__I : parseMethodDescriptor "([II)[I" = some ⟨[(.array .int), .int], some (.array .int)⟩ := by decide +kernel
theorem w32 {Z : State} {a0 : Array Value} (hw : ∀ d ∈ tables_1, d.before a0 Z = true) : (Jvm.Cond.initialized "java/util/Arrays").before a0 Z = true := hw _ (List.mem_of_getElem? (i := 32) rfl)
theorem w33 {Z : State} {a0 : Array Value} (hw : ∀ d ∈ tables_1, d.before a0 Z = true) : (Jvm.Cond.code ({ cls := "java/util/Arrays", name := "copyOf", desc := "([II)[I" } : Jvm.MethodName) jdk_65_method_123_code (3 : Nat) (Option.some (Jvm.ClassFile.FieldType.array Jvm.ClassFile.FieldType.int))).before a0 Z = true := hw _ (List.mem_of_getElem? (i := 33) rfl)
theorem w31 {Z : State} {a0 : Array Value} (hw : ∀ d ∈ tables_1, d.before a0 Z = true) : (Jvm.Cond.static ({ cls := "java/util/Arrays", name := "copyOf", desc := "([II)[I" } : Jvm.MethodName)).before a0 Z = true := hw _ (List.mem_of_getElem? (i := 31) rfl)
theorem d5_11 : decode prog_49_method_8_code 11 = .ok (.areturn, 1) := by decide +kernel
abbrev y7_toArray : MethodName := ⟨"com/example/otab/otab/tableau/IntList", "toArray", "()[I"⟩
theorem w0 {Z : State} {a0 : Array Value} (hw : ∀ d ∈ tables_1, d.before a0 Z = true) : (Jvm.Cond.classLink "com/example/otab/otab/tableau/IntListTruncatePinLaw" (7 : Nat) "com/example/otab/otab/tableau/IntList").before a0 Z = true := hw _ (List.mem_of_getElem? (i := 0) rfl)
theorem w2 {Z : State} {a0 : Array Value} (hw : ∀ d ∈ tables_1, d.before a0 Z = true) : (Jvm.Cond.initialized "com/example/otab/otab/tableau/IntList").before a0 Z = true := hw _ (List.mem_of_getElem? (i := 2) rfl)
theorem w3 {Z : State} {a0 : Array Value} (hw : ∀ d ∈ tables_1, d.before a0 Z = true) : (Jvm.Cond.methodLink "com/example/otab/otab/tableau/IntListTruncatePinLaw" (9 : Nat) ({ cls := "com/example/otab/otab/tableau/IntList", name := "<init>", desc := "()V" } : Jvm.MethodName)).before a0 Z = true := hw _ (List.mem_of_getElem? (i := 3) rfl)
theorem pd___V : parseMethodDescriptor "()V" = some ⟨[], none⟩ := by decide +kernel
theorem w5 {Z : State} {a0 : Array Value} (hw : ∀ d ∈ tables_1, d.before a0 Z = true) : (Jvm.Cond.code ({ cls := "com/example/otab/otab/tableau/IntList", name := "<init>", desc := "()V" } : Jvm.MethodName) prog_49_method_1_code (1 : Nat) (Option.none : Option Jvm.ClassFile.FieldType)).before a0 Z = true := hw _ (List.mem_of_getElem? (i := 5) rfl)
theorem w4 {Z : State} {a0 : Array Value} (hw : ∀ d ∈ tables_1, d.before a0 Z = true) : (Jvm.Cond.instanceMethod ({ cls := "com/example/otab/otab/tableau/IntList", name := "<init>", desc := "()V" } : Jvm.MethodName)).before a0 Z = true := hw _ (List.mem_of_getElem? (i := 4) rfl)
theorem w12 {Z : State} {a0 : Array Value} (hw : ∀ d ∈ tables_1, d.before a0 Z = true) : (Jvm.Cond.constant "com/example/otab/otab/tableau/IntListTruncatePinLaw" (14 : Nat) (2147483647 : Int32)).before a0 Z = true := hw _ (List.mem_of_getElem? (i := 12) rfl)
theorem w13 {Z : State} {a0 : Array Value} (hw : ∀ d ∈ tables_1, d.before a0 Z = true) : (Jvm.Cond.methodLink "com/example/otab/otab/tableau/IntListTruncatePinLaw" (15 : Nat) ({ cls := "com/example/otab/otab/tableau/IntList", name := "truncate", desc := "(I)V" } : Jvm.MethodName)).before a0 Z = true := hw _ (List.mem_of_getElem? (i := 13) rfl)
theorem pd__I_V : parseMethodDescriptor "(I)V" = some ⟨[.int], none⟩ := by decide +kernel
theorem w17 {Z : State} {a0 : Array Value} (hw : ∀ d ∈ tables_1, d.before a0 Z = true) : (Jvm.Cond.code ({ cls := "com/example/otab/otab/tableau/IntList", name := "truncate", desc := "(I)V" } : Jvm.MethodName) prog_49_method_7_code (2 : Nat) (Option.none : Option Jvm.ClassFile.FieldType)).before a0 Z = true := hw _ (List.mem_of_getElem? (i := 17) rfl)
theorem w16 {Z : State} {a0 : Array Value} (hw : ∀ d ∈ tables_1, d.before a0 Z = true) : (Jvm.Cond.selects "com/example/otab/otab/tableau/IntList" ({ cls := "com/example/otab/otab/tableau/IntList", name := "truncate", desc := "(I)V" } : Jvm.MethodName) ({ cls := "com/example/otab/otab/tableau/IntList", name := "truncate", desc := "(I)V" } : Jvm.MethodName)).before a0 Z = true := hw _ (List.mem_of_getElem? (i := 16) rfl)
theorem w14 {Z : State} {a0 : Array Value} (hw : ∀ d ∈ tables_1, d.before a0 Z = true) : (Jvm.Cond.declares ({ cls := "com/example/otab/otab/tableau/IntList", name := "truncate", desc := "(I)V" } : Jvm.MethodName)).before a0 Z = true := hw _ (List.mem_of_getElem? (i := 14) rfl)
theorem w15 {Z : State} {a0 : Array Value} (hw : ∀ d ∈ tables_1, d.before a0 Z = true) : (Jvm.Cond.instanceMethod ({ cls := "com/example/otab/otab/tableau/IntList", name := "truncate", desc := "(I)V" } : Jvm.MethodName)).before a0 Z = true := hw _ (List.mem_of_getElem? (i := 15) rfl)
theorem w20 {Z : State} {a0 : Array Value} (hw : ∀ d ∈ tables_1, d.before a0 Z = true) : (Jvm.Cond.methodLink "com/example/otab/otab/tableau/IntListTruncatePinLaw" (18 : Nat) ({ cls := "com/example/otab/otab/tableau/IntList", name := "size", desc := "()I" } : Jvm.MethodName)).before a0 Z = true := hw _ (List.mem_of_getElem? (i := 20) rfl)
theorem pd___I : parseMethodDescriptor "()I" = some ⟨[], some .int⟩ := by decide +kernel
theorem w24 {Z : State} {a0 : Array Value} (hw : ∀ d ∈ tables_1, d.before a0 Z = true) : (Jvm.Cond.code ({ cls := "com/example/otab/otab/tableau/IntList", name := "size", desc := "()I" } : Jvm.MethodName) prog_49_method_2_code (1 : Nat) (Option.some Jvm.ClassFile.FieldType.int)).before a0 Z = true := hw _ (List.mem_of_getElem? (i := 24) rfl)
theorem w23 {Z : State} {a0 : Array Value} (hw : ∀ d ∈ tables_1, d.before a0 Z = true) : (Jvm.Cond.selects "com/example/otab/otab/tableau/IntList" ({ cls := "com/example/otab/otab/tableau/IntList", name := "size", desc := "()I" } : Jvm.MethodName) ({ cls := "com/example/otab/otab/tableau/IntList", name := "size", desc := "()I" } : Jvm.MethodName)).before a0 Z = true := hw _ (List.mem_of_getElem? (i := 23) rfl)
theorem w21 {Z : State} {a0 : Array Value} (hw : ∀ d ∈ tables_1, d.before a0 Z = true) : (Jvm.Cond.declares ({ cls := "com/example/otab/otab/tableau/IntList", name := "size", desc := "()I" } : Jvm.MethodName)).before a0 Z = true := hw _ (List.mem_of_getElem? (i := 21) rfl)
theorem w22 {Z : State} {a0 : Array Value} (hw : ∀ d ∈ tables_1, d.before a0 Z = true) : (Jvm.Cond.instanceMethod ({ cls := "com/example/otab/otab/tableau/IntList", name := "size", desc := "()I" } : Jvm.MethodName)).before a0 Z = true := hw _ (List.mem_of_getElem? (i := 22) rfl)
theorem w25 {Z : State} {a0 : Array Value} (hw : ∀ d ∈ tables_1, d.before a0 Z = true) : (Jvm.Cond.methodLink "com/example/otab/otab/tableau/IntListTruncatePinLaw" (22 : Nat) ({ cls := "com/example/otab/otab/tableau/IntList", name := "toArray", desc := "()[I" } : Jvm.MethodName)).before a0 Z = true := hw _ (List.mem_of_getElem? (i := 25) rfl)
theorem pd____I : parseMethodDescriptor "()[I" = some ⟨[], some (.array .int)⟩ := by decide +kernel
theorem w29 {Z : State} {a0 : Array Value} (hw : ∀ d ∈ tables_1, d.before a0 Z = true) : (Jvm.Cond.code ({ cls := "com/example/otab/otab/tableau/IntList", name := "toArray", desc := "()[I" } : Jvm.MethodName) prog_49_method_8_code (1 : Nat) (Option.some (Jvm.ClassFile.FieldType.array Jvm.ClassFile.FieldType.int))).before a0 Z = true := hw _ (List.mem_of_getElem? (i := 29) rfl)
theorem w28 {Z : State} {a0 : Array Value} (hw : ∀ d ∈ tables_1, d.before a0 Z = true) : (Jvm.Cond.selects "com/example/otab/otab/tableau/IntList" ({ cls := "com/example/otab/otab/tableau/IntList", name := "toArray", desc := "()[I" } : Jvm.MethodName) ({ cls := "com/example/otab/otab/tableau/IntList", name := "toArray", desc := "()[I" } : Jvm.MethodName)).before a0 Z = true := hw _ (List.mem_of_getElem? (i := 28) rfl)
theorem w26 {Z : State} {a0 : Array Value} (hw : ∀ d ∈ tables_1, d.before a0 Z = true) : (Jvm.Cond.declares ({ cls := "com/example/otab/otab/tableau/IntList", name := "toArray", desc := "()[I" } : Jvm.MethodName)).before a0 Z = true := hw _ (List.mem_of_getElem? (i := 26) rfl)
theorem w27 {Z : State} {a0 : Array Value} (hw : ∀ d ∈ tables_1, d.before a0 Z = true) : (Jvm.Cond.instanceMethod ({ cls := "com/example/otab/otab/tableau/IntList", name := "toArray", desc := "()[I" } : Jvm.MethodName)).before a0 Z = true := hw _ (List.mem_of_getElem? (i := 27) rfl)
theorem w42 {Z : State} {a0 : Array Value} (hw : ∀ d ∈ tables_1, d.before a0 Z = true) : (Jvm.Cond.methodLink "com/example/otab/otab/tableau/IntListTruncatePinLaw" (10 : Nat) ({ cls := "com/example/otab/otab/tableau/IntList", name := "add", desc := "(I)V" } : Jvm.MethodName)).before a0 Z = true := hw _ (List.mem_of_getElem? (i := 42) rfl)
theorem w46 {Z : State} {a0 : Array Value} (hw : ∀ d ∈ tables_1, d.before a0 Z = true) : (Jvm.Cond.code ({ cls := "com/example/otab/otab/tableau/IntList", name := "add", desc := "(I)V" } : Jvm.MethodName) prog_49_method_5_code (2 : Nat) (Option.none : Option Jvm.ClassFile.FieldType)).before a0 Z = true := hw _ (List.mem_of_getElem? (i := 46) rfl)
theorem w45 {Z : State} {a0 : Array Value} (hw : ∀ d ∈ tables_1, d.before a0 Z = true) : (Jvm.Cond.selects "com/example/otab/otab/tableau/IntList" ({ cls := "com/example/otab/otab/tableau/IntList", name := "add", desc := "(I)V" } : Jvm.MethodName) ({ cls := "com/example/otab/otab/tableau/IntList", name := "add", desc := "(I)V" } : Jvm.MethodName)).before a0 Z = true := hw _ (List.mem_of_getElem? (i := 45) rfl)
theorem w43 {Z : State} {a0 : Array Value} (hw : ∀ d ∈ tables_1, d.before a0 Z = true) : (Jvm.Cond.declares ({ cls := "com/example/otab/otab/tableau/IntList", name := "add", desc := "(I)V" } : Jvm.MethodName)).before a0 Z = true := hw _ (List.mem_of_getElem? (i := 43) rfl)
theorem w44 {Z : State} {a0 : Array Value} (hw : ∀ d ∈ tables_1, d.before a0 Z = true) : (Jvm.Cond.instanceMethod ({ cls := "com/example/otab/otab/tableau/IntList", name := "add", desc := "(I)V" } : Jvm.MethodName)).before a0 Z = true := hw _ (List.mem_of_getElem? (i := 44) rfl)
theorem w47 {Z : State} {a0 : Array Value} (hw : ∀ d ∈ tables_1, d.before a0 Z = true) : (Jvm.Cond.methodLink "com/example/otab/otab/tableau/IntListTruncatePinLaw" (26 : Nat) ({ cls := "com/example/otab/otab/tableau/IntList", name := "get", desc := "(I)I" } : Jvm.MethodName)).before a0 Z = true := hw _ (List.mem_of_getElem? (i := 47) rfl)
theorem pd__I_I : parseMethodDescriptor "(I)I" = some ⟨[.int], some .int⟩ := by decide +kernel
theorem w51 {Z : State} {a0 : Array Value} (hw : ∀ d ∈ tables_1, d.before a0 Z = true) : (Jvm.Cond.code ({ cls := "com/example/otab/otab/tableau/IntList", name := "get", desc := "(I)I" } : Jvm.MethodName) prog_49_method_3_code (2 : Nat) (Option.some Jvm.ClassFile.FieldType.int)).before a0 Z = true := hw _ (List.mem_of_getElem? (i := 51) rfl)
theorem w50 {Z : State} {a0 : Array Value} (hw : ∀ d ∈ tables_1, d.before a0 Z = true) : (Jvm.Cond.selects "com/example/otab/otab/tableau/IntList" ({ cls := "com/example/otab/otab/tableau/IntList", name := "get", desc := "(I)I" } : Jvm.MethodName) ({ cls := "com/example/otab/otab/tableau/IntList", name := "get", desc := "(I)I" } : Jvm.MethodName)).before a0 Z = true := hw _ (List.mem_of_getElem? (i := 50) rfl)
theorem w48 {Z : State} {a0 : Array Value} (hw : ∀ d ∈ tables_1, d.before a0 Z = true) : (Jvm.Cond.declares ({ cls := "com/example/otab/otab/tableau/IntList", name := "get", desc := "(I)I" } : Jvm.MethodName)).before a0 Z = true := hw _ (List.mem_of_getElem? (i := 48) rfl)
theorem w49 {Z : State} {a0 : Array Value} (hw : ∀ d ∈ tables_1, d.before a0 Z = true) : (Jvm.Cond.instanceMethod ({ cls := "com/example/otab/otab/tableau/IntList", name := "get", desc := "(I)I" } : Jvm.MethodName)).before a0 Z = true := hw _ (List.mem_of_getElem? (i := 49) rfl)
theorem pn_com_example_otab_otab_tableau_IntListTruncatePinLaw : plainName "com/example/otab/otab/tableau/IntListTruncatePinLaw" = true := by first | (simp [plainName, overriddenIn]; done) | decide +kernel
abbrev c3_IntListTruncatePinLaw : String := "com/example/otab/otab/tableau/IntListTruncatePinLaw"
def Lst (Z : State) (n0 : Nat) (h : Heap) (a arr : Addr) (n : Int32) (vs : List Value) : Prop :=
  Exa Z h a "com/example/otab/otab/tableau/IntList" ∧ Fld Z h a "com/example/otab/otab/tableau/IntList" "values" "[I" (.ref arr) ∧ Fld Z h a "com/example/otab/otab/tableau/IntList" "size" "I" (.int n) ∧ AA Z h arr .int vs ∧ a ≠ arr ∧ n0 ≤ a ∧ n0 ≤ arr
theorem Lst.keep {Z : State} {n0 : Nat} {h h' : Heap} {a arr : Addr} {n : Int32} {vs : List Value} {ws : List Addr} (H : Lst Z n0 h a arr n vs) (K : Keep h h' ws) (q1 : a ∉ ws) (q2 : arr ∉ ws) : Lst Z n0 h' a arr n vs :=
  ⟨H.1.keep K, H.2.1.keep K q1, H.2.2.1.keep K q1, H.2.2.2.1.keep K q2, H.2.2.2.2⟩
set_option maxRecDepth 65536 in
set_option maxHeartbeats 40000000 in
theorem l_init (l : Launch) (Z : State) (a0 : Array Value) (hw : ∀ d ∈ tables_1, d.before a0 Z = true) (n0 : Nat) (h0 : Heap) (Z0 : n0 ≤ h0.size) (a : Addr) (E : Exa Z h0 a "com/example/otab/otab/tableau/IntList") (Fv : Fld Z h0 a "com/example/otab/otab/tableau/IntList" "values" "[I" .null) (Fs : Fld Z h0 a "com/example/otab/otab/tableau/IntList" "size" "I" (.int 0)) (ga : n0 ≤ a) :
    Met l Z n0 y0_init prog_49_method_1_code 1 (Option.none : Option Jvm.ClassFile.FieldType) ({ frames := 1, cells := 1, slots := 16, locals := 12 } : Room) #[(.ref a)] h0 (fun v h => v = none ∧ Keep h0 h [a] ∧ ∃ arr, Lst Z n0 h a arr 0 [.int (0 : Int32), .int (0 : Int32), .int (0 : Int32), .int (0 : Int32), .int (0 : Int32), .int (0 : Int32), .int (0 : Int32), .int (0 : Int32), .int (0 : Int32), .int (0 : Int32), .int (0 : Int32), .int (0 : Int32), .int (0 : Int32), .int (0 : Int32), .int (0 : Int32), .int (0 : Int32)] ∧ h0.size ≤ arr) := by
  refine met_intro (own := c0_IntList) (plainFor_of_name pn_com_example_otab_otab_tableau_IntList) rfl Z0 ?_
  intro p e s m below meth c T A hnm
  refine Wp.cast (g' := mkF m 0 #[rv a] []) (by first | (simp [entryFrame, mkF, argsToLocals, Value.category, maxLocals, jv, S2, U0, iv, rv]; done) | rfl) ?_
  refine s_aloadN (pc' := 1) A d1_0 rfl rfl rfl ?_
  refine s_initO (pc' := 4) (W := 0) A (w6 hw) (w7 hw) (w8 hw) (by decide) (Nat.le_of_eq rfl) (by decide) rfl d1_1 rfl fun T A => ?_
  refine s_aloadN (pc' := 5) A d1_4 rfl rfl rfl ?_
  refine s_bipush (pc' := 7) (z := (16 : Int32)) A d1_5 rfl (by decide) ?_
  refine s_newarray (pc' := 9) (aty := .int) (ty := .int) (dv := (.int (0 : Int32))) (i := 16) (cap := 16) A rfl rfl (w9 hw) (by decide) (by decide) (by decide) (by decide) (by decide) d1_7 rfl fun T h1 b2 A g3 ge4 X5 V6 => ?_
  have ne7 : a ≠ b2 := lt_ne E.lt g3
  have bo8 : h0.size ≤ b2 := le_eq (Keep.refl h0 [a]).1 g3
  have V6 : AA Z h1 b2 .int [.int (0 : Int32), .int (0 : Int32), .int (0 : Int32), .int (0 : Int32), .int (0 : Int32), .int (0 : Int32), .int (0 : Int32), .int (0 : Int32), .int (0 : Int32), .int (0 : Int32), .int (0 : Int32), .int (0 : Int32), .int (0 : Int32), .int (0 : Int32), .int (0 : Int32), .int (0 : Int32)] := V6
  have F9 := (Fv.ext X5)
  have E10 := (E.ext X5)
  refine s_putfield (pc' := 12) (host := "") A (Or.inl (w10 hw)) Via.refl F9 E10 (Or.inl (w11 hw)) (w1 hw) (ty := (.array .int)) (by decide) rfl rfl ga d1_9 rfl fun T h11 A W12 => ?_
  have F13 := F9.same W12
  have K14 := (((Keep.refl h0 [a]).ext X5).wr W12 (Or.inl (List.mem_of_getElem? (i := 0) rfl)))
  have E15 := (E10.wr W12)
  have F16 := ((Fs.ext X5).other W12 (Or.inr (sn_IntList_size_values hw)))
  have V17 := (V6.other W12 (Ne.symm ne7))
  exact r_void A rfl d1_12 (by decide) (by decide) (⟨rfl, K14, b2, ⟨E15, F13, F16, V17, ne7, ga, ge4⟩, bo8⟩)
set_option maxRecDepth 65536 in
set_option maxHeartbeats 40000000 in
theorem l_size (l : Launch) (Z : State) (a0 : Array Value) (hw : ∀ d ∈ tables_1, d.before a0 Z = true) (n0 : Nat) (h0 : Heap) (Z0 : n0 ≤ h0.size) (a arr : Addr) (n : Int32) (vs : List Value) (H : Lst Z n0 h0 a arr n vs) :
    Met l Z n0 y1_size prog_49_method_2_code 1 (Option.some Jvm.ClassFile.FieldType.int) ({ frames := 0, cells := 0, slots := 0, locals := 0 } : Room) #[(.ref a)] h0 (fun v h => v = some (.int n) ∧ h = h0) := by
  refine met_intro (own := c0_IntList) (plainFor_of_name pn_com_example_otab_otab_tableau_IntList) rfl Z0 ?_
  intro p e s m below meth c T A hnm
  refine Wp.cast (g' := mkF m 0 #[rv a] []) (by first | (simp [entryFrame, mkF, argsToLocals, Value.category, maxLocals, jv, S2, U0, iv, rv]; done) | rfl) ?_
  obtain ⟨E, Fv, Fs, V, ne, ga, gr⟩ := H
  refine s_aloadN (pc' := 1) A d4_0 rfl rfl rfl ?_
  refine s_getfield (pc' := 4) (host := "") A (Or.inl (w18 hw)) Via.refl Fs d4_1 rfl fun T A => ?_
  exact r_int A rfl d4_4 (by decide) (by decide) (⟨rfl, rfl⟩)
set_option maxRecDepth 65536 in
set_option maxHeartbeats 40000000 in
theorem l_get (l : Launch) (Z : State) (a0 : Array Value) (hw : ∀ d ∈ tables_1, d.before a0 Z = true) (n0 : Nat) (h0 : Heap) (Z0 : n0 ≤ h0.size) (a arr : Addr) (n : Int32) (vs : List Value) (j : Int32) (i : Nat) (x : Int32) (H : Lst Z n0 h0 a arr n vs) (hj : j.toInt = (i : Int)) (hv : vs[i]? = some (.int x)) (hlt : j < n) :
    Met l Z n0 y2_get prog_49_method_3_code 2 (Option.some Jvm.ClassFile.FieldType.int) ({ frames := 0, cells := 0, slots := 0, locals := 0 } : Room) #[(.ref a), (.int j)] h0 (fun v h => v = some (.int x) ∧ h = h0) := by
  refine met_intro (own := c0_IntList) (plainFor_of_name pn_com_example_otab_otab_tableau_IntList) rfl Z0 ?_
  intro p e s m below meth c T A hnm
  refine Wp.cast (g' := mkF m 0 #[rv a, iv j] []) (by first | (simp [entryFrame, mkF, argsToLocals, Value.category, maxLocals, jv, S2, U0, iv, rv]; done) | rfl) ?_
  obtain ⟨E, Fv, Fs, V, ne, ga, gr⟩ := H
  refine s_iloadN (pc' := 1) A d9_0 rfl rfl ?_
  refine s_aloadN (pc' := 2) A d9_1 rfl rfl rfl ?_
  refine s_getfield (pc' := 5) (host := "") A (Or.inl (w18 hw)) Via.refl Fs d9_2 rfl fun T A => ?_
  refine s_icmpY (pc' := 17) A d9_5 (tlt hlt).1 (by decide) (by decide) ?_
  refine s_aloadN (pc' := 18) A d9_17 rfl rfl rfl ?_
  refine s_getfield (pc' := 21) (host := "") A (Or.inl (w10 hw)) Via.refl Fv d9_18 rfl fun T A => ?_
  refine s_iloadN (pc' := 22) A d9_21 rfl rfl ?_
  refine s_iaload (pc' := 23) (i := i) (v := (.int x)) A V hj hv d9_22 rfl ?_
  exact r_int A rfl d9_23 (by decide) (by decide) (⟨rfl, rfl⟩)
set_option maxRecDepth 65536 in
set_option maxHeartbeats 40000000 in
theorem l_add (l : Launch) (Z : State) (a0 : Array Value) (hw : ∀ d ∈ tables_1, d.before a0 Z = true) (n0 : Nat) (h0 : Heap) (Z0 : n0 ≤ h0.size) (a arr : Addr) (n : Int32) (vs : List Value) (x n' z : Int32) (i : Nat) (vs' : List Value) (H : Lst Z n0 h0 a arr n vs) (hn : n.toInt = (i : Int)) (hi : i < vs.length) (hz : z.toInt = (vs.length : Int)) (hn' : n + 1 = n') (hvs : vs.set i (.int x) = vs') :
    Met l Z n0 y3_add prog_49_method_5_code 2 (Option.none : Option Jvm.ClassFile.FieldType) ({ frames := 0, cells := 0, slots := 0, locals := 0 } : Room) #[(.ref a), (.int x)] h0 (fun v h => v = none ∧ Keep h0 h [a, arr] ∧ Lst Z n0 h a arr n' vs') := by
  refine met_intro (own := c0_IntList) (plainFor_of_name pn_com_example_otab_otab_tableau_IntList) rfl Z0 ?_
  intro p e s m below meth c T A hnm
  refine Wp.cast (g' := mkF m 0 #[rv a, iv x] []) (by first | (simp [entryFrame, mkF, argsToLocals, Value.category, maxLocals, jv, S2, U0, iv, rv]; done) | rfl) ?_
  obtain ⟨E, Fv, Fs, V, ne, ga, gr⟩ := H
  refine s_aloadN (pc' := 1) A d8_0 rfl rfl rfl ?_
  refine s_getfield (pc' := 4) (host := "") A (Or.inl (w18 hw)) Via.refl Fs d8_1 rfl fun T A => ?_
  refine s_aloadN (pc' := 5) A d8_4 rfl rfl rfl ?_
  refine s_getfield (pc' := 8) (host := "") A (Or.inl (w10 hw)) Via.refl Fv d8_5 rfl fun T A => ?_
  refine s_arraylength (pc' := 9) (z := z) A V hz d8_8 rfl ?_
  refine s_icmpY (pc' := 29) A d8_9 (feq (fun q => by have q1 := congrArg Int32.toInt q; rw [hn, hz] at q1; omega)).2 (by decide) (by decide) ?_
  refine s_aloadN (pc' := 30) A d8_29 rfl rfl rfl ?_
  refine s_getfield (pc' := 33) (host := "") A (Or.inl (w10 hw)) Via.refl Fv d8_30 rfl fun T A => ?_
  refine s_aloadN (pc' := 34) A d8_33 rfl rfl rfl ?_
  refine s_dup (pc' := 35) A d8_34 rfl rfl ?_
  refine s_getfield (pc' := 38) (host := "") A (Or.inl (w18 hw)) Via.refl Fs d8_35 rfl fun T A => ?_
  refine s_dupX1 (pc' := 39) A d8_38 rfl rfl rfl ?_
  refine s_iconst (pc' := 40) (z := (1 : Int32)) A d8_39 rfl (by decide) ?_
  refine s_iadd (pc' := 41) (z := n') A d8_40 rfl hn' ?_
  refine s_putfield (pc' := 44) (host := "") A (Or.inl (w18 hw)) Via.refl Fs E (Or.inl (w19 hw)) (w1 hw) (ty := .int) (by decide) rfl rfl ga d8_41 rfl fun T h1 A W2 => ?_
  have F3 := Fs.same W2
  refine s_iloadN (pc' := 45) A d8_44 rfl rfl ?_
  have V4 := (V.other W2 (Ne.symm ne))
  refine s_iastore (pc' := 46) (i := i) A V4 hn hi gr d8_45 rfl fun T h5 A W6 V7 => ?_
  have V7 : AA Z h5 arr .int vs' := (AA.cast V7 hvs)
  have K8 := (((Keep.refl h0 [a, arr]).wr W2 (Or.inl (List.mem_of_getElem? (i := 0) rfl))).wr W6 (Or.inl (List.mem_of_getElem? (i := 1) rfl)))
  have E9 := ((E.wr W2).wr W6)
  have F10 := ((Fv.other W2 (Or.inr (sn_IntList_values_size hw))).other W6 (Or.inl ne))
  have F11 := (F3.other W6 (Or.inl ne))
  exact r_void A rfl d8_46 (by decide) (by decide) (⟨rfl, K8, E9, F10, F11, V7, ne, ga, gr⟩)
set_option maxRecDepth 65536 in
set_option maxHeartbeats 40000000 in
theorem l_trunc (l : Launch) (Z : State) (a0 : Array Value) (hw : ∀ d ∈ tables_1, d.before a0 Z = true) (n0 : Nat) (h0 : Heap) (Z0 : n0 ≤ h0.size) (a arr : Addr) (n : Int32) (vs : List Value) (k : Int32) (H : Lst Z n0 h0 a arr n vs) (h1 : ¬ k < (0 : Int32)) (h2 : ¬ n < k) :
    Met l Z n0 y4_truncate prog_49_method_7_code 2 (Option.none : Option Jvm.ClassFile.FieldType) ({ frames := 0, cells := 0, slots := 0, locals := 0 } : Room) #[(.ref a), (.int k)] h0 (fun v h => v = none ∧ Keep h0 h [a] ∧ Lst Z n0 h a arr k vs) := by
  refine met_intro (own := c0_IntList) (plainFor_of_name pn_com_example_otab_otab_tableau_IntList) rfl Z0 ?_
  intro p e s m below meth c T A hnm
  refine Wp.cast (g' := mkF m 0 #[rv a, iv k] []) (by first | (simp [entryFrame, mkF, argsToLocals, Value.category, maxLocals, jv, S2, U0, iv, rv]; done) | rfl) ?_
  obtain ⟨E, Fv, Fs, V, ne, ga, gr⟩ := H
  refine s_iloadN (pc' := 1) A d3_0 rfl rfl ?_
  refine s_ifN (pc' := 4) A d3_1 rfl ((if0 _ _).trans (flt h1).1) ?_
  refine s_iloadN (pc' := 5) A d3_4 rfl rfl ?_
  refine s_aloadN (pc' := 6) A d3_5 rfl rfl rfl ?_
  refine s_getfield (pc' := 9) (host := "") A (Or.inl (w18 hw)) Via.refl Fs d3_6 rfl fun T A => ?_
  refine s_icmpY (pc' := 21) A d3_9 (flt h2).2.2.2 (by decide) (by decide) ?_
  refine s_aloadN (pc' := 22) A d3_21 rfl rfl rfl ?_
  refine s_iloadN (pc' := 23) A d3_22 rfl rfl ?_
  refine s_putfield (pc' := 26) (host := "") A (Or.inl (w18 hw)) Via.refl Fs E (Or.inl (w19 hw)) (w1 hw) (ty := .int) (by decide) rfl rfl ga d3_23 rfl fun T h1 A W2 => ?_
  have F3 := Fs.same W2
  have K4 := ((Keep.refl h0 [a]).wr W2 (Or.inl (List.mem_of_getElem? (i := 0) rfl)))
  have E5 := (E.wr W2)
  have F6 := (Fv.other W2 (Or.inr (sn_IntList_values_size hw)))
  have V7 := (V.other W2 (Ne.symm ne))
  exact r_void A rfl d3_26 (by decide) (by decide) (⟨rfl, K4, E5, F6, F3, V7, ne, ga, gr⟩)
set_option maxRecDepth 65536 in
set_option maxHeartbeats 40000000 in
theorem m_min0 (l : Launch) (Z : State) (a0 : Array Value) (hw : ∀ d ∈ tables_1, d.before a0 Z = true) (n0 : Nat) (h0 : Heap) (Z0 : n0 ≤ h0.size) (a b : Int32) (q : b < a) :
    Met l Z n0 y5_min jdk_29_method_69_code 2 (Option.some Jvm.ClassFile.FieldType.int) ({ frames := 0, cells := 0, slots := 0, locals := 0 } : Room) #[(.int a), (.int b)] h0 (fun v h => v = some (.int b) ∧ h = h0) := by
  refine met_intro (own := c1_Math) (Jvm.Free.JP.mathPlain rfl (by decide +kernel)) rfl Z0 ?_
  intro p e s m below meth c T A hnm
  refine Wp.cast (g' := mkF m 0 #[iv a, iv b] []) (by first | (simp [entryFrame, mkF, argsToLocals, Value.category, maxLocals, jv, S2, U0, iv, rv]; done) | rfl) ?_
  refine s_iloadN (pc' := 1) A d7_0 rfl rfl ?_
  refine s_iloadN (pc' := 2) A d7_1 rfl rfl ?_
  refine s_icmpY (pc' := 9) A d7_2 (tlt q).2.2.1 (by decide) (by decide) ?_
  refine s_iloadN (pc' := 10) A d7_9 rfl rfl ?_
  exact r_int A rfl d7_10 (by decide) (by decide) (⟨rfl, rfl⟩)
set_option maxRecDepth 65536 in
set_option maxHeartbeats 40000000 in
theorem m_min1 (l : Launch) (Z : State) (a0 : Array Value) (hw : ∀ d ∈ tables_1, d.before a0 Z = true) (n0 : Nat) (h0 : Heap) (Z0 : n0 ≤ h0.size) (a b : Int32) (q : ¬ b < a) :
    Met l Z n0 y5_min jdk_29_method_69_code 2 (Option.some Jvm.ClassFile.FieldType.int) ({ frames := 0, cells := 0, slots := 0, locals := 0 } : Room) #[(.int a), (.int b)] h0 (fun v h => v = some (.int a) ∧ h = h0) := by
  refine met_intro (own := c1_Math) (Jvm.Free.JP.mathPlain rfl (by decide +kernel)) rfl Z0 ?_
  intro p e s m below meth c T A hnm
  refine Wp.cast (g' := mkF m 0 #[iv a, iv b] []) (by first | (simp [entryFrame, mkF, argsToLocals, Value.category, maxLocals, jv, S2, U0, iv, rv]; done) | rfl) ?_
  refine s_iloadN (pc' := 1) A d7_0 rfl rfl ?_
  refine s_iloadN (pc' := 2) A d7_1 rfl rfl ?_
  refine s_icmpN (pc' := 5) A d7_2 rfl (flt q).2.2.1 ?_
  refine s_iloadN (pc' := 6) A d7_5 rfl rfl ?_
  refine s_goto (pc' := 10) A d7_6 (by decide) (by decide) ?_
  exact r_int A rfl d7_10 (by decide) (by decide) (⟨rfl, rfl⟩)
set_option maxRecDepth 65536 in
set_option maxHeartbeats 40000000 in
theorem cp_0 (l : Launch) (Z : State) (a0 : Array Value) (hw : ∀ d ∈ tables_1, d.before a0 Z = true) (n0 : Nat) (h0 : Heap) (Z0 : n0 ≤ h0.size) (r : Addr) (x0 x1 x2 x3 x4 x5 x6 x7 x8 x9 x10 x11 x12 x13 x14 x15 : Int32) (V : AA Z h0 r .int [.int x0, .int x1, .int x2, .int x3, .int x4, .int x5, .int x6, .int x7, .int x8, .int x9, .int x10, .int x11, .int x12, .int x13, .int x14, .int x15]) (gr : n0 ≤ r) :
    Met l Z n0 y6_copyOf jdk_65_method_123_code 3 (Option.some (Jvm.ClassFile.FieldType.array Jvm.ClassFile.FieldType.int)) ({ frames := 1, cells := 1, slots := 0, locals := 18 } : Room) #[(.ref r), (.int (0 : Int32))] h0 (fun v h => ∃ b, v = some (.ref b) ∧ Keep h0 h [] ∧ AA Z h b .int [] ∧ h0.size ≤ b ∧ n0 ≤ b) := by
  refine met_intro (own := c2_Arrays) (plainFor_of_name pn_java_util_Arrays) rfl Z0 ?_
  intro p e s m below meth c T A hnm
  refine Wp.cast (g' := mkF m 0 #[rv r, iv 0, U0] []) (by first | (simp [entryFrame, mkF, argsToLocals, Value.category, maxLocals, jv, S2, U0, iv, rv]; done) | rfl) ?_
  refine s_iloadN (pc' := 1) A d6_0 rfl rfl ?_
  refine s_aloadN (pc' := 2) A d6_1 rfl rfl rfl ?_
  refine s_arraylength (pc' := 3) (z := (16 : Int32)) A V (by show _ = ((16 : Nat) : Int); decide) d6_2 rfl ?_
  refine s_icmpY (pc' := 14) A d6_3 (by decide) (by decide) (by decide) ?_
  refine s_iloadN (pc' := 15) A d6_14 rfl rfl ?_
  refine s_newarray (pc' := 17) (aty := .int) (ty := .int) (dv := (.int (0 : Int32))) (i := 0) (cap := 0) A rfl rfl (w9 hw) (by decide) (by decide) (by decide) (by decide) (by decide) d6_15 rfl fun T h1 b2 A g3 ge4 X5 V6 => ?_
  have ne7 : r ≠ b2 := lt_ne V.lt g3
  have bo8 : h0.size ≤ b2 := le_eq (Keep.refl h0 []).1 g3
  have V6 : AA Z h1 b2 .int [] := V6
  refine s_astoreN (pc' := 18) (Ls' := #[rv r, iv 0, rv b2]) A d6_17 rfl rfl rfl ?_
  refine s_aloadN (pc' := 19) A d6_18 rfl rfl rfl ?_
  refine s_iconst (pc' := 20) (z := (0 : Int32)) A d6_19 rfl (by decide) ?_
  refine s_aloadN (pc' := 21) A d6_20 rfl rfl rfl ?_
  refine s_iconst (pc' := 22) (z := (0 : Int32)) A d6_21 rfl (by decide) ?_
  refine s_aloadN (pc' := 23) A d6_22 rfl rfl rfl ?_
  have V9 := (V.ext X5)
  refine s_arraylength (pc' := 24) (z := (16 : Int32)) A V9 (by show _ = ((16 : Nat) : Int); decide) d6_23 rfl ?_
  refine s_iloadN (pc' := 25) A d6_24 rfl rfl ?_
  refine s_static (pc' := 28) (y := y5_min) (argsL := [(.int (16 : Int32)), (.int (0 : Int32))]) (rest := [(.int (0 : Int32)), (.ref b2), (.int (0 : Int32)), (.ref r)]) A (m_min0 l Z a0 hw n0 h1 A.size (16 : Int32) (0 : Int32) (by decide)) (w34 hw) (w35 hw) (w36 hw) (w37 hw) (by decide) pd__II_I rfl (W := 4) (by decide) (by decide) (Nat.le_of_eq rfl) (by decide) (by decide) rfl rfl d6_25 rfl fun T h10 v11 A Q12 => ?_
  obtain ⟨rfl, eh⟩ := Q12
  rw [eh] at A
  refine Wp.stk (st' := [(.int (0 : Int32)), (.int (0 : Int32)), (.ref b2), (.int (0 : Int32)), (.ref r)]) rfl ?_
  refine s_arraycopy (pc' := 31) (W := 0) (i := 0) (j := 0) (cnt := 0) A (w38 hw) (w41 hw) (w39 hw) (w40 hw) V9 V6 (by simp [fits]) (by simp [fits]) rfl (by decide) (by decide) (by decide) (Nat.le_of_ble_eq_true rfl) (Nat.le_of_ble_eq_true rfl) ge4 (by decide) (Nat.le_of_eq rfl) (by decide) rfl d6_28 rfl fun T h13 A K14 V15 => ?_
  have V15 : AA Z h13 b2 .int [] := V15
  refine s_aloadN (pc' := 32) A d6_31 rfl rfl rfl ?_
  have K16 := (((Keep.refl h0 []).ext X5).trans K14 (allS (Or.inr bo8) all0))
  exact r_ref A rfl rfl rfl d6_32 (by decide) (by decide) (⟨b2, rfl, K16, V15, bo8, ge4⟩)
set_option maxRecDepth 65536 in
set_option maxHeartbeats 40000000 in
theorem l_toarr0 (l : Launch) (Z : State) (a0 : Array Value) (hw : ∀ d ∈ tables_1, d.before a0 Z = true) (n0 : Nat) (h0 : Heap) (Z0 : n0 ≤ h0.size) (a arr : Addr) (x0 x1 x2 x3 x4 x5 x6 x7 x8 x9 x10 x11 x12 x13 x14 x15 : Int32) (H : Lst Z n0 h0 a arr (0 : Int32) [.int x0, .int x1, .int x2, .int x3, .int x4, .int x5, .int x6, .int x7, .int x8, .int x9, .int x10, .int x11, .int x12, .int x13, .int x14, .int x15]) :
    Met l Z n0 y7_toArray prog_49_method_8_code 1 (Option.some (Jvm.ClassFile.FieldType.array Jvm.ClassFile.FieldType.int)) ({ frames := 2, cells := 1, slots := 0, locals := 32 } : Room) #[(.ref a)] h0 (fun v h => ∃ b, v = some (.ref b) ∧ Keep h0 h [] ∧ AA Z h b .int [] ∧ h0.size ≤ b ∧ n0 ≤ b) := by
  refine met_intro (own := c0_IntList) (plainFor_of_name pn_com_example_otab_otab_tableau_IntList) rfl Z0 ?_
  intro p e s m below meth c T A hnm
  refine Wp.cast (g' := mkF m 0 #[rv a] []) (by first | (simp [entryFrame, mkF, argsToLocals, Value.category, maxLocals, jv, S2, U0, iv, rv]; done) | rfl) ?_
  obtain ⟨E, Fv, Fs, V, ne, ga, gr⟩ := H
  refine s_aloadN (pc' := 1) A d5_0 rfl rfl rfl ?_
  refine s_getfield (pc' := 4) (host := "") A (Or.inl (w10 hw)) Via.refl Fv d5_1 rfl fun T A => ?_
  refine s_aloadN (pc' := 5) A d5_4 rfl rfl rfl ?_
  refine s_getfield (pc' := 8) (host := "") A (Or.inl (w18 hw)) Via.refl Fs d5_5 rfl fun T A => ?_
  refine s_static (pc' := 11) (y := y6_copyOf) (argsL := [(.ref arr), (.int (0 : Int32))]) (rest := []) A (cp_0 l Z a0 hw n0 h0 A.size arr x0 x1 x2 x3 x4 x5 x6 x7 x8 x9 x10 x11 x12 x13 x14 x15 V gr) (w30 hw) (w31 hw) (w32 hw) (w33 hw) (by decide) pd___II__I rfl (W := 0) (by decide) (by decide) (Nat.le_of_eq rfl) (by decide) (by decide) rfl rfl d5_8 rfl fun T h6 v7 A Q8 => ?_
  obtain ⟨b5, rfl, K1, V2, g3, ge4⟩ := Q8
  have ne9 : a ≠ b5 := Nat.ne_of_lt (Nat.lt_of_lt_of_le E.lt g3)
  have ne10 : arr ≠ b5 := Nat.ne_of_lt (Nat.lt_of_lt_of_le V.lt g3)
  have bo11 : h0.size ≤ b5 := Nat.le_trans (Keep.refl h0 []).1 g3
  refine Wp.stk (st' := [(.ref b5)]) rfl ?_
  have K12 := ((Keep.refl h0 []).trans K1 all0)
  exact r_ref A rfl rfl rfl d5_11 (by decide) (by decide) (⟨b5, rfl, K12, V2, bo11, ge4⟩)
set_option maxRecDepth 65536 in
set_option maxHeartbeats 40000000 in
theorem cp_1 (l : Launch) (Z : State) (a0 : Array Value) (hw : ∀ d ∈ tables_1, d.before a0 Z = true) (n0 : Nat) (h0 : Heap) (Z0 : n0 ≤ h0.size) (r : Addr) (x0 x1 x2 x3 x4 x5 x6 x7 x8 x9 x10 x11 x12 x13 x14 x15 : Int32) (V : AA Z h0 r .int [.int x0, .int x1, .int x2, .int x3, .int x4, .int x5, .int x6, .int x7, .int x8, .int x9, .int x10, .int x11, .int x12, .int x13, .int x14, .int x15]) (gr : n0 ≤ r) :
    Met l Z n0 y6_copyOf jdk_65_method_123_code 3 (Option.some (Jvm.ClassFile.FieldType.array Jvm.ClassFile.FieldType.int)) ({ frames := 1, cells := 1, slots := 1, locals := 18 } : Room) #[(.ref r), (.int (1 : Int32))] h0 (fun v h => ∃ b, v = some (.ref b) ∧ Keep h0 h [] ∧ AA Z h b .int [.int x0] ∧ h0.size ≤ b ∧ n0 ≤ b) := by
  refine met_intro (own := c2_Arrays) (plainFor_of_name pn_java_util_Arrays) rfl Z0 ?_
  intro p e s m below meth c T A hnm
  refine Wp.cast (g' := mkF m 0 #[rv r, iv 1, U0] []) (by first | (simp [entryFrame, mkF, argsToLocals, Value.category, maxLocals, jv, S2, U0, iv, rv]; done) | rfl) ?_
  refine s_iloadN (pc' := 1) A d6_0 rfl rfl ?_
  refine s_aloadN (pc' := 2) A d6_1 rfl rfl rfl ?_
  refine s_arraylength (pc' := 3) (z := (16 : Int32)) A V (by show _ = ((16 : Nat) : Int); decide) d6_2 rfl ?_
  refine s_icmpY (pc' := 14) A d6_3 (by decide) (by decide) (by decide) ?_
  refine s_iloadN (pc' := 15) A d6_14 rfl rfl ?_
  refine s_newarray (pc' := 17) (aty := .int) (ty := .int) (dv := (.int (0 : Int32))) (i := 1) (cap := 1) A rfl rfl (w9 hw) (by decide) (by decide) (by decide) (by decide) (by decide) d6_15 rfl fun T h1 b2 A g3 ge4 X5 V6 => ?_
  have ne7 : r ≠ b2 := lt_ne V.lt g3
  have bo8 : h0.size ≤ b2 := le_eq (Keep.refl h0 []).1 g3
  have V6 : AA Z h1 b2 .int [.int (0 : Int32)] := V6
  refine s_astoreN (pc' := 18) (Ls' := #[rv r, iv 1, rv b2]) A d6_17 rfl rfl rfl ?_
  refine s_aloadN (pc' := 19) A d6_18 rfl rfl rfl ?_
  refine s_iconst (pc' := 20) (z := (0 : Int32)) A d6_19 rfl (by decide) ?_
  refine s_aloadN (pc' := 21) A d6_20 rfl rfl rfl ?_
  refine s_iconst (pc' := 22) (z := (0 : Int32)) A d6_21 rfl (by decide) ?_
  refine s_aloadN (pc' := 23) A d6_22 rfl rfl rfl ?_
  have V9 := (V.ext X5)
  refine s_arraylength (pc' := 24) (z := (16 : Int32)) A V9 (by show _ = ((16 : Nat) : Int); decide) d6_23 rfl ?_
  refine s_iloadN (pc' := 25) A d6_24 rfl rfl ?_
  refine s_static (pc' := 28) (y := y5_min) (argsL := [(.int (16 : Int32)), (.int (1 : Int32))]) (rest := [(.int (0 : Int32)), (.ref b2), (.int (0 : Int32)), (.ref r)]) A (m_min0 l Z a0 hw n0 h1 A.size (16 : Int32) (1 : Int32) (by decide)) (w34 hw) (w35 hw) (w36 hw) (w37 hw) (by decide) pd__II_I rfl (W := 4) (by decide) (by decide) (Nat.le_of_eq rfl) (by decide) (by decide) rfl rfl d6_25 rfl fun T h10 v11 A Q12 => ?_
  obtain ⟨rfl, eh⟩ := Q12
  rw [eh] at A
  refine Wp.stk (st' := [(.int (1 : Int32)), (.int (0 : Int32)), (.ref b2), (.int (0 : Int32)), (.ref r)]) rfl ?_
  refine s_arraycopy (pc' := 31) (W := 0) (i := 0) (j := 0) (cnt := 1) A (w38 hw) (w41 hw) (w39 hw) (w40 hw) V9 V6 (by simp [fits]) (by simp [fits]) rfl (by decide) (by decide) (by decide) (Nat.le_of_ble_eq_true rfl) (Nat.le_of_ble_eq_true rfl) ge4 (by decide) (Nat.le_of_eq rfl) (by decide) rfl d6_28 rfl fun T h13 A K14 V15 => ?_
  have V15 : AA Z h13 b2 .int [.int x0] := V15
  refine s_aloadN (pc' := 32) A d6_31 rfl rfl rfl ?_
  have K16 := (((Keep.refl h0 []).ext X5).trans K14 (allS (Or.inr bo8) all0))
  exact r_ref A rfl rfl rfl d6_32 (by decide) (by decide) (⟨b2, rfl, K16, V15, bo8, ge4⟩)
set_option maxRecDepth 65536 in
set_option maxHeartbeats 40000000 in
theorem l_toarr1 (l : Launch) (Z : State) (a0 : Array Value) (hw : ∀ d ∈ tables_1, d.before a0 Z = true) (n0 : Nat) (h0 : Heap) (Z0 : n0 ≤ h0.size) (a arr : Addr) (x0 x1 x2 x3 x4 x5 x6 x7 x8 x9 x10 x11 x12 x13 x14 x15 : Int32) (H : Lst Z n0 h0 a arr (1 : Int32) [.int x0, .int x1, .int x2, .int x3, .int x4, .int x5, .int x6, .int x7, .int x8, .int x9, .int x10, .int x11, .int x12, .int x13, .int x14, .int x15]) :
    Met l Z n0 y7_toArray prog_49_method_8_code 1 (Option.some (Jvm.ClassFile.FieldType.array Jvm.ClassFile.FieldType.int)) ({ frames := 2, cells := 1, slots := 1, locals := 32 } : Room) #[(.ref a)] h0 (fun v h => ∃ b, v = some (.ref b) ∧ Keep h0 h [] ∧ AA Z h b .int [.int x0] ∧ h0.size ≤ b ∧ n0 ≤ b) := by
  refine met_intro (own := c0_IntList) (plainFor_of_name pn_com_example_otab_otab_tableau_IntList) rfl Z0 ?_
  intro p e s m below meth c T A hnm
  refine Wp.cast (g' := mkF m 0 #[rv a] []) (by first | (simp [entryFrame, mkF, argsToLocals, Value.category, maxLocals, jv, S2, U0, iv, rv]; done) | rfl) ?_
  obtain ⟨E, Fv, Fs, V, ne, ga, gr⟩ := H
  refine s_aloadN (pc' := 1) A d5_0 rfl rfl rfl ?_
  refine s_getfield (pc' := 4) (host := "") A (Or.inl (w10 hw)) Via.refl Fv d5_1 rfl fun T A => ?_
  refine s_aloadN (pc' := 5) A d5_4 rfl rfl rfl ?_
  refine s_getfield (pc' := 8) (host := "") A (Or.inl (w18 hw)) Via.refl Fs d5_5 rfl fun T A => ?_
  refine s_static (pc' := 11) (y := y6_copyOf) (argsL := [(.ref arr), (.int (1 : Int32))]) (rest := []) A (cp_1 l Z a0 hw n0 h0 A.size arr x0 x1 x2 x3 x4 x5 x6 x7 x8 x9 x10 x11 x12 x13 x14 x15 V gr) (w30 hw) (w31 hw) (w32 hw) (w33 hw) (by decide) pd___II__I rfl (W := 0) (by decide) (by decide) (Nat.le_of_eq rfl) (by decide) (by decide) rfl rfl d5_8 rfl fun T h6 v7 A Q8 => ?_
  obtain ⟨b5, rfl, K1, V2, g3, ge4⟩ := Q8
  have ne9 : a ≠ b5 := Nat.ne_of_lt (Nat.lt_of_lt_of_le E.lt g3)
  have ne10 : arr ≠ b5 := Nat.ne_of_lt (Nat.lt_of_lt_of_le V.lt g3)
  have bo11 : h0.size ≤ b5 := Nat.le_trans (Keep.refl h0 []).1 g3
  refine Wp.stk (st' := [(.ref b5)]) rfl ?_
  have K12 := ((Keep.refl h0 []).trans K1 all0)
  exact r_ref A rfl rfl rfl d5_11 (by decide) (by decide) (⟨b5, rfl, K12, V2, bo11, ge4⟩)
set_option maxRecDepth 65536 in
set_option maxHeartbeats 40000000 in
theorem cp_2 (l : Launch) (Z : State) (a0 : Array Value) (hw : ∀ d ∈ tables_1, d.before a0 Z = true) (n0 : Nat) (h0 : Heap) (Z0 : n0 ≤ h0.size) (r : Addr) (x0 x1 x2 x3 x4 x5 x6 x7 x8 x9 x10 x11 x12 x13 x14 x15 : Int32) (V : AA Z h0 r .int [.int x0, .int x1, .int x2, .int x3, .int x4, .int x5, .int x6, .int x7, .int x8, .int x9, .int x10, .int x11, .int x12, .int x13, .int x14, .int x15]) (gr : n0 ≤ r) :
    Met l Z n0 y6_copyOf jdk_65_method_123_code 3 (Option.some (Jvm.ClassFile.FieldType.array Jvm.ClassFile.FieldType.int)) ({ frames := 1, cells := 1, slots := 2, locals := 18 } : Room) #[(.ref r), (.int (2 : Int32))] h0 (fun v h => ∃ b, v = some (.ref b) ∧ Keep h0 h [] ∧ AA Z h b .int [.int x0, .int x1] ∧ h0.size ≤ b ∧ n0 ≤ b) := by
  refine met_intro (own := c2_Arrays) (plainFor_of_name pn_java_util_Arrays) rfl Z0 ?_
  intro p e s m below meth c T A hnm
  refine Wp.cast (g' := mkF m 0 #[rv r, iv 2, U0] []) (by first | (simp [entryFrame, mkF, argsToLocals, Value.category, maxLocals, jv, S2, U0, iv, rv]; done) | rfl) ?_
  refine s_iloadN (pc' := 1) A d6_0 rfl rfl ?_
  refine s_aloadN (pc' := 2) A d6_1 rfl rfl rfl ?_
  refine s_arraylength (pc' := 3) (z := (16 : Int32)) A V (by show _ = ((16 : Nat) : Int); decide) d6_2 rfl ?_
  refine s_icmpY (pc' := 14) A d6_3 (by decide) (by decide) (by decide) ?_
  refine s_iloadN (pc' := 15) A d6_14 rfl rfl ?_
  refine s_newarray (pc' := 17) (aty := .int) (ty := .int) (dv := (.int (0 : Int32))) (i := 2) (cap := 2) A rfl rfl (w9 hw) (by decide) (by decide) (by decide) (by decide) (by decide) d6_15 rfl fun T h1 b2 A g3 ge4 X5 V6 => ?_
  have ne7 : r ≠ b2 := lt_ne V.lt g3
  have bo8 : h0.size ≤ b2 := le_eq (Keep.refl h0 []).1 g3
  have V6 : AA Z h1 b2 .int [.int (0 : Int32), .int (0 : Int32)] := V6
  refine s_astoreN (pc' := 18) (Ls' := #[rv r, iv 2, rv b2]) A d6_17 rfl rfl rfl ?_
  refine s_aloadN (pc' := 19) A d6_18 rfl rfl rfl ?_
  refine s_iconst (pc' := 20) (z := (0 : Int32)) A d6_19 rfl (by decide) ?_
  refine s_aloadN (pc' := 21) A d6_20 rfl rfl rfl ?_
  refine s_iconst (pc' := 22) (z := (0 : Int32)) A d6_21 rfl (by decide) ?_
  refine s_aloadN (pc' := 23) A d6_22 rfl rfl rfl ?_
  have V9 := (V.ext X5)
  refine s_arraylength (pc' := 24) (z := (16 : Int32)) A V9 (by show _ = ((16 : Nat) : Int); decide) d6_23 rfl ?_
  refine s_iloadN (pc' := 25) A d6_24 rfl rfl ?_
  refine s_static (pc' := 28) (y := y5_min) (argsL := [(.int (16 : Int32)), (.int (2 : Int32))]) (rest := [(.int (0 : Int32)), (.ref b2), (.int (0 : Int32)), (.ref r)]) A (m_min0 l Z a0 hw n0 h1 A.size (16 : Int32) (2 : Int32) (by decide)) (w34 hw) (w35 hw) (w36 hw) (w37 hw) (by decide) pd__II_I rfl (W := 4) (by decide) (by decide) (Nat.le_of_eq rfl) (by decide) (by decide) rfl rfl d6_25 rfl fun T h10 v11 A Q12 => ?_
  obtain ⟨rfl, eh⟩ := Q12
  rw [eh] at A
  refine Wp.stk (st' := [(.int (2 : Int32)), (.int (0 : Int32)), (.ref b2), (.int (0 : Int32)), (.ref r)]) rfl ?_
  refine s_arraycopy (pc' := 31) (W := 0) (i := 0) (j := 0) (cnt := 2) A (w38 hw) (w41 hw) (w39 hw) (w40 hw) V9 V6 (by simp [fits]) (by simp [fits]) rfl (by decide) (by decide) (by decide) (Nat.le_of_ble_eq_true rfl) (Nat.le_of_ble_eq_true rfl) ge4 (by decide) (Nat.le_of_eq rfl) (by decide) rfl d6_28 rfl fun T h13 A K14 V15 => ?_
  have V15 : AA Z h13 b2 .int [.int x0, .int x1] := V15
  refine s_aloadN (pc' := 32) A d6_31 rfl rfl rfl ?_
  have K16 := (((Keep.refl h0 []).ext X5).trans K14 (allS (Or.inr bo8) all0))
  exact r_ref A rfl rfl rfl d6_32 (by decide) (by decide) (⟨b2, rfl, K16, V15, bo8, ge4⟩)
set_option maxRecDepth 65536 in
set_option maxHeartbeats 40000000 in
theorem l_toarr2 (l : Launch) (Z : State) (a0 : Array Value) (hw : ∀ d ∈ tables_1, d.before a0 Z = true) (n0 : Nat) (h0 : Heap) (Z0 : n0 ≤ h0.size) (a arr : Addr) (x0 x1 x2 x3 x4 x5 x6 x7 x8 x9 x10 x11 x12 x13 x14 x15 : Int32) (H : Lst Z n0 h0 a arr (2 : Int32) [.int x0, .int x1, .int x2, .int x3, .int x4, .int x5, .int x6, .int x7, .int x8, .int x9, .int x10, .int x11, .int x12, .int x13, .int x14, .int x15]) :
    Met l Z n0 y7_toArray prog_49_method_8_code 1 (Option.some (Jvm.ClassFile.FieldType.array Jvm.ClassFile.FieldType.int)) ({ frames := 2, cells := 1, slots := 2, locals := 32 } : Room) #[(.ref a)] h0 (fun v h => ∃ b, v = some (.ref b) ∧ Keep h0 h [] ∧ AA Z h b .int [.int x0, .int x1] ∧ h0.size ≤ b ∧ n0 ≤ b) := by
  refine met_intro (own := c0_IntList) (plainFor_of_name pn_com_example_otab_otab_tableau_IntList) rfl Z0 ?_
  intro p e s m below meth c T A hnm
  refine Wp.cast (g' := mkF m 0 #[rv a] []) (by first | (simp [entryFrame, mkF, argsToLocals, Value.category, maxLocals, jv, S2, U0, iv, rv]; done) | rfl) ?_
  obtain ⟨E, Fv, Fs, V, ne, ga, gr⟩ := H
  refine s_aloadN (pc' := 1) A d5_0 rfl rfl rfl ?_
  refine s_getfield (pc' := 4) (host := "") A (Or.inl (w10 hw)) Via.refl Fv d5_1 rfl fun T A => ?_
  refine s_aloadN (pc' := 5) A d5_4 rfl rfl rfl ?_
  refine s_getfield (pc' := 8) (host := "") A (Or.inl (w18 hw)) Via.refl Fs d5_5 rfl fun T A => ?_
  refine s_static (pc' := 11) (y := y6_copyOf) (argsL := [(.ref arr), (.int (2 : Int32))]) (rest := []) A (cp_2 l Z a0 hw n0 h0 A.size arr x0 x1 x2 x3 x4 x5 x6 x7 x8 x9 x10 x11 x12 x13 x14 x15 V gr) (w30 hw) (w31 hw) (w32 hw) (w33 hw) (by decide) pd___II__I rfl (W := 0) (by decide) (by decide) (Nat.le_of_eq rfl) (by decide) (by decide) rfl rfl d5_8 rfl fun T h6 v7 A Q8 => ?_
  obtain ⟨b5, rfl, K1, V2, g3, ge4⟩ := Q8
  have ne9 : a ≠ b5 := Nat.ne_of_lt (Nat.lt_of_lt_of_le E.lt g3)
  have ne10 : arr ≠ b5 := Nat.ne_of_lt (Nat.lt_of_lt_of_le V.lt g3)
  have bo11 : h0.size ≤ b5 := Nat.le_trans (Keep.refl h0 []).1 g3
  refine Wp.stk (st' := [(.ref b5)]) rfl ?_
  have K12 := ((Keep.refl h0 []).trans K1 all0)
  exact r_ref A rfl rfl rfl d5_11 (by decide) (by decide) (⟨b5, rfl, K12, V2, bo11, ge4⟩)
set_option maxRecDepth 65536 in
set_option maxHeartbeats 40000000 in
theorem cp_3 (l : Launch) (Z : State) (a0 : Array Value) (hw : ∀ d ∈ tables_1, d.before a0 Z = true) (n0 : Nat) (h0 : Heap) (Z0 : n0 ≤ h0.size) (r : Addr) (x0 x1 x2 x3 x4 x5 x6 x7 x8 x9 x10 x11 x12 x13 x14 x15 : Int32) (V : AA Z h0 r .int [.int x0, .int x1, .int x2, .int x3, .int x4, .int x5, .int x6, .int x7, .int x8, .int x9, .int x10, .int x11, .int x12, .int x13, .int x14, .int x15]) (gr : n0 ≤ r) :
    Met l Z n0 y6_copyOf jdk_65_method_123_code 3 (Option.some (Jvm.ClassFile.FieldType.array Jvm.ClassFile.FieldType.int)) ({ frames := 1, cells := 1, slots := 3, locals := 18 } : Room) #[(.ref r), (.int (3 : Int32))] h0 (fun v h => ∃ b, v = some (.ref b) ∧ Keep h0 h [] ∧ AA Z h b .int [.int x0, .int x1, .int x2] ∧ h0.size ≤ b ∧ n0 ≤ b) := by
  refine met_intro (own := c2_Arrays) (plainFor_of_name pn_java_util_Arrays) rfl Z0 ?_
  intro p e s m below meth c T A hnm
  refine Wp.cast (g' := mkF m 0 #[rv r, iv 3, U0] []) (by first | (simp [entryFrame, mkF, argsToLocals, Value.category, maxLocals, jv, S2, U0, iv, rv]; done) | rfl) ?_
  refine s_iloadN (pc' := 1) A d6_0 rfl rfl ?_
  refine s_aloadN (pc' := 2) A d6_1 rfl rfl rfl ?_
  refine s_arraylength (pc' := 3) (z := (16 : Int32)) A V (by show _ = ((16 : Nat) : Int); decide) d6_2 rfl ?_
  refine s_icmpY (pc' := 14) A d6_3 (by decide) (by decide) (by decide) ?_
  refine s_iloadN (pc' := 15) A d6_14 rfl rfl ?_
  refine s_newarray (pc' := 17) (aty := .int) (ty := .int) (dv := (.int (0 : Int32))) (i := 3) (cap := 3) A rfl rfl (w9 hw) (by decide) (by decide) (by decide) (by decide) (by decide) d6_15 rfl fun T h1 b2 A g3 ge4 X5 V6 => ?_
  have ne7 : r ≠ b2 := lt_ne V.lt g3
  have bo8 : h0.size ≤ b2 := le_eq (Keep.refl h0 []).1 g3
  have V6 : AA Z h1 b2 .int [.int (0 : Int32), .int (0 : Int32), .int (0 : Int32)] := V6
  refine s_astoreN (pc' := 18) (Ls' := #[rv r, iv 3, rv b2]) A d6_17 rfl rfl rfl ?_
  refine s_aloadN (pc' := 19) A d6_18 rfl rfl rfl ?_
  refine s_iconst (pc' := 20) (z := (0 : Int32)) A d6_19 rfl (by decide) ?_
  refine s_aloadN (pc' := 21) A d6_20 rfl rfl rfl ?_
  refine s_iconst (pc' := 22) (z := (0 : Int32)) A d6_21 rfl (by decide) ?_
  refine s_aloadN (pc' := 23) A d6_22 rfl rfl rfl ?_
  have V9 := (V.ext X5)
  refine s_arraylength (pc' := 24) (z := (16 : Int32)) A V9 (by show _ = ((16 : Nat) : Int); decide) d6_23 rfl ?_
  refine s_iloadN (pc' := 25) A d6_24 rfl rfl ?_
  refine s_static (pc' := 28) (y := y5_min) (argsL := [(.int (16 : Int32)), (.int (3 : Int32))]) (rest := [(.int (0 : Int32)), (.ref b2), (.int (0 : Int32)), (.ref r)]) A (m_min0 l Z a0 hw n0 h1 A.size (16 : Int32) (3 : Int32) (by decide)) (w34 hw) (w35 hw) (w36 hw) (w37 hw) (by decide) pd__II_I rfl (W := 4) (by decide) (by decide) (Nat.le_of_eq rfl) (by decide) (by decide) rfl rfl d6_25 rfl fun T h10 v11 A Q12 => ?_
  obtain ⟨rfl, eh⟩ := Q12
  rw [eh] at A
  refine Wp.stk (st' := [(.int (3 : Int32)), (.int (0 : Int32)), (.ref b2), (.int (0 : Int32)), (.ref r)]) rfl ?_
  refine s_arraycopy (pc' := 31) (W := 0) (i := 0) (j := 0) (cnt := 3) A (w38 hw) (w41 hw) (w39 hw) (w40 hw) V9 V6 (by simp [fits]) (by simp [fits]) rfl (by decide) (by decide) (by decide) (Nat.le_of_ble_eq_true rfl) (Nat.le_of_ble_eq_true rfl) ge4 (by decide) (Nat.le_of_eq rfl) (by decide) rfl d6_28 rfl fun T h13 A K14 V15 => ?_
  have V15 : AA Z h13 b2 .int [.int x0, .int x1, .int x2] := V15
  refine s_aloadN (pc' := 32) A d6_31 rfl rfl rfl ?_
  have K16 := (((Keep.refl h0 []).ext X5).trans K14 (allS (Or.inr bo8) all0))
  exact r_ref A rfl rfl rfl d6_32 (by decide) (by decide) (⟨b2, rfl, K16, V15, bo8, ge4⟩)
set_option maxRecDepth 65536 in
set_option maxHeartbeats 40000000 in
theorem l_toarr3 (l : Launch) (Z : State) (a0 : Array Value) (hw : ∀ d ∈ tables_1, d.before a0 Z = true) (n0 : Nat) (h0 : Heap) (Z0 : n0 ≤ h0.size) (a arr : Addr) (x0 x1 x2 x3 x4 x5 x6 x7 x8 x9 x10 x11 x12 x13 x14 x15 : Int32) (H : Lst Z n0 h0 a arr (3 : Int32) [.int x0, .int x1, .int x2, .int x3, .int x4, .int x5, .int x6, .int x7, .int x8, .int x9, .int x10, .int x11, .int x12, .int x13, .int x14, .int x15]) :
    Met l Z n0 y7_toArray prog_49_method_8_code 1 (Option.some (Jvm.ClassFile.FieldType.array Jvm.ClassFile.FieldType.int)) ({ frames := 2, cells := 1, slots := 3, locals := 32 } : Room) #[(.ref a)] h0 (fun v h => ∃ b, v = some (.ref b) ∧ Keep h0 h [] ∧ AA Z h b .int [.int x0, .int x1, .int x2] ∧ h0.size ≤ b ∧ n0 ≤ b) := by
  refine met_intro (own := c0_IntList) (plainFor_of_name pn_com_example_otab_otab_tableau_IntList) rfl Z0 ?_
  intro p e s m below meth c T A hnm
  refine Wp.cast (g' := mkF m 0 #[rv a] []) (by first | (simp [entryFrame, mkF, argsToLocals, Value.category, maxLocals, jv, S2, U0, iv, rv]; done) | rfl) ?_
  obtain ⟨E, Fv, Fs, V, ne, ga, gr⟩ := H
  refine s_aloadN (pc' := 1) A d5_0 rfl rfl rfl ?_
  refine s_getfield (pc' := 4) (host := "") A (Or.inl (w10 hw)) Via.refl Fv d5_1 rfl fun T A => ?_
  refine s_aloadN (pc' := 5) A d5_4 rfl rfl rfl ?_
  refine s_getfield (pc' := 8) (host := "") A (Or.inl (w18 hw)) Via.refl Fs d5_5 rfl fun T A => ?_
  refine s_static (pc' := 11) (y := y6_copyOf) (argsL := [(.ref arr), (.int (3 : Int32))]) (rest := []) A (cp_3 l Z a0 hw n0 h0 A.size arr x0 x1 x2 x3 x4 x5 x6 x7 x8 x9 x10 x11 x12 x13 x14 x15 V gr) (w30 hw) (w31 hw) (w32 hw) (w33 hw) (by decide) pd___II__I rfl (W := 0) (by decide) (by decide) (Nat.le_of_eq rfl) (by decide) (by decide) rfl rfl d5_8 rfl fun T h6 v7 A Q8 => ?_
  obtain ⟨b5, rfl, K1, V2, g3, ge4⟩ := Q8
  have ne9 : a ≠ b5 := Nat.ne_of_lt (Nat.lt_of_lt_of_le E.lt g3)
  have ne10 : arr ≠ b5 := Nat.ne_of_lt (Nat.lt_of_lt_of_le V.lt g3)
  have bo11 : h0.size ≤ b5 := Nat.le_trans (Keep.refl h0 []).1 g3
  refine Wp.stk (st' := [(.ref b5)]) rfl ?_
  have K12 := ((Keep.refl h0 []).trans K1 all0)
  exact r_ref A rfl rfl rfl d5_11 (by decide) (by decide) (⟨b5, rfl, K12, V2, bo11, ge4⟩)
theorem own_m3 (x : Int32) : (x &&& (3 : Int32)) = 0 ∨ (x &&& (3 : Int32)) = 1 ∨ (x &&& (3 : Int32)) = 2 ∨ (x &&& (3 : Int32)) = 3 := by
  have e := c_mask x (3 : Int32) 2 (by decide) (by decide)
  have q : (x &&& (3 : Int32)).toInt = 0 ∨ (x &&& (3 : Int32)).toInt = 1 ∨ (x &&& (3 : Int32)).toInt = 2 ∨ (x &&& (3 : Int32)).toInt = 3 := by omega
  rcases q with q | q | q | q
  · exact Or.inl (Int32.toInt_inj.mp (q.trans (by decide)))
  · exact Or.inr (Or.inl (Int32.toInt_inj.mp (q.trans (by decide))))
  · exact Or.inr (Or.inr (Or.inl (Int32.toInt_inj.mp (q.trans (by decide)))))
  · exact Or.inr (Or.inr (Or.inr (Int32.toInt_inj.mp (q.trans (by decide)))))
theorem own_r1 (x : Int32) : ((x &&& (2147483647 : Int32)) % (1 : Int32)) = 0 := by
  have _ := rng32 x
  have _ : (2147483647 : Int32).toInt = 2147483647 := (by decide)
  have _ := rng32 (x &&& (2147483647 : Int32))
  have _ : (x &&& (2147483647 : Int32)).toInt = x.toInt % 2147483648 := c_mask x (2147483647 : Int32) 31 (by decide) (by decide)
  have _ : (1 : Int32).toInt = 1 := (by decide)
  have _ := rng32 ((x &&& (2147483647 : Int32)) % (1 : Int32))
  have _ := c_irem (x &&& (2147483647 : Int32)) (1 : Int32) 1 (by decide)
  exact Int32.toInt_inj.mp (by have e0 : (0 : Int32).toInt = 0 := (by decide); omega)
theorem own_r2 (x : Int32) : ((x &&& (2147483647 : Int32)) % (2 : Int32)) = 0 ∨ ((x &&& (2147483647 : Int32)) % (2 : Int32)) = 1 := by
  have _ := rng32 x
  have _ : (2147483647 : Int32).toInt = 2147483647 := (by decide)
  have _ := rng32 (x &&& (2147483647 : Int32))
  have _ : (x &&& (2147483647 : Int32)).toInt = x.toInt % 2147483648 := c_mask x (2147483647 : Int32) 31 (by decide) (by decide)
  have _ : (2 : Int32).toInt = 2 := (by decide)
  have _ := rng32 ((x &&& (2147483647 : Int32)) % (2 : Int32))
  have _ := c_irem (x &&& (2147483647 : Int32)) (2 : Int32) 2 (by decide)
  have q : ((x &&& (2147483647 : Int32)) % (2 : Int32)).toInt = 0 ∨ ((x &&& (2147483647 : Int32)) % (2 : Int32)).toInt = 1 := by omega
  rcases q with q | q
  · exact Or.inl (Int32.toInt_inj.mp (q.trans (by decide)))
  · exact Or.inr (Int32.toInt_inj.mp (q.trans (by decide)))
theorem own_r3 (x : Int32) : ((x &&& (2147483647 : Int32)) % (3 : Int32)) = 0 ∨ ((x &&& (2147483647 : Int32)) % (3 : Int32)) = 1 ∨ ((x &&& (2147483647 : Int32)) % (3 : Int32)) = 2 := by
  have _ := rng32 x
  have _ : (2147483647 : Int32).toInt = 2147483647 := (by decide)
  have _ := rng32 (x &&& (2147483647 : Int32))
  have _ : (x &&& (2147483647 : Int32)).toInt = x.toInt % 2147483648 := c_mask x (2147483647 : Int32) 31 (by decide) (by decide)
  have _ : (3 : Int32).toInt = 3 := (by decide)
  have _ := rng32 ((x &&& (2147483647 : Int32)) % (3 : Int32))
  have _ := c_irem (x &&& (2147483647 : Int32)) (3 : Int32) 3 (by decide)
  have q : ((x &&& (2147483647 : Int32)) % (3 : Int32)).toInt = 0 ∨ ((x &&& (2147483647 : Int32)) % (3 : Int32)).toInt = 1 ∨ ((x &&& (2147483647 : Int32)) % (3 : Int32)).toInt = 2 := by omega
  rcases q with q | q | q
  · exact Or.inl (Int32.toInt_inj.mp (q.trans (by decide)))
  · exact Or.inr (Or.inl (Int32.toInt_inj.mp (q.trans (by decide))))
  · exact Or.inr (Or.inr (Int32.toInt_inj.mp (q.trans (by decide))))
theorem own_r4 (x : Int32) : ((x &&& (2147483647 : Int32)) % (4 : Int32)) = 0 ∨ ((x &&& (2147483647 : Int32)) % (4 : Int32)) = 1 ∨ ((x &&& (2147483647 : Int32)) % (4 : Int32)) = 2 ∨ ((x &&& (2147483647 : Int32)) % (4 : Int32)) = 3 := by
  have _ := rng32 x
  have _ : (2147483647 : Int32).toInt = 2147483647 := (by decide)
  have _ := rng32 (x &&& (2147483647 : Int32))
  have _ : (x &&& (2147483647 : Int32)).toInt = x.toInt % 2147483648 := c_mask x (2147483647 : Int32) 31 (by decide) (by decide)
  have _ : (4 : Int32).toInt = 4 := (by decide)
  have _ := rng32 ((x &&& (2147483647 : Int32)) % (4 : Int32))
  have _ := c_irem (x &&& (2147483647 : Int32)) (4 : Int32) 4 (by decide)
  have q : ((x &&& (2147483647 : Int32)) % (4 : Int32)).toInt = 0 ∨ ((x &&& (2147483647 : Int32)) % (4 : Int32)).toInt = 1 ∨ ((x &&& (2147483647 : Int32)) % (4 : Int32)).toInt = 2 ∨ ((x &&& (2147483647 : Int32)) % (4 : Int32)).toInt = 3 := by omega
  rcases q with q | q | q | q
  · exact Or.inl (Int32.toInt_inj.mp (q.trans (by decide)))
  · exact Or.inr (Or.inl (Int32.toInt_inj.mp (q.trans (by decide))))
  · exact Or.inr (Or.inr (Or.inl (Int32.toInt_inj.mp (q.trans (by decide)))))
  · exact Or.inr (Or.inr (Or.inr (Int32.toInt_inj.mp (q.trans (by decide)))))
set_option maxRecDepth 65536 in
set_option maxHeartbeats 40000000 in
theorem rm0 (l : Launch) (Z : State) (a0 : Array Value) (hw : ∀ d ∈ tables_1, d.before a0 Z = true) (n0 : Nat) (h0 : Heap) (Z0 : n0 ≤ h0.size) (q0 q1 q2 q3 q4 q5 : Int32)  :
    Met l Z n0 x code maxLocals ret room_1 #[(.int q0), (.int q1), (.int q2), (.int q3), (.int q4), (.int q5)] h0 (fun v h => v = some (.int 1)) := by
  refine met_intro (own := c3_IntListTruncatePinLaw) (plainFor_of_name pn_com_example_otab_otab_tableau_IntListTruncatePinLaw) rfl Z0 ?_
  intro p e s m below meth c T A hnm
  refine Wp.cast (g' := mkF m 0 #[iv q0, iv q1, iv q2, iv q3, iv q4, iv q5, U0, U0, U0, U0, U0] []) (by first | (simp [entryFrame, mkF, argsToLocals, Value.category, maxLocals, jv, S2, U0, iv, rv]; done) | rfl) ?_
  refine s_iloadN (pc' := 1) A at_0 rfl rfl ?_
  refine s_iconst (pc' := 2) (z := (3 : Int32)) A at_1 rfl (by decide) ?_
  obtain ⟨mm, hmm⟩ : ∃ z, z = (q0 &&& (3 : Int32)) := ⟨_, rfl⟩
  have cm := own_m3 q0
  rw [← hmm] at cm
  rcases cm with rfl | rfl | rfl | rfl
  ·
    refine s_iand (pc' := 3) (z := (0 : Int32)) A at_2 rfl hmm.symm ?_
    refine s_istore (pc' := 5) (Ls' := #[iv q0, iv q1, iv q2, iv q3, iv q4, iv q5, iv 0, U0, U0, U0, U0]) A at_3 rfl rfl ?_
    refine s_new (pc' := 8) A (w0 hw) (w1 hw) (w2 hw) (by decide) (by decide) at_5 rfl fun T h1 b2 A g3 ge4 X5 E6 D7 => ?_
    have F8 : Fld Z h1 b2 "com/example/otab/otab/tableau/IntList" "values" "[I" .null := D7 (Or.inl (w11 hw)) (ty := (.array .int)) (by decide)
    have F9 : Fld Z h1 b2 "com/example/otab/otab/tableau/IntList" "size" "I" (.int (0 : Int32)) := D7 (Or.inl (w19 hw)) (ty := .int) (by decide)
    refine s_dup (pc' := 9) A at_8 rfl rfl ?_
    refine s_special (pc' := 12) (y := y0_init) (argsL := []) (rest := [(.ref b2)]) A (l_init l Z a0 hw n0 h1 A.size b2 E6 F8 F9 ge4) rfl (w3 hw) (w4 hw) (w2 hw) (w5 hw) (by decide) pd___V rfl (W := 1) (by decide) (by decide) (Nat.le_of_eq rfl) (by decide) (by decide) rfl rfl at_9 rfl fun T h13 v14 A Q15 => ?_
    obtain ⟨rfl, K12, r10, H11, -⟩ := Q15
    refine Wp.stk (st' := [(.ref b2)]) rfl ?_
    refine s_astore (pc' := 14) (Ls' := #[iv q0, iv q1, iv q2, iv q3, iv q4, iv q5, iv 0, rv b2, U0, U0, U0]) A at_12 rfl rfl rfl ?_
    refine s_iload (pc' := 16) A at_14 rfl rfl ?_
    refine s_ifY (pc' := 25) A at_16 (by decide) (by decide) (by decide) ?_
    refine s_iload (pc' := 27) A at_25 rfl rfl ?_
    refine s_iconst (pc' := 28) (z := (1 : Int32)) A at_27 rfl (by decide) ?_
    refine s_icmpY (pc' := 37) A at_28 (by decide) (by decide) (by decide) ?_
    refine s_iload (pc' := 39) A at_37 rfl rfl ?_
    refine s_iconst (pc' := 40) (z := (2 : Int32)) A at_39 rfl (by decide) ?_
    refine s_icmpY (pc' := 49) A at_40 (by decide) (by decide) (by decide) ?_
    refine s_iload (pc' := 51) A at_49 rfl rfl ?_
    refine s_ldcInt (pc' := 53) A at_51 rfl (w12 hw) ?_
    refine s_iand (pc' := 54) (z := (q4 &&& (2147483647 : Int32))) A at_53 rfl rfl ?_
    refine s_iload (pc' := 56) A at_54 rfl rfl ?_
    refine s_iconst (pc' := 57) (z := (1 : Int32)) A at_56 rfl (by decide) ?_
    refine s_iadd (pc' := 58) (z := (1 : Int32)) A at_57 rfl (by decide) ?_
    obtain ⟨kk, hkk⟩ : ∃ z, z = ((q4 &&& (2147483647 : Int32)) % (1 : Int32)) := ⟨_, rfl⟩
    have ck := own_r1 q4
    rw [← hkk] at ck
    subst ck
    refine s_irem (pc' := 59) (z := (0 : Int32)) A at_58 rfl (by decide) hkk.symm ?_
    refine s_istore (pc' := 61) (Ls' := #[iv q0, iv q1, iv q2, iv q3, iv q4, iv q5, iv 0, rv b2, iv 0, U0, U0]) A at_59 rfl rfl ?_
    refine s_aload (pc' := 63) A at_61 rfl rfl rfl ?_
    refine s_iload (pc' := 65) A at_63 rfl rfl ?_
    refine s_virtual (pc' := 68) (y := y4_truncate) (argsL := [(.int (0 : Int32))]) (rest := []) (z := y4_truncate) A H11.1 (l_trunc l Z a0 hw n0 h13 A.size b2 r10 (0 : Int32) [.int (0 : Int32), .int (0 : Int32), .int (0 : Int32), .int (0 : Int32), .int (0 : Int32), .int (0 : Int32), .int (0 : Int32), .int (0 : Int32), .int (0 : Int32), .int (0 : Int32), .int (0 : Int32), .int (0 : Int32), .int (0 : Int32), .int (0 : Int32), .int (0 : Int32), .int (0 : Int32)] (0 : Int32) H11 (by decide) (by decide)) (w13 hw) (w14 hw) (nf_same (C := "") (w16 hw)) (w16 hw) (w15 hw) (w2 hw) (w17 hw) (by decide) pd__I_V rfl (W := 0) (by decide) (by decide) (Nat.le_of_eq rfl) (by decide) (by decide) rfl rfl at_65 rfl fun T h18 v19 A Q20 => ?_
    obtain ⟨rfl, K17, H16⟩ := Q20
    refine Wp.stk (st' := []) rfl ?_
    refine s_aload (pc' := 70) A at_68 rfl rfl rfl ?_
    refine s_virtual (pc' := 73) (y := y1_size) (argsL := []) (rest := []) (z := y1_size) A H16.1 (l_size l Z a0 hw n0 h18 A.size b2 r10 (0 : Int32) [.int (0 : Int32), .int (0 : Int32), .int (0 : Int32), .int (0 : Int32), .int (0 : Int32), .int (0 : Int32), .int (0 : Int32), .int (0 : Int32), .int (0 : Int32), .int (0 : Int32), .int (0 : Int32), .int (0 : Int32), .int (0 : Int32), .int (0 : Int32), .int (0 : Int32), .int (0 : Int32)] H16) (w20 hw) (w21 hw) (nf_same (C := "") (w23 hw)) (w23 hw) (w22 hw) (w2 hw) (w24 hw) (by decide) pd___I rfl (W := 0) (by decide) (by decide) (Nat.le_of_eq rfl) (by decide) (by decide) rfl rfl at_70 rfl fun T h21 v22 A Q23 => ?_
    obtain ⟨rfl, eh⟩ := Q23
    rw [eh] at A
    refine Wp.stk (st' := [(.int (0 : Int32))]) rfl ?_
    refine s_iload (pc' := 75) A at_73 rfl rfl ?_
    refine s_icmpY (pc' := 80) A at_75 (by decide) (by decide) (by decide) ?_
    refine s_aload (pc' := 82) A at_80 rfl rfl rfl ?_
    refine s_virtual (pc' := 85) (y := y7_toArray) (argsL := []) (rest := []) (z := y7_toArray) A H16.1 (l_toarr0 l Z a0 hw n0 h18 A.size b2 r10 (0 : Int32) (0 : Int32) (0 : Int32) (0 : Int32) (0 : Int32) (0 : Int32) (0 : Int32) (0 : Int32) (0 : Int32) (0 : Int32) (0 : Int32) (0 : Int32) (0 : Int32) (0 : Int32) (0 : Int32) (0 : Int32) H16) (w25 hw) (w26 hw) (nf_same (C := "") (w28 hw)) (w28 hw) (w27 hw) (w2 hw) (w29 hw) (by decide) pd____I rfl (W := 0) (by decide) (by decide) (Nat.le_of_eq rfl) (by decide) (by decide) rfl rfl at_82 rfl fun T h30 v31 A Q32 => ?_
    obtain ⟨b29, rfl, K25, V26, g27, ge28⟩ := Q32
    have H24 := H16.keep K25 nin0 nin0
    have ne33 : b2 ≠ b29 := Nat.ne_of_lt (Nat.lt_of_lt_of_le H16.1.lt g27)
    have ne34 : r10 ≠ b29 := Nat.ne_of_lt (Nat.lt_of_lt_of_le H16.2.2.2.1.lt g27)
    refine Wp.stk (st' := [(.ref b29)]) rfl ?_
    refine s_astore (pc' := 87) (Ls' := #[iv q0, iv q1, iv q2, iv q3, iv q4, iv q5, iv 0, rv b2, iv 0, rv b29, U0]) A at_85 rfl rfl rfl ?_
    refine s_aload (pc' := 89) A at_87 rfl rfl rfl ?_
    refine s_arraylength (pc' := 90) (z := (0 : Int32)) A V26 (by show _ = ((0 : Nat) : Int); decide) at_89 rfl ?_
    refine s_iload (pc' := 92) A at_90 rfl rfl ?_
    refine s_icmpY (pc' := 97) A at_92 (by decide) (by decide) (by decide) ?_
    refine s_iconst (pc' := 98) (z := (1 : Int32)) A at_97 rfl (by decide) ?_
    refine s_istore (pc' := 100) (Ls' := #[iv q0, iv q1, iv q2, iv q3, iv q4, iv q5, iv 0, rv b2, iv 0, rv b29, iv 1]) A at_98 rfl rfl ?_
    refine s_iload (pc' := 102) A at_100 rfl rfl ?_
    refine s_ifY (pc' := 125) A at_102 (by decide) (by decide) (by decide) ?_
    refine s_iload (pc' := 127) A at_125 rfl rfl ?_
    refine s_iconst (pc' := 128) (z := (1 : Int32)) A at_127 rfl (by decide) ?_
    refine s_icmpY (pc' := 151) A at_128 (by decide) (by decide) (by decide) ?_
    refine s_iload (pc' := 153) A at_151 rfl rfl ?_
    refine s_iconst (pc' := 154) (z := (2 : Int32)) A at_153 rfl (by decide) ?_
    refine s_icmpY (pc' := 177) A at_154 (by decide) (by decide) (by decide) ?_
    refine s_aload (pc' := 179) A at_177 rfl rfl rfl ?_
    refine s_iload (pc' := 181) A at_179 rfl rfl ?_
    refine s_virtual (pc' := 184) (y := y3_add) (argsL := [(.int q5)]) (rest := []) (z := y3_add) A H24.1 (l_add l Z a0 hw n0 h30 A.size b2 r10 (0 : Int32) [.int (0 : Int32), .int (0 : Int32), .int (0 : Int32), .int (0 : Int32), .int (0 : Int32), .int (0 : Int32), .int (0 : Int32), .int (0 : Int32), .int (0 : Int32), .int (0 : Int32), .int (0 : Int32), .int (0 : Int32), .int (0 : Int32), .int (0 : Int32), .int (0 : Int32), .int (0 : Int32)] q5 (1 : Int32) (16 : Int32) 0 [.int q5, .int (0 : Int32), .int (0 : Int32), .int (0 : Int32), .int (0 : Int32), .int (0 : Int32), .int (0 : Int32), .int (0 : Int32), .int (0 : Int32), .int (0 : Int32), .int (0 : Int32), .int (0 : Int32), .int (0 : Int32), .int (0 : Int32), .int (0 : Int32), .int (0 : Int32)] H24 (by decide) (Nat.le_of_ble_eq_true rfl) (by show _ = ((16 : Nat) : Int); decide) (by decide) rfl) (w42 hw) (w43 hw) (nf_same (C := "") (w45 hw)) (w45 hw) (w44 hw) (w2 hw) (w46 hw) (by decide) pd__I_V rfl (W := 0) (by decide) (by decide) (Nat.le_of_eq rfl) (by decide) (by decide) rfl rfl at_181 rfl fun T h37 v38 A Q39 => ?_
    obtain ⟨rfl, K36, H35⟩ := Q39
    refine Wp.stk (st' := []) rfl ?_
    refine s_iload (pc' := 186) A at_184 rfl rfl ?_
    refine s_ifN (pc' := 189) A at_186 rfl (by decide) ?_
    refine s_aload (pc' := 191) A at_189 rfl rfl rfl ?_
    refine s_virtual (pc' := 194) (y := y1_size) (argsL := []) (rest := []) (z := y1_size) A H35.1 (l_size l Z a0 hw n0 h37 A.size b2 r10 (1 : Int32) [.int q5, .int (0 : Int32), .int (0 : Int32), .int (0 : Int32), .int (0 : Int32), .int (0 : Int32), .int (0 : Int32), .int (0 : Int32), .int (0 : Int32), .int (0 : Int32), .int (0 : Int32), .int (0 : Int32), .int (0 : Int32), .int (0 : Int32), .int (0 : Int32), .int (0 : Int32)] H35) (w20 hw) (w21 hw) (nf_same (C := "") (w23 hw)) (w23 hw) (w22 hw) (w2 hw) (w24 hw) (by decide) pd___I rfl (W := 0) (by decide) (by decide) (Nat.le_of_eq rfl) (by decide) (by decide) rfl rfl at_191 rfl fun T h40 v41 A Q42 => ?_
    obtain ⟨rfl, eh⟩ := Q42
    rw [eh] at A
    refine Wp.stk (st' := [(.int (1 : Int32))]) rfl ?_
    refine s_iload (pc' := 196) A at_194 rfl rfl ?_
    refine s_iconst (pc' := 197) (z := (1 : Int32)) A at_196 rfl (by decide) ?_
    refine s_iadd (pc' := 198) (z := (1 : Int32)) A at_197 rfl (by decide) ?_
    refine s_icmpN (pc' := 201) A at_198 rfl (by decide) ?_
    refine s_aload (pc' := 203) A at_201 rfl rfl rfl ?_
    refine s_iload (pc' := 205) A at_203 rfl rfl ?_
    refine s_virtual (pc' := 208) (y := y2_get) (argsL := [(.int (0 : Int32))]) (rest := []) (z := y2_get) A H35.1 (l_get l Z a0 hw n0 h37 A.size b2 r10 (1 : Int32) [.int q5, .int (0 : Int32), .int (0 : Int32), .int (0 : Int32), .int (0 : Int32), .int (0 : Int32), .int (0 : Int32), .int (0 : Int32), .int (0 : Int32), .int (0 : Int32), .int (0 : Int32), .int (0 : Int32), .int (0 : Int32), .int (0 : Int32), .int (0 : Int32), .int (0 : Int32)] (0 : Int32) 0 q5 H35 (by decide) rfl (by decide)) (w47 hw) (w48 hw) (nf_same (C := "") (w50 hw)) (w50 hw) (w49 hw) (w2 hw) (w51 hw) (by decide) pd__I_I rfl (W := 0) (by decide) (by decide) (Nat.le_of_eq rfl) (by decide) (by decide) rfl rfl at_205 rfl fun T h43 v44 A Q45 => ?_
    obtain ⟨rfl, eh⟩ := Q45
    rw [eh] at A
    refine Wp.stk (st' := [(.int q5)]) rfl ?_
    refine s_iload (pc' := 210) A at_208 rfl rfl ?_
    refine s_icmpN (pc' := 213) A at_210 rfl (teq (rfl : q5 = q5)).2 ?_
    refine s_iconst (pc' := 214) (z := (1 : Int32)) A at_213 rfl (by decide) ?_
    refine s_goto (pc' := 218) A at_214 (by decide) (by decide) ?_
    refine s_istore (pc' := 220) (Ls' := #[iv q0, iv q1, iv q2, iv q3, iv q4, iv q5, iv 0, rv b2, iv 0, rv b29, iv 1]) A at_218 rfl rfl ?_
    refine s_iload (pc' := 222) A at_220 rfl rfl ?_
    exact r_bool A rfl (by decide) at_222 (by decide) (by decide) (rfl)
  ·
    refine s_iand (pc' := 3) (z := (1 : Int32)) A at_2 rfl hmm.symm ?_
    refine s_istore (pc' := 5) (Ls' := #[iv q0, iv q1, iv q2, iv q3, iv q4, iv q5, iv 1, U0, U0, U0, U0]) A at_3 rfl rfl ?_
    refine s_new (pc' := 8) A (w0 hw) (w1 hw) (w2 hw) (by decide) (by decide) at_5 rfl fun T h46 b47 A g48 ge49 X50 E51 D52 => ?_
    have F53 : Fld Z h46 b47 "com/example/otab/otab/tableau/IntList" "values" "[I" .null := D52 (Or.inl (w11 hw)) (ty := (.array .int)) (by decide)
    have F54 : Fld Z h46 b47 "com/example/otab/otab/tableau/IntList" "size" "I" (.int (0 : Int32)) := D52 (Or.inl (w19 hw)) (ty := .int) (by decide)
    refine s_dup (pc' := 9) A at_8 rfl rfl ?_
    refine s_special (pc' := 12) (y := y0_init) (argsL := []) (rest := [(.ref b47)]) A (l_init l Z a0 hw n0 h46 A.size b47 E51 F53 F54 ge49) rfl (w3 hw) (w4 hw) (w2 hw) (w5 hw) (by decide) pd___V rfl (W := 1) (by decide) (by decide) (Nat.le_of_eq rfl) (by decide) (by decide) rfl rfl at_9 rfl fun T h58 v59 A Q60 => ?_
    obtain ⟨rfl, K57, r55, H56, -⟩ := Q60
    refine Wp.stk (st' := [(.ref b47)]) rfl ?_
    refine s_astore (pc' := 14) (Ls' := #[iv q0, iv q1, iv q2, iv q3, iv q4, iv q5, iv 1, rv b47, U0, U0, U0]) A at_12 rfl rfl rfl ?_
    refine s_iload (pc' := 16) A at_14 rfl rfl ?_
    refine s_ifN (pc' := 19) A at_16 rfl (by decide) ?_
    refine s_aload (pc' := 21) A at_19 rfl rfl rfl ?_
    refine s_iloadN (pc' := 22) A at_21 rfl rfl ?_
    refine s_virtual (pc' := 25) (y := y3_add) (argsL := [(.int q1)]) (rest := []) (z := y3_add) A H56.1 (l_add l Z a0 hw n0 h58 A.size b47 r55 (0 : Int32) [.int (0 : Int32), .int (0 : Int32), .int (0 : Int32), .int (0 : Int32), .int (0 : Int32), .int (0 : Int32), .int (0 : Int32), .int (0 : Int32), .int (0 : Int32), .int (0 : Int32), .int (0 : Int32), .int (0 : Int32), .int (0 : Int32), .int (0 : Int32), .int (0 : Int32), .int (0 : Int32)] q1 (1 : Int32) (16 : Int32) 0 [.int q1, .int (0 : Int32), .int (0 : Int32), .int (0 : Int32), .int (0 : Int32), .int (0 : Int32), .int (0 : Int32), .int (0 : Int32), .int (0 : Int32), .int (0 : Int32), .int (0 : Int32), .int (0 : Int32), .int (0 : Int32), .int (0 : Int32), .int (0 : Int32), .int (0 : Int32)] H56 (by decide) (Nat.le_of_ble_eq_true rfl) (by show _ = ((16 : Nat) : Int); decide) (by decide) rfl) (w42 hw) (w43 hw) (nf_same (C := "") (w45 hw)) (w45 hw) (w44 hw) (w2 hw) (w46 hw) (by decide) pd__I_V rfl (W := 0) (by decide) (by decide) (Nat.le_of_eq rfl) (by decide) (by decide) rfl rfl at_22 rfl fun T h63 v64 A Q65 => ?_
    obtain ⟨rfl, K62, H61⟩ := Q65
    refine Wp.stk (st' := []) rfl ?_
    refine s_iload (pc' := 27) A at_25 rfl rfl ?_
    refine s_iconst (pc' := 28) (z := (1 : Int32)) A at_27 rfl (by decide) ?_
    refine s_icmpY (pc' := 37) A at_28 (by decide) (by decide) (by decide) ?_
    refine s_iload (pc' := 39) A at_37 rfl rfl ?_
    refine s_iconst (pc' := 40) (z := (2 : Int32)) A at_39 rfl (by decide) ?_
    refine s_icmpY (pc' := 49) A at_40 (by decide) (by decide) (by decide) ?_
    refine s_iload (pc' := 51) A at_49 rfl rfl ?_
    refine s_ldcInt (pc' := 53) A at_51 rfl (w12 hw) ?_
    refine s_iand (pc' := 54) (z := (q4 &&& (2147483647 : Int32))) A at_53 rfl rfl ?_
    refine s_iload (pc' := 56) A at_54 rfl rfl ?_
    refine s_iconst (pc' := 57) (z := (1 : Int32)) A at_56 rfl (by decide) ?_
    refine s_iadd (pc' := 58) (z := (2 : Int32)) A at_57 rfl (by decide) ?_
    obtain ⟨kk, hkk⟩ : ∃ z, z = ((q4 &&& (2147483647 : Int32)) % (2 : Int32)) := ⟨_, rfl⟩
    have ck := own_r2 q4
    rw [← hkk] at ck
    rcases ck with rfl | rfl
    ·
      refine s_irem (pc' := 59) (z := (0 : Int32)) A at_58 rfl (by decide) hkk.symm ?_
      refine s_istore (pc' := 61) (Ls' := #[iv q0, iv q1, iv q2, iv q3, iv q4, iv q5, iv 1, rv b47, iv 0, U0, U0]) A at_59 rfl rfl ?_
      refine s_aload (pc' := 63) A at_61 rfl rfl rfl ?_
      refine s_iload (pc' := 65) A at_63 rfl rfl ?_
      refine s_virtual (pc' := 68) (y := y4_truncate) (argsL := [(.int (0 : Int32))]) (rest := []) (z := y4_truncate) A H61.1 (l_trunc l Z a0 hw n0 h63 A.size b47 r55 (1 : Int32) [.int q1, .int (0 : Int32), .int (0 : Int32), .int (0 : Int32), .int (0 : Int32), .int (0 : Int32), .int (0 : Int32), .int (0 : Int32), .int (0 : Int32), .int (0 : Int32), .int (0 : Int32), .int (0 : Int32), .int (0 : Int32), .int (0 : Int32), .int (0 : Int32), .int (0 : Int32)] (0 : Int32) H61 (by decide) (by decide)) (w13 hw) (w14 hw) (nf_same (C := "") (w16 hw)) (w16 hw) (w15 hw) (w2 hw) (w17 hw) (by decide) pd__I_V rfl (W := 0) (by decide) (by decide) (Nat.le_of_eq rfl) (by decide) (by decide) rfl rfl at_65 rfl fun T h68 v69 A Q70 => ?_
      obtain ⟨rfl, K67, H66⟩ := Q70
      refine Wp.stk (st' := []) rfl ?_
      refine s_aload (pc' := 70) A at_68 rfl rfl rfl ?_
      refine s_virtual (pc' := 73) (y := y1_size) (argsL := []) (rest := []) (z := y1_size) A H66.1 (l_size l Z a0 hw n0 h68 A.size b47 r55 (0 : Int32) [.int q1, .int (0 : Int32), .int (0 : Int32), .int (0 : Int32), .int (0 : Int32), .int (0 : Int32), .int (0 : Int32), .int (0 : Int32), .int (0 : Int32), .int (0 : Int32), .int (0 : Int32), .int (0 : Int32), .int (0 : Int32), .int (0 : Int32), .int (0 : Int32), .int (0 : Int32)] H66) (w20 hw) (w21 hw) (nf_same (C := "") (w23 hw)) (w23 hw) (w22 hw) (w2 hw) (w24 hw) (by decide) pd___I rfl (W := 0) (by decide) (by decide) (Nat.le_of_eq rfl) (by decide) (by decide) rfl rfl at_70 rfl fun T h71 v72 A Q73 => ?_
      obtain ⟨rfl, eh⟩ := Q73
      rw [eh] at A
      refine Wp.stk (st' := [(.int (0 : Int32))]) rfl ?_
      refine s_iload (pc' := 75) A at_73 rfl rfl ?_
      refine s_icmpY (pc' := 80) A at_75 (by decide) (by decide) (by decide) ?_
      refine s_aload (pc' := 82) A at_80 rfl rfl rfl ?_
      refine s_virtual (pc' := 85) (y := y7_toArray) (argsL := []) (rest := []) (z := y7_toArray) A H66.1 (l_toarr0 l Z a0 hw n0 h68 A.size b47 r55 q1 (0 : Int32) (0 : Int32) (0 : Int32) (0 : Int32) (0 : Int32) (0 : Int32) (0 : Int32) (0 : Int32) (0 : Int32) (0 : Int32) (0 : Int32) (0 : Int32) (0 : Int32) (0 : Int32) (0 : Int32) H66) (w25 hw) (w26 hw) (nf_same (C := "") (w28 hw)) (w28 hw) (w27 hw) (w2 hw) (w29 hw) (by decide) pd____I rfl (W := 0) (by decide) (by decide) (Nat.le_of_eq rfl) (by decide) (by decide) rfl rfl at_82 rfl fun T h80 v81 A Q82 => ?_
      obtain ⟨b79, rfl, K75, V76, g77, ge78⟩ := Q82
      have H74 := H66.keep K75 nin0 nin0
      have ne83 : b47 ≠ b79 := Nat.ne_of_lt (Nat.lt_of_lt_of_le H66.1.lt g77)
      have ne84 : r55 ≠ b79 := Nat.ne_of_lt (Nat.lt_of_lt_of_le H66.2.2.2.1.lt g77)
      refine Wp.stk (st' := [(.ref b79)]) rfl ?_
      refine s_astore (pc' := 87) (Ls' := #[iv q0, iv q1, iv q2, iv q3, iv q4, iv q5, iv 1, rv b47, iv 0, rv b79, U0]) A at_85 rfl rfl rfl ?_
      refine s_aload (pc' := 89) A at_87 rfl rfl rfl ?_
      refine s_arraylength (pc' := 90) (z := (0 : Int32)) A V76 (by show _ = ((0 : Nat) : Int); decide) at_89 rfl ?_
      refine s_iload (pc' := 92) A at_90 rfl rfl ?_
      refine s_icmpY (pc' := 97) A at_92 (by decide) (by decide) (by decide) ?_
      refine s_iconst (pc' := 98) (z := (1 : Int32)) A at_97 rfl (by decide) ?_
      refine s_istore (pc' := 100) (Ls' := #[iv q0, iv q1, iv q2, iv q3, iv q4, iv q5, iv 1, rv b47, iv 0, rv b79, iv 1]) A at_98 rfl rfl ?_
      refine s_iload (pc' := 102) A at_100 rfl rfl ?_
      refine s_ifY (pc' := 125) A at_102 (by decide) (by decide) (by decide) ?_
      refine s_iload (pc' := 127) A at_125 rfl rfl ?_
      refine s_iconst (pc' := 128) (z := (1 : Int32)) A at_127 rfl (by decide) ?_
      refine s_icmpY (pc' := 151) A at_128 (by decide) (by decide) (by decide) ?_
      refine s_iload (pc' := 153) A at_151 rfl rfl ?_
      refine s_iconst (pc' := 154) (z := (2 : Int32)) A at_153 rfl (by decide) ?_
      refine s_icmpY (pc' := 177) A at_154 (by decide) (by decide) (by decide) ?_
      refine s_aload (pc' := 179) A at_177 rfl rfl rfl ?_
      refine s_iload (pc' := 181) A at_179 rfl rfl ?_
      refine s_virtual (pc' := 184) (y := y3_add) (argsL := [(.int q5)]) (rest := []) (z := y3_add) A H74.1 (l_add l Z a0 hw n0 h80 A.size b47 r55 (0 : Int32) [.int q1, .int (0 : Int32), .int (0 : Int32), .int (0 : Int32), .int (0 : Int32), .int (0 : Int32), .int (0 : Int32), .int (0 : Int32), .int (0 : Int32), .int (0 : Int32), .int (0 : Int32), .int (0 : Int32), .int (0 : Int32), .int (0 : Int32), .int (0 : Int32), .int (0 : Int32)] q5 (1 : Int32) (16 : Int32) 0 [.int q5, .int (0 : Int32), .int (0 : Int32), .int (0 : Int32), .int (0 : Int32), .int (0 : Int32), .int (0 : Int32), .int (0 : Int32), .int (0 : Int32), .int (0 : Int32), .int (0 : Int32), .int (0 : Int32), .int (0 : Int32), .int (0 : Int32), .int (0 : Int32), .int (0 : Int32)] H74 (by decide) (Nat.le_of_ble_eq_true rfl) (by show _ = ((16 : Nat) : Int); decide) (by decide) rfl) (w42 hw) (w43 hw) (nf_same (C := "") (w45 hw)) (w45 hw) (w44 hw) (w2 hw) (w46 hw) (by decide) pd__I_V rfl (W := 0) (by decide) (by decide) (Nat.le_of_eq rfl) (by decide) (by decide) rfl rfl at_181 rfl fun T h87 v88 A Q89 => ?_
      obtain ⟨rfl, K86, H85⟩ := Q89
      refine Wp.stk (st' := []) rfl ?_
      refine s_iload (pc' := 186) A at_184 rfl rfl ?_
      refine s_ifN (pc' := 189) A at_186 rfl (by decide) ?_
      refine s_aload (pc' := 191) A at_189 rfl rfl rfl ?_
      refine s_virtual (pc' := 194) (y := y1_size) (argsL := []) (rest := []) (z := y1_size) A H85.1 (l_size l Z a0 hw n0 h87 A.size b47 r55 (1 : Int32) [.int q5, .int (0 : Int32), .int (0 : Int32), .int (0 : Int32), .int (0 : Int32), .int (0 : Int32), .int (0 : Int32), .int (0 : Int32), .int (0 : Int32), .int (0 : Int32), .int (0 : Int32), .int (0 : Int32), .int (0 : Int32), .int (0 : Int32), .int (0 : Int32), .int (0 : Int32)] H85) (w20 hw) (w21 hw) (nf_same (C := "") (w23 hw)) (w23 hw) (w22 hw) (w2 hw) (w24 hw) (by decide) pd___I rfl (W := 0) (by decide) (by decide) (Nat.le_of_eq rfl) (by decide) (by decide) rfl rfl at_191 rfl fun T h90 v91 A Q92 => ?_
      obtain ⟨rfl, eh⟩ := Q92
      rw [eh] at A
      refine Wp.stk (st' := [(.int (1 : Int32))]) rfl ?_
      refine s_iload (pc' := 196) A at_194 rfl rfl ?_
      refine s_iconst (pc' := 197) (z := (1 : Int32)) A at_196 rfl (by decide) ?_
      refine s_iadd (pc' := 198) (z := (1 : Int32)) A at_197 rfl (by decide) ?_
      refine s_icmpN (pc' := 201) A at_198 rfl (by decide) ?_
      refine s_aload (pc' := 203) A at_201 rfl rfl rfl ?_
      refine s_iload (pc' := 205) A at_203 rfl rfl ?_
      refine s_virtual (pc' := 208) (y := y2_get) (argsL := [(.int (0 : Int32))]) (rest := []) (z := y2_get) A H85.1 (l_get l Z a0 hw n0 h87 A.size b47 r55 (1 : Int32) [.int q5, .int (0 : Int32), .int (0 : Int32), .int (0 : Int32), .int (0 : Int32), .int (0 : Int32), .int (0 : Int32), .int (0 : Int32), .int (0 : Int32), .int (0 : Int32), .int (0 : Int32), .int (0 : Int32), .int (0 : Int32), .int (0 : Int32), .int (0 : Int32), .int (0 : Int32)] (0 : Int32) 0 q5 H85 (by decide) rfl (by decide)) (w47 hw) (w48 hw) (nf_same (C := "") (w50 hw)) (w50 hw) (w49 hw) (w2 hw) (w51 hw) (by decide) pd__I_I rfl (W := 0) (by decide) (by decide) (Nat.le_of_eq rfl) (by decide) (by decide) rfl rfl at_205 rfl fun T h93 v94 A Q95 => ?_
      obtain ⟨rfl, eh⟩ := Q95
      rw [eh] at A
      refine Wp.stk (st' := [(.int q5)]) rfl ?_
      refine s_iload (pc' := 210) A at_208 rfl rfl ?_
      refine s_icmpN (pc' := 213) A at_210 rfl (teq (rfl : q5 = q5)).2 ?_
      refine s_iconst (pc' := 214) (z := (1 : Int32)) A at_213 rfl (by decide) ?_
      refine s_goto (pc' := 218) A at_214 (by decide) (by decide) ?_
      refine s_istore (pc' := 220) (Ls' := #[iv q0, iv q1, iv q2, iv q3, iv q4, iv q5, iv 1, rv b47, iv 0, rv b79, iv 1]) A at_218 rfl rfl ?_
      refine s_iload (pc' := 222) A at_220 rfl rfl ?_
      exact r_bool A rfl (by decide) at_222 (by decide) (by decide) (rfl)
    ·
      refine s_irem (pc' := 59) (z := (1 : Int32)) A at_58 rfl (by decide) hkk.symm ?_
      refine s_istore (pc' := 61) (Ls' := #[iv q0, iv q1, iv q2, iv q3, iv q4, iv q5, iv 1, rv b47, iv 1, U0, U0]) A at_59 rfl rfl ?_
      refine s_aload (pc' := 63) A at_61 rfl rfl rfl ?_
      refine s_iload (pc' := 65) A at_63 rfl rfl ?_
      refine s_virtual (pc' := 68) (y := y4_truncate) (argsL := [(.int (1 : Int32))]) (rest := []) (z := y4_truncate) A H61.1 (l_trunc l Z a0 hw n0 h63 A.size b47 r55 (1 : Int32) [.int q1, .int (0 : Int32), .int (0 : Int32), .int (0 : Int32), .int (0 : Int32), .int (0 : Int32), .int (0 : Int32), .int (0 : Int32), .int (0 : Int32), .int (0 : Int32), .int (0 : Int32), .int (0 : Int32), .int (0 : Int32), .int (0 : Int32), .int (0 : Int32), .int (0 : Int32)] (1 : Int32) H61 (by decide) (by decide)) (w13 hw) (w14 hw) (nf_same (C := "") (w16 hw)) (w16 hw) (w15 hw) (w2 hw) (w17 hw) (by decide) pd__I_V rfl (W := 0) (by decide) (by decide) (Nat.le_of_eq rfl) (by decide) (by decide) rfl rfl at_65 rfl fun T h98 v99 A Q100 => ?_
      obtain ⟨rfl, K97, H96⟩ := Q100
      refine Wp.stk (st' := []) rfl ?_
      refine s_aload (pc' := 70) A at_68 rfl rfl rfl ?_
      refine s_virtual (pc' := 73) (y := y1_size) (argsL := []) (rest := []) (z := y1_size) A H96.1 (l_size l Z a0 hw n0 h98 A.size b47 r55 (1 : Int32) [.int q1, .int (0 : Int32), .int (0 : Int32), .int (0 : Int32), .int (0 : Int32), .int (0 : Int32), .int (0 : Int32), .int (0 : Int32), .int (0 : Int32), .int (0 : Int32), .int (0 : Int32), .int (0 : Int32), .int (0 : Int32), .int (0 : Int32), .int (0 : Int32), .int (0 : Int32)] H96) (w20 hw) (w21 hw) (nf_same (C := "") (w23 hw)) (w23 hw) (w22 hw) (w2 hw) (w24 hw) (by decide) pd___I rfl (W := 0) (by decide) (by decide) (Nat.le_of_eq rfl) (by decide) (by decide) rfl rfl at_70 rfl fun T h101 v102 A Q103 => ?_
      obtain ⟨rfl, eh⟩ := Q103
      rw [eh] at A
      refine Wp.stk (st' := [(.int (1 : Int32))]) rfl ?_
      refine s_iload (pc' := 75) A at_73 rfl rfl ?_
      refine s_icmpY (pc' := 80) A at_75 (by decide) (by decide) (by decide) ?_
      refine s_aload (pc' := 82) A at_80 rfl rfl rfl ?_
      refine s_virtual (pc' := 85) (y := y7_toArray) (argsL := []) (rest := []) (z := y7_toArray) A H96.1 (l_toarr1 l Z a0 hw n0 h98 A.size b47 r55 q1 (0 : Int32) (0 : Int32) (0 : Int32) (0 : Int32) (0 : Int32) (0 : Int32) (0 : Int32) (0 : Int32) (0 : Int32) (0 : Int32) (0 : Int32) (0 : Int32) (0 : Int32) (0 : Int32) (0 : Int32) H96) (w25 hw) (w26 hw) (nf_same (C := "") (w28 hw)) (w28 hw) (w27 hw) (w2 hw) (w29 hw) (by decide) pd____I rfl (W := 0) (by decide) (by decide) (Nat.le_of_eq rfl) (by decide) (by decide) rfl rfl at_82 rfl fun T h110 v111 A Q112 => ?_
      obtain ⟨b109, rfl, K105, V106, g107, ge108⟩ := Q112
      have H104 := H96.keep K105 nin0 nin0
      have ne113 : b47 ≠ b109 := Nat.ne_of_lt (Nat.lt_of_lt_of_le H96.1.lt g107)
      have ne114 : r55 ≠ b109 := Nat.ne_of_lt (Nat.lt_of_lt_of_le H96.2.2.2.1.lt g107)
      refine Wp.stk (st' := [(.ref b109)]) rfl ?_
      refine s_astore (pc' := 87) (Ls' := #[iv q0, iv q1, iv q2, iv q3, iv q4, iv q5, iv 1, rv b47, iv 1, rv b109, U0]) A at_85 rfl rfl rfl ?_
      refine s_aload (pc' := 89) A at_87 rfl rfl rfl ?_
      refine s_arraylength (pc' := 90) (z := (1 : Int32)) A V106 (by show _ = ((1 : Nat) : Int); decide) at_89 rfl ?_
      refine s_iload (pc' := 92) A at_90 rfl rfl ?_
      refine s_icmpY (pc' := 97) A at_92 (by decide) (by decide) (by decide) ?_
      refine s_iconst (pc' := 98) (z := (1 : Int32)) A at_97 rfl (by decide) ?_
      refine s_istore (pc' := 100) (Ls' := #[iv q0, iv q1, iv q2, iv q3, iv q4, iv q5, iv 1, rv b47, iv 1, rv b109, iv 1]) A at_98 rfl rfl ?_
      refine s_iload (pc' := 102) A at_100 rfl rfl ?_
      refine s_ifN (pc' := 105) A at_102 rfl (by decide) ?_
      refine s_iload (pc' := 107) A at_105 rfl rfl ?_
      refine s_ifN (pc' := 110) A at_107 rfl (by decide) ?_
      refine s_aload (pc' := 112) A at_110 rfl rfl rfl ?_
      refine s_iconst (pc' := 113) (z := (0 : Int32)) A at_112 rfl (by decide) ?_
      refine s_iaload (pc' := 114) (i := 0) (v := (.int q1)) A V106 (by decide) rfl at_113 rfl ?_
      refine s_iloadN (pc' := 115) A at_114 rfl rfl ?_
      refine s_icmpN (pc' := 118) A at_115 rfl (teq (rfl : q1 = q1)).2 ?_
      refine s_iconst (pc' := 119) (z := (1 : Int32)) A at_118 rfl (by decide) ?_
      refine s_goto (pc' := 123) A at_119 (by decide) (by decide) ?_
      refine s_istore (pc' := 125) (Ls' := #[iv q0, iv q1, iv q2, iv q3, iv q4, iv q5, iv 1, rv b47, iv 1, rv b109, iv 1]) A at_123 rfl rfl ?_
      refine s_iload (pc' := 127) A at_125 rfl rfl ?_
      refine s_iconst (pc' := 128) (z := (1 : Int32)) A at_127 rfl (by decide) ?_
      refine s_icmpY (pc' := 151) A at_128 (by decide) (by decide) (by decide) ?_
      refine s_iload (pc' := 153) A at_151 rfl rfl ?_
      refine s_iconst (pc' := 154) (z := (2 : Int32)) A at_153 rfl (by decide) ?_
      refine s_icmpY (pc' := 177) A at_154 (by decide) (by decide) (by decide) ?_
      refine s_aload (pc' := 179) A at_177 rfl rfl rfl ?_
      refine s_iload (pc' := 181) A at_179 rfl rfl ?_
      refine s_virtual (pc' := 184) (y := y3_add) (argsL := [(.int q5)]) (rest := []) (z := y3_add) A H104.1 (l_add l Z a0 hw n0 h110 A.size b47 r55 (1 : Int32) [.int q1, .int (0 : Int32), .int (0 : Int32), .int (0 : Int32), .int (0 : Int32), .int (0 : Int32), .int (0 : Int32), .int (0 : Int32), .int (0 : Int32), .int (0 : Int32), .int (0 : Int32), .int (0 : Int32), .int (0 : Int32), .int (0 : Int32), .int (0 : Int32), .int (0 : Int32)] q5 (2 : Int32) (16 : Int32) 1 [.int q1, .int q5, .int (0 : Int32), .int (0 : Int32), .int (0 : Int32), .int (0 : Int32), .int (0 : Int32), .int (0 : Int32), .int (0 : Int32), .int (0 : Int32), .int (0 : Int32), .int (0 : Int32), .int (0 : Int32), .int (0 : Int32), .int (0 : Int32), .int (0 : Int32)] H104 (by decide) (Nat.le_of_ble_eq_true rfl) (by show _ = ((16 : Nat) : Int); decide) (by decide) rfl) (w42 hw) (w43 hw) (nf_same (C := "") (w45 hw)) (w45 hw) (w44 hw) (w2 hw) (w46 hw) (by decide) pd__I_V rfl (W := 0) (by decide) (by decide) (Nat.le_of_eq rfl) (by decide) (by decide) rfl rfl at_181 rfl fun T h117 v118 A Q119 => ?_
      obtain ⟨rfl, K116, H115⟩ := Q119
      refine Wp.stk (st' := []) rfl ?_
      refine s_iload (pc' := 186) A at_184 rfl rfl ?_
      refine s_ifN (pc' := 189) A at_186 rfl (by decide) ?_
      refine s_aload (pc' := 191) A at_189 rfl rfl rfl ?_
      refine s_virtual (pc' := 194) (y := y1_size) (argsL := []) (rest := []) (z := y1_size) A H115.1 (l_size l Z a0 hw n0 h117 A.size b47 r55 (2 : Int32) [.int q1, .int q5, .int (0 : Int32), .int (0 : Int32), .int (0 : Int32), .int (0 : Int32), .int (0 : Int32), .int (0 : Int32), .int (0 : Int32), .int (0 : Int32), .int (0 : Int32), .int (0 : Int32), .int (0 : Int32), .int (0 : Int32), .int (0 : Int32), .int (0 : Int32)] H115) (w20 hw) (w21 hw) (nf_same (C := "") (w23 hw)) (w23 hw) (w22 hw) (w2 hw) (w24 hw) (by decide) pd___I rfl (W := 0) (by decide) (by decide) (Nat.le_of_eq rfl) (by decide) (by decide) rfl rfl at_191 rfl fun T h120 v121 A Q122 => ?_
      obtain ⟨rfl, eh⟩ := Q122
      rw [eh] at A
      refine Wp.stk (st' := [(.int (2 : Int32))]) rfl ?_
      refine s_iload (pc' := 196) A at_194 rfl rfl ?_
      refine s_iconst (pc' := 197) (z := (1 : Int32)) A at_196 rfl (by decide) ?_
      refine s_iadd (pc' := 198) (z := (2 : Int32)) A at_197 rfl (by decide) ?_
      refine s_icmpN (pc' := 201) A at_198 rfl (by decide) ?_
      refine s_aload (pc' := 203) A at_201 rfl rfl rfl ?_
      refine s_iload (pc' := 205) A at_203 rfl rfl ?_
      refine s_virtual (pc' := 208) (y := y2_get) (argsL := [(.int (1 : Int32))]) (rest := []) (z := y2_get) A H115.1 (l_get l Z a0 hw n0 h117 A.size b47 r55 (2 : Int32) [.int q1, .int q5, .int (0 : Int32), .int (0 : Int32), .int (0 : Int32), .int (0 : Int32), .int (0 : Int32), .int (0 : Int32), .int (0 : Int32), .int (0 : Int32), .int (0 : Int32), .int (0 : Int32), .int (0 : Int32), .int (0 : Int32), .int (0 : Int32), .int (0 : Int32)] (1 : Int32) 1 q5 H115 (by decide) rfl (by decide)) (w47 hw) (w48 hw) (nf_same (C := "") (w50 hw)) (w50 hw) (w49 hw) (w2 hw) (w51 hw) (by decide) pd__I_I rfl (W := 0) (by decide) (by decide) (Nat.le_of_eq rfl) (by decide) (by decide) rfl rfl at_205 rfl fun T h123 v124 A Q125 => ?_
      obtain ⟨rfl, eh⟩ := Q125
      rw [eh] at A
      refine Wp.stk (st' := [(.int q5)]) rfl ?_
      refine s_iload (pc' := 210) A at_208 rfl rfl ?_
      refine s_icmpN (pc' := 213) A at_210 rfl (teq (rfl : q5 = q5)).2 ?_
      refine s_iconst (pc' := 214) (z := (1 : Int32)) A at_213 rfl (by decide) ?_
      refine s_goto (pc' := 218) A at_214 (by decide) (by decide) ?_
      refine s_istore (pc' := 220) (Ls' := #[iv q0, iv q1, iv q2, iv q3, iv q4, iv q5, iv 1, rv b47, iv 1, rv b109, iv 1]) A at_218 rfl rfl ?_
      refine s_iload (pc' := 222) A at_220 rfl rfl ?_
      exact r_bool A rfl (by decide) at_222 (by decide) (by decide) (rfl)
  ·
    refine s_iand (pc' := 3) (z := (2 : Int32)) A at_2 rfl hmm.symm ?_
    refine s_istore (pc' := 5) (Ls' := #[iv q0, iv q1, iv q2, iv q3, iv q4, iv q5, iv 2, U0, U0, U0, U0]) A at_3 rfl rfl ?_
    refine s_new (pc' := 8) A (w0 hw) (w1 hw) (w2 hw) (by decide) (by decide) at_5 rfl fun T h126 b127 A g128 ge129 X130 E131 D132 => ?_
    have F133 : Fld Z h126 b127 "com/example/otab/otab/tableau/IntList" "values" "[I" .null := D132 (Or.inl (w11 hw)) (ty := (.array .int)) (by decide)
    have F134 : Fld Z h126 b127 "com/example/otab/otab/tableau/IntList" "size" "I" (.int (0 : Int32)) := D132 (Or.inl (w19 hw)) (ty := .int) (by decide)
    refine s_dup (pc' := 9) A at_8 rfl rfl ?_
    refine s_special (pc' := 12) (y := y0_init) (argsL := []) (rest := [(.ref b127)]) A (l_init l Z a0 hw n0 h126 A.size b127 E131 F133 F134 ge129) rfl (w3 hw) (w4 hw) (w2 hw) (w5 hw) (by decide) pd___V rfl (W := 1) (by decide) (by decide) (Nat.le_of_eq rfl) (by decide) (by decide) rfl rfl at_9 rfl fun T h138 v139 A Q140 => ?_
    obtain ⟨rfl, K137, r135, H136, -⟩ := Q140
    refine Wp.stk (st' := [(.ref b127)]) rfl ?_
    refine s_astore (pc' := 14) (Ls' := #[iv q0, iv q1, iv q2, iv q3, iv q4, iv q5, iv 2, rv b127, U0, U0, U0]) A at_12 rfl rfl rfl ?_
    refine s_iload (pc' := 16) A at_14 rfl rfl ?_
    refine s_ifN (pc' := 19) A at_16 rfl (by decide) ?_
    refine s_aload (pc' := 21) A at_19 rfl rfl rfl ?_
    refine s_iloadN (pc' := 22) A at_21 rfl rfl ?_
    refine s_virtual (pc' := 25) (y := y3_add) (argsL := [(.int q1)]) (rest := []) (z := y3_add) A H136.1 (l_add l Z a0 hw n0 h138 A.size b127 r135 (0 : Int32) [.int (0 : Int32), .int (0 : Int32), .int (0 : Int32), .int (0 : Int32), .int (0 : Int32), .int (0 : Int32), .int (0 : Int32), .int (0 : Int32), .int (0 : Int32), .int (0 : Int32), .int (0 : Int32), .int (0 : Int32), .int (0 : Int32), .int (0 : Int32), .int (0 : Int32), .int (0 : Int32)] q1 (1 : Int32) (16 : Int32) 0 [.int q1, .int (0 : Int32), .int (0 : Int32), .int (0 : Int32), .int (0 : Int32), .int (0 : Int32), .int (0 : Int32), .int (0 : Int32), .int (0 : Int32), .int (0 : Int32), .int (0 : Int32), .int (0 : Int32), .int (0 : Int32), .int (0 : Int32), .int (0 : Int32), .int (0 : Int32)] H136 (by decide) (Nat.le_of_ble_eq_true rfl) (by show _ = ((16 : Nat) : Int); decide) (by decide) rfl) (w42 hw) (w43 hw) (nf_same (C := "") (w45 hw)) (w45 hw) (w44 hw) (w2 hw) (w46 hw) (by decide) pd__I_V rfl (W := 0) (by decide) (by decide) (Nat.le_of_eq rfl) (by decide) (by decide) rfl rfl at_22 rfl fun T h143 v144 A Q145 => ?_
    obtain ⟨rfl, K142, H141⟩ := Q145
    refine Wp.stk (st' := []) rfl ?_
    refine s_iload (pc' := 27) A at_25 rfl rfl ?_
    refine s_iconst (pc' := 28) (z := (1 : Int32)) A at_27 rfl (by decide) ?_
    refine s_icmpN (pc' := 31) A at_28 rfl (by decide) ?_
    refine s_aload (pc' := 33) A at_31 rfl rfl rfl ?_
    refine s_iloadN (pc' := 34) A at_33 rfl rfl ?_
    refine s_virtual (pc' := 37) (y := y3_add) (argsL := [(.int q2)]) (rest := []) (z := y3_add) A H141.1 (l_add l Z a0 hw n0 h143 A.size b127 r135 (1 : Int32) [.int q1, .int (0 : Int32), .int (0 : Int32), .int (0 : Int32), .int (0 : Int32), .int (0 : Int32), .int (0 : Int32), .int (0 : Int32), .int (0 : Int32), .int (0 : Int32), .int (0 : Int32), .int (0 : Int32), .int (0 : Int32), .int (0 : Int32), .int (0 : Int32), .int (0 : Int32)] q2 (2 : Int32) (16 : Int32) 1 [.int q1, .int q2, .int (0 : Int32), .int (0 : Int32), .int (0 : Int32), .int (0 : Int32), .int (0 : Int32), .int (0 : Int32), .int (0 : Int32), .int (0 : Int32), .int (0 : Int32), .int (0 : Int32), .int (0 : Int32), .int (0 : Int32), .int (0 : Int32), .int (0 : Int32)] H141 (by decide) (Nat.le_of_ble_eq_true rfl) (by show _ = ((16 : Nat) : Int); decide) (by decide) rfl) (w42 hw) (w43 hw) (nf_same (C := "") (w45 hw)) (w45 hw) (w44 hw) (w2 hw) (w46 hw) (by decide) pd__I_V rfl (W := 0) (by decide) (by decide) (Nat.le_of_eq rfl) (by decide) (by decide) rfl rfl at_34 rfl fun T h148 v149 A Q150 => ?_
    obtain ⟨rfl, K147, H146⟩ := Q150
    refine Wp.stk (st' := []) rfl ?_
    refine s_iload (pc' := 39) A at_37 rfl rfl ?_
    refine s_iconst (pc' := 40) (z := (2 : Int32)) A at_39 rfl (by decide) ?_
    refine s_icmpY (pc' := 49) A at_40 (by decide) (by decide) (by decide) ?_
    refine s_iload (pc' := 51) A at_49 rfl rfl ?_
    refine s_ldcInt (pc' := 53) A at_51 rfl (w12 hw) ?_
    refine s_iand (pc' := 54) (z := (q4 &&& (2147483647 : Int32))) A at_53 rfl rfl ?_
    refine s_iload (pc' := 56) A at_54 rfl rfl ?_
    refine s_iconst (pc' := 57) (z := (1 : Int32)) A at_56 rfl (by decide) ?_
    refine s_iadd (pc' := 58) (z := (3 : Int32)) A at_57 rfl (by decide) ?_
    obtain ⟨kk, hkk⟩ : ∃ z, z = ((q4 &&& (2147483647 : Int32)) % (3 : Int32)) := ⟨_, rfl⟩
    have ck := own_r3 q4
    rw [← hkk] at ck
    rcases ck with rfl | rfl | rfl
    ·
      refine s_irem (pc' := 59) (z := (0 : Int32)) A at_58 rfl (by decide) hkk.symm ?_
      refine s_istore (pc' := 61) (Ls' := #[iv q0, iv q1, iv q2, iv q3, iv q4, iv q5, iv 2, rv b127, iv 0, U0, U0]) A at_59 rfl rfl ?_
      refine s_aload (pc' := 63) A at_61 rfl rfl rfl ?_
      refine s_iload (pc' := 65) A at_63 rfl rfl ?_
      refine s_virtual (pc' := 68) (y := y4_truncate) (argsL := [(.int (0 : Int32))]) (rest := []) (z := y4_truncate) A H146.1 (l_trunc l Z a0 hw n0 h148 A.size b127 r135 (2 : Int32) [.int q1, .int q2, .int (0 : Int32), .int (0 : Int32), .int (0 : Int32), .int (0 : Int32), .int (0 : Int32), .int (0 : Int32), .int (0 : Int32), .int (0 : Int32), .int (0 : Int32), .int (0 : Int32), .int (0 : Int32), .int (0 : Int32), .int (0 : Int32), .int (0 : Int32)] (0 : Int32) H146 (by decide) (by decide)) (w13 hw) (w14 hw) (nf_same (C := "") (w16 hw)) (w16 hw) (w15 hw) (w2 hw) (w17 hw) (by decide) pd__I_V rfl (W := 0) (by decide) (by decide) (Nat.le_of_eq rfl) (by decide) (by decide) rfl rfl at_65 rfl fun T h153 v154 A Q155 => ?_
      obtain ⟨rfl, K152, H151⟩ := Q155
      refine Wp.stk (st' := []) rfl ?_
      refine s_aload (pc' := 70) A at_68 rfl rfl rfl ?_
      refine s_virtual (pc' := 73) (y := y1_size) (argsL := []) (rest := []) (z := y1_size) A H151.1 (l_size l Z a0 hw n0 h153 A.size b127 r135 (0 : Int32) [.int q1, .int q2, .int (0 : Int32), .int (0 : Int32), .int (0 : Int32), .int (0 : Int32), .int (0 : Int32), .int (0 : Int32), .int (0 : Int32), .int (0 : Int32), .int (0 : Int32), .int (0 : Int32), .int (0 : Int32), .int (0 : Int32), .int (0 : Int32), .int (0 : Int32)] H151) (w20 hw) (w21 hw) (nf_same (C := "") (w23 hw)) (w23 hw) (w22 hw) (w2 hw) (w24 hw) (by decide) pd___I rfl (W := 0) (by decide) (by decide) (Nat.le_of_eq rfl) (by decide) (by decide) rfl rfl at_70 rfl fun T h156 v157 A Q158 => ?_
      obtain ⟨rfl, eh⟩ := Q158
      rw [eh] at A
      refine Wp.stk (st' := [(.int (0 : Int32))]) rfl ?_
      refine s_iload (pc' := 75) A at_73 rfl rfl ?_
      refine s_icmpY (pc' := 80) A at_75 (by decide) (by decide) (by decide) ?_
      refine s_aload (pc' := 82) A at_80 rfl rfl rfl ?_
      refine s_virtual (pc' := 85) (y := y7_toArray) (argsL := []) (rest := []) (z := y7_toArray) A H151.1 (l_toarr0 l Z a0 hw n0 h153 A.size b127 r135 q1 q2 (0 : Int32) (0 : Int32) (0 : Int32) (0 : Int32) (0 : Int32) (0 : Int32) (0 : Int32) (0 : Int32) (0 : Int32) (0 : Int32) (0 : Int32) (0 : Int32) (0 : Int32) (0 : Int32) H151) (w25 hw) (w26 hw) (nf_same (C := "") (w28 hw)) (w28 hw) (w27 hw) (w2 hw) (w29 hw) (by decide) pd____I rfl (W := 0) (by decide) (by decide) (Nat.le_of_eq rfl) (by decide) (by decide) rfl rfl at_82 rfl fun T h165 v166 A Q167 => ?_
      obtain ⟨b164, rfl, K160, V161, g162, ge163⟩ := Q167
      have H159 := H151.keep K160 nin0 nin0
      have ne168 : b127 ≠ b164 := Nat.ne_of_lt (Nat.lt_of_lt_of_le H151.1.lt g162)
      have ne169 : r135 ≠ b164 := Nat.ne_of_lt (Nat.lt_of_lt_of_le H151.2.2.2.1.lt g162)
      refine Wp.stk (st' := [(.ref b164)]) rfl ?_
      refine s_astore (pc' := 87) (Ls' := #[iv q0, iv q1, iv q2, iv q3, iv q4, iv q5, iv 2, rv b127, iv 0, rv b164, U0]) A at_85 rfl rfl rfl ?_
      refine s_aload (pc' := 89) A at_87 rfl rfl rfl ?_
      refine s_arraylength (pc' := 90) (z := (0 : Int32)) A V161 (by show _ = ((0 : Nat) : Int); decide) at_89 rfl ?_
      refine s_iload (pc' := 92) A at_90 rfl rfl ?_
      refine s_icmpY (pc' := 97) A at_92 (by decide) (by decide) (by decide) ?_
      refine s_iconst (pc' := 98) (z := (1 : Int32)) A at_97 rfl (by decide) ?_
      refine s_istore (pc' := 100) (Ls' := #[iv q0, iv q1, iv q2, iv q3, iv q4, iv q5, iv 2, rv b127, iv 0, rv b164, iv 1]) A at_98 rfl rfl ?_
      refine s_iload (pc' := 102) A at_100 rfl rfl ?_
      refine s_ifY (pc' := 125) A at_102 (by decide) (by decide) (by decide) ?_
      refine s_iload (pc' := 127) A at_125 rfl rfl ?_
      refine s_iconst (pc' := 128) (z := (1 : Int32)) A at_127 rfl (by decide) ?_
      refine s_icmpY (pc' := 151) A at_128 (by decide) (by decide) (by decide) ?_
      refine s_iload (pc' := 153) A at_151 rfl rfl ?_
      refine s_iconst (pc' := 154) (z := (2 : Int32)) A at_153 rfl (by decide) ?_
      refine s_icmpY (pc' := 177) A at_154 (by decide) (by decide) (by decide) ?_
      refine s_aload (pc' := 179) A at_177 rfl rfl rfl ?_
      refine s_iload (pc' := 181) A at_179 rfl rfl ?_
      refine s_virtual (pc' := 184) (y := y3_add) (argsL := [(.int q5)]) (rest := []) (z := y3_add) A H159.1 (l_add l Z a0 hw n0 h165 A.size b127 r135 (0 : Int32) [.int q1, .int q2, .int (0 : Int32), .int (0 : Int32), .int (0 : Int32), .int (0 : Int32), .int (0 : Int32), .int (0 : Int32), .int (0 : Int32), .int (0 : Int32), .int (0 : Int32), .int (0 : Int32), .int (0 : Int32), .int (0 : Int32), .int (0 : Int32), .int (0 : Int32)] q5 (1 : Int32) (16 : Int32) 0 [.int q5, .int q2, .int (0 : Int32), .int (0 : Int32), .int (0 : Int32), .int (0 : Int32), .int (0 : Int32), .int (0 : Int32), .int (0 : Int32), .int (0 : Int32), .int (0 : Int32), .int (0 : Int32), .int (0 : Int32), .int (0 : Int32), .int (0 : Int32), .int (0 : Int32)] H159 (by decide) (Nat.le_of_ble_eq_true rfl) (by show _ = ((16 : Nat) : Int); decide) (by decide) rfl) (w42 hw) (w43 hw) (nf_same (C := "") (w45 hw)) (w45 hw) (w44 hw) (w2 hw) (w46 hw) (by decide) pd__I_V rfl (W := 0) (by decide) (by decide) (Nat.le_of_eq rfl) (by decide) (by decide) rfl rfl at_181 rfl fun T h172 v173 A Q174 => ?_
      obtain ⟨rfl, K171, H170⟩ := Q174
      refine Wp.stk (st' := []) rfl ?_
      refine s_iload (pc' := 186) A at_184 rfl rfl ?_
      refine s_ifN (pc' := 189) A at_186 rfl (by decide) ?_
      refine s_aload (pc' := 191) A at_189 rfl rfl rfl ?_
      refine s_virtual (pc' := 194) (y := y1_size) (argsL := []) (rest := []) (z := y1_size) A H170.1 (l_size l Z a0 hw n0 h172 A.size b127 r135 (1 : Int32) [.int q5, .int q2, .int (0 : Int32), .int (0 : Int32), .int (0 : Int32), .int (0 : Int32), .int (0 : Int32), .int (0 : Int32), .int (0 : Int32), .int (0 : Int32), .int (0 : Int32), .int (0 : Int32), .int (0 : Int32), .int (0 : Int32), .int (0 : Int32), .int (0 : Int32)] H170) (w20 hw) (w21 hw) (nf_same (C := "") (w23 hw)) (w23 hw) (w22 hw) (w2 hw) (w24 hw) (by decide) pd___I rfl (W := 0) (by decide) (by decide) (Nat.le_of_eq rfl) (by decide) (by decide) rfl rfl at_191 rfl fun T h175 v176 A Q177 => ?_
      obtain ⟨rfl, eh⟩ := Q177
      rw [eh] at A
      refine Wp.stk (st' := [(.int (1 : Int32))]) rfl ?_
      refine s_iload (pc' := 196) A at_194 rfl rfl ?_
      refine s_iconst (pc' := 197) (z := (1 : Int32)) A at_196 rfl (by decide) ?_
      refine s_iadd (pc' := 198) (z := (1 : Int32)) A at_197 rfl (by decide) ?_
      refine s_icmpN (pc' := 201) A at_198 rfl (by decide) ?_
      refine s_aload (pc' := 203) A at_201 rfl rfl rfl ?_
      refine s_iload (pc' := 205) A at_203 rfl rfl ?_
      refine s_virtual (pc' := 208) (y := y2_get) (argsL := [(.int (0 : Int32))]) (rest := []) (z := y2_get) A H170.1 (l_get l Z a0 hw n0 h172 A.size b127 r135 (1 : Int32) [.int q5, .int q2, .int (0 : Int32), .int (0 : Int32), .int (0 : Int32), .int (0 : Int32), .int (0 : Int32), .int (0 : Int32), .int (0 : Int32), .int (0 : Int32), .int (0 : Int32), .int (0 : Int32), .int (0 : Int32), .int (0 : Int32), .int (0 : Int32), .int (0 : Int32)] (0 : Int32) 0 q5 H170 (by decide) rfl (by decide)) (w47 hw) (w48 hw) (nf_same (C := "") (w50 hw)) (w50 hw) (w49 hw) (w2 hw) (w51 hw) (by decide) pd__I_I rfl (W := 0) (by decide) (by decide) (Nat.le_of_eq rfl) (by decide) (by decide) rfl rfl at_205 rfl fun T h178 v179 A Q180 => ?_
      obtain ⟨rfl, eh⟩ := Q180
      rw [eh] at A
      refine Wp.stk (st' := [(.int q5)]) rfl ?_
      refine s_iload (pc' := 210) A at_208 rfl rfl ?_
      refine s_icmpN (pc' := 213) A at_210 rfl (teq (rfl : q5 = q5)).2 ?_
      refine s_iconst (pc' := 214) (z := (1 : Int32)) A at_213 rfl (by decide) ?_
      refine s_goto (pc' := 218) A at_214 (by decide) (by decide) ?_
      refine s_istore (pc' := 220) (Ls' := #[iv q0, iv q1, iv q2, iv q3, iv q4, iv q5, iv 2, rv b127, iv 0, rv b164, iv 1]) A at_218 rfl rfl ?_
      refine s_iload (pc' := 222) A at_220 rfl rfl ?_
      exact r_bool A rfl (by decide) at_222 (by decide) (by decide) (rfl)
    ·
      refine s_irem (pc' := 59) (z := (1 : Int32)) A at_58 rfl (by decide) hkk.symm ?_
      refine s_istore (pc' := 61) (Ls' := #[iv q0, iv q1, iv q2, iv q3, iv q4, iv q5, iv 2, rv b127, iv 1, U0, U0]) A at_59 rfl rfl ?_
      refine s_aload (pc' := 63) A at_61 rfl rfl rfl ?_
      refine s_iload (pc' := 65) A at_63 rfl rfl ?_
      refine s_virtual (pc' := 68) (y := y4_truncate) (argsL := [(.int (1 : Int32))]) (rest := []) (z := y4_truncate) A H146.1 (l_trunc l Z a0 hw n0 h148 A.size b127 r135 (2 : Int32) [.int q1, .int q2, .int (0 : Int32), .int (0 : Int32), .int (0 : Int32), .int (0 : Int32), .int (0 : Int32), .int (0 : Int32), .int (0 : Int32), .int (0 : Int32), .int (0 : Int32), .int (0 : Int32), .int (0 : Int32), .int (0 : Int32), .int (0 : Int32), .int (0 : Int32)] (1 : Int32) H146 (by decide) (by decide)) (w13 hw) (w14 hw) (nf_same (C := "") (w16 hw)) (w16 hw) (w15 hw) (w2 hw) (w17 hw) (by decide) pd__I_V rfl (W := 0) (by decide) (by decide) (Nat.le_of_eq rfl) (by decide) (by decide) rfl rfl at_65 rfl fun T h183 v184 A Q185 => ?_
      obtain ⟨rfl, K182, H181⟩ := Q185
      refine Wp.stk (st' := []) rfl ?_
      refine s_aload (pc' := 70) A at_68 rfl rfl rfl ?_
      refine s_virtual (pc' := 73) (y := y1_size) (argsL := []) (rest := []) (z := y1_size) A H181.1 (l_size l Z a0 hw n0 h183 A.size b127 r135 (1 : Int32) [.int q1, .int q2, .int (0 : Int32), .int (0 : Int32), .int (0 : Int32), .int (0 : Int32), .int (0 : Int32), .int (0 : Int32), .int (0 : Int32), .int (0 : Int32), .int (0 : Int32), .int (0 : Int32), .int (0 : Int32), .int (0 : Int32), .int (0 : Int32), .int (0 : Int32)] H181) (w20 hw) (w21 hw) (nf_same (C := "") (w23 hw)) (w23 hw) (w22 hw) (w2 hw) (w24 hw) (by decide) pd___I rfl (W := 0) (by decide) (by decide) (Nat.le_of_eq rfl) (by decide) (by decide) rfl rfl at_70 rfl fun T h186 v187 A Q188 => ?_
      obtain ⟨rfl, eh⟩ := Q188
      rw [eh] at A
      refine Wp.stk (st' := [(.int (1 : Int32))]) rfl ?_
      refine s_iload (pc' := 75) A at_73 rfl rfl ?_
      refine s_icmpY (pc' := 80) A at_75 (by decide) (by decide) (by decide) ?_
      refine s_aload (pc' := 82) A at_80 rfl rfl rfl ?_
      refine s_virtual (pc' := 85) (y := y7_toArray) (argsL := []) (rest := []) (z := y7_toArray) A H181.1 (l_toarr1 l Z a0 hw n0 h183 A.size b127 r135 q1 q2 (0 : Int32) (0 : Int32) (0 : Int32) (0 : Int32) (0 : Int32) (0 : Int32) (0 : Int32) (0 : Int32) (0 : Int32) (0 : Int32) (0 : Int32) (0 : Int32) (0 : Int32) (0 : Int32) H181) (w25 hw) (w26 hw) (nf_same (C := "") (w28 hw)) (w28 hw) (w27 hw) (w2 hw) (w29 hw) (by decide) pd____I rfl (W := 0) (by decide) (by decide) (Nat.le_of_eq rfl) (by decide) (by decide) rfl rfl at_82 rfl fun T h195 v196 A Q197 => ?_
      obtain ⟨b194, rfl, K190, V191, g192, ge193⟩ := Q197
      have H189 := H181.keep K190 nin0 nin0
      have ne198 : b127 ≠ b194 := Nat.ne_of_lt (Nat.lt_of_lt_of_le H181.1.lt g192)
      have ne199 : r135 ≠ b194 := Nat.ne_of_lt (Nat.lt_of_lt_of_le H181.2.2.2.1.lt g192)
      refine Wp.stk (st' := [(.ref b194)]) rfl ?_
      refine s_astore (pc' := 87) (Ls' := #[iv q0, iv q1, iv q2, iv q3, iv q4, iv q5, iv 2, rv b127, iv 1, rv b194, U0]) A at_85 rfl rfl rfl ?_
      refine s_aload (pc' := 89) A at_87 rfl rfl rfl ?_
      refine s_arraylength (pc' := 90) (z := (1 : Int32)) A V191 (by show _ = ((1 : Nat) : Int); decide) at_89 rfl ?_
      refine s_iload (pc' := 92) A at_90 rfl rfl ?_
      refine s_icmpY (pc' := 97) A at_92 (by decide) (by decide) (by decide) ?_
      refine s_iconst (pc' := 98) (z := (1 : Int32)) A at_97 rfl (by decide) ?_
      refine s_istore (pc' := 100) (Ls' := #[iv q0, iv q1, iv q2, iv q3, iv q4, iv q5, iv 2, rv b127, iv 1, rv b194, iv 1]) A at_98 rfl rfl ?_
      refine s_iload (pc' := 102) A at_100 rfl rfl ?_
      refine s_ifN (pc' := 105) A at_102 rfl (by decide) ?_
      refine s_iload (pc' := 107) A at_105 rfl rfl ?_
      refine s_ifN (pc' := 110) A at_107 rfl (by decide) ?_
      refine s_aload (pc' := 112) A at_110 rfl rfl rfl ?_
      refine s_iconst (pc' := 113) (z := (0 : Int32)) A at_112 rfl (by decide) ?_
      refine s_iaload (pc' := 114) (i := 0) (v := (.int q1)) A V191 (by decide) rfl at_113 rfl ?_
      refine s_iloadN (pc' := 115) A at_114 rfl rfl ?_
      refine s_icmpN (pc' := 118) A at_115 rfl (teq (rfl : q1 = q1)).2 ?_
      refine s_iconst (pc' := 119) (z := (1 : Int32)) A at_118 rfl (by decide) ?_
      refine s_goto (pc' := 123) A at_119 (by decide) (by decide) ?_
      refine s_istore (pc' := 125) (Ls' := #[iv q0, iv q1, iv q2, iv q3, iv q4, iv q5, iv 2, rv b127, iv 1, rv b194, iv 1]) A at_123 rfl rfl ?_
      refine s_iload (pc' := 127) A at_125 rfl rfl ?_
      refine s_iconst (pc' := 128) (z := (1 : Int32)) A at_127 rfl (by decide) ?_
      refine s_icmpY (pc' := 151) A at_128 (by decide) (by decide) (by decide) ?_
      refine s_iload (pc' := 153) A at_151 rfl rfl ?_
      refine s_iconst (pc' := 154) (z := (2 : Int32)) A at_153 rfl (by decide) ?_
      refine s_icmpY (pc' := 177) A at_154 (by decide) (by decide) (by decide) ?_
      refine s_aload (pc' := 179) A at_177 rfl rfl rfl ?_
      refine s_iload (pc' := 181) A at_179 rfl rfl ?_
      refine s_virtual (pc' := 184) (y := y3_add) (argsL := [(.int q5)]) (rest := []) (z := y3_add) A H189.1 (l_add l Z a0 hw n0 h195 A.size b127 r135 (1 : Int32) [.int q1, .int q2, .int (0 : Int32), .int (0 : Int32), .int (0 : Int32), .int (0 : Int32), .int (0 : Int32), .int (0 : Int32), .int (0 : Int32), .int (0 : Int32), .int (0 : Int32), .int (0 : Int32), .int (0 : Int32), .int (0 : Int32), .int (0 : Int32), .int (0 : Int32)] q5 (2 : Int32) (16 : Int32) 1 [.int q1, .int q5, .int (0 : Int32), .int (0 : Int32), .int (0 : Int32), .int (0 : Int32), .int (0 : Int32), .int (0 : Int32), .int (0 : Int32), .int (0 : Int32), .int (0 : Int32), .int (0 : Int32), .int (0 : Int32), .int (0 : Int32), .int (0 : Int32), .int (0 : Int32)] H189 (by decide) (Nat.le_of_ble_eq_true rfl) (by show _ = ((16 : Nat) : Int); decide) (by decide) rfl) (w42 hw) (w43 hw) (nf_same (C := "") (w45 hw)) (w45 hw) (w44 hw) (w2 hw) (w46 hw) (by decide) pd__I_V rfl (W := 0) (by decide) (by decide) (Nat.le_of_eq rfl) (by decide) (by decide) rfl rfl at_181 rfl fun T h202 v203 A Q204 => ?_
      obtain ⟨rfl, K201, H200⟩ := Q204
      refine Wp.stk (st' := []) rfl ?_
      refine s_iload (pc' := 186) A at_184 rfl rfl ?_
      refine s_ifN (pc' := 189) A at_186 rfl (by decide) ?_
      refine s_aload (pc' := 191) A at_189 rfl rfl rfl ?_
      refine s_virtual (pc' := 194) (y := y1_size) (argsL := []) (rest := []) (z := y1_size) A H200.1 (l_size l Z a0 hw n0 h202 A.size b127 r135 (2 : Int32) [.int q1, .int q5, .int (0 : Int32), .int (0 : Int32), .int (0 : Int32), .int (0 : Int32), .int (0 : Int32), .int (0 : Int32), .int (0 : Int32), .int (0 : Int32), .int (0 : Int32), .int (0 : Int32), .int (0 : Int32), .int (0 : Int32), .int (0 : Int32), .int (0 : Int32)] H200) (w20 hw) (w21 hw) (nf_same (C := "") (w23 hw)) (w23 hw) (w22 hw) (w2 hw) (w24 hw) (by decide) pd___I rfl (W := 0) (by decide) (by decide) (Nat.le_of_eq rfl) (by decide) (by decide) rfl rfl at_191 rfl fun T h205 v206 A Q207 => ?_
      obtain ⟨rfl, eh⟩ := Q207
      rw [eh] at A
      refine Wp.stk (st' := [(.int (2 : Int32))]) rfl ?_
      refine s_iload (pc' := 196) A at_194 rfl rfl ?_
      refine s_iconst (pc' := 197) (z := (1 : Int32)) A at_196 rfl (by decide) ?_
      refine s_iadd (pc' := 198) (z := (2 : Int32)) A at_197 rfl (by decide) ?_
      refine s_icmpN (pc' := 201) A at_198 rfl (by decide) ?_
      refine s_aload (pc' := 203) A at_201 rfl rfl rfl ?_
      refine s_iload (pc' := 205) A at_203 rfl rfl ?_
      refine s_virtual (pc' := 208) (y := y2_get) (argsL := [(.int (1 : Int32))]) (rest := []) (z := y2_get) A H200.1 (l_get l Z a0 hw n0 h202 A.size b127 r135 (2 : Int32) [.int q1, .int q5, .int (0 : Int32), .int (0 : Int32), .int (0 : Int32), .int (0 : Int32), .int (0 : Int32), .int (0 : Int32), .int (0 : Int32), .int (0 : Int32), .int (0 : Int32), .int (0 : Int32), .int (0 : Int32), .int (0 : Int32), .int (0 : Int32), .int (0 : Int32)] (1 : Int32) 1 q5 H200 (by decide) rfl (by decide)) (w47 hw) (w48 hw) (nf_same (C := "") (w50 hw)) (w50 hw) (w49 hw) (w2 hw) (w51 hw) (by decide) pd__I_I rfl (W := 0) (by decide) (by decide) (Nat.le_of_eq rfl) (by decide) (by decide) rfl rfl at_205 rfl fun T h208 v209 A Q210 => ?_
      obtain ⟨rfl, eh⟩ := Q210
      rw [eh] at A
      refine Wp.stk (st' := [(.int q5)]) rfl ?_
      refine s_iload (pc' := 210) A at_208 rfl rfl ?_
      refine s_icmpN (pc' := 213) A at_210 rfl (teq (rfl : q5 = q5)).2 ?_
      refine s_iconst (pc' := 214) (z := (1 : Int32)) A at_213 rfl (by decide) ?_
      refine s_goto (pc' := 218) A at_214 (by decide) (by decide) ?_
      refine s_istore (pc' := 220) (Ls' := #[iv q0, iv q1, iv q2, iv q3, iv q4, iv q5, iv 2, rv b127, iv 1, rv b194, iv 1]) A at_218 rfl rfl ?_
      refine s_iload (pc' := 222) A at_220 rfl rfl ?_
      exact r_bool A rfl (by decide) at_222 (by decide) (by decide) (rfl)
    ·
      refine s_irem (pc' := 59) (z := (2 : Int32)) A at_58 rfl (by decide) hkk.symm ?_
      refine s_istore (pc' := 61) (Ls' := #[iv q0, iv q1, iv q2, iv q3, iv q4, iv q5, iv 2, rv b127, iv 2, U0, U0]) A at_59 rfl rfl ?_
      refine s_aload (pc' := 63) A at_61 rfl rfl rfl ?_
      refine s_iload (pc' := 65) A at_63 rfl rfl ?_
      refine s_virtual (pc' := 68) (y := y4_truncate) (argsL := [(.int (2 : Int32))]) (rest := []) (z := y4_truncate) A H146.1 (l_trunc l Z a0 hw n0 h148 A.size b127 r135 (2 : Int32) [.int q1, .int q2, .int (0 : Int32), .int (0 : Int32), .int (0 : Int32), .int (0 : Int32), .int (0 : Int32), .int (0 : Int32), .int (0 : Int32), .int (0 : Int32), .int (0 : Int32), .int (0 : Int32), .int (0 : Int32), .int (0 : Int32), .int (0 : Int32), .int (0 : Int32)] (2 : Int32) H146 (by decide) (by decide)) (w13 hw) (w14 hw) (nf_same (C := "") (w16 hw)) (w16 hw) (w15 hw) (w2 hw) (w17 hw) (by decide) pd__I_V rfl (W := 0) (by decide) (by decide) (Nat.le_of_eq rfl) (by decide) (by decide) rfl rfl at_65 rfl fun T h213 v214 A Q215 => ?_
      obtain ⟨rfl, K212, H211⟩ := Q215
      refine Wp.stk (st' := []) rfl ?_
      refine s_aload (pc' := 70) A at_68 rfl rfl rfl ?_
      refine s_virtual (pc' := 73) (y := y1_size) (argsL := []) (rest := []) (z := y1_size) A H211.1 (l_size l Z a0 hw n0 h213 A.size b127 r135 (2 : Int32) [.int q1, .int q2, .int (0 : Int32), .int (0 : Int32), .int (0 : Int32), .int (0 : Int32), .int (0 : Int32), .int (0 : Int32), .int (0 : Int32), .int (0 : Int32), .int (0 : Int32), .int (0 : Int32), .int (0 : Int32), .int (0 : Int32), .int (0 : Int32), .int (0 : Int32)] H211) (w20 hw) (w21 hw) (nf_same (C := "") (w23 hw)) (w23 hw) (w22 hw) (w2 hw) (w24 hw) (by decide) pd___I rfl (W := 0) (by decide) (by decide) (Nat.le_of_eq rfl) (by decide) (by decide) rfl rfl at_70 rfl fun T h216 v217 A Q218 => ?_
      obtain ⟨rfl, eh⟩ := Q218
      rw [eh] at A
      refine Wp.stk (st' := [(.int (2 : Int32))]) rfl ?_
      refine s_iload (pc' := 75) A at_73 rfl rfl ?_
      refine s_icmpY (pc' := 80) A at_75 (by decide) (by decide) (by decide) ?_
      refine s_aload (pc' := 82) A at_80 rfl rfl rfl ?_
      refine s_virtual (pc' := 85) (y := y7_toArray) (argsL := []) (rest := []) (z := y7_toArray) A H211.1 (l_toarr2 l Z a0 hw n0 h213 A.size b127 r135 q1 q2 (0 : Int32) (0 : Int32) (0 : Int32) (0 : Int32) (0 : Int32) (0 : Int32) (0 : Int32) (0 : Int32) (0 : Int32) (0 : Int32) (0 : Int32) (0 : Int32) (0 : Int32) (0 : Int32) H211) (w25 hw) (w26 hw) (nf_same (C := "") (w28 hw)) (w28 hw) (w27 hw) (w2 hw) (w29 hw) (by decide) pd____I rfl (W := 0) (by decide) (by decide) (Nat.le_of_eq rfl) (by decide) (by decide) rfl rfl at_82 rfl fun T h225 v226 A Q227 => ?_
      obtain ⟨b224, rfl, K220, V221, g222, ge223⟩ := Q227
      have H219 := H211.keep K220 nin0 nin0
      have ne228 : b127 ≠ b224 := Nat.ne_of_lt (Nat.lt_of_lt_of_le H211.1.lt g222)
      have ne229 : r135 ≠ b224 := Nat.ne_of_lt (Nat.lt_of_lt_of_le H211.2.2.2.1.lt g222)
      refine Wp.stk (st' := [(.ref b224)]) rfl ?_
      refine s_astore (pc' := 87) (Ls' := #[iv q0, iv q1, iv q2, iv q3, iv q4, iv q5, iv 2, rv b127, iv 2, rv b224, U0]) A at_85 rfl rfl rfl ?_
      refine s_aload (pc' := 89) A at_87 rfl rfl rfl ?_
      refine s_arraylength (pc' := 90) (z := (2 : Int32)) A V221 (by show _ = ((2 : Nat) : Int); decide) at_89 rfl ?_
      refine s_iload (pc' := 92) A at_90 rfl rfl ?_
      refine s_icmpY (pc' := 97) A at_92 (by decide) (by decide) (by decide) ?_
      refine s_iconst (pc' := 98) (z := (1 : Int32)) A at_97 rfl (by decide) ?_
      refine s_istore (pc' := 100) (Ls' := #[iv q0, iv q1, iv q2, iv q3, iv q4, iv q5, iv 2, rv b127, iv 2, rv b224, iv 1]) A at_98 rfl rfl ?_
      refine s_iload (pc' := 102) A at_100 rfl rfl ?_
      refine s_ifN (pc' := 105) A at_102 rfl (by decide) ?_
      refine s_iload (pc' := 107) A at_105 rfl rfl ?_
      refine s_ifN (pc' := 110) A at_107 rfl (by decide) ?_
      refine s_aload (pc' := 112) A at_110 rfl rfl rfl ?_
      refine s_iconst (pc' := 113) (z := (0 : Int32)) A at_112 rfl (by decide) ?_
      refine s_iaload (pc' := 114) (i := 0) (v := (.int q1)) A V221 (by decide) rfl at_113 rfl ?_
      refine s_iloadN (pc' := 115) A at_114 rfl rfl ?_
      refine s_icmpN (pc' := 118) A at_115 rfl (teq (rfl : q1 = q1)).2 ?_
      refine s_iconst (pc' := 119) (z := (1 : Int32)) A at_118 rfl (by decide) ?_
      refine s_goto (pc' := 123) A at_119 (by decide) (by decide) ?_
      refine s_istore (pc' := 125) (Ls' := #[iv q0, iv q1, iv q2, iv q3, iv q4, iv q5, iv 2, rv b127, iv 2, rv b224, iv 1]) A at_123 rfl rfl ?_
      refine s_iload (pc' := 127) A at_125 rfl rfl ?_
      refine s_iconst (pc' := 128) (z := (1 : Int32)) A at_127 rfl (by decide) ?_
      refine s_icmpN (pc' := 131) A at_128 rfl (by decide) ?_
      refine s_iload (pc' := 133) A at_131 rfl rfl ?_
      refine s_ifN (pc' := 136) A at_133 rfl (by decide) ?_
      refine s_aload (pc' := 138) A at_136 rfl rfl rfl ?_
      refine s_iconst (pc' := 139) (z := (1 : Int32)) A at_138 rfl (by decide) ?_
      refine s_iaload (pc' := 140) (i := 1) (v := (.int q2)) A V221 (by decide) rfl at_139 rfl ?_
      refine s_iloadN (pc' := 141) A at_140 rfl rfl ?_
      refine s_icmpN (pc' := 144) A at_141 rfl (teq (rfl : q2 = q2)).2 ?_
      refine s_iconst (pc' := 145) (z := (1 : Int32)) A at_144 rfl (by decide) ?_
      refine s_goto (pc' := 149) A at_145 (by decide) (by decide) ?_
      refine s_istore (pc' := 151) (Ls' := #[iv q0, iv q1, iv q2, iv q3, iv q4, iv q5, iv 2, rv b127, iv 2, rv b224, iv 1]) A at_149 rfl rfl ?_
      refine s_iload (pc' := 153) A at_151 rfl rfl ?_
      refine s_iconst (pc' := 154) (z := (2 : Int32)) A at_153 rfl (by decide) ?_
      refine s_icmpY (pc' := 177) A at_154 (by decide) (by decide) (by decide) ?_
      refine s_aload (pc' := 179) A at_177 rfl rfl rfl ?_
      refine s_iload (pc' := 181) A at_179 rfl rfl ?_
      refine s_virtual (pc' := 184) (y := y3_add) (argsL := [(.int q5)]) (rest := []) (z := y3_add) A H219.1 (l_add l Z a0 hw n0 h225 A.size b127 r135 (2 : Int32) [.int q1, .int q2, .int (0 : Int32), .int (0 : Int32), .int (0 : Int32), .int (0 : Int32), .int (0 : Int32), .int (0 : Int32), .int (0 : Int32), .int (0 : Int32), .int (0 : Int32), .int (0 : Int32), .int (0 : Int32), .int (0 : Int32), .int (0 : Int32), .int (0 : Int32)] q5 (3 : Int32) (16 : Int32) 2 [.int q1, .int q2, .int q5, .int (0 : Int32), .int (0 : Int32), .int (0 : Int32), .int (0 : Int32), .int (0 : Int32), .int (0 : Int32), .int (0 : Int32), .int (0 : Int32), .int (0 : Int32), .int (0 : Int32), .int (0 : Int32), .int (0 : Int32), .int (0 : Int32)] H219 (by decide) (Nat.le_of_ble_eq_true rfl) (by show _ = ((16 : Nat) : Int); decide) (by decide) rfl) (w42 hw) (w43 hw) (nf_same (C := "") (w45 hw)) (w45 hw) (w44 hw) (w2 hw) (w46 hw) (by decide) pd__I_V rfl (W := 0) (by decide) (by decide) (Nat.le_of_eq rfl) (by decide) (by decide) rfl rfl at_181 rfl fun T h232 v233 A Q234 => ?_
      obtain ⟨rfl, K231, H230⟩ := Q234
      refine Wp.stk (st' := []) rfl ?_
      refine s_iload (pc' := 186) A at_184 rfl rfl ?_
      refine s_ifN (pc' := 189) A at_186 rfl (by decide) ?_
      refine s_aload (pc' := 191) A at_189 rfl rfl rfl ?_
      refine s_virtual (pc' := 194) (y := y1_size) (argsL := []) (rest := []) (z := y1_size) A H230.1 (l_size l Z a0 hw n0 h232 A.size b127 r135 (3 : Int32) [.int q1, .int q2, .int q5, .int (0 : Int32), .int (0 : Int32), .int (0 : Int32), .int (0 : Int32), .int (0 : Int32), .int (0 : Int32), .int (0 : Int32), .int (0 : Int32), .int (0 : Int32), .int (0 : Int32), .int (0 : Int32), .int (0 : Int32), .int (0 : Int32)] H230) (w20 hw) (w21 hw) (nf_same (C := "") (w23 hw)) (w23 hw) (w22 hw) (w2 hw) (w24 hw) (by decide) pd___I rfl (W := 0) (by decide) (by decide) (Nat.le_of_eq rfl) (by decide) (by decide) rfl rfl at_191 rfl fun T h235 v236 A Q237 => ?_
      obtain ⟨rfl, eh⟩ := Q237
      rw [eh] at A
      refine Wp.stk (st' := [(.int (3 : Int32))]) rfl ?_
      refine s_iload (pc' := 196) A at_194 rfl rfl ?_
      refine s_iconst (pc' := 197) (z := (1 : Int32)) A at_196 rfl (by decide) ?_
      refine s_iadd (pc' := 198) (z := (3 : Int32)) A at_197 rfl (by decide) ?_
      refine s_icmpN (pc' := 201) A at_198 rfl (by decide) ?_
      refine s_aload (pc' := 203) A at_201 rfl rfl rfl ?_
      refine s_iload (pc' := 205) A at_203 rfl rfl ?_
      refine s_virtual (pc' := 208) (y := y2_get) (argsL := [(.int (2 : Int32))]) (rest := []) (z := y2_get) A H230.1 (l_get l Z a0 hw n0 h232 A.size b127 r135 (3 : Int32) [.int q1, .int q2, .int q5, .int (0 : Int32), .int (0 : Int32), .int (0 : Int32), .int (0 : Int32), .int (0 : Int32), .int (0 : Int32), .int (0 : Int32), .int (0 : Int32), .int (0 : Int32), .int (0 : Int32), .int (0 : Int32), .int (0 : Int32), .int (0 : Int32)] (2 : Int32) 2 q5 H230 (by decide) rfl (by decide)) (w47 hw) (w48 hw) (nf_same (C := "") (w50 hw)) (w50 hw) (w49 hw) (w2 hw) (w51 hw) (by decide) pd__I_I rfl (W := 0) (by decide) (by decide) (Nat.le_of_eq rfl) (by decide) (by decide) rfl rfl at_205 rfl fun T h238 v239 A Q240 => ?_
      obtain ⟨rfl, eh⟩ := Q240
      rw [eh] at A
      refine Wp.stk (st' := [(.int q5)]) rfl ?_
      refine s_iload (pc' := 210) A at_208 rfl rfl ?_
      refine s_icmpN (pc' := 213) A at_210 rfl (teq (rfl : q5 = q5)).2 ?_
      refine s_iconst (pc' := 214) (z := (1 : Int32)) A at_213 rfl (by decide) ?_
      refine s_goto (pc' := 218) A at_214 (by decide) (by decide) ?_
      refine s_istore (pc' := 220) (Ls' := #[iv q0, iv q1, iv q2, iv q3, iv q4, iv q5, iv 2, rv b127, iv 2, rv b224, iv 1]) A at_218 rfl rfl ?_
      refine s_iload (pc' := 222) A at_220 rfl rfl ?_
      exact r_bool A rfl (by decide) at_222 (by decide) (by decide) (rfl)
  ·
    refine s_iand (pc' := 3) (z := (3 : Int32)) A at_2 rfl hmm.symm ?_
    refine s_istore (pc' := 5) (Ls' := #[iv q0, iv q1, iv q2, iv q3, iv q4, iv q5, iv 3, U0, U0, U0, U0]) A at_3 rfl rfl ?_
    refine s_new (pc' := 8) A (w0 hw) (w1 hw) (w2 hw) (by decide) (by decide) at_5 rfl fun T h241 b242 A g243 ge244 X245 E246 D247 => ?_
    have F248 : Fld Z h241 b242 "com/example/otab/otab/tableau/IntList" "values" "[I" .null := D247 (Or.inl (w11 hw)) (ty := (.array .int)) (by decide)
    have F249 : Fld Z h241 b242 "com/example/otab/otab/tableau/IntList" "size" "I" (.int (0 : Int32)) := D247 (Or.inl (w19 hw)) (ty := .int) (by decide)
    refine s_dup (pc' := 9) A at_8 rfl rfl ?_
    refine s_special (pc' := 12) (y := y0_init) (argsL := []) (rest := [(.ref b242)]) A (l_init l Z a0 hw n0 h241 A.size b242 E246 F248 F249 ge244) rfl (w3 hw) (w4 hw) (w2 hw) (w5 hw) (by decide) pd___V rfl (W := 1) (by decide) (by decide) (Nat.le_of_eq rfl) (by decide) (by decide) rfl rfl at_9 rfl fun T h253 v254 A Q255 => ?_
    obtain ⟨rfl, K252, r250, H251, -⟩ := Q255
    refine Wp.stk (st' := [(.ref b242)]) rfl ?_
    refine s_astore (pc' := 14) (Ls' := #[iv q0, iv q1, iv q2, iv q3, iv q4, iv q5, iv 3, rv b242, U0, U0, U0]) A at_12 rfl rfl rfl ?_
    refine s_iload (pc' := 16) A at_14 rfl rfl ?_
    refine s_ifN (pc' := 19) A at_16 rfl (by decide) ?_
    refine s_aload (pc' := 21) A at_19 rfl rfl rfl ?_
    refine s_iloadN (pc' := 22) A at_21 rfl rfl ?_
    refine s_virtual (pc' := 25) (y := y3_add) (argsL := [(.int q1)]) (rest := []) (z := y3_add) A H251.1 (l_add l Z a0 hw n0 h253 A.size b242 r250 (0 : Int32) [.int (0 : Int32), .int (0 : Int32), .int (0 : Int32), .int (0 : Int32), .int (0 : Int32), .int (0 : Int32), .int (0 : Int32), .int (0 : Int32), .int (0 : Int32), .int (0 : Int32), .int (0 : Int32), .int (0 : Int32), .int (0 : Int32), .int (0 : Int32), .int (0 : Int32), .int (0 : Int32)] q1 (1 : Int32) (16 : Int32) 0 [.int q1, .int (0 : Int32), .int (0 : Int32), .int (0 : Int32), .int (0 : Int32), .int (0 : Int32), .int (0 : Int32), .int (0 : Int32), .int (0 : Int32), .int (0 : Int32), .int (0 : Int32), .int (0 : Int32), .int (0 : Int32), .int (0 : Int32), .int (0 : Int32), .int (0 : Int32)] H251 (by decide) (Nat.le_of_ble_eq_true rfl) (by show _ = ((16 : Nat) : Int); decide) (by decide) rfl) (w42 hw) (w43 hw) (nf_same (C := "") (w45 hw)) (w45 hw) (w44 hw) (w2 hw) (w46 hw) (by decide) pd__I_V rfl (W := 0) (by decide) (by decide) (Nat.le_of_eq rfl) (by decide) (by decide) rfl rfl at_22 rfl fun T h258 v259 A Q260 => ?_
    obtain ⟨rfl, K257, H256⟩ := Q260
    refine Wp.stk (st' := []) rfl ?_
    refine s_iload (pc' := 27) A at_25 rfl rfl ?_
    refine s_iconst (pc' := 28) (z := (1 : Int32)) A at_27 rfl (by decide) ?_
    refine s_icmpN (pc' := 31) A at_28 rfl (by decide) ?_
    refine s_aload (pc' := 33) A at_31 rfl rfl rfl ?_
    refine s_iloadN (pc' := 34) A at_33 rfl rfl ?_
    refine s_virtual (pc' := 37) (y := y3_add) (argsL := [(.int q2)]) (rest := []) (z := y3_add) A H256.1 (l_add l Z a0 hw n0 h258 A.size b242 r250 (1 : Int32) [.int q1, .int (0 : Int32), .int (0 : Int32), .int (0 : Int32), .int (0 : Int32), .int (0 : Int32), .int (0 : Int32), .int (0 : Int32), .int (0 : Int32), .int (0 : Int32), .int (0 : Int32), .int (0 : Int32), .int (0 : Int32), .int (0 : Int32), .int (0 : Int32), .int (0 : Int32)] q2 (2 : Int32) (16 : Int32) 1 [.int q1, .int q2, .int (0 : Int32), .int (0 : Int32), .int (0 : Int32), .int (0 : Int32), .int (0 : Int32), .int (0 : Int32), .int (0 : Int32), .int (0 : Int32), .int (0 : Int32), .int (0 : Int32), .int (0 : Int32), .int (0 : Int32), .int (0 : Int32), .int (0 : Int32)] H256 (by decide) (Nat.le_of_ble_eq_true rfl) (by show _ = ((16 : Nat) : Int); decide) (by decide) rfl) (w42 hw) (w43 hw) (nf_same (C := "") (w45 hw)) (w45 hw) (w44 hw) (w2 hw) (w46 hw) (by decide) pd__I_V rfl (W := 0) (by decide) (by decide) (Nat.le_of_eq rfl) (by decide) (by decide) rfl rfl at_34 rfl fun T h263 v264 A Q265 => ?_
    obtain ⟨rfl, K262, H261⟩ := Q265
    refine Wp.stk (st' := []) rfl ?_
    refine s_iload (pc' := 39) A at_37 rfl rfl ?_
    refine s_iconst (pc' := 40) (z := (2 : Int32)) A at_39 rfl (by decide) ?_
    refine s_icmpN (pc' := 43) A at_40 rfl (by decide) ?_
    refine s_aload (pc' := 45) A at_43 rfl rfl rfl ?_
    refine s_iloadN (pc' := 46) A at_45 rfl rfl ?_
    refine s_virtual (pc' := 49) (y := y3_add) (argsL := [(.int q3)]) (rest := []) (z := y3_add) A H261.1 (l_add l Z a0 hw n0 h263 A.size b242 r250 (2 : Int32) [.int q1, .int q2, .int (0 : Int32), .int (0 : Int32), .int (0 : Int32), .int (0 : Int32), .int (0 : Int32), .int (0 : Int32), .int (0 : Int32), .int (0 : Int32), .int (0 : Int32), .int (0 : Int32), .int (0 : Int32), .int (0 : Int32), .int (0 : Int32), .int (0 : Int32)] q3 (3 : Int32) (16 : Int32) 2 [.int q1, .int q2, .int q3, .int (0 : Int32), .int (0 : Int32), .int (0 : Int32), .int (0 : Int32), .int (0 : Int32), .int (0 : Int32), .int (0 : Int32), .int (0 : Int32), .int (0 : Int32), .int (0 : Int32), .int (0 : Int32), .int (0 : Int32), .int (0 : Int32)] H261 (by decide) (Nat.le_of_ble_eq_true rfl) (by show _ = ((16 : Nat) : Int); decide) (by decide) rfl) (w42 hw) (w43 hw) (nf_same (C := "") (w45 hw)) (w45 hw) (w44 hw) (w2 hw) (w46 hw) (by decide) pd__I_V rfl (W := 0) (by decide) (by decide) (Nat.le_of_eq rfl) (by decide) (by decide) rfl rfl at_46 rfl fun T h268 v269 A Q270 => ?_
    obtain ⟨rfl, K267, H266⟩ := Q270
    refine Wp.stk (st' := []) rfl ?_
    refine s_iload (pc' := 51) A at_49 rfl rfl ?_
    refine s_ldcInt (pc' := 53) A at_51 rfl (w12 hw) ?_
    refine s_iand (pc' := 54) (z := (q4 &&& (2147483647 : Int32))) A at_53 rfl rfl ?_
    refine s_iload (pc' := 56) A at_54 rfl rfl ?_
    refine s_iconst (pc' := 57) (z := (1 : Int32)) A at_56 rfl (by decide) ?_
    refine s_iadd (pc' := 58) (z := (4 : Int32)) A at_57 rfl (by decide) ?_
    obtain ⟨kk, hkk⟩ : ∃ z, z = ((q4 &&& (2147483647 : Int32)) % (4 : Int32)) := ⟨_, rfl⟩
    have ck := own_r4 q4
    rw [← hkk] at ck
    rcases ck with rfl | rfl | rfl | rfl
    ·
      refine s_irem (pc' := 59) (z := (0 : Int32)) A at_58 rfl (by decide) hkk.symm ?_
      refine s_istore (pc' := 61) (Ls' := #[iv q0, iv q1, iv q2, iv q3, iv q4, iv q5, iv 3, rv b242, iv 0, U0, U0]) A at_59 rfl rfl ?_
      refine s_aload (pc' := 63) A at_61 rfl rfl rfl ?_
      refine s_iload (pc' := 65) A at_63 rfl rfl ?_
      refine s_virtual (pc' := 68) (y := y4_truncate) (argsL := [(.int (0 : Int32))]) (rest := []) (z := y4_truncate) A H266.1 (l_trunc l Z a0 hw n0 h268 A.size b242 r250 (3 : Int32) [.int q1, .int q2, .int q3, .int (0 : Int32), .int (0 : Int32), .int (0 : Int32), .int (0 : Int32), .int (0 : Int32), .int (0 : Int32), .int (0 : Int32), .int (0 : Int32), .int (0 : Int32), .int (0 : Int32), .int (0 : Int32), .int (0 : Int32), .int (0 : Int32)] (0 : Int32) H266 (by decide) (by decide)) (w13 hw) (w14 hw) (nf_same (C := "") (w16 hw)) (w16 hw) (w15 hw) (w2 hw) (w17 hw) (by decide) pd__I_V rfl (W := 0) (by decide) (by decide) (Nat.le_of_eq rfl) (by decide) (by decide) rfl rfl at_65 rfl fun T h273 v274 A Q275 => ?_
      obtain ⟨rfl, K272, H271⟩ := Q275
      refine Wp.stk (st' := []) rfl ?_
      refine s_aload (pc' := 70) A at_68 rfl rfl rfl ?_
      refine s_virtual (pc' := 73) (y := y1_size) (argsL := []) (rest := []) (z := y1_size) A H271.1 (l_size l Z a0 hw n0 h273 A.size b242 r250 (0 : Int32) [.int q1, .int q2, .int q3, .int (0 : Int32), .int (0 : Int32), .int (0 : Int32), .int (0 : Int32), .int (0 : Int32), .int (0 : Int32), .int (0 : Int32), .int (0 : Int32), .int (0 : Int32), .int (0 : Int32), .int (0 : Int32), .int (0 : Int32), .int (0 : Int32)] H271) (w20 hw) (w21 hw) (nf_same (C := "") (w23 hw)) (w23 hw) (w22 hw) (w2 hw) (w24 hw) (by decide) pd___I rfl (W := 0) (by decide) (by decide) (Nat.le_of_eq rfl) (by decide) (by decide) rfl rfl at_70 rfl fun T h276 v277 A Q278 => ?_
      obtain ⟨rfl, eh⟩ := Q278
      rw [eh] at A
      refine Wp.stk (st' := [(.int (0 : Int32))]) rfl ?_
      refine s_iload (pc' := 75) A at_73 rfl rfl ?_
      refine s_icmpY (pc' := 80) A at_75 (by decide) (by decide) (by decide) ?_
      refine s_aload (pc' := 82) A at_80 rfl rfl rfl ?_
      refine s_virtual (pc' := 85) (y := y7_toArray) (argsL := []) (rest := []) (z := y7_toArray) A H271.1 (l_toarr0 l Z a0 hw n0 h273 A.size b242 r250 q1 q2 q3 (0 : Int32) (0 : Int32) (0 : Int32) (0 : Int32) (0 : Int32) (0 : Int32) (0 : Int32) (0 : Int32) (0 : Int32) (0 : Int32) (0 : Int32) (0 : Int32) (0 : Int32) H271) (w25 hw) (w26 hw) (nf_same (C := "") (w28 hw)) (w28 hw) (w27 hw) (w2 hw) (w29 hw) (by decide) pd____I rfl (W := 0) (by decide) (by decide) (Nat.le_of_eq rfl) (by decide) (by decide) rfl rfl at_82 rfl fun T h285 v286 A Q287 => ?_
      obtain ⟨b284, rfl, K280, V281, g282, ge283⟩ := Q287
      have H279 := H271.keep K280 nin0 nin0
      have ne288 : b242 ≠ b284 := Nat.ne_of_lt (Nat.lt_of_lt_of_le H271.1.lt g282)
      have ne289 : r250 ≠ b284 := Nat.ne_of_lt (Nat.lt_of_lt_of_le H271.2.2.2.1.lt g282)
      refine Wp.stk (st' := [(.ref b284)]) rfl ?_
      refine s_astore (pc' := 87) (Ls' := #[iv q0, iv q1, iv q2, iv q3, iv q4, iv q5, iv 3, rv b242, iv 0, rv b284, U0]) A at_85 rfl rfl rfl ?_
      refine s_aload (pc' := 89) A at_87 rfl rfl rfl ?_
      refine s_arraylength (pc' := 90) (z := (0 : Int32)) A V281 (by show _ = ((0 : Nat) : Int); decide) at_89 rfl ?_
      refine s_iload (pc' := 92) A at_90 rfl rfl ?_
      refine s_icmpY (pc' := 97) A at_92 (by decide) (by decide) (by decide) ?_
      refine s_iconst (pc' := 98) (z := (1 : Int32)) A at_97 rfl (by decide) ?_
      refine s_istore (pc' := 100) (Ls' := #[iv q0, iv q1, iv q2, iv q3, iv q4, iv q5, iv 3, rv b242, iv 0, rv b284, iv 1]) A at_98 rfl rfl ?_
      refine s_iload (pc' := 102) A at_100 rfl rfl ?_
      refine s_ifY (pc' := 125) A at_102 (by decide) (by decide) (by decide) ?_
      refine s_iload (pc' := 127) A at_125 rfl rfl ?_
      refine s_iconst (pc' := 128) (z := (1 : Int32)) A at_127 rfl (by decide) ?_
      refine s_icmpY (pc' := 151) A at_128 (by decide) (by decide) (by decide) ?_
      refine s_iload (pc' := 153) A at_151 rfl rfl ?_
      refine s_iconst (pc' := 154) (z := (2 : Int32)) A at_153 rfl (by decide) ?_
      refine s_icmpY (pc' := 177) A at_154 (by decide) (by decide) (by decide) ?_
      refine s_aload (pc' := 179) A at_177 rfl rfl rfl ?_
      refine s_iload (pc' := 181) A at_179 rfl rfl ?_
      refine s_virtual (pc' := 184) (y := y3_add) (argsL := [(.int q5)]) (rest := []) (z := y3_add) A H279.1 (l_add l Z a0 hw n0 h285 A.size b242 r250 (0 : Int32) [.int q1, .int q2, .int q3, .int (0 : Int32), .int (0 : Int32), .int (0 : Int32), .int (0 : Int32), .int (0 : Int32), .int (0 : Int32), .int (0 : Int32), .int (0 : Int32), .int (0 : Int32), .int (0 : Int32), .int (0 : Int32), .int (0 : Int32), .int (0 : Int32)] q5 (1 : Int32) (16 : Int32) 0 [.int q5, .int q2, .int q3, .int (0 : Int32), .int (0 : Int32), .int (0 : Int32), .int (0 : Int32), .int (0 : Int32), .int (0 : Int32), .int (0 : Int32), .int (0 : Int32), .int (0 : Int32), .int (0 : Int32), .int (0 : Int32), .int (0 : Int32), .int (0 : Int32)] H279 (by decide) (Nat.le_of_ble_eq_true rfl) (by show _ = ((16 : Nat) : Int); decide) (by decide) rfl) (w42 hw) (w43 hw) (nf_same (C := "") (w45 hw)) (w45 hw) (w44 hw) (w2 hw) (w46 hw) (by decide) pd__I_V rfl (W := 0) (by decide) (by decide) (Nat.le_of_eq rfl) (by decide) (by decide) rfl rfl at_181 rfl fun T h292 v293 A Q294 => ?_
      obtain ⟨rfl, K291, H290⟩ := Q294
      refine Wp.stk (st' := []) rfl ?_
      refine s_iload (pc' := 186) A at_184 rfl rfl ?_
      refine s_ifN (pc' := 189) A at_186 rfl (by decide) ?_
      refine s_aload (pc' := 191) A at_189 rfl rfl rfl ?_
      refine s_virtual (pc' := 194) (y := y1_size) (argsL := []) (rest := []) (z := y1_size) A H290.1 (l_size l Z a0 hw n0 h292 A.size b242 r250 (1 : Int32) [.int q5, .int q2, .int q3, .int (0 : Int32), .int (0 : Int32), .int (0 : Int32), .int (0 : Int32), .int (0 : Int32), .int (0 : Int32), .int (0 : Int32), .int (0 : Int32), .int (0 : Int32), .int (0 : Int32), .int (0 : Int32), .int (0 : Int32), .int (0 : Int32)] H290) (w20 hw) (w21 hw) (nf_same (C := "") (w23 hw)) (w23 hw) (w22 hw) (w2 hw) (w24 hw) (by decide) pd___I rfl (W := 0) (by decide) (by decide) (Nat.le_of_eq rfl) (by decide) (by decide) rfl rfl at_191 rfl fun T h295 v296 A Q297 => ?_
      obtain ⟨rfl, eh⟩ := Q297
      rw [eh] at A
      refine Wp.stk (st' := [(.int (1 : Int32))]) rfl ?_
      refine s_iload (pc' := 196) A at_194 rfl rfl ?_
      refine s_iconst (pc' := 197) (z := (1 : Int32)) A at_196 rfl (by decide) ?_
      refine s_iadd (pc' := 198) (z := (1 : Int32)) A at_197 rfl (by decide) ?_
      refine s_icmpN (pc' := 201) A at_198 rfl (by decide) ?_
      refine s_aload (pc' := 203) A at_201 rfl rfl rfl ?_
      refine s_iload (pc' := 205) A at_203 rfl rfl ?_
      refine s_virtual (pc' := 208) (y := y2_get) (argsL := [(.int (0 : Int32))]) (rest := []) (z := y2_get) A H290.1 (l_get l Z a0 hw n0 h292 A.size b242 r250 (1 : Int32) [.int q5, .int q2, .int q3, .int (0 : Int32), .int (0 : Int32), .int (0 : Int32), .int (0 : Int32), .int (0 : Int32), .int (0 : Int32), .int (0 : Int32), .int (0 : Int32), .int (0 : Int32), .int (0 : Int32), .int (0 : Int32), .int (0 : Int32), .int (0 : Int32)] (0 : Int32) 0 q5 H290 (by decide) rfl (by decide)) (w47 hw) (w48 hw) (nf_same (C := "") (w50 hw)) (w50 hw) (w49 hw) (w2 hw) (w51 hw) (by decide) pd__I_I rfl (W := 0) (by decide) (by decide) (Nat.le_of_eq rfl) (by decide) (by decide) rfl rfl at_205 rfl fun T h298 v299 A Q300 => ?_
      obtain ⟨rfl, eh⟩ := Q300
      rw [eh] at A
      refine Wp.stk (st' := [(.int q5)]) rfl ?_
      refine s_iload (pc' := 210) A at_208 rfl rfl ?_
      refine s_icmpN (pc' := 213) A at_210 rfl (teq (rfl : q5 = q5)).2 ?_
      refine s_iconst (pc' := 214) (z := (1 : Int32)) A at_213 rfl (by decide) ?_
      refine s_goto (pc' := 218) A at_214 (by decide) (by decide) ?_
      refine s_istore (pc' := 220) (Ls' := #[iv q0, iv q1, iv q2, iv q3, iv q4, iv q5, iv 3, rv b242, iv 0, rv b284, iv 1]) A at_218 rfl rfl ?_
      refine s_iload (pc' := 222) A at_220 rfl rfl ?_
      exact r_bool A rfl (by decide) at_222 (by decide) (by decide) (rfl)
    ·
      refine s_irem (pc' := 59) (z := (1 : Int32)) A at_58 rfl (by decide) hkk.symm ?_
      refine s_istore (pc' := 61) (Ls' := #[iv q0, iv q1, iv q2, iv q3, iv q4, iv q5, iv 3, rv b242, iv 1, U0, U0]) A at_59 rfl rfl ?_
      refine s_aload (pc' := 63) A at_61 rfl rfl rfl ?_
      refine s_iload (pc' := 65) A at_63 rfl rfl ?_
      refine s_virtual (pc' := 68) (y := y4_truncate) (argsL := [(.int (1 : Int32))]) (rest := []) (z := y4_truncate) A H266.1 (l_trunc l Z a0 hw n0 h268 A.size b242 r250 (3 : Int32) [.int q1, .int q2, .int q3, .int (0 : Int32), .int (0 : Int32), .int (0 : Int32), .int (0 : Int32), .int (0 : Int32), .int (0 : Int32), .int (0 : Int32), .int (0 : Int32), .int (0 : Int32), .int (0 : Int32), .int (0 : Int32), .int (0 : Int32), .int (0 : Int32)] (1 : Int32) H266 (by decide) (by decide)) (w13 hw) (w14 hw) (nf_same (C := "") (w16 hw)) (w16 hw) (w15 hw) (w2 hw) (w17 hw) (by decide) pd__I_V rfl (W := 0) (by decide) (by decide) (Nat.le_of_eq rfl) (by decide) (by decide) rfl rfl at_65 rfl fun T h303 v304 A Q305 => ?_
      obtain ⟨rfl, K302, H301⟩ := Q305
      refine Wp.stk (st' := []) rfl ?_
      refine s_aload (pc' := 70) A at_68 rfl rfl rfl ?_
      refine s_virtual (pc' := 73) (y := y1_size) (argsL := []) (rest := []) (z := y1_size) A H301.1 (l_size l Z a0 hw n0 h303 A.size b242 r250 (1 : Int32) [.int q1, .int q2, .int q3, .int (0 : Int32), .int (0 : Int32), .int (0 : Int32), .int (0 : Int32), .int (0 : Int32), .int (0 : Int32), .int (0 : Int32), .int (0 : Int32), .int (0 : Int32), .int (0 : Int32), .int (0 : Int32), .int (0 : Int32), .int (0 : Int32)] H301) (w20 hw) (w21 hw) (nf_same (C := "") (w23 hw)) (w23 hw) (w22 hw) (w2 hw) (w24 hw) (by decide) pd___I rfl (W := 0) (by decide) (by decide) (Nat.le_of_eq rfl) (by decide) (by decide) rfl rfl at_70 rfl fun T h306 v307 A Q308 => ?_
      obtain ⟨rfl, eh⟩ := Q308
      rw [eh] at A
      refine Wp.stk (st' := [(.int (1 : Int32))]) rfl ?_
      refine s_iload (pc' := 75) A at_73 rfl rfl ?_
      refine s_icmpY (pc' := 80) A at_75 (by decide) (by decide) (by decide) ?_
      refine s_aload (pc' := 82) A at_80 rfl rfl rfl ?_
      refine s_virtual (pc' := 85) (y := y7_toArray) (argsL := []) (rest := []) (z := y7_toArray) A H301.1 (l_toarr1 l Z a0 hw n0 h303 A.size b242 r250 q1 q2 q3 (0 : Int32) (0 : Int32) (0 : Int32) (0 : Int32) (0 : Int32) (0 : Int32) (0 : Int32) (0 : Int32) (0 : Int32) (0 : Int32) (0 : Int32) (0 : Int32) (0 : Int32) H301) (w25 hw) (w26 hw) (nf_same (C := "") (w28 hw)) (w28 hw) (w27 hw) (w2 hw) (w29 hw) (by decide) pd____I rfl (W := 0) (by decide) (by decide) (Nat.le_of_eq rfl) (by decide) (by decide) rfl rfl at_82 rfl fun T h315 v316 A Q317 => ?_
      obtain ⟨b314, rfl, K310, V311, g312, ge313⟩ := Q317
      have H309 := H301.keep K310 nin0 nin0
      have ne318 : b242 ≠ b314 := Nat.ne_of_lt (Nat.lt_of_lt_of_le H301.1.lt g312)
      have ne319 : r250 ≠ b314 := Nat.ne_of_lt (Nat.lt_of_lt_of_le H301.2.2.2.1.lt g312)
      refine Wp.stk (st' := [(.ref b314)]) rfl ?_
      refine s_astore (pc' := 87) (Ls' := #[iv q0, iv q1, iv q2, iv q3, iv q4, iv q5, iv 3, rv b242, iv 1, rv b314, U0]) A at_85 rfl rfl rfl ?_
      refine s_aload (pc' := 89) A at_87 rfl rfl rfl ?_
      refine s_arraylength (pc' := 90) (z := (1 : Int32)) A V311 (by show _ = ((1 : Nat) : Int); decide) at_89 rfl ?_
      refine s_iload (pc' := 92) A at_90 rfl rfl ?_
      refine s_icmpY (pc' := 97) A at_92 (by decide) (by decide) (by decide) ?_
      refine s_iconst (pc' := 98) (z := (1 : Int32)) A at_97 rfl (by decide) ?_
      refine s_istore (pc' := 100) (Ls' := #[iv q0, iv q1, iv q2, iv q3, iv q4, iv q5, iv 3, rv b242, iv 1, rv b314, iv 1]) A at_98 rfl rfl ?_
      refine s_iload (pc' := 102) A at_100 rfl rfl ?_
      refine s_ifN (pc' := 105) A at_102 rfl (by decide) ?_
      refine s_iload (pc' := 107) A at_105 rfl rfl ?_
      refine s_ifN (pc' := 110) A at_107 rfl (by decide) ?_
      refine s_aload (pc' := 112) A at_110 rfl rfl rfl ?_
      refine s_iconst (pc' := 113) (z := (0 : Int32)) A at_112 rfl (by decide) ?_
      refine s_iaload (pc' := 114) (i := 0) (v := (.int q1)) A V311 (by decide) rfl at_113 rfl ?_
      refine s_iloadN (pc' := 115) A at_114 rfl rfl ?_
      refine s_icmpN (pc' := 118) A at_115 rfl (teq (rfl : q1 = q1)).2 ?_
      refine s_iconst (pc' := 119) (z := (1 : Int32)) A at_118 rfl (by decide) ?_
      refine s_goto (pc' := 123) A at_119 (by decide) (by decide) ?_
      refine s_istore (pc' := 125) (Ls' := #[iv q0, iv q1, iv q2, iv q3, iv q4, iv q5, iv 3, rv b242, iv 1, rv b314, iv 1]) A at_123 rfl rfl ?_
      refine s_iload (pc' := 127) A at_125 rfl rfl ?_
      refine s_iconst (pc' := 128) (z := (1 : Int32)) A at_127 rfl (by decide) ?_
      refine s_icmpY (pc' := 151) A at_128 (by decide) (by decide) (by decide) ?_
      refine s_iload (pc' := 153) A at_151 rfl rfl ?_
      refine s_iconst (pc' := 154) (z := (2 : Int32)) A at_153 rfl (by decide) ?_
      refine s_icmpY (pc' := 177) A at_154 (by decide) (by decide) (by decide) ?_
      refine s_aload (pc' := 179) A at_177 rfl rfl rfl ?_
      refine s_iload (pc' := 181) A at_179 rfl rfl ?_
      refine s_virtual (pc' := 184) (y := y3_add) (argsL := [(.int q5)]) (rest := []) (z := y3_add) A H309.1 (l_add l Z a0 hw n0 h315 A.size b242 r250 (1 : Int32) [.int q1, .int q2, .int q3, .int (0 : Int32), .int (0 : Int32), .int (0 : Int32), .int (0 : Int32), .int (0 : Int32), .int (0 : Int32), .int (0 : Int32), .int (0 : Int32), .int (0 : Int32), .int (0 : Int32), .int (0 : Int32), .int (0 : Int32), .int (0 : Int32)] q5 (2 : Int32) (16 : Int32) 1 [.int q1, .int q5, .int q3, .int (0 : Int32), .int (0 : Int32), .int (0 : Int32), .int (0 : Int32), .int (0 : Int32), .int (0 : Int32), .int (0 : Int32), .int (0 : Int32), .int (0 : Int32), .int (0 : Int32), .int (0 : Int32), .int (0 : Int32), .int (0 : Int32)] H309 (by decide) (Nat.le_of_ble_eq_true rfl) (by show _ = ((16 : Nat) : Int); decide) (by decide) rfl) (w42 hw) (w43 hw) (nf_same (C := "") (w45 hw)) (w45 hw) (w44 hw) (w2 hw) (w46 hw) (by decide) pd__I_V rfl (W := 0) (by decide) (by decide) (Nat.le_of_eq rfl) (by decide) (by decide) rfl rfl at_181 rfl fun T h322 v323 A Q324 => ?_
      obtain ⟨rfl, K321, H320⟩ := Q324
      refine Wp.stk (st' := []) rfl ?_
      refine s_iload (pc' := 186) A at_184 rfl rfl ?_
      refine s_ifN (pc' := 189) A at_186 rfl (by decide) ?_
      refine s_aload (pc' := 191) A at_189 rfl rfl rfl ?_
      refine s_virtual (pc' := 194) (y := y1_size) (argsL := []) (rest := []) (z := y1_size) A H320.1 (l_size l Z a0 hw n0 h322 A.size b242 r250 (2 : Int32) [.int q1, .int q5, .int q3, .int (0 : Int32), .int (0 : Int32), .int (0 : Int32), .int (0 : Int32), .int (0 : Int32), .int (0 : Int32), .int (0 : Int32), .int (0 : Int32), .int (0 : Int32), .int (0 : Int32), .int (0 : Int32), .int (0 : Int32), .int (0 : Int32)] H320) (w20 hw) (w21 hw) (nf_same (C := "") (w23 hw)) (w23 hw) (w22 hw) (w2 hw) (w24 hw) (by decide) pd___I rfl (W := 0) (by decide) (by decide) (Nat.le_of_eq rfl) (by decide) (by decide) rfl rfl at_191 rfl fun T h325 v326 A Q327 => ?_
      obtain ⟨rfl, eh⟩ := Q327
      rw [eh] at A
      refine Wp.stk (st' := [(.int (2 : Int32))]) rfl ?_
      refine s_iload (pc' := 196) A at_194 rfl rfl ?_
      refine s_iconst (pc' := 197) (z := (1 : Int32)) A at_196 rfl (by decide) ?_
      refine s_iadd (pc' := 198) (z := (2 : Int32)) A at_197 rfl (by decide) ?_
      refine s_icmpN (pc' := 201) A at_198 rfl (by decide) ?_
      refine s_aload (pc' := 203) A at_201 rfl rfl rfl ?_
      refine s_iload (pc' := 205) A at_203 rfl rfl ?_
      refine s_virtual (pc' := 208) (y := y2_get) (argsL := [(.int (1 : Int32))]) (rest := []) (z := y2_get) A H320.1 (l_get l Z a0 hw n0 h322 A.size b242 r250 (2 : Int32) [.int q1, .int q5, .int q3, .int (0 : Int32), .int (0 : Int32), .int (0 : Int32), .int (0 : Int32), .int (0 : Int32), .int (0 : Int32), .int (0 : Int32), .int (0 : Int32), .int (0 : Int32), .int (0 : Int32), .int (0 : Int32), .int (0 : Int32), .int (0 : Int32)] (1 : Int32) 1 q5 H320 (by decide) rfl (by decide)) (w47 hw) (w48 hw) (nf_same (C := "") (w50 hw)) (w50 hw) (w49 hw) (w2 hw) (w51 hw) (by decide) pd__I_I rfl (W := 0) (by decide) (by decide) (Nat.le_of_eq rfl) (by decide) (by decide) rfl rfl at_205 rfl fun T h328 v329 A Q330 => ?_
      obtain ⟨rfl, eh⟩ := Q330
      rw [eh] at A
      refine Wp.stk (st' := [(.int q5)]) rfl ?_
      refine s_iload (pc' := 210) A at_208 rfl rfl ?_
      refine s_icmpN (pc' := 213) A at_210 rfl (teq (rfl : q5 = q5)).2 ?_
      refine s_iconst (pc' := 214) (z := (1 : Int32)) A at_213 rfl (by decide) ?_
      refine s_goto (pc' := 218) A at_214 (by decide) (by decide) ?_
      refine s_istore (pc' := 220) (Ls' := #[iv q0, iv q1, iv q2, iv q3, iv q4, iv q5, iv 3, rv b242, iv 1, rv b314, iv 1]) A at_218 rfl rfl ?_
      refine s_iload (pc' := 222) A at_220 rfl rfl ?_
      exact r_bool A rfl (by decide) at_222 (by decide) (by decide) (rfl)
    ·
      refine s_irem (pc' := 59) (z := (2 : Int32)) A at_58 rfl (by decide) hkk.symm ?_
      refine s_istore (pc' := 61) (Ls' := #[iv q0, iv q1, iv q2, iv q3, iv q4, iv q5, iv 3, rv b242, iv 2, U0, U0]) A at_59 rfl rfl ?_
      refine s_aload (pc' := 63) A at_61 rfl rfl rfl ?_
      refine s_iload (pc' := 65) A at_63 rfl rfl ?_
      refine s_virtual (pc' := 68) (y := y4_truncate) (argsL := [(.int (2 : Int32))]) (rest := []) (z := y4_truncate) A H266.1 (l_trunc l Z a0 hw n0 h268 A.size b242 r250 (3 : Int32) [.int q1, .int q2, .int q3, .int (0 : Int32), .int (0 : Int32), .int (0 : Int32), .int (0 : Int32), .int (0 : Int32), .int (0 : Int32), .int (0 : Int32), .int (0 : Int32), .int (0 : Int32), .int (0 : Int32), .int (0 : Int32), .int (0 : Int32), .int (0 : Int32)] (2 : Int32) H266 (by decide) (by decide)) (w13 hw) (w14 hw) (nf_same (C := "") (w16 hw)) (w16 hw) (w15 hw) (w2 hw) (w17 hw) (by decide) pd__I_V rfl (W := 0) (by decide) (by decide) (Nat.le_of_eq rfl) (by decide) (by decide) rfl rfl at_65 rfl fun T h333 v334 A Q335 => ?_
      obtain ⟨rfl, K332, H331⟩ := Q335
      refine Wp.stk (st' := []) rfl ?_
      refine s_aload (pc' := 70) A at_68 rfl rfl rfl ?_
      refine s_virtual (pc' := 73) (y := y1_size) (argsL := []) (rest := []) (z := y1_size) A H331.1 (l_size l Z a0 hw n0 h333 A.size b242 r250 (2 : Int32) [.int q1, .int q2, .int q3, .int (0 : Int32), .int (0 : Int32), .int (0 : Int32), .int (0 : Int32), .int (0 : Int32), .int (0 : Int32), .int (0 : Int32), .int (0 : Int32), .int (0 : Int32), .int (0 : Int32), .int (0 : Int32), .int (0 : Int32), .int (0 : Int32)] H331) (w20 hw) (w21 hw) (nf_same (C := "") (w23 hw)) (w23 hw) (w22 hw) (w2 hw) (w24 hw) (by decide) pd___I rfl (W := 0) (by decide) (by decide) (Nat.le_of_eq rfl) (by decide) (by decide) rfl rfl at_70 rfl fun T h336 v337 A Q338 => ?_
      obtain ⟨rfl, eh⟩ := Q338
      rw [eh] at A
      refine Wp.stk (st' := [(.int (2 : Int32))]) rfl ?_
      refine s_iload (pc' := 75) A at_73 rfl rfl ?_
      refine s_icmpY (pc' := 80) A at_75 (by decide) (by decide) (by decide) ?_
      refine s_aload (pc' := 82) A at_80 rfl rfl rfl ?_
      refine s_virtual (pc' := 85) (y := y7_toArray) (argsL := []) (rest := []) (z := y7_toArray) A H331.1 (l_toarr2 l Z a0 hw n0 h333 A.size b242 r250 q1 q2 q3 (0 : Int32) (0 : Int32) (0 : Int32) (0 : Int32) (0 : Int32) (0 : Int32) (0 : Int32) (0 : Int32) (0 : Int32) (0 : Int32) (0 : Int32) (0 : Int32) (0 : Int32) H331) (w25 hw) (w26 hw) (nf_same (C := "") (w28 hw)) (w28 hw) (w27 hw) (w2 hw) (w29 hw) (by decide) pd____I rfl (W := 0) (by decide) (by decide) (Nat.le_of_eq rfl) (by decide) (by decide) rfl rfl at_82 rfl fun T h345 v346 A Q347 => ?_
      obtain ⟨b344, rfl, K340, V341, g342, ge343⟩ := Q347
      have H339 := H331.keep K340 nin0 nin0
      have ne348 : b242 ≠ b344 := Nat.ne_of_lt (Nat.lt_of_lt_of_le H331.1.lt g342)
      have ne349 : r250 ≠ b344 := Nat.ne_of_lt (Nat.lt_of_lt_of_le H331.2.2.2.1.lt g342)
      refine Wp.stk (st' := [(.ref b344)]) rfl ?_
      refine s_astore (pc' := 87) (Ls' := #[iv q0, iv q1, iv q2, iv q3, iv q4, iv q5, iv 3, rv b242, iv 2, rv b344, U0]) A at_85 rfl rfl rfl ?_
      refine s_aload (pc' := 89) A at_87 rfl rfl rfl ?_
      refine s_arraylength (pc' := 90) (z := (2 : Int32)) A V341 (by show _ = ((2 : Nat) : Int); decide) at_89 rfl ?_
      refine s_iload (pc' := 92) A at_90 rfl rfl ?_
      refine s_icmpY (pc' := 97) A at_92 (by decide) (by decide) (by decide) ?_
      refine s_iconst (pc' := 98) (z := (1 : Int32)) A at_97 rfl (by decide) ?_
      refine s_istore (pc' := 100) (Ls' := #[iv q0, iv q1, iv q2, iv q3, iv q4, iv q5, iv 3, rv b242, iv 2, rv b344, iv 1]) A at_98 rfl rfl ?_
      refine s_iload (pc' := 102) A at_100 rfl rfl ?_
      refine s_ifN (pc' := 105) A at_102 rfl (by decide) ?_
      refine s_iload (pc' := 107) A at_105 rfl rfl ?_
      refine s_ifN (pc' := 110) A at_107 rfl (by decide) ?_
      refine s_aload (pc' := 112) A at_110 rfl rfl rfl ?_
      refine s_iconst (pc' := 113) (z := (0 : Int32)) A at_112 rfl (by decide) ?_
      refine s_iaload (pc' := 114) (i := 0) (v := (.int q1)) A V341 (by decide) rfl at_113 rfl ?_
      refine s_iloadN (pc' := 115) A at_114 rfl rfl ?_
      refine s_icmpN (pc' := 118) A at_115 rfl (teq (rfl : q1 = q1)).2 ?_
      refine s_iconst (pc' := 119) (z := (1 : Int32)) A at_118 rfl (by decide) ?_
      refine s_goto (pc' := 123) A at_119 (by decide) (by decide) ?_
      refine s_istore (pc' := 125) (Ls' := #[iv q0, iv q1, iv q2, iv q3, iv q4, iv q5, iv 3, rv b242, iv 2, rv b344, iv 1]) A at_123 rfl rfl ?_
      refine s_iload (pc' := 127) A at_125 rfl rfl ?_
      refine s_iconst (pc' := 128) (z := (1 : Int32)) A at_127 rfl (by decide) ?_
      refine s_icmpN (pc' := 131) A at_128 rfl (by decide) ?_
      refine s_iload (pc' := 133) A at_131 rfl rfl ?_
      refine s_ifN (pc' := 136) A at_133 rfl (by decide) ?_
      refine s_aload (pc' := 138) A at_136 rfl rfl rfl ?_
      refine s_iconst (pc' := 139) (z := (1 : Int32)) A at_138 rfl (by decide) ?_
      refine s_iaload (pc' := 140) (i := 1) (v := (.int q2)) A V341 (by decide) rfl at_139 rfl ?_
      refine s_iloadN (pc' := 141) A at_140 rfl rfl ?_
      refine s_icmpN (pc' := 144) A at_141 rfl (teq (rfl : q2 = q2)).2 ?_
      refine s_iconst (pc' := 145) (z := (1 : Int32)) A at_144 rfl (by decide) ?_
      refine s_goto (pc' := 149) A at_145 (by decide) (by decide) ?_
      refine s_istore (pc' := 151) (Ls' := #[iv q0, iv q1, iv q2, iv q3, iv q4, iv q5, iv 3, rv b242, iv 2, rv b344, iv 1]) A at_149 rfl rfl ?_
      refine s_iload (pc' := 153) A at_151 rfl rfl ?_
      refine s_iconst (pc' := 154) (z := (2 : Int32)) A at_153 rfl (by decide) ?_
      refine s_icmpY (pc' := 177) A at_154 (by decide) (by decide) (by decide) ?_
      refine s_aload (pc' := 179) A at_177 rfl rfl rfl ?_
      refine s_iload (pc' := 181) A at_179 rfl rfl ?_
      refine s_virtual (pc' := 184) (y := y3_add) (argsL := [(.int q5)]) (rest := []) (z := y3_add) A H339.1 (l_add l Z a0 hw n0 h345 A.size b242 r250 (2 : Int32) [.int q1, .int q2, .int q3, .int (0 : Int32), .int (0 : Int32), .int (0 : Int32), .int (0 : Int32), .int (0 : Int32), .int (0 : Int32), .int (0 : Int32), .int (0 : Int32), .int (0 : Int32), .int (0 : Int32), .int (0 : Int32), .int (0 : Int32), .int (0 : Int32)] q5 (3 : Int32) (16 : Int32) 2 [.int q1, .int q2, .int q5, .int (0 : Int32), .int (0 : Int32), .int (0 : Int32), .int (0 : Int32), .int (0 : Int32), .int (0 : Int32), .int (0 : Int32), .int (0 : Int32), .int (0 : Int32), .int (0 : Int32), .int (0 : Int32), .int (0 : Int32), .int (0 : Int32)] H339 (by decide) (Nat.le_of_ble_eq_true rfl) (by show _ = ((16 : Nat) : Int); decide) (by decide) rfl) (w42 hw) (w43 hw) (nf_same (C := "") (w45 hw)) (w45 hw) (w44 hw) (w2 hw) (w46 hw) (by decide) pd__I_V rfl (W := 0) (by decide) (by decide) (Nat.le_of_eq rfl) (by decide) (by decide) rfl rfl at_181 rfl fun T h352 v353 A Q354 => ?_
      obtain ⟨rfl, K351, H350⟩ := Q354
      refine Wp.stk (st' := []) rfl ?_
      refine s_iload (pc' := 186) A at_184 rfl rfl ?_
      refine s_ifN (pc' := 189) A at_186 rfl (by decide) ?_
      refine s_aload (pc' := 191) A at_189 rfl rfl rfl ?_
      refine s_virtual (pc' := 194) (y := y1_size) (argsL := []) (rest := []) (z := y1_size) A H350.1 (l_size l Z a0 hw n0 h352 A.size b242 r250 (3 : Int32) [.int q1, .int q2, .int q5, .int (0 : Int32), .int (0 : Int32), .int (0 : Int32), .int (0 : Int32), .int (0 : Int32), .int (0 : Int32), .int (0 : Int32), .int (0 : Int32), .int (0 : Int32), .int (0 : Int32), .int (0 : Int32), .int (0 : Int32), .int (0 : Int32)] H350) (w20 hw) (w21 hw) (nf_same (C := "") (w23 hw)) (w23 hw) (w22 hw) (w2 hw) (w24 hw) (by decide) pd___I rfl (W := 0) (by decide) (by decide) (Nat.le_of_eq rfl) (by decide) (by decide) rfl rfl at_191 rfl fun T h355 v356 A Q357 => ?_
      obtain ⟨rfl, eh⟩ := Q357
      rw [eh] at A
      refine Wp.stk (st' := [(.int (3 : Int32))]) rfl ?_
      refine s_iload (pc' := 196) A at_194 rfl rfl ?_
      refine s_iconst (pc' := 197) (z := (1 : Int32)) A at_196 rfl (by decide) ?_
      refine s_iadd (pc' := 198) (z := (3 : Int32)) A at_197 rfl (by decide) ?_
      refine s_icmpN (pc' := 201) A at_198 rfl (by decide) ?_
      refine s_aload (pc' := 203) A at_201 rfl rfl rfl ?_
      refine s_iload (pc' := 205) A at_203 rfl rfl ?_
      refine s_virtual (pc' := 208) (y := y2_get) (argsL := [(.int (2 : Int32))]) (rest := []) (z := y2_get) A H350.1 (l_get l Z a0 hw n0 h352 A.size b242 r250 (3 : Int32) [.int q1, .int q2, .int q5, .int (0 : Int32), .int (0 : Int32), .int (0 : Int32), .int (0 : Int32), .int (0 : Int32), .int (0 : Int32), .int (0 : Int32), .int (0 : Int32), .int (0 : Int32), .int (0 : Int32), .int (0 : Int32), .int (0 : Int32), .int (0 : Int32)] (2 : Int32) 2 q5 H350 (by decide) rfl (by decide)) (w47 hw) (w48 hw) (nf_same (C := "") (w50 hw)) (w50 hw) (w49 hw) (w2 hw) (w51 hw) (by decide) pd__I_I rfl (W := 0) (by decide) (by decide) (Nat.le_of_eq rfl) (by decide) (by decide) rfl rfl at_205 rfl fun T h358 v359 A Q360 => ?_
      obtain ⟨rfl, eh⟩ := Q360
      rw [eh] at A
      refine Wp.stk (st' := [(.int q5)]) rfl ?_
      refine s_iload (pc' := 210) A at_208 rfl rfl ?_
      refine s_icmpN (pc' := 213) A at_210 rfl (teq (rfl : q5 = q5)).2 ?_
      refine s_iconst (pc' := 214) (z := (1 : Int32)) A at_213 rfl (by decide) ?_
      refine s_goto (pc' := 218) A at_214 (by decide) (by decide) ?_
      refine s_istore (pc' := 220) (Ls' := #[iv q0, iv q1, iv q2, iv q3, iv q4, iv q5, iv 3, rv b242, iv 2, rv b344, iv 1]) A at_218 rfl rfl ?_
      refine s_iload (pc' := 222) A at_220 rfl rfl ?_
      exact r_bool A rfl (by decide) at_222 (by decide) (by decide) (rfl)
    ·
      refine s_irem (pc' := 59) (z := (3 : Int32)) A at_58 rfl (by decide) hkk.symm ?_
      refine s_istore (pc' := 61) (Ls' := #[iv q0, iv q1, iv q2, iv q3, iv q4, iv q5, iv 3, rv b242, iv 3, U0, U0]) A at_59 rfl rfl ?_
      refine s_aload (pc' := 63) A at_61 rfl rfl rfl ?_
      refine s_iload (pc' := 65) A at_63 rfl rfl ?_
      refine s_virtual (pc' := 68) (y := y4_truncate) (argsL := [(.int (3 : Int32))]) (rest := []) (z := y4_truncate) A H266.1 (l_trunc l Z a0 hw n0 h268 A.size b242 r250 (3 : Int32) [.int q1, .int q2, .int q3, .int (0 : Int32), .int (0 : Int32), .int (0 : Int32), .int (0 : Int32), .int (0 : Int32), .int (0 : Int32), .int (0 : Int32), .int (0 : Int32), .int (0 : Int32), .int (0 : Int32), .int (0 : Int32), .int (0 : Int32), .int (0 : Int32)] (3 : Int32) H266 (by decide) (by decide)) (w13 hw) (w14 hw) (nf_same (C := "") (w16 hw)) (w16 hw) (w15 hw) (w2 hw) (w17 hw) (by decide) pd__I_V rfl (W := 0) (by decide) (by decide) (Nat.le_of_eq rfl) (by decide) (by decide) rfl rfl at_65 rfl fun T h363 v364 A Q365 => ?_
      obtain ⟨rfl, K362, H361⟩ := Q365
      refine Wp.stk (st' := []) rfl ?_
      refine s_aload (pc' := 70) A at_68 rfl rfl rfl ?_
      refine s_virtual (pc' := 73) (y := y1_size) (argsL := []) (rest := []) (z := y1_size) A H361.1 (l_size l Z a0 hw n0 h363 A.size b242 r250 (3 : Int32) [.int q1, .int q2, .int q3, .int (0 : Int32), .int (0 : Int32), .int (0 : Int32), .int (0 : Int32), .int (0 : Int32), .int (0 : Int32), .int (0 : Int32), .int (0 : Int32), .int (0 : Int32), .int (0 : Int32), .int (0 : Int32), .int (0 : Int32), .int (0 : Int32)] H361) (w20 hw) (w21 hw) (nf_same (C := "") (w23 hw)) (w23 hw) (w22 hw) (w2 hw) (w24 hw) (by decide) pd___I rfl (W := 0) (by decide) (by decide) (Nat.le_of_eq rfl) (by decide) (by decide) rfl rfl at_70 rfl fun T h366 v367 A Q368 => ?_
      obtain ⟨rfl, eh⟩ := Q368
      rw [eh] at A
      refine Wp.stk (st' := [(.int (3 : Int32))]) rfl ?_
      refine s_iload (pc' := 75) A at_73 rfl rfl ?_
      refine s_icmpY (pc' := 80) A at_75 (by decide) (by decide) (by decide) ?_
      refine s_aload (pc' := 82) A at_80 rfl rfl rfl ?_
      refine s_virtual (pc' := 85) (y := y7_toArray) (argsL := []) (rest := []) (z := y7_toArray) A H361.1 (l_toarr3 l Z a0 hw n0 h363 A.size b242 r250 q1 q2 q3 (0 : Int32) (0 : Int32) (0 : Int32) (0 : Int32) (0 : Int32) (0 : Int32) (0 : Int32) (0 : Int32) (0 : Int32) (0 : Int32) (0 : Int32) (0 : Int32) (0 : Int32) H361) (w25 hw) (w26 hw) (nf_same (C := "") (w28 hw)) (w28 hw) (w27 hw) (w2 hw) (w29 hw) (by decide) pd____I rfl (W := 0) (by decide) (by decide) (Nat.le_of_eq rfl) (by decide) (by decide) rfl rfl at_82 rfl fun T h375 v376 A Q377 => ?_
      obtain ⟨b374, rfl, K370, V371, g372, ge373⟩ := Q377
      have H369 := H361.keep K370 nin0 nin0
      have ne378 : b242 ≠ b374 := Nat.ne_of_lt (Nat.lt_of_lt_of_le H361.1.lt g372)
      have ne379 : r250 ≠ b374 := Nat.ne_of_lt (Nat.lt_of_lt_of_le H361.2.2.2.1.lt g372)
      refine Wp.stk (st' := [(.ref b374)]) rfl ?_
      refine s_astore (pc' := 87) (Ls' := #[iv q0, iv q1, iv q2, iv q3, iv q4, iv q5, iv 3, rv b242, iv 3, rv b374, U0]) A at_85 rfl rfl rfl ?_
      refine s_aload (pc' := 89) A at_87 rfl rfl rfl ?_
      refine s_arraylength (pc' := 90) (z := (3 : Int32)) A V371 (by show _ = ((3 : Nat) : Int); decide) at_89 rfl ?_
      refine s_iload (pc' := 92) A at_90 rfl rfl ?_
      refine s_icmpY (pc' := 97) A at_92 (by decide) (by decide) (by decide) ?_
      refine s_iconst (pc' := 98) (z := (1 : Int32)) A at_97 rfl (by decide) ?_
      refine s_istore (pc' := 100) (Ls' := #[iv q0, iv q1, iv q2, iv q3, iv q4, iv q5, iv 3, rv b242, iv 3, rv b374, iv 1]) A at_98 rfl rfl ?_
      refine s_iload (pc' := 102) A at_100 rfl rfl ?_
      refine s_ifN (pc' := 105) A at_102 rfl (by decide) ?_
      refine s_iload (pc' := 107) A at_105 rfl rfl ?_
      refine s_ifN (pc' := 110) A at_107 rfl (by decide) ?_
      refine s_aload (pc' := 112) A at_110 rfl rfl rfl ?_
      refine s_iconst (pc' := 113) (z := (0 : Int32)) A at_112 rfl (by decide) ?_
      refine s_iaload (pc' := 114) (i := 0) (v := (.int q1)) A V371 (by decide) rfl at_113 rfl ?_
      refine s_iloadN (pc' := 115) A at_114 rfl rfl ?_
      refine s_icmpN (pc' := 118) A at_115 rfl (teq (rfl : q1 = q1)).2 ?_
      refine s_iconst (pc' := 119) (z := (1 : Int32)) A at_118 rfl (by decide) ?_
      refine s_goto (pc' := 123) A at_119 (by decide) (by decide) ?_
      refine s_istore (pc' := 125) (Ls' := #[iv q0, iv q1, iv q2, iv q3, iv q4, iv q5, iv 3, rv b242, iv 3, rv b374, iv 1]) A at_123 rfl rfl ?_
      refine s_iload (pc' := 127) A at_125 rfl rfl ?_
      refine s_iconst (pc' := 128) (z := (1 : Int32)) A at_127 rfl (by decide) ?_
      refine s_icmpN (pc' := 131) A at_128 rfl (by decide) ?_
      refine s_iload (pc' := 133) A at_131 rfl rfl ?_
      refine s_ifN (pc' := 136) A at_133 rfl (by decide) ?_
      refine s_aload (pc' := 138) A at_136 rfl rfl rfl ?_
      refine s_iconst (pc' := 139) (z := (1 : Int32)) A at_138 rfl (by decide) ?_
      refine s_iaload (pc' := 140) (i := 1) (v := (.int q2)) A V371 (by decide) rfl at_139 rfl ?_
      refine s_iloadN (pc' := 141) A at_140 rfl rfl ?_
      refine s_icmpN (pc' := 144) A at_141 rfl (teq (rfl : q2 = q2)).2 ?_
      refine s_iconst (pc' := 145) (z := (1 : Int32)) A at_144 rfl (by decide) ?_
      refine s_goto (pc' := 149) A at_145 (by decide) (by decide) ?_
      refine s_istore (pc' := 151) (Ls' := #[iv q0, iv q1, iv q2, iv q3, iv q4, iv q5, iv 3, rv b242, iv 3, rv b374, iv 1]) A at_149 rfl rfl ?_
      refine s_iload (pc' := 153) A at_151 rfl rfl ?_
      refine s_iconst (pc' := 154) (z := (2 : Int32)) A at_153 rfl (by decide) ?_
      refine s_icmpN (pc' := 157) A at_154 rfl (by decide) ?_
      refine s_iload (pc' := 159) A at_157 rfl rfl ?_
      refine s_ifN (pc' := 162) A at_159 rfl (by decide) ?_
      refine s_aload (pc' := 164) A at_162 rfl rfl rfl ?_
      refine s_iconst (pc' := 165) (z := (2 : Int32)) A at_164 rfl (by decide) ?_
      refine s_iaload (pc' := 166) (i := 2) (v := (.int q3)) A V371 (by decide) rfl at_165 rfl ?_
      refine s_iloadN (pc' := 167) A at_166 rfl rfl ?_
      refine s_icmpN (pc' := 170) A at_167 rfl (teq (rfl : q3 = q3)).2 ?_
      refine s_iconst (pc' := 171) (z := (1 : Int32)) A at_170 rfl (by decide) ?_
      refine s_goto (pc' := 175) A at_171 (by decide) (by decide) ?_
      refine s_istore (pc' := 177) (Ls' := #[iv q0, iv q1, iv q2, iv q3, iv q4, iv q5, iv 3, rv b242, iv 3, rv b374, iv 1]) A at_175 rfl rfl ?_
      refine s_aload (pc' := 179) A at_177 rfl rfl rfl ?_
      refine s_iload (pc' := 181) A at_179 rfl rfl ?_
      refine s_virtual (pc' := 184) (y := y3_add) (argsL := [(.int q5)]) (rest := []) (z := y3_add) A H369.1 (l_add l Z a0 hw n0 h375 A.size b242 r250 (3 : Int32) [.int q1, .int q2, .int q3, .int (0 : Int32), .int (0 : Int32), .int (0 : Int32), .int (0 : Int32), .int (0 : Int32), .int (0 : Int32), .int (0 : Int32), .int (0 : Int32), .int (0 : Int32), .int (0 : Int32), .int (0 : Int32), .int (0 : Int32), .int (0 : Int32)] q5 (4 : Int32) (16 : Int32) 3 [.int q1, .int q2, .int q3, .int q5, .int (0 : Int32), .int (0 : Int32), .int (0 : Int32), .int (0 : Int32), .int (0 : Int32), .int (0 : Int32), .int (0 : Int32), .int (0 : Int32), .int (0 : Int32), .int (0 : Int32), .int (0 : Int32), .int (0 : Int32)] H369 (by decide) (Nat.le_of_ble_eq_true rfl) (by show _ = ((16 : Nat) : Int); decide) (by decide) rfl) (w42 hw) (w43 hw) (nf_same (C := "") (w45 hw)) (w45 hw) (w44 hw) (w2 hw) (w46 hw) (by decide) pd__I_V rfl (W := 0) (by decide) (by decide) (Nat.le_of_eq rfl) (by decide) (by decide) rfl rfl at_181 rfl fun T h382 v383 A Q384 => ?_
      obtain ⟨rfl, K381, H380⟩ := Q384
      refine Wp.stk (st' := []) rfl ?_
      refine s_iload (pc' := 186) A at_184 rfl rfl ?_
      refine s_ifN (pc' := 189) A at_186 rfl (by decide) ?_
      refine s_aload (pc' := 191) A at_189 rfl rfl rfl ?_
      refine s_virtual (pc' := 194) (y := y1_size) (argsL := []) (rest := []) (z := y1_size) A H380.1 (l_size l Z a0 hw n0 h382 A.size b242 r250 (4 : Int32) [.int q1, .int q2, .int q3, .int q5, .int (0 : Int32), .int (0 : Int32), .int (0 : Int32), .int (0 : Int32), .int (0 : Int32), .int (0 : Int32), .int (0 : Int32), .int (0 : Int32), .int (0 : Int32), .int (0 : Int32), .int (0 : Int32), .int (0 : Int32)] H380) (w20 hw) (w21 hw) (nf_same (C := "") (w23 hw)) (w23 hw) (w22 hw) (w2 hw) (w24 hw) (by decide) pd___I rfl (W := 0) (by decide) (by decide) (Nat.le_of_eq rfl) (by decide) (by decide) rfl rfl at_191 rfl fun T h385 v386 A Q387 => ?_
      obtain ⟨rfl, eh⟩ := Q387
      rw [eh] at A
      refine Wp.stk (st' := [(.int (4 : Int32))]) rfl ?_
      refine s_iload (pc' := 196) A at_194 rfl rfl ?_
      refine s_iconst (pc' := 197) (z := (1 : Int32)) A at_196 rfl (by decide) ?_
      refine s_iadd (pc' := 198) (z := (4 : Int32)) A at_197 rfl (by decide) ?_
      refine s_icmpN (pc' := 201) A at_198 rfl (by decide) ?_
      refine s_aload (pc' := 203) A at_201 rfl rfl rfl ?_
      refine s_iload (pc' := 205) A at_203 rfl rfl ?_
      refine s_virtual (pc' := 208) (y := y2_get) (argsL := [(.int (3 : Int32))]) (rest := []) (z := y2_get) A H380.1 (l_get l Z a0 hw n0 h382 A.size b242 r250 (4 : Int32) [.int q1, .int q2, .int q3, .int q5, .int (0 : Int32), .int (0 : Int32), .int (0 : Int32), .int (0 : Int32), .int (0 : Int32), .int (0 : Int32), .int (0 : Int32), .int (0 : Int32), .int (0 : Int32), .int (0 : Int32), .int (0 : Int32), .int (0 : Int32)] (3 : Int32) 3 q5 H380 (by decide) rfl (by decide)) (w47 hw) (w48 hw) (nf_same (C := "") (w50 hw)) (w50 hw) (w49 hw) (w2 hw) (w51 hw) (by decide) pd__I_I rfl (W := 0) (by decide) (by decide) (Nat.le_of_eq rfl) (by decide) (by decide) rfl rfl at_205 rfl fun T h388 v389 A Q390 => ?_
      obtain ⟨rfl, eh⟩ := Q390
      rw [eh] at A
      refine Wp.stk (st' := [(.int q5)]) rfl ?_
      refine s_iload (pc' := 210) A at_208 rfl rfl ?_
      refine s_icmpN (pc' := 213) A at_210 rfl (teq (rfl : q5 = q5)).2 ?_
      refine s_iconst (pc' := 214) (z := (1 : Int32)) A at_213 rfl (by decide) ?_
      refine s_goto (pc' := 218) A at_214 (by decide) (by decide) ?_
      refine s_istore (pc' := 220) (Ls' := #[iv q0, iv q1, iv q2, iv q3, iv q4, iv q5, iv 3, rv b242, iv 3, rv b374, iv 1]) A at_218 rfl rfl ?_
      refine s_iload (pc' := 222) A at_220 rfl rfl ?_
      exact r_bool A rfl (by decide) at_222 (by decide) (by decide) (rfl)
set_option maxRecDepth 65536 in
set_option maxHeartbeats 40000000 in
theorem comes_1 {Post : Tables → Env → Array Value → State → Outcome → State → Prop} (hpost : ∀ tb e args s v u, (limb_1_1.after args s (.returned v) u = true ∧ limb_1_2.after args s (.returned v) u = true ∧ True) → FrameEnd s (.returned v) u (Jvm.fieldLocs frame_1_writes args s ++ Jvm.arrayLocs frame_1_arrays args s ++ Jvm.staticLocs frame_1_statics s) 16 128 → Post tb e args s (.returned v) u) :
    ArmFor flags0 classFile x code maxLocals ret World_1 tables_1 room_1 Calls_1 rest_1 Pre_1 Post := by
  intro l hfl _ _ p e ha hc hk s m args below hf hA hF happ hP
  obtain ⟨hcalls, hrest, hpre⟩ := hP
  obtain ⟨-, -, -, hnamed, -, -, -, hat⟩ := (Spec.applies_iff hf).mp happ
  obtain ⟨hg, hn⟩ := and_e (Cond.before_iff.mp (show (Jvm.Cond.and given_1 narrow_1).before args s = true from hpre))
  obtain ⟨hcnt, hg⟩ := and_e hg
  obtain ⟨w0, w1, w2, w3, w4, w5, rfl⟩ : ∃ w0 w1 w2 w3 w4 w5 : Value, args = #[w0, w1, w2, w3, w4, w5] := by
    have hs : args.size = 6 := by simpa [Cond.value, given_1] using hcnt
    obtain ⟨L⟩ := args
    match L, hs with
    | [w0, w1, w2, w3, w4, w5], _ => exact ⟨w0, w1, w2, w3, w4, w5, rfl⟩
  have hw := fun d (hd : d ∈ tables_1) => atoms_spec (ws := Jvm.Cond.code x code maxLocals ret :: tables_1) hat d (List.mem_cons_of_mem _ hd)
  have hfit : Fit s := fun {y c} hc i hi => by
    obtain ⟨ha, rfl⟩ := Array.getElem?_eq_some_iff.mp hc
    have q := List.all_eq_true.mp ((Array.all_eq_true_iff_forall_mem.mp hF) _ (Array.getElem_mem ha)) i (List.mem_range.mpr hi)
    simpa [Array.getElem?_eq_getElem hi] using q
  obtain ⟨g0, hg⟩ := and_e hg
  obtain ⟨x0, e0⟩ := is_v g0
  obtain rfl : w0 = (.int x0) := Option.some.inj e0
  obtain ⟨g1, hg⟩ := and_e hg
  obtain ⟨x1, e1⟩ := is_v g1
  obtain rfl : w1 = (.int x1) := Option.some.inj e1
  obtain ⟨g2, hg⟩ := and_e hg
  obtain ⟨x2, e2⟩ := is_v g2
  obtain rfl : w2 = (.int x2) := Option.some.inj e2
  obtain ⟨g3, hg⟩ := and_e hg
  obtain ⟨x3, e3⟩ := is_v g3
  obtain rfl : w3 = (.int x3) := Option.some.inj e3
  obtain ⟨g4, hg⟩ := and_e hg
  obtain ⟨x4, e4⟩ := is_v g4
  obtain rfl : w4 = (.int x4) := Option.some.inj e4
  obtain ⟨x5, e5⟩ := is_v hg
  obtain rfl : w5 = (.int x5) := Option.some.inj e5
  obtain ⟨n, o, h1, h2, h3, _, L, rfl, ⟨N, rfl⟩, hq⟩ := rm0 l s _ hw s.heap.size s.heap (Nat.le_refl _) x0 x1 x2 x3 x4 x5 tables_1 p e ha hc hk s m _ below hf ((Spec.applies_iff_loose hf).mp happ).1 ⟨rfl, State.Warmed39.refl s, rfl⟩ trivial
  refine ⟨n, _, h1, h2, h3, hpost _ _ _ _ _ _ ⟨Cond.after_iff.mpr rfl, Cond.after_iff.mpr (eq_i res_at (Term.int_eval (1)) rfl), trivial⟩ ⟨hq.1, hq.2.1, (hq.2.2.sift fun y hy => Or.inr (N y hy)).mono (by decide) (by decide)⟩⟩
theorem main_1_1 : Claimed_1_1 := comes_1 fun _ _ _ _ _ _ h hF => ⟨h.1, hF⟩
theorem main_1_2 : Claimed_1_2 := comes_1 fun _ _ _ _ _ _ h hF => ⟨h.2.1, hF⟩
end Jvm.Pilot.@@N@@
namespace Jvm.Pilot.@@N@@
open Jvm Jvm.ClassFile Sem Op Lib Jvm.Free Jvm.Stand Jvm.Pilot.@@N@@.Jvm.D
/-! MADE BY PROGRAM (witnessworld.py) out of the Statement's table words and the real class files: 12 classes; the members and pool entries that the words name. The judged class is class 1, her method 1. -/
namespace start1
open Jvm.ClassFile
def u (s : String) : CpInfo := .utf8 (stringToUtf16 s)
/-- a pool by its gaps: so many unusable entries, then the entry; so many at the end -/
def gap : Nat → List CpInfo → List CpInfo
  | 0, r => r
  | n + 1, r => .unusable :: gap n r
def poolList (es : List (Nat × CpInfo)) (last : Nat) : List CpInfo := es.foldr (fun e r => gap e.1 (e.2 :: r)) (gap last [])
def pool (es : List (Nat × CpInfo)) (last : Nat) : Array CpInfo := ⟨poolList es last⟩
def fileOf (pool : Array CpInfo) (this : Nat) (attrs : Array Attribute := #[]) (ms : Array MethodInfo := #[]) (fl : Nat := 33) (sup : Nat := 0) (ifs : Array Nat := #[]) (fds : Array FieldInfo := #[]) : ClassFile where
  minorVersion := 0
  majorVersion := 65
  constantPool := pool
  accessFlags := fl
  thisClass := this
  superClass := sup
  interfaces := ifs
  fields := fds
  methods := ms
  attributes := attrs
def plain (name : String) (sup : Option ClassId) : Class where
  name := name
  kind := .ordinary
  loader := none
  accessFlags := 33
  super := sup
  interfaces := #[]
  cf := none
  fields := #[]
  methods := #[]
  instanceTypes := #[]
  staticTypes := #[]
  resolved := #[]
  callSites := []
  init := .initialized
  statics := none
  mirror := none

def pool0 : Array CpInfo := pool [(5, u "<init>"), (0, u "()V"), (1, .class_ 10), (1, u "java/lang/Object")] 113

def k0c0 : Code := { maxStack := 0, maxLocals := 1, code := object_method_1_code, exceptionTable := #[], attributes := #[] }
def k0m0 : Method := { name := "<init>", desc := "()V", sig := { parameters := [], returnType := none }, accessFlags := 1, code := some k0c0 }
/-- java/lang/Object -/
def k0 : Class := { plain "java/lang/Object" none with
  accessFlags := 33
  interfaces := #[]
  cf := some (fileOf pool0 8 #[] #[{ accessFlags := 1, nameIndex := 5, descriptorIndex := 6, attributes := #[] }] 33 0 #[] #[])
  fields := #[]
  methods := #[k0m0]
  instanceTypes := #[]
  staticTypes := #[]
  resolved := Array.replicate 124 none
  statics := none }

def pool1 : Array CpInfo := pool [(2, .class_ 4), (0, .nameAndType 5 6), (0, u "java/lang/Object"), (0, u "<init>"), (0, u "()V"), (0, .class_ 8), (0, u "com/example/otab/otab/tableau/IntList"), (0, .methodref 7 3), (0, .methodref 7 11), (0, .nameAndType 12 13), (0, u "add"), (0, u "(I)V"), (0, .integer 2147483647), (0, .methodref 7 16), (0, .nameAndType 17 13), (0, u "truncate"), (0, .methodref 7 19), (0, .nameAndType 20 21), (0, u "size"), (0, u "()I"), (0, .methodref 7 23), (0, .nameAndType 24 25), (0, u "toArray"), (0, u "()[I"), (0, .methodref 7 27), (0, .nameAndType 28 29), (0, u "get"), (0, u "(I)I"), (0, .class_ 31), (0, u "com/example/otab/otab/tableau/IntListTruncatePinLaw"), (2, u "law"), (0, u "(IIIIII)Z")] 5

def k1m0 : Method := { name := "<init>", desc := "()V", sig := { parameters := [], returnType := none }, accessFlags := 1, code := none }
def k1c1 : Code := { maxStack := 3, maxLocals := 11, code := code, exceptionTable := #[], attributes := #[] }
def k1m1 : Method := { name := "law", desc := "(IIIIII)Z", sig := { parameters := [.int, .int, .int, .int, .int, .int], returnType := some .boolean }, accessFlags := 9, code := some k1c1 }
/-- com/example/otab/otab/tableau/IntListTruncatePinLaw -/
def k1 : Class := { plain "com/example/otab/otab/tableau/IntListTruncatePinLaw" (some 0) with
  accessFlags := 49
  interfaces := #[]
  cf := some (fileOf pool1 30 #[] #[{ accessFlags := 1, nameIndex := 5, descriptorIndex := 6, attributes := #[] }, { accessFlags := 9, nameIndex := 34, descriptorIndex := 35, attributes := #[] }] 49 2 #[] #[])
  fields := #[]
  methods := #[k1m0, k1m1]
  instanceTypes := #[]
  staticTypes := #[]
  resolved := Array.replicate 41 none
  statics := none }

def pool2 : Array CpInfo := pool [(1, .methodref 2 3), (0, .class_ 4), (0, .nameAndType 5 6), (0, u "java/lang/Object"), (0, u "<init>"), (0, u "()V"), (0, .fieldref 8 9), (0, .class_ 10), (0, .nameAndType 11 12), (0, u "com/example/otab/otab/tableau/IntList"), (0, u "values"), (0, u "[I"), (0, .fieldref 8 14), (0, .nameAndType 15 16), (0, u "size"), (0, u "I"), (4, u "(I)V"), (0, .methodref 23 24), (0, .class_ 25), (0, .nameAndType 26 27), (0, u "java/util/Arrays"), (0, u "copyOf"), (0, u "([II)[I"), (9, u "()I"), (0, u "get"), (0, u "(I)I"), (3, u "add"), (1, u "truncate"), (0, u "toArray"), (0, u "()[I")] 2

def k2c0 : Code := { maxStack := 2, maxLocals := 1, code := prog_49_method_1_code, exceptionTable := #[], attributes := #[] }
def k2m0 : Method := { name := "<init>", desc := "()V", sig := { parameters := [], returnType := none }, accessFlags := 0, code := some k2c0 }
def k2c1 : Code := { maxStack := 1, maxLocals := 1, code := prog_49_method_2_code, exceptionTable := #[], attributes := #[] }
def k2m1 : Method := { name := "size", desc := "()I", sig := { parameters := [], returnType := some .int }, accessFlags := 0, code := some k2c1 }
def k2c2 : Code := { maxStack := 3, maxLocals := 2, code := prog_49_method_3_code, exceptionTable := #[], attributes := #[] }
def k2m2 : Method := { name := "get", desc := "(I)I", sig := { parameters := [.int], returnType := some .int }, accessFlags := 0, code := some k2c2 }
def k2c3 : Code := { maxStack := 5, maxLocals := 2, code := prog_49_method_5_code, exceptionTable := #[], attributes := #[] }
def k2m3 : Method := { name := "add", desc := "(I)V", sig := { parameters := [.int], returnType := none }, accessFlags := 0, code := some k2c3 }
def k2c4 : Code := { maxStack := 3, maxLocals := 2, code := prog_49_method_7_code, exceptionTable := #[], attributes := #[] }
def k2m4 : Method := { name := "truncate", desc := "(I)V", sig := { parameters := [.int], returnType := none }, accessFlags := 0, code := some k2c4 }
def k2c5 : Code := { maxStack := 2, maxLocals := 1, code := prog_49_method_8_code, exceptionTable := #[], attributes := #[] }
def k2m5 : Method := { name := "toArray", desc := "()[I", sig := { parameters := [], returnType := some (.array .int) }, accessFlags := 0, code := some k2c5 }
/-- com/example/otab/otab/tableau/IntList -/
def k2 : Class := { plain "com/example/otab/otab/tableau/IntList" (some 0) with
  accessFlags := 32
  interfaces := #[]
  cf := some (fileOf pool2 8 #[] #[{ accessFlags := 0, nameIndex := 5, descriptorIndex := 6, attributes := #[] }, { accessFlags := 0, nameIndex := 15, descriptorIndex := 37, attributes := #[] }, { accessFlags := 0, nameIndex := 38, descriptorIndex := 39, attributes := #[] }, { accessFlags := 0, nameIndex := 43, descriptorIndex := 21, attributes := #[] }, { accessFlags := 0, nameIndex := 45, descriptorIndex := 21, attributes := #[] }, { accessFlags := 0, nameIndex := 46, descriptorIndex := 47, attributes := #[] }] 32 2 #[] #[{ accessFlags := 2, nameIndex := 11, descriptorIndex := 12, attributes := #[] }, { accessFlags := 2, nameIndex := 15, descriptorIndex := 16, attributes := #[] }])
  fields := #[{ name := "values", type := (.array .int), accessFlags := 2, slot := 0, constantValue := 0 }, { name := "size", type := .int, accessFlags := 2, slot := 1, constantValue := 0 }]
  methods := #[k2m0, k2m1, k2m2, k2m3, k2m4, k2m5]
  instanceTypes := #[(.array .int), .int]
  staticTypes := #[]
  resolved := Array.replicate 50 none
  statics := none }

def pool3 : Array CpInfo := pool [(2, .class_ 4), (1, u "java/lang/Object"), (0, u "<init>"), (0, u "()V"), (7, .class_ 16), (1, u "java/util/Arrays"), (57, .class_ 76), (1, u "java/util/Arrays$NaturalOrder"), (36, .class_ 115), (1, u "java/util/Arrays$LegacyMergeSort"), (1, u "Z"), (32, .methodref 151 152), (0, .class_ 153), (0, .nameAndType 154 155), (0, u "java/lang/System"), (0, u "arraycopy"), (0, u "(Ljava/lang/Object;ILjava/lang/Object;II)V"), (146, u "copyOf"), (1, .methodref 305 306), (0, .class_ 307), (0, .nameAndType 308 309), (0, u "java/lang/Math"), (0, u "min"), (0, u "(II)I"), (65, .class_ 376), (0, u "java/util/Arrays$ArrayList"), (68, u "$assertionsDisabled"), (269, u "MIN_ARRAY_SORT_GRAN"), (0, u "I"), (2, u "INSERTIONSORT_THRESHOLD"), (151, u "([II)[I"), (103, .class_ 976), (0, u "java/util/Arrays$ArrayItr")] 52

def k3m0 : Method := { name := "<init>", desc := "()V", sig := { parameters := [], returnType := none }, accessFlags := 2, code := none }
def k3c1 : Code := { maxStack := 6, maxLocals := 3, code := jdk_65_method_123_code, exceptionTable := #[], attributes := #[] }
def k3m1 : Method := { name := "copyOf", desc := "([II)[I", sig := { parameters := [(.array .int), .int], returnType := some (.array .int) }, accessFlags := 9, code := some k3c1 }
/-- java/util/Arrays -/
def k3 : Class := { plain "java/util/Arrays" (some 0) with
  accessFlags := 49
  interfaces := #[]
  cf := some (fileOf pool3 14 #[.nestMembers #[975, 375, 113, 74]] #[{ accessFlags := 2, nameIndex := 5, descriptorIndex := 6, attributes := #[] }, { accessFlags := 9, nameIndex := 302, descriptorIndex := 871, attributes := #[] }] 49 2 #[] #[{ accessFlags := 26, nameIndex := 715, descriptorIndex := 716, attributes := #[] }, { accessFlags := 26, nameIndex := 719, descriptorIndex := 716, attributes := #[] }, { accessFlags := 4120, nameIndex := 445, descriptorIndex := 117, attributes := #[] }])
  fields := #[{ name := "MIN_ARRAY_SORT_GRAN", type := .int, accessFlags := 26, slot := 0, constantValue := 0 }, { name := "INSERTIONSORT_THRESHOLD", type := .int, accessFlags := 26, slot := 1, constantValue := 0 }, { name := "$assertionsDisabled", type := .boolean, accessFlags := 4120, slot := 2, constantValue := 0 }]
  methods := #[k3m0, k3m1]
  instanceTypes := #[]
  staticTypes := #[.int, .int, .boolean]
  resolved := Array.replicate 1029 none
  statics := none }

def pool4 : Array CpInfo := pool [(1, .class_ 2), (0, u "java/lang/Math"), (1, .class_ 6), (1, u "java/lang/Object"), (0, u "<init>"), (0, u "()V"), (89, .class_ 100), (1, u "java/lang/Math$RandomNumberGeneratorHolder"), (71, u "negativeZeroFloatBits"), (0, u "J"), (2, u "negativeZeroDoubleBits"), (24, u "min"), (43, u "$assertionsDisabled"), (0, u "Z"), (88, u "(II)I"), (2, u "twoToTheDoubleScaleDown"), (0, u "D"), (4, u "twoToTheDoubleScaleUp"), (9, u "E"), (3, u "PI"), (2, u "TAU"), (2, u "DEGREES_TO_RADIANS"), (0, u "RADIANS_TO_DEGREES")] 94

def k4m0 : Method := { name := "<init>", desc := "()V", sig := { parameters := [], returnType := none }, accessFlags := 2, code := none }
def k4c1 : Code := { maxStack := 2, maxLocals := 2, code := jdk_29_method_69_code, exceptionTable := #[], attributes := #[] }
def k4m1 : Method := { name := "min", desc := "(II)I", sig := { parameters := [.int, .int], returnType := some .int }, accessFlags := 9, code := some k4c1 }
/-- java/lang/Math -/
def k4 : Class := { plain "java/lang/Math" (some 0) with
  accessFlags := 49
  interfaces := #[]
  cf := some (fileOf pool4 1 #[.nestMembers #[98]] #[{ accessFlags := 2, nameIndex := 7, descriptorIndex := 8, attributes := #[] }, { accessFlags := 9, nameIndex := 201, descriptorIndex := 335, attributes := #[] }] 49 4 #[] #[{ accessFlags := 25, nameIndex := 354, descriptorIndex := 339, attributes := #[] }, { accessFlags := 25, nameIndex := 358, descriptorIndex := 339, attributes := #[] }, { accessFlags := 25, nameIndex := 361, descriptorIndex := 339, attributes := #[] }, { accessFlags := 26, nameIndex := 364, descriptorIndex := 339, attributes := #[] }, { accessFlags := 26, nameIndex := 365, descriptorIndex := 339, attributes := #[] }, { accessFlags := 26, nameIndex := 172, descriptorIndex := 173, attributes := #[] }, { accessFlags := 26, nameIndex := 176, descriptorIndex := 173, attributes := #[] }, { accessFlags := 8, nameIndex := 344, descriptorIndex := 339, attributes := #[] }, { accessFlags := 8, nameIndex := 338, descriptorIndex := 339, attributes := #[] }, { accessFlags := 4120, nameIndex := 245, descriptorIndex := 246, attributes := #[] }])
  fields := #[{ name := "E", type := .double, accessFlags := 25, slot := 0, constantValue := 0 }, { name := "PI", type := .double, accessFlags := 25, slot := 1, constantValue := 0 }, { name := "TAU", type := .double, accessFlags := 25, slot := 2, constantValue := 0 }, { name := "DEGREES_TO_RADIANS", type := .double, accessFlags := 26, slot := 3, constantValue := 0 }, { name := "RADIANS_TO_DEGREES", type := .double, accessFlags := 26, slot := 4, constantValue := 0 }, { name := "negativeZeroFloatBits", type := .long, accessFlags := 26, slot := 5, constantValue := 0 }, { name := "negativeZeroDoubleBits", type := .long, accessFlags := 26, slot := 6, constantValue := 0 }, { name := "twoToTheDoubleScaleUp", type := .double, accessFlags := 8, slot := 7, constantValue := 0 }, { name := "twoToTheDoubleScaleDown", type := .double, accessFlags := 8, slot := 8, constantValue := 0 }, { name := "$assertionsDisabled", type := .boolean, accessFlags := 4120, slot := 9, constantValue := 0 }]
  methods := #[k4m0, k4m1]
  instanceTypes := #[]
  staticTypes := #[.double, .double, .double, .double, .double, .long, .long, .double, .double, .boolean]
  resolved := Array.replicate 460 none
  statics := none }

def pool5 : Array CpInfo := pool [(2, .class_ 4), (1, u "java/lang/Object"), (0, u "<init>"), (0, u "()V"), (1, .class_ 10), (1, u "java/lang/System"), (0, u "allowSecurityManager"), (0, u "I"), (16, u "cons"), (0, u "Ljava/io/Console;"), (77, .class_ 110), (1, u "java/lang/System$CallersHolder"), (43, u "initialErrStream"), (0, u "Ljava/io/PrintStream;"), (19, u "security"), (0, u "Ljava/lang/SecurityManager;"), (31, .class_ 209), (0, u "java/lang/System$1"), (7, u "props"), (0, u "Ljava/util/Properties;"), (2, u "lineSeparator"), (0, u "Ljava/lang/String;"), (96, .class_ 321), (1, u "java/lang/System$LoggerFinder"), (5, .class_ 328), (0, u "java/lang/System$Logger"), (67, u "err"), (2, u "out"), (91, u "notSupportedJnuEncoding"), (15, u "in"), (17, u "initialIn"), (0, u "Ljava/io/InputStream;"), (35, u "bootLayer"), (0, u "Ljava/lang/ModuleLayer;"), (99, .class_ 664), (0, u "java/lang/System$2"), (9, u "NEVER"), (2, u "MAYBE"), (49, u "arraycopy"), (0, u "(Ljava/lang/Object;ILjava/lang/Object;II)V"), (72, .class_ 802), (0, u "java/lang/System$Logger$Level")] 31

def k5m0 : Method := { name := "<init>", desc := "()V", sig := { parameters := [], returnType := none }, accessFlags := 2, code := none }
def k5m1 : Method := { name := "arraycopy", desc := "(Ljava/lang/Object;ILjava/lang/Object;II)V", sig := { parameters := [(.object "java/lang/Object"), .int, (.object "java/lang/Object"), .int, .int], returnType := none }, accessFlags := 265, code := none }
/-- java/lang/System -/
def k5 : Class := { plain "java/lang/System" (some 0) with
  accessFlags := 49
  interfaces := #[]
  cf := some (fileOf pool5 8 #[.nestMembers #[319, 327, 801, 108, 663, 208]] #[{ accessFlags := 2, nameIndex := 5, descriptorIndex := 6, attributes := #[] }, { accessFlags := 265, nameIndex := 727, descriptorIndex := 728, attributes := #[] }] 49 2 #[] #[{ accessFlags := 25, nameIndex := 507, descriptorIndex := 526, attributes := #[] }, { accessFlags := 25, nameIndex := 399, descriptorIndex := 155, attributes := #[] }, { accessFlags := 25, nameIndex := 396, descriptorIndex := 155, attributes := #[] }, { accessFlags := 10, nameIndex := 525, descriptorIndex := 526, attributes := #[] }, { accessFlags := 26, nameIndex := 674, descriptorIndex := 12, attributes := #[] }, { accessFlags := 26, nameIndex := 677, descriptorIndex := 12, attributes := #[] }, { accessFlags := 10, nameIndex := 11, descriptorIndex := 12, attributes := #[] }, { accessFlags := 74, nameIndex := 175, descriptorIndex := 176, attributes := #[] }, { accessFlags := 10, nameIndex := 491, descriptorIndex := 222, attributes := #[] }, { accessFlags := 74, nameIndex := 29, descriptorIndex := 30, attributes := #[] }, { accessFlags := 74, nameIndex := 154, descriptorIndex := 155, attributes := #[] }, { accessFlags := 10, nameIndex := 217, descriptorIndex := 218, attributes := #[] }, { accessFlags := 10, nameIndex := 221, descriptorIndex := 222, attributes := #[] }, { accessFlags := 8, nameIndex := 562, descriptorIndex := 563, attributes := #[] }])
  fields := #[{ name := "in", type := (.object "java/io/InputStream"), accessFlags := 25, slot := 0, constantValue := 0 }, { name := "out", type := (.object "java/io/PrintStream"), accessFlags := 25, slot := 1, constantValue := 0 }, { name := "err", type := (.object "java/io/PrintStream"), accessFlags := 25, slot := 2, constantValue := 0 }, { name := "initialIn", type := (.object "java/io/InputStream"), accessFlags := 10, slot := 3, constantValue := 0 }, { name := "NEVER", type := .int, accessFlags := 26, slot := 4, constantValue := 0 }, { name := "MAYBE", type := .int, accessFlags := 26, slot := 5, constantValue := 0 }, { name := "allowSecurityManager", type := .int, accessFlags := 10, slot := 6, constantValue := 0 }, { name := "security", type := (.object "java/lang/SecurityManager"), accessFlags := 74, slot := 7, constantValue := 0 }, { name := "notSupportedJnuEncoding", type := (.object "java/lang/String"), accessFlags := 10, slot := 8, constantValue := 0 }, { name := "cons", type := (.object "java/io/Console"), accessFlags := 74, slot := 9, constantValue := 0 }, { name := "initialErrStream", type := (.object "java/io/PrintStream"), accessFlags := 74, slot := 10, constantValue := 0 }, { name := "props", type := (.object "java/util/Properties"), accessFlags := 10, slot := 11, constantValue := 0 }, { name := "lineSeparator", type := (.object "java/lang/String"), accessFlags := 10, slot := 12, constantValue := 0 }, { name := "bootLayer", type := (.object "java/lang/ModuleLayer"), accessFlags := 8, slot := 13, constantValue := 0 }]
  methods := #[k5m0, k5m1]
  instanceTypes := #[]
  staticTypes := #[(.object "java/io/InputStream"), (.object "java/io/PrintStream"), (.object "java/io/PrintStream"), (.object "java/io/InputStream"), .int, .int, .int, (.object "java/lang/SecurityManager"), (.object "java/lang/String"), (.object "java/io/Console"), (.object "java/io/PrintStream"), (.object "java/util/Properties"), (.object "java/lang/String"), (.object "java/lang/ModuleLayer")]
  resolved := Array.replicate 834 none
  statics := none }

def pool6 : Array CpInfo := pool [(1, u "java/lang/Cloneable"), (0, .class_ 1), (0, u "java/lang/Object"), (0, .class_ 3)] 3

/-- java/lang/Cloneable -/
def k6 : Class := { plain "java/lang/Cloneable" (some 0) with
  accessFlags := 1537
  interfaces := #[]
  cf := some (fileOf pool6 2 #[] #[] 1537 4 #[] #[])
  fields := #[]
  methods := #[]
  instanceTypes := #[]
  staticTypes := #[]
  resolved := Array.replicate 8 none
  statics := none }

def pool7 : Array CpInfo := pool [(1, u "java/io/Serializable"), (0, .class_ 1), (0, u "java/lang/Object"), (0, .class_ 3)] 3

/-- java/io/Serializable -/
def k7 : Class := { plain "java/io/Serializable" (some 0) with
  accessFlags := 1537
  interfaces := #[]
  cf := some (fileOf pool7 2 #[] #[] 1537 4 #[] #[])
  fields := #[]
  methods := #[]
  instanceTypes := #[]
  staticTypes := #[]
  resolved := Array.replicate 8 none
  statics := none }

/-- the primitive byte -/
def k8 : Class := { plain "byte" none with kind := .primitive 'B', accessFlags := 0x411 }
/-- [B -/
def k9 : Class := { plain "[B" (some 0) with kind := .array 8 .byte, interfaces := #[6, 7], accessFlags := 1041 }

/-- the primitive int -/
def k10 : Class := { plain "int" none with kind := .primitive 'I', accessFlags := 0x411 }
/-- [I -/
def k11 : Class := { plain "[I" (some 0) with kind := .array 10 .int, interfaces := #[6, 7], accessFlags := 1041 }

def heap : Heap := #[]
def classes : Array Class := #[k0, k1, k2, k3, k4, k5, k6, k7, k8, k9, k10, k11]
def interned : List (Array UInt16 × Addr) := []
def slotsUsed : Nat := 0
def theMethod : MethodId := ⟨1, 1⟩
def args0 : Array Value := #[.int 0, .int 1, .int 2, .int 3, .int 4, .int 5]
def aboutOver (below : List Frame) : State where
  vm := { classes := classes, interned := interned.toArray }
  heap := heap
  slotsUsed := slotsUsed
  threads := #[{ frames := .invoking theMethod args0 :: below }]
def below0 : List Frame := [.native { method := ⟨0, 0⟩, args := #[] }]
def about1 : State := aboutOver below0
def p0 : Program := .bare "" "" ""
def e0 : Env := launch0.env 0 0 0
theorem w_frames : about1.frames = Frame.invoking theMethod args0 :: below0 := rfl
set_option maxRecDepth 65536 in
theorem w_args : argsFit about1.vm theMethod args0 = true := by decide +kernel
set_option maxRecDepth 65536 in
theorem w_heap : heapFits about1 = true := by decide +kernel
set_option maxRecDepth 65536 in
theorem w_runnable : about1.curStatus? = some .runnable := by decide +kernel
set_option maxRecDepth 65536 in
theorem w_alone : about1.alone = true := by decide +kernel
set_option maxRecDepth 65536 in
theorem w_named : about1.methodNamed? x = some theMethod := by decide +kernel
set_option maxRecDepth 65536 in
theorem w_hears : about1.hears theMethod below0 = true := by decide +kernel
set_option maxRecDepth 65536 in
theorem w_ripe : about1.ripe theMethod args0 below0 = true := by decide +kernel
theorem w_running : about1.status = .running := rfl
set_option maxRecDepth 65536 in
theorem w_room : about1.hasRoom e0.platform room_1 = true :=
  launch0.hasRoom_least _ room_1 (by decide +kernel) (by decide +kernel) (by decide +kernel) (by decide +kernel) (by decide +kernel) (by decide +kernel)
theorem allAtoms_all (ts : List Jvm.Cond) (a : Array Jvm.Value) (st : Jvm.State) : (allAtoms ts).before a st = ts.all (fun c => c.before a st) := by
  induction ts with
  | nil => rfl
  | cons c t ih =>
    show (Jvm.Cond.and c (allAtoms t)).before a st = _
    rw [Jvm.Cond.before_and, ih, List.all_cons]
def words1 : List Jvm.Cond := Jvm.Cond.code x code maxLocals ret :: tables_1
/-- a 'code' word, met by the world's own term for the bytes: nothing is compared byte by byte -/
theorem code_word {y : MethodName} {bytes : ByteArray} {mx : Nat} {rt : Option FieldType} {a : Array Value} {s : State} {m : MethodId} {meth : Method} {c : Code} (h1 : s.methodNamed? y = some m) (h2 : s.vm.method? m = some meth) (h3 : meth.code = some c) (h4 : c.code = bytes)
    (h5 : (c.maxLocals == mx && c.exceptionTable.isEmpty && decide (c.maxStack ≤ mostOperands) && decide (meth.sig.returnType = rt) && !meth.locks && decide (parseMethodDescriptor y.desc = some meth.sig)) = true) : (Jvm.Cond.code y bytes mx rt).before a s = true := by
  simp only [Bool.and_eq_true, beq_iff_eq, Bool.not_eq_true', decide_eq_true_eq] at h5
  obtain ⟨⟨⟨⟨⟨g1, g2⟩, g3⟩, g4⟩, g5⟩, g6⟩ := h5
  simp [Cond.before, Cond.holds, Cond.value, h1, h2, h3, h4, g1, g2, g3, g4, g5, g6]
def isCode : Jvm.Cond → Bool
  | .code _ _ _ _ => true
  | _ => false
theorem all_split {L : List Jvm.Cond} {P : Jvm.Cond → Bool} (h1 : L.all (fun c => isCode c || P c) = true) (h2 : ∀ c ∈ L.filter isCode, P c = true) : L.all P = true := by
  refine List.all_eq_true.mpr fun c hc => ?_
  have h := List.all_eq_true.mp h1 c hc
  rcases Bool.eq_false_or_eq_true (isCode c) with hi | hi
  · exact h2 c (List.mem_filter.mpr ⟨hc, hi⟩)
  · simpa [hi] using h
set_option maxRecDepth 65536 in
theorem w_c0 : (Jvm.Cond.code x code maxLocals ret).before args0 about1 = true := code_word (m := ⟨1, 1⟩) (meth := k1m1) (c := k1c1) (by decide +kernel) rfl rfl rfl (by decide +kernel)
set_option maxRecDepth 65536 in
theorem w_c1 : (Jvm.Cond.code ({ cls := "com/example/otab/otab/tableau/IntList", name := "<init>", desc := "()V" } : Jvm.MethodName) prog_49_method_1_code (1 : Nat) (Option.none : Option Jvm.ClassFile.FieldType)).before args0 about1 = true := code_word (m := ⟨2, 0⟩) (meth := k2m0) (c := k2c0) (by decide +kernel) rfl rfl rfl (by decide +kernel)
set_option maxRecDepth 65536 in
theorem w_c2 : (Jvm.Cond.code ({ cls := "java/lang/Object", name := "<init>", desc := "()V" } : Jvm.MethodName) object_method_1_code (1 : Nat) (Option.none : Option Jvm.ClassFile.FieldType)).before args0 about1 = true := code_word (m := ⟨0, 0⟩) (meth := k0m0) (c := k0c0) (by decide +kernel) rfl rfl rfl (by decide +kernel)
set_option maxRecDepth 65536 in
theorem w_c3 : (Jvm.Cond.code ({ cls := "com/example/otab/otab/tableau/IntList", name := "truncate", desc := "(I)V" } : Jvm.MethodName) prog_49_method_7_code (2 : Nat) (Option.none : Option Jvm.ClassFile.FieldType)).before args0 about1 = true := code_word (m := ⟨2, 4⟩) (meth := k2m4) (c := k2c4) (by decide +kernel) rfl rfl rfl (by decide +kernel)
set_option maxRecDepth 65536 in
theorem w_c4 : (Jvm.Cond.code ({ cls := "com/example/otab/otab/tableau/IntList", name := "size", desc := "()I" } : Jvm.MethodName) prog_49_method_2_code (1 : Nat) (Option.some Jvm.ClassFile.FieldType.int)).before args0 about1 = true := code_word (m := ⟨2, 1⟩) (meth := k2m1) (c := k2c1) (by decide +kernel) rfl rfl rfl (by decide +kernel)
set_option maxRecDepth 65536 in
theorem w_c5 : (Jvm.Cond.code ({ cls := "com/example/otab/otab/tableau/IntList", name := "toArray", desc := "()[I" } : Jvm.MethodName) prog_49_method_8_code (1 : Nat) (Option.some (Jvm.ClassFile.FieldType.array Jvm.ClassFile.FieldType.int))).before args0 about1 = true := code_word (m := ⟨2, 5⟩) (meth := k2m5) (c := k2c5) (by decide +kernel) rfl rfl rfl (by decide +kernel)
set_option maxRecDepth 65536 in
theorem w_c6 : (Jvm.Cond.code ({ cls := "java/util/Arrays", name := "copyOf", desc := "([II)[I" } : Jvm.MethodName) jdk_65_method_123_code (3 : Nat) (Option.some (Jvm.ClassFile.FieldType.array Jvm.ClassFile.FieldType.int))).before args0 about1 = true := code_word (m := ⟨3, 1⟩) (meth := k3m1) (c := k3c1) (by decide +kernel) rfl rfl rfl (by decide +kernel)
set_option maxRecDepth 65536 in
theorem w_c7 : (Jvm.Cond.code ({ cls := "java/lang/Math", name := "min", desc := "(II)I" } : Jvm.MethodName) jdk_29_method_69_code (2 : Nat) (Option.some Jvm.ClassFile.FieldType.int)).before args0 about1 = true := code_word (m := ⟨4, 1⟩) (meth := k4m1) (c := k4c1) (by decide +kernel) rfl rfl rfl (by decide +kernel)
set_option maxRecDepth 65536 in
theorem w_c8 : (Jvm.Cond.code ({ cls := "com/example/otab/otab/tableau/IntList", name := "add", desc := "(I)V" } : Jvm.MethodName) prog_49_method_5_code (2 : Nat) (Option.none : Option Jvm.ClassFile.FieldType)).before args0 about1 = true := code_word (m := ⟨2, 3⟩) (meth := k2m3) (c := k2c3) (by decide +kernel) rfl rfl rfl (by decide +kernel)
set_option maxRecDepth 65536 in
theorem w_c9 : (Jvm.Cond.code ({ cls := "com/example/otab/otab/tableau/IntList", name := "get", desc := "(I)I" } : Jvm.MethodName) prog_49_method_3_code (2 : Nat) (Option.some Jvm.ClassFile.FieldType.int)).before args0 about1 = true := code_word (m := ⟨2, 2⟩) (meth := k2m2) (c := k2c2) (by decide +kernel) rfl rfl rfl (by decide +kernel)
def codes1 : List Jvm.Cond := [Jvm.Cond.code x code maxLocals ret, Jvm.Cond.code ({ cls := "com/example/otab/otab/tableau/IntList", name := "<init>", desc := "()V" } : Jvm.MethodName) prog_49_method_1_code (1 : Nat) (Option.none : Option Jvm.ClassFile.FieldType), Jvm.Cond.code ({ cls := "java/lang/Object", name := "<init>", desc := "()V" } : Jvm.MethodName) object_method_1_code (1 : Nat) (Option.none : Option Jvm.ClassFile.FieldType), Jvm.Cond.code ({ cls := "com/example/otab/otab/tableau/IntList", name := "truncate", desc := "(I)V" } : Jvm.MethodName) prog_49_method_7_code (2 : Nat) (Option.none : Option Jvm.ClassFile.FieldType), Jvm.Cond.code ({ cls := "com/example/otab/otab/tableau/IntList", name := "size", desc := "()I" } : Jvm.MethodName) prog_49_method_2_code (1 : Nat) (Option.some Jvm.ClassFile.FieldType.int), Jvm.Cond.code ({ cls := "com/example/otab/otab/tableau/IntList", name := "toArray", desc := "()[I" } : Jvm.MethodName) prog_49_method_8_code (1 : Nat) (Option.some (Jvm.ClassFile.FieldType.array Jvm.ClassFile.FieldType.int)), Jvm.Cond.code ({ cls := "java/util/Arrays", name := "copyOf", desc := "([II)[I" } : Jvm.MethodName) jdk_65_method_123_code (3 : Nat) (Option.some (Jvm.ClassFile.FieldType.array Jvm.ClassFile.FieldType.int)), Jvm.Cond.code ({ cls := "java/lang/Math", name := "min", desc := "(II)I" } : Jvm.MethodName) jdk_29_method_69_code (2 : Nat) (Option.some Jvm.ClassFile.FieldType.int), Jvm.Cond.code ({ cls := "com/example/otab/otab/tableau/IntList", name := "add", desc := "(I)V" } : Jvm.MethodName) prog_49_method_5_code (2 : Nat) (Option.none : Option Jvm.ClassFile.FieldType), Jvm.Cond.code ({ cls := "com/example/otab/otab/tableau/IntList", name := "get", desc := "(I)I" } : Jvm.MethodName) prog_49_method_3_code (2 : Nat) (Option.some Jvm.ClassFile.FieldType.int)]
set_option maxRecDepth 65536 in
theorem codes_eq : words1.filter isCode = codes1 := rfl
theorem w_codes : ∀ c ∈ words1.filter isCode, c.before args0 about1 = true := by
  rw [codes_eq]
  intro c hc
  simp only [codes1, List.mem_cons, List.not_mem_nil, or_false] at hc
  rcases hc with rfl | rfl | rfl | rfl | rfl | rfl | rfl | rfl | rfl | rfl
  · exact w_c0
  · exact w_c1
  · exact w_c2
  · exact w_c3
  · exact w_c4
  · exact w_c5
  · exact w_c6
  · exact w_c7
  · exact w_c8
  · exact w_c9
set_option maxRecDepth 65536 in
theorem w_t1 : (words1.take 24).all (fun c => isCode c || c.before args0 about1) = true := by decide +kernel
set_option maxRecDepth 65536 in
theorem w_t2 : ((words1.drop 24).take 24).all (fun c => isCode c || c.before args0 about1) = true := by decide +kernel
set_option maxRecDepth 65536 in
theorem w_t3 : ((words1.drop 24).drop 24).all (fun c => isCode c || c.before args0 about1) = true := by decide +kernel
theorem w_tables : (allAtoms (Jvm.Cond.code x code maxLocals ret :: tables_1)).before args0 about1 = true := by
  rw [allAtoms_all]
  show words1.all (fun c => c.before args0 about1) = true
  refine all_split ?_ w_codes
  rw [← List.take_append_drop 24 words1, List.all_append, w_t1, ← List.take_append_drop 24 (words1.drop 24), List.all_append, w_t2, w_t3]
  rfl
set_option maxRecDepth 65536 in
theorem w_case : (Jvm.Cond.and given_1 narrow_1).before args0 about1 = true := by decide +kernel
theorem w_applies : (headSpec (Jvm.Cond.code x code maxLocals ret :: tables_1) room_1).applies x e0.platform about1 = true :=
  (Spec.applies_iff w_frames).mpr ⟨w_running, w_runnable, w_alone, w_named, w_hears, w_ripe, w_room, w_tables⟩
theorem atStart : AtStart classFile x code maxLocals ret World_1 tables_1 room_1 Calls_1 rest_1 Pre_1 launch0 p0 e0 about1 theMethod args0 below0 :=
  ⟨lists_1, trivial, launch0.admits_env _ _ _, launch0.least_env, fairChoices_fair.cas, fairChoices_fair.clock, w_frames, w_args, w_heap, w_applies, trivial, trivial, w_case⟩
end start1
theorem witness_1 : WitnessClaimed_1 := ⟨start1.p0, start1.e0, start1.about1, start1.theMethod, start1.args0, start1.below0, start1.atStart⟩
end Jvm.Pilot.@@N@@
