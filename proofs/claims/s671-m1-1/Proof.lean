import JvmDerived
import JvmDerived.Pilot.@@N@@Statement
import JvmDerived.Pilot.@@N@@Code
set_option linter.unusedVariables false
set_option linter.unusedSimpArgs false
namespace Jvm.Ow
open Sem ClassFile Op Lib Jvm.Stand Jvm.Free Jvm.LawKit Jvm.RoadKit
abbrev jv (x : Int64) : Slot := .val (.long x)
abbrev U0 : Slot := .unset
abbrev S2 : Slot := .second
def ush (x y : Int32) : Int32 := (x.toUInt32 >>> (y &&& 31).toUInt32).toInt32
def ushL (x : Int64) (y : Int32) : Int64 := (x.toUInt64 >>> (y &&& 0x3f).toInt64.toUInt64).toInt64
def On (l : Launch) (Z : State) (n0 : Nat) (own : String) (bytes : ByteArray) (maxL : Nat) (ret : Option FieldType) (R : Room) (p : Program) (e : Env) (s : State) (m : MethodId) (args : Array Value) (below : List Frame) (meth : Method) (c : Code) (T : State) (h : Heap) (k n : Nat) : Prop :=
  ∃ locs, Stand p l e R s m args below meth c T locs k n ∧ Fr n0 locs ∧ T.heap = h ∧ p.tables.exec = Jvm.exec ∧ Z.Warmed39 s.vm ∧ c.code = bytes ∧ c.maxLocals = maxL ∧ s.vm.findClass own = some m.cls ∧ meth.sig.returnType = ret ∧ meth.locks = false ∧ n0 ≤ s.heap.size
def Wp (p : Program) (e : Env) (below : List Frame) (s : State) (n0 ck cs : Nat) (Q : Option Value → Heap → Prop) (U : State) : Prop :=
  ∃ t o, Steps p.tables e below U t ∧ t.status = .running ∧ Ended t below o ∧ ∃ v L, o = .returned v ∧ (Fr n0 L ∧ Q v t.heap) ∧ FrameEnd s o t L ck cs
def Met (l : Launch) (Z : State) (n0 : Nat) (y : MethodName) (bytes : ByteArray) (maxL : Nat) (ret : Option FieldType) (rm : Room) (as : Array Value) (h : Heap) (Q : Option Value → Heap → Prop) : Prop :=
  ∀ ws, MetFree l y (head1 (Cond.code y bytes maxL ret :: ws) rm) (fun a U => a = as ∧ Z.Warmed39 U.vm ∧ U.heap = h) (fun _ _ _ _ _ => True) (fun _ U o U' => ∃ v L, o = .returned v ∧ (Fr n0 L ∧ Q v U'.heap) ∧ FrameEnd U o U' L rm.cells rm.slots)
/-- an array of the component type ty, whose components are vs -/
def AA (Z : State) (h : Heap) (a : Addr) (ty : FieldType) (vs : List Value) : Prop := ∃ c : Cell, Arr Z h a c ty ∧ c.slots = vs.toArray ∧ vs.length < 2147483648
section Kit
variable {l : Launch} {Z : State} {n0 : Nat} {own : String} {bytes : ByteArray} {maxL : Nat} {ret : Option FieldType} {R : Room} {p : Program} {e : Env} {s : State} {m : MethodId} {args : Array Value} {below : List Frame} {meth : Method} {c : Code} {T : State} {h h' : Heap} {k n ck cs : Nat} {Q : Option Value → Heap → Prop} {pc pc' : Nat} {Ls Ls' : Array Slot} {st : List Value} {a0 : Array Value} {a b : Addr} {ty : FieldType} {vs : List Value} {sl : Nat} {v w : Value} {ws : List Addr}
theorem AA.ext (F : AA Z h a ty vs) (E : Ext h h') : AA Z h' a ty vs := by obtain ⟨c, A, r⟩ := F; exact ⟨c, A.ext E, r⟩
theorem AA.other (F : AA Z h b ty vs) (W : Wr h h' a sl v) (q : b ≠ a) : AA Z h' b ty vs := by obtain ⟨c, A, r⟩ := F; exact ⟨c, A.other W q, r⟩
theorem AA.keep (F : AA Z h a ty vs) (K : Keep h h' ws) (q : a ∉ ws) : AA Z h' a ty vs := by obtain ⟨c, A, r⟩ := F; exact ⟨c, ⟨K.2.1 a c A.1 q, A.2⟩, r⟩
theorem AA.set (F : AA Z h a ty vs) (W : Wr h h' a sl v) : AA Z h' a ty (vs.set sl v) := by
  obtain ⟨c, A, r1, r2⟩ := F
  exact ⟨_, A.same W, by simp [Cell.setSlot, r1], by simpa using r2⟩
theorem AA.lt (F : AA Z h a ty vs) : a < h.size := by obtain ⟨c, A, -⟩ := F; exact A.lt
theorem AA.len (F : AA Z h a ty vs) : vs.length < 2147483648 := F.choose_spec.2.2
theorem AA.cast {vs' : List Value} (F : AA Z h a ty vs) (q : vs = vs') : AA Z h a ty vs' := q ▸ F
theorem Fld.cast {C f d : String} (F : Fld Z h a C f d v) (q : v = w) : Fld Z h a C f d w := q ▸ F
theorem AA.new {cA : ClassId} {z : Int32} {i : Nat} (A : Arr Z h a (newA cA ty z) ty) (hz : z.toInt = (i : Int)) : AA Z h a ty (List.replicate i (defaultValue ty)) := by
  have q : z.toNatClampNeg = i := by show z.toInt.toNat = i; omega
  have := z.toInt_lt
  refine ⟨_, A, ?_, ?_⟩
  · simp [newA, q]
  · simp; omega
theorem AA.ne_exa {C : String} {kk : Nat} (F : AA Z h a ty vs) (E : Exa Z h b C) (wi : (Cond.instantiable C kk).before a0 Z = true) : b ≠ a := by obtain ⟨c, A, -⟩ := F; exact ne_arr E wi A
theorem lt_ne {x y z : Nat} (q : x < y) (r : y = z) : x ≠ z := by omega
theorem le_eq {x y z : Nat} (q : x ≤ y) (r : y = z) : x ≤ z := by omega
theorem On.size(A : On l Z n0 own bytes maxL ret R p e s m args below meth c T h k n) : n0 ≤ h.size := by
  obtain ⟨locs, X, N, eT, hx, hZ, hby, hml, hown, hret, hlk, hsz⟩ := A
  have := X.same.2.1
  subst eT
  exact Nat.le_trans hsz this
theorem Wp.goo {U U' : State} (f : ∀ t, Steps p.tables e below U' t → Steps p.tables e below U t) (K : Wp p e below s n0 ck cs Q U') : Wp p e below s n0 ck cs Q U := by
  obtain ⟨t, o, q, r⟩ := K; exact ⟨t, o, f t q, r⟩
theorem Wp.cast {g g' : JFrame} (q : g = g') (K : Wp p e below s n0 ck cs Q (T.setTop g')) : Wp p e below s n0 ck cs Q (T.setTop g) := q ▸ K
theorem Wp.stk {st' : List Value} (q : st = st') (K : Wp p e below s n0 ck cs Q (T.setTop (mkF m pc Ls st'))) : Wp p e below s n0 ck cs Q (T.setTop (mkF m pc Ls st)) := q ▸ K
theorem Wp.mono {Q' : Option Value → Heap → Prop} {U : State} (K : Wp p e below s n0 ck cs Q U) (q : ∀ v h, Q v h → Q' v h) : Wp p e below s n0 ck cs Q' U := by
  obtain ⟨t, o, h1, h2, h3, v, L, h4, ⟨h5, h6⟩, h7⟩ := K; exact ⟨t, o, h1, h2, h3, v, L, h4, ⟨h5, q _ _ h6⟩, h7⟩
theorem met_intro {y : MethodName} {rm : Room} {as : Array Value} (hpl : plainFor y = true) (ho : y.cls = own) (hsz : n0 ≤ h.size)
    (body : ∀ p e s m below meth c T, On l Z n0 own bytes maxL ret rm p e s m as below meth c T h 0 0 → meth.name = y.name → Wp p e below s n0 rm.cells rm.slots Q (T.setTop (entryFrame m as maxL))) : Met l Z n0 y bytes maxL ret rm as h Q := by
  subst ho
  intro ws
  refine MetFree.of_bodySF hpl hisR ?_
  intro p e s m args below meth c s₁ Bd hml0 hP hK
  obtain ⟨rfl, hZ, hh⟩ := hP
  have X0 : Stand p l e rm s m args below meth c s₁ [] 0 0 := Stand.of_body Bd
  have e0 : s₁.heap = h := by rw [← hh, Bd.state]; rfl
  exact body p e s m below meth c s₁ ⟨[], X0, Fr.nil n0, e0, Bd.exec, hZ, Bd.bytes, hml0, findClass_of_methodNamed Bd.named, Bd.returns, Bd.notSynchronized, by rw [hh]; exact hsz⟩ (name_of_methodNamed Bd.named Bd.method).1
theorem Met.mono {y : MethodName} {rm : Room} {as : Array Value} {Q' : Option Value → Heap → Prop} (M : Met l Z n0 y bytes maxL ret rm as h Q) (q : ∀ v h, Q v h → Q' v h) : Met l Z n0 y bytes maxL ret rm as h Q' := by
  intro ws p e ha hc hk s m args below hf happ hP hK
  obtain ⟨n, o, h1, h2, h3, v, L, h4, ⟨h5, h6⟩, h7⟩ := M ws p e ha hc hk s m args below hf happ hP hK
  exact ⟨n, o, h1, h2, h3, v, L, h4, ⟨h5, q _ _ h6⟩, h7⟩
theorem s_iloadN (A : On l Z n0 own bytes maxL ret R p e s m args below meth c T h k n) {i : Fin 4} {z : Int32} (hd : decode bytes pc = .ok (.iload_n i, 1)) (hp : pc + 1 = pc') (hl : Ls[i.val]? = some (.val (.int z))) (K : Wp p e below s n0 ck cs Q (T.setTop (mkF m pc' Ls (.int z :: st)))) : Wp p e below s n0 ck cs Q (T.setTop (mkF m pc Ls st)) := by
  obtain ⟨locs, X, N, eT, hx, hZ, hby, hml, hown, hret, hlk, hsz⟩ := A
  subst hp
  exact K.goo fun t q => XS.iloadN X.here hx rfl (hb hby hd) hl q
theorem s_lloadN (A : On l Z n0 own bytes maxL ret R p e s m args below meth c T h k n) {i : Fin 4} {z : Int64} (hd : decode bytes pc = .ok (.lload_n i, 1)) (hp : pc + 1 = pc') (hl : Ls[i.val]? = some (.val (.long z))) (K : Wp p e below s n0 ck cs Q (T.setTop (mkF m pc' Ls (.long z :: st)))) : Wp p e below s n0 ck cs Q (T.setTop (mkF m pc Ls st)) := by
  obtain ⟨locs, X, N, eT, hx, hZ, hby, hml, hown, hret, hlk, hsz⟩ := A
  subst hp
  exact K.goo fun t q => XS.lloadN X.here hx rfl (hb hby hd) hl q
theorem s_aloadN (A : On l Z n0 own bytes maxL ret R p e s m args below meth c T h k n) {i : Fin 4} (hd : decode bytes pc = .ok (.aload_n i, 1)) (hp : pc + 1 = pc') (hl : Ls[i.val]? = some (.val v)) (hv : v.isRef = true) (K : Wp p e below s n0 ck cs Q (T.setTop (mkF m pc' Ls (v :: st)))) : Wp p e below s n0 ck cs Q (T.setTop (mkF m pc Ls st)) := by
  obtain ⟨locs, X, N, eT, hx, hZ, hby, hml, hown, hret, hlk, hsz⟩ := A
  subst hp
  exact K.goo fun t q => XS.aloadN X.here hx rfl (hb hby hd) hl hv q
theorem s_istoreN (A : On l Z n0 own bytes maxL ret R p e s m args below meth c T h k n) {i : Fin 4} {z : Int32} (hd : decode bytes pc = .ok (.istore_n i, 1)) (hp : pc + 1 = pc') (hl : storeLocals Ls i.val (.int z) = some Ls') (K : Wp p e below s n0 ck cs Q (T.setTop (mkF m pc' Ls' st))) : Wp p e below s n0 ck cs Q (T.setTop (mkF m pc Ls (.int z :: st))) := by
  obtain ⟨locs, X, N, eT, hx, hZ, hby, hml, hown, hret, hlk, hsz⟩ := A
  subst hp
  exact K.goo fun t q => XS.istoreN X.here hx rfl (hb hby hd) rfl hl q
theorem s_lstoreN (A : On l Z n0 own bytes maxL ret R p e s m args below meth c T h k n) {i : Fin 4} {z : Int64} (hd : decode bytes pc = .ok (.lstore_n i, 1)) (hp : pc + 1 = pc') (hl : storeLocals Ls i.val (.long z) = some Ls') (K : Wp p e below s n0 ck cs Q (T.setTop (mkF m pc' Ls' st))) : Wp p e below s n0 ck cs Q (T.setTop (mkF m pc Ls (.long z :: st))) := by
  obtain ⟨locs, X, N, eT, hx, hZ, hby, hml, hown, hret, hlk, hsz⟩ := A
  subst hp
  exact K.goo fun t q => XS.lstoreN X.here hx rfl (hb hby hd) rfl hl q
theorem s_astoreN (A : On l Z n0 own bytes maxL ret R p e s m args below meth c T h k n) {i : Fin 4} (hd : decode bytes pc = .ok (.astore_n i, 1)) (hp : pc + 1 = pc') (hv : v.isRef = true) (hl : storeLocals Ls i.val v = some Ls') (K : Wp p e below s n0 ck cs Q (T.setTop (mkF m pc' Ls' st))) : Wp p e below s n0 ck cs Q (T.setTop (mkF m pc Ls (v :: st))) := by
  obtain ⟨locs, X, N, eT, hx, hZ, hby, hml, hown, hret, hlk, hsz⟩ := A
  subst hp
  exact K.goo fun t q => XS.astoreN X.here hx rfl (hb hby hd) rfl hv hl q
theorem s_iload (A : On l Z n0 own bytes maxL ret R p e s m args below meth c T h k n) {i : Nat} {z : Int32} (hd : decode bytes pc = .ok (.iload i, 2)) (hp : pc + 2 = pc') (hl : Ls[i]? = some (.val (.int z))) (K : Wp p e below s n0 ck cs Q (T.setTop (mkF m pc' Ls (.int z :: st)))) : Wp p e below s n0 ck cs Q (T.setTop (mkF m pc Ls st)) := by
  obtain ⟨locs, X, N, eT, hx, hZ, hby, hml, hown, hret, hlk, hsz⟩ := A
  subst hp
  exact K.goo fun t q => XS.iload X.here hx rfl (hb hby hd) hl q
theorem s_lload (A : On l Z n0 own bytes maxL ret R p e s m args below meth c T h k n) {i : Nat} {z : Int64} (hd : decode bytes pc = .ok (.lload i, 2)) (hp : pc + 2 = pc') (hl : Ls[i]? = some (.val (.long z))) (K : Wp p e below s n0 ck cs Q (T.setTop (mkF m pc' Ls (.long z :: st)))) : Wp p e below s n0 ck cs Q (T.setTop (mkF m pc Ls st)) := by
  obtain ⟨locs, X, N, eT, hx, hZ, hby, hml, hown, hret, hlk, hsz⟩ := A
  subst hp
  exact K.goo fun t q => XS.lload X.here hx rfl (hb hby hd) hl q
theorem s_aload (A : On l Z n0 own bytes maxL ret R p e s m args below meth c T h k n) {i : Nat} (hd : decode bytes pc = .ok (.aload i, 2)) (hp : pc + 2 = pc') (hl : Ls[i]? = some (.val v)) (hv : v.isRef = true) (K : Wp p e below s n0 ck cs Q (T.setTop (mkF m pc' Ls (v :: st)))) : Wp p e below s n0 ck cs Q (T.setTop (mkF m pc Ls st)) := by
  obtain ⟨locs, X, N, eT, hx, hZ, hby, hml, hown, hret, hlk, hsz⟩ := A
  subst hp
  exact K.goo fun t q => XS.aload X.here hx rfl (hb hby hd) hl hv q
theorem s_istore (A : On l Z n0 own bytes maxL ret R p e s m args below meth c T h k n) {i : Nat} {z : Int32} (hd : decode bytes pc = .ok (.istore i, 2)) (hp : pc + 2 = pc') (hl : storeLocals Ls i (.int z) = some Ls') (K : Wp p e below s n0 ck cs Q (T.setTop (mkF m pc' Ls' st))) : Wp p e below s n0 ck cs Q (T.setTop (mkF m pc Ls (.int z :: st))) := by
  obtain ⟨locs, X, N, eT, hx, hZ, hby, hml, hown, hret, hlk, hsz⟩ := A
  subst hp
  exact K.goo fun t q => XS.istore X.here hx rfl (hb hby hd) rfl hl q
theorem s_lstore (A : On l Z n0 own bytes maxL ret R p e s m args below meth c T h k n) {i : Nat} {z : Int64} (hd : decode bytes pc = .ok (.lstore i, 2)) (hp : pc + 2 = pc') (hl : storeLocals Ls i (.long z) = some Ls') (K : Wp p e below s n0 ck cs Q (T.setTop (mkF m pc' Ls' st))) : Wp p e below s n0 ck cs Q (T.setTop (mkF m pc Ls (.long z :: st))) := by
  obtain ⟨locs, X, N, eT, hx, hZ, hby, hml, hown, hret, hlk, hsz⟩ := A
  subst hp
  exact K.goo fun t q => XS.lstore X.here hx rfl (hb hby hd) rfl hl q
theorem s_astore (A : On l Z n0 own bytes maxL ret R p e s m args below meth c T h k n) {i : Nat} (hd : decode bytes pc = .ok (.astore i, 2)) (hp : pc + 2 = pc') (hv : v.isRef = true) (hl : storeLocals Ls i v = some Ls') (K : Wp p e below s n0 ck cs Q (T.setTop (mkF m pc' Ls' st))) : Wp p e below s n0 ck cs Q (T.setTop (mkF m pc Ls (v :: st))) := by
  obtain ⟨locs, X, N, eT, hx, hZ, hby, hml, hown, hret, hlk, hsz⟩ := A
  subst hp
  exact K.goo fun t q => XS.astore X.here hx rfl (hb hby hd) rfl hv hl q
theorem s_iconst (A : On l Z n0 own bytes maxL ret R p e s m args below meth c T h k n) {i : Int} {z : Int32} (hd : decode bytes pc = .ok (.iconst i, 1)) (hp : pc + 1 = pc') (hz : Int32.ofInt i = z) (K : Wp p e below s n0 ck cs Q (T.setTop (mkF m pc' Ls (.int z :: st)))) : Wp p e below s n0 ck cs Q (T.setTop (mkF m pc Ls st)) := by
  obtain ⟨locs, X, N, eT, hx, hZ, hby, hml, hown, hret, hlk, hsz⟩ := A
  subst hp
  subst hz
  exact K.goo fun t q => XS.iconst X.here hx rfl (hb hby hd) q
theorem s_bipush (A : On l Z n0 own bytes maxL ret R p e s m args below meth c T h k n) {i : Int} {z : Int32} (hd : decode bytes pc = .ok (.bipush i, 2)) (hp : pc + 2 = pc') (hz : (Int8.ofInt i).toInt32 = z) (K : Wp p e below s n0 ck cs Q (T.setTop (mkF m pc' Ls (.int z :: st)))) : Wp p e below s n0 ck cs Q (T.setTop (mkF m pc Ls st)) := by
  obtain ⟨locs, X, N, eT, hx, hZ, hby, hml, hown, hret, hlk, hsz⟩ := A
  subst hp
  subst hz
  exact K.goo fun t q => XS.bipush X.here hx rfl (hb hby hd) q
theorem s_sipush (A : On l Z n0 own bytes maxL ret R p e s m args below meth c T h k n) {i : Int} {z : Int32} (hd : decode bytes pc = .ok (.sipush i, 3)) (hp : pc + 3 = pc') (hz : (Int16.ofInt i).toInt32 = z) (K : Wp p e below s n0 ck cs Q (T.setTop (mkF m pc' Ls (.int z :: st)))) : Wp p e below s n0 ck cs Q (T.setTop (mkF m pc Ls st)) := by
  obtain ⟨locs, X, N, eT, hx, hZ, hby, hml, hown, hret, hlk, hsz⟩ := A
  subst hp
  subst hz
  exact K.goo fun t q => XS.sipush X.here hx rfl (hb hby hd) q
theorem s_lconst (A : On l Z n0 own bytes maxL ret R p e s m args below meth c T h k n) {i : Fin 2} {z : Int64} (hd : decode bytes pc = .ok (.lconst i, 1)) (hp : pc + 1 = pc') (hz : Int64.ofNat i = z) (K : Wp p e below s n0 ck cs Q (T.setTop (mkF m pc' Ls (.long z :: st)))) : Wp p e below s n0 ck cs Q (T.setTop (mkF m pc Ls st)) := by
  obtain ⟨locs, X, N, eT, hx, hZ, hby, hml, hown, hret, hlk, hsz⟩ := A
  subst hp
  subst hz
  exact K.goo fun t q => XS.lconst X.here hx rfl (hb hby hd) q
theorem s_aconstNull (A : On l Z n0 own bytes maxL ret R p e s m args below meth c T h k n)  (hd : decode bytes pc = .ok (.aconst_null, 1)) (hp : pc + 1 = pc') (K : Wp p e below s n0 ck cs Q (T.setTop (mkF m pc' Ls (.null :: st)))) : Wp p e below s n0 ck cs Q (T.setTop (mkF m pc Ls st)) := by
  obtain ⟨locs, X, N, eT, hx, hZ, hby, hml, hown, hret, hlk, hsz⟩ := A
  subst hp
  exact K.goo fun t q => XS.aconstNull X.here hx rfl (hb hby hd) q
theorem s_iadd (A : On l Z n0 own bytes maxL ret R p e s m args below meth c T h k n) {x y z : Int32} (hd : decode bytes pc = .ok (.iadd, 1)) (hp : pc + 1 = pc') (hz : x + y = z) (K : Wp p e below s n0 ck cs Q (T.setTop (mkF m pc' Ls (.int z :: st)))) : Wp p e below s n0 ck cs Q (T.setTop (mkF m pc Ls (.int y :: .int x :: st))) := by
  obtain ⟨locs, X, N, eT, hx, hZ, hby, hml, hown, hret, hlk, hsz⟩ := A
  subst hp
  subst hz
  exact K.goo fun t q => XS.iadd X.here hx rfl (hb hby hd) rfl q
theorem s_ladd (A : On l Z n0 own bytes maxL ret R p e s m args below meth c T h k n) {x y z : Int64} (hd : decode bytes pc = .ok (.ladd, 1)) (hp : pc + 1 = pc') (hz : x + y = z) (K : Wp p e below s n0 ck cs Q (T.setTop (mkF m pc' Ls (.long z :: st)))) : Wp p e below s n0 ck cs Q (T.setTop (mkF m pc Ls (.long y :: .long x :: st))) := by
  obtain ⟨locs, X, N, eT, hx, hZ, hby, hml, hown, hret, hlk, hsz⟩ := A
  subst hp
  subst hz
  exact K.goo fun t q => XS.ladd X.here hx rfl (hb hby hd) rfl q
theorem s_isub (A : On l Z n0 own bytes maxL ret R p e s m args below meth c T h k n) {x y z : Int32} (hd : decode bytes pc = .ok (.isub, 1)) (hp : pc + 1 = pc') (hz : x - y = z) (K : Wp p e below s n0 ck cs Q (T.setTop (mkF m pc' Ls (.int z :: st)))) : Wp p e below s n0 ck cs Q (T.setTop (mkF m pc Ls (.int y :: .int x :: st))) := by
  obtain ⟨locs, X, N, eT, hx, hZ, hby, hml, hown, hret, hlk, hsz⟩ := A
  subst hp
  subst hz
  exact K.goo fun t q => XS.isub X.here hx rfl (hb hby hd) rfl q
theorem s_lsub (A : On l Z n0 own bytes maxL ret R p e s m args below meth c T h k n) {x y z : Int64} (hd : decode bytes pc = .ok (.lsub, 1)) (hp : pc + 1 = pc') (hz : x - y = z) (K : Wp p e below s n0 ck cs Q (T.setTop (mkF m pc' Ls (.long z :: st)))) : Wp p e below s n0 ck cs Q (T.setTop (mkF m pc Ls (.long y :: .long x :: st))) := by
  obtain ⟨locs, X, N, eT, hx, hZ, hby, hml, hown, hret, hlk, hsz⟩ := A
  subst hp
  subst hz
  exact K.goo fun t q => XS.lsub X.here hx rfl (hb hby hd) rfl q
theorem s_imul (A : On l Z n0 own bytes maxL ret R p e s m args below meth c T h k n) {x y z : Int32} (hd : decode bytes pc = .ok (.imul, 1)) (hp : pc + 1 = pc') (hz : x * y = z) (K : Wp p e below s n0 ck cs Q (T.setTop (mkF m pc' Ls (.int z :: st)))) : Wp p e below s n0 ck cs Q (T.setTop (mkF m pc Ls (.int y :: .int x :: st))) := by
  obtain ⟨locs, X, N, eT, hx, hZ, hby, hml, hown, hret, hlk, hsz⟩ := A
  subst hp
  subst hz
  exact K.goo fun t q => XS.imul X.here hx rfl (hb hby hd) rfl q
theorem s_lmul (A : On l Z n0 own bytes maxL ret R p e s m args below meth c T h k n) {x y z : Int64} (hd : decode bytes pc = .ok (.lmul, 1)) (hp : pc + 1 = pc') (hz : x * y = z) (K : Wp p e below s n0 ck cs Q (T.setTop (mkF m pc' Ls (.long z :: st)))) : Wp p e below s n0 ck cs Q (T.setTop (mkF m pc Ls (.long y :: .long x :: st))) := by
  obtain ⟨locs, X, N, eT, hx, hZ, hby, hml, hown, hret, hlk, hsz⟩ := A
  subst hp
  subst hz
  exact K.goo fun t q => XS.lmul X.here hx rfl (hb hby hd) rfl q
theorem s_iand (A : On l Z n0 own bytes maxL ret R p e s m args below meth c T h k n) {x y z : Int32} (hd : decode bytes pc = .ok (.iand, 1)) (hp : pc + 1 = pc') (hz : x &&& y = z) (K : Wp p e below s n0 ck cs Q (T.setTop (mkF m pc' Ls (.int z :: st)))) : Wp p e below s n0 ck cs Q (T.setTop (mkF m pc Ls (.int y :: .int x :: st))) := by
  obtain ⟨locs, X, N, eT, hx, hZ, hby, hml, hown, hret, hlk, hsz⟩ := A
  subst hp
  subst hz
  exact K.goo fun t q => XS.iand X.here hx rfl (hb hby hd) rfl q
theorem s_land (A : On l Z n0 own bytes maxL ret R p e s m args below meth c T h k n) {x y z : Int64} (hd : decode bytes pc = .ok (.land, 1)) (hp : pc + 1 = pc') (hz : x &&& y = z) (K : Wp p e below s n0 ck cs Q (T.setTop (mkF m pc' Ls (.long z :: st)))) : Wp p e below s n0 ck cs Q (T.setTop (mkF m pc Ls (.long y :: .long x :: st))) := by
  obtain ⟨locs, X, N, eT, hx, hZ, hby, hml, hown, hret, hlk, hsz⟩ := A
  subst hp
  subst hz
  exact K.goo fun t q => XS.land X.here hx rfl (hb hby hd) rfl q
theorem s_ior (A : On l Z n0 own bytes maxL ret R p e s m args below meth c T h k n) {x y z : Int32} (hd : decode bytes pc = .ok (.ior, 1)) (hp : pc + 1 = pc') (hz : x ||| y = z) (K : Wp p e below s n0 ck cs Q (T.setTop (mkF m pc' Ls (.int z :: st)))) : Wp p e below s n0 ck cs Q (T.setTop (mkF m pc Ls (.int y :: .int x :: st))) := by
  obtain ⟨locs, X, N, eT, hx, hZ, hby, hml, hown, hret, hlk, hsz⟩ := A
  subst hp
  subst hz
  exact K.goo fun t q => XS.ior X.here hx rfl (hb hby hd) rfl q
theorem s_lor (A : On l Z n0 own bytes maxL ret R p e s m args below meth c T h k n) {x y z : Int64} (hd : decode bytes pc = .ok (.lor, 1)) (hp : pc + 1 = pc') (hz : x ||| y = z) (K : Wp p e below s n0 ck cs Q (T.setTop (mkF m pc' Ls (.long z :: st)))) : Wp p e below s n0 ck cs Q (T.setTop (mkF m pc Ls (.long y :: .long x :: st))) := by
  obtain ⟨locs, X, N, eT, hx, hZ, hby, hml, hown, hret, hlk, hsz⟩ := A
  subst hp
  subst hz
  exact K.goo fun t q => XS.lor X.here hx rfl (hb hby hd) rfl q
theorem s_ixor (A : On l Z n0 own bytes maxL ret R p e s m args below meth c T h k n) {x y z : Int32} (hd : decode bytes pc = .ok (.ixor, 1)) (hp : pc + 1 = pc') (hz : x ^^^ y = z) (K : Wp p e below s n0 ck cs Q (T.setTop (mkF m pc' Ls (.int z :: st)))) : Wp p e below s n0 ck cs Q (T.setTop (mkF m pc Ls (.int y :: .int x :: st))) := by
  obtain ⟨locs, X, N, eT, hx, hZ, hby, hml, hown, hret, hlk, hsz⟩ := A
  subst hp
  subst hz
  exact K.goo fun t q => XS.ixor X.here hx rfl (hb hby hd) rfl q
theorem s_lxor (A : On l Z n0 own bytes maxL ret R p e s m args below meth c T h k n) {x y z : Int64} (hd : decode bytes pc = .ok (.lxor, 1)) (hp : pc + 1 = pc') (hz : x ^^^ y = z) (K : Wp p e below s n0 ck cs Q (T.setTop (mkF m pc' Ls (.long z :: st)))) : Wp p e below s n0 ck cs Q (T.setTop (mkF m pc Ls (.long y :: .long x :: st))) := by
  obtain ⟨locs, X, N, eT, hx, hZ, hby, hml, hown, hret, hlk, hsz⟩ := A
  subst hp
  subst hz
  exact K.goo fun t q => XS.lxor X.here hx rfl (hb hby hd) rfl q
theorem s_idiv (A : On l Z n0 own bytes maxL ret R p e s m args below meth c T h k n) {x y z : Int32} (hd : decode bytes pc = .ok (.idiv, 1)) (hp : pc + 1 = pc') (hy : y ≠ 0) (hz : x / y = z) (K : Wp p e below s n0 ck cs Q (T.setTop (mkF m pc' Ls (.int z :: st)))) : Wp p e below s n0 ck cs Q (T.setTop (mkF m pc Ls (.int y :: .int x :: st))) := by
  obtain ⟨locs, X, N, eT, hx, hZ, hby, hml, hown, hret, hlk, hsz⟩ := A
  subst hp
  subst hz
  exact K.goo fun t q => XS.idiv X.here hx rfl (hb hby hd) rfl hy q
theorem s_ldiv (A : On l Z n0 own bytes maxL ret R p e s m args below meth c T h k n) {x y z : Int64} (hd : decode bytes pc = .ok (.ldiv, 1)) (hp : pc + 1 = pc') (hy : y ≠ 0) (hz : x / y = z) (K : Wp p e below s n0 ck cs Q (T.setTop (mkF m pc' Ls (.long z :: st)))) : Wp p e below s n0 ck cs Q (T.setTop (mkF m pc Ls (.long y :: .long x :: st))) := by
  obtain ⟨locs, X, N, eT, hx, hZ, hby, hml, hown, hret, hlk, hsz⟩ := A
  subst hp
  subst hz
  exact K.goo fun t q => XS.ldiv X.here hx rfl (hb hby hd) rfl hy q
theorem s_irem (A : On l Z n0 own bytes maxL ret R p e s m args below meth c T h k n) {x y z : Int32} (hd : decode bytes pc = .ok (.irem, 1)) (hp : pc + 1 = pc') (hy : y ≠ 0) (hz : x % y = z) (K : Wp p e below s n0 ck cs Q (T.setTop (mkF m pc' Ls (.int z :: st)))) : Wp p e below s n0 ck cs Q (T.setTop (mkF m pc Ls (.int y :: .int x :: st))) := by
  obtain ⟨locs, X, N, eT, hx, hZ, hby, hml, hown, hret, hlk, hsz⟩ := A
  subst hp
  subst hz
  exact K.goo fun t q => iremM X hx rfl (hb hby hd) rfl hy q
theorem s_ineg (A : On l Z n0 own bytes maxL ret R p e s m args below meth c T h k n) {x z : Int32} (hd : decode bytes pc = .ok (.ineg, 1)) (hp : pc + 1 = pc') (hz : -x = z) (K : Wp p e below s n0 ck cs Q (T.setTop (mkF m pc' Ls (.int z :: st)))) : Wp p e below s n0 ck cs Q (T.setTop (mkF m pc Ls (.int x :: st))) := by
  obtain ⟨locs, X, N, eT, hx, hZ, hby, hml, hown, hret, hlk, hsz⟩ := A
  subst hp
  subst hz
  exact K.goo fun t q => XS.ineg X.here hx rfl (hb hby hd) rfl q
theorem s_ishl (A : On l Z n0 own bytes maxL ret R p e s m args below meth c T h k n) {x y z : Int32} (hd : decode bytes pc = .ok (.ishl, 1)) (hp : pc + 1 = pc') (hz : x <<< (y &&& 31) = z) (K : Wp p e below s n0 ck cs Q (T.setTop (mkF m pc' Ls (.int z :: st)))) : Wp p e below s n0 ck cs Q (T.setTop (mkF m pc Ls (.int y :: .int x :: st))) := by
  obtain ⟨locs, X, N, eT, hx, hZ, hby, hml, hown, hret, hlk, hsz⟩ := A
  subst hp
  subst hz
  exact K.goo fun t q => XS.ishl X.here hx rfl (hb hby hd) rfl q
theorem s_ishr (A : On l Z n0 own bytes maxL ret R p e s m args below meth c T h k n) {x y z : Int32} (hd : decode bytes pc = .ok (.ishr, 1)) (hp : pc + 1 = pc') (hz : x >>> (y &&& 31) = z) (K : Wp p e below s n0 ck cs Q (T.setTop (mkF m pc' Ls (.int z :: st)))) : Wp p e below s n0 ck cs Q (T.setTop (mkF m pc Ls (.int y :: .int x :: st))) := by
  obtain ⟨locs, X, N, eT, hx, hZ, hby, hml, hown, hret, hlk, hsz⟩ := A
  subst hp
  subst hz
  exact K.goo fun t q => XS.ishr X.here hx rfl (hb hby hd) rfl q
theorem s_iushr (A : On l Z n0 own bytes maxL ret R p e s m args below meth c T h k n) {x y z : Int32} (hd : decode bytes pc = .ok (.iushr, 1)) (hp : pc + 1 = pc') (hz : ush x y = z) (K : Wp p e below s n0 ck cs Q (T.setTop (mkF m pc' Ls (.int z :: st)))) : Wp p e below s n0 ck cs Q (T.setTop (mkF m pc Ls (.int y :: .int x :: st))) := by
  obtain ⟨locs, X, N, eT, hx, hZ, hby, hml, hown, hret, hlk, hsz⟩ := A
  subst hp
  subst hz
  exact K.goo fun t q => XS.iushr X.here hx rfl (hb hby hd) rfl q
theorem s_lshl (A : On l Z n0 own bytes maxL ret R p e s m args below meth c T h k n) {x z : Int64} {y : Int32} (hd : decode bytes pc = .ok (.lshl, 1)) (hp : pc + 1 = pc') (hz : x <<< (y &&& 0x3f).toInt64 = z) (K : Wp p e below s n0 ck cs Q (T.setTop (mkF m pc' Ls (.long z :: st)))) : Wp p e below s n0 ck cs Q (T.setTop (mkF m pc Ls (.int y :: .long x :: st))) := by
  obtain ⟨locs, X, N, eT, hx, hZ, hby, hml, hown, hret, hlk, hsz⟩ := A
  subst hp
  subst hz
  exact K.goo fun t q => XS.lshl X.here hx rfl (hb hby hd) rfl q
theorem s_lshr (A : On l Z n0 own bytes maxL ret R p e s m args below meth c T h k n) {x z : Int64} {y : Int32} (hd : decode bytes pc = .ok (.lshr, 1)) (hp : pc + 1 = pc') (hz : x >>> (y &&& 0x3f).toInt64 = z) (K : Wp p e below s n0 ck cs Q (T.setTop (mkF m pc' Ls (.long z :: st)))) : Wp p e below s n0 ck cs Q (T.setTop (mkF m pc Ls (.int y :: .long x :: st))) := by
  obtain ⟨locs, X, N, eT, hx, hZ, hby, hml, hown, hret, hlk, hsz⟩ := A
  subst hp
  subst hz
  exact K.goo fun t q => XS.lshr X.here hx rfl (hb hby hd) rfl q
theorem s_lushr (A : On l Z n0 own bytes maxL ret R p e s m args below meth c T h k n) {x z : Int64} {y : Int32} (hd : decode bytes pc = .ok (.lushr, 1)) (hp : pc + 1 = pc') (hz : ushL x y = z) (K : Wp p e below s n0 ck cs Q (T.setTop (mkF m pc' Ls (.long z :: st)))) : Wp p e below s n0 ck cs Q (T.setTop (mkF m pc Ls (.int y :: .long x :: st))) := by
  obtain ⟨locs, X, N, eT, hx, hZ, hby, hml, hown, hret, hlk, hsz⟩ := A
  subst hp
  subst hz
  exact K.goo fun t q => XS.lushr X.here hx rfl (hb hby hd) rfl q
theorem s_lcmp (A : On l Z n0 own bytes maxL ret R p e s m args below meth c T h k n) {x y : Int64} (hd : decode bytes pc = .ok (.lcmp, 1)) (hp : pc + 1 = pc') (K : Wp p e below s n0 ck cs Q (T.setTop (mkF m pc' Ls (.int (lcmpW x y) :: st)))) : Wp p e below s n0 ck cs Q (T.setTop (mkF m pc Ls (.long y :: .long x :: st))) := by
  obtain ⟨locs, X, N, eT, hx, hZ, hby, hml, hown, hret, hlk, hsz⟩ := A
  subst hp
  exact K.goo fun t q => XS.lcmp X.here hx rfl (hb hby hd) rfl q
theorem s_i2l (A : On l Z n0 own bytes maxL ret R p e s m args below meth c T h k n) {x : Int32} {z : Int64} (hd : decode bytes pc = .ok (.i2l, 1)) (hp : pc + 1 = pc') (hz : x.toInt64 = z) (K : Wp p e below s n0 ck cs Q (T.setTop (mkF m pc' Ls (.long z :: st)))) : Wp p e below s n0 ck cs Q (T.setTop (mkF m pc Ls (.int x :: st))) := by
  obtain ⟨locs, X, N, eT, hx, hZ, hby, hml, hown, hret, hlk, hsz⟩ := A
  subst hp
  subst hz
  exact K.goo fun t q => XS.i2l X.here hx rfl (hb hby hd) rfl q
theorem s_l2i (A : On l Z n0 own bytes maxL ret R p e s m args below meth c T h k n) {x : Int64} {z : Int32} (hd : decode bytes pc = .ok (.l2i, 1)) (hp : pc + 1 = pc') (hz : x.toInt32 = z) (K : Wp p e below s n0 ck cs Q (T.setTop (mkF m pc' Ls (.int z :: st)))) : Wp p e below s n0 ck cs Q (T.setTop (mkF m pc Ls (.long x :: st))) := by
  obtain ⟨locs, X, N, eT, hx, hZ, hby, hml, hown, hret, hlk, hsz⟩ := A
  subst hp
  subst hz
  exact K.goo fun t q => XS.l2i X.here hx rfl (hb hby hd) rfl q
theorem s_i2b (A : On l Z n0 own bytes maxL ret R p e s m args below meth c T h k n) {x z : Int32} (hd : decode bytes pc = .ok (.i2b, 1)) (hp : pc + 1 = pc') (hz : x.toInt8.toInt32 = z) (K : Wp p e below s n0 ck cs Q (T.setTop (mkF m pc' Ls (.int z :: st)))) : Wp p e below s n0 ck cs Q (T.setTop (mkF m pc Ls (.int x :: st))) := by
  obtain ⟨locs, X, N, eT, hx, hZ, hby, hml, hown, hret, hlk, hsz⟩ := A
  subst hp
  subst hz
  exact K.goo fun t q => XS.i2b X.here hx rfl (hb hby hd) rfl q
theorem s_dup (A : On l Z n0 own bytes maxL ret R p e s m args below meth c T h k n)  (hd : decode bytes pc = .ok (.dup, 1)) (hp : pc + 1 = pc') (hc : v.category = 1) (K : Wp p e below s n0 ck cs Q (T.setTop (mkF m pc' Ls (v :: v :: st)))) : Wp p e below s n0 ck cs Q (T.setTop (mkF m pc Ls (v :: st))) := by
  obtain ⟨locs, X, N, eT, hx, hZ, hby, hml, hown, hret, hlk, hsz⟩ := A
  subst hp
  exact K.goo fun t q => XS.dup X.here hx rfl (hb hby hd) rfl hc q
theorem s_dup2 (A : On l Z n0 own bytes maxL ret R p e s m args below meth c T h k n)  (hd : decode bytes pc = .ok (.dup2, 1)) (hp : pc + 1 = pc') (hc : v.category = 1) (hc' : w.category = 1) (K : Wp p e below s n0 ck cs Q (T.setTop (mkF m pc' Ls (v :: w :: v :: w :: st)))) : Wp p e below s n0 ck cs Q (T.setTop (mkF m pc Ls (v :: w :: st))) := by
  obtain ⟨locs, X, N, eT, hx, hZ, hby, hml, hown, hret, hlk, hsz⟩ := A
  subst hp
  exact K.goo fun t q => XT.dup2 X.here hx rfl (hb hby hd) rfl hc hc' q
theorem s_dup2L (A : On l Z n0 own bytes maxL ret R p e s m args below meth c T h k n) {x : Int64} (hd : decode bytes pc = .ok (.dup2, 1)) (hp : pc + 1 = pc') (K : Wp p e below s n0 ck cs Q (T.setTop (mkF m pc' Ls (.long x :: .long x :: st)))) : Wp p e below s n0 ck cs Q (T.setTop (mkF m pc Ls (.long x :: st))) := by
  obtain ⟨locs, X, N, eT, hx, hZ, hby, hml, hown, hret, hlk, hsz⟩ := A
  subst hp
  exact K.goo fun t q => XT.dup2L X.here hx rfl (hb hby hd) rfl q
theorem s_dupX1 (A : On l Z n0 own bytes maxL ret R p e s m args below meth c T h k n)  (hd : decode bytes pc = .ok (.dup_x1, 1)) (hp : pc + 1 = pc') (hc : v.category = 1) (hc' : w.category = 1) (K : Wp p e below s n0 ck cs Q (T.setTop (mkF m pc' Ls (v :: w :: v :: st)))) : Wp p e below s n0 ck cs Q (T.setTop (mkF m pc Ls (v :: w :: st))) := by
  obtain ⟨locs, X, N, eT, hx, hZ, hby, hml, hown, hret, hlk, hsz⟩ := A
  subst hp
  exact K.goo fun t q => XS.dupX1 X.here hx rfl (hb hby hd) rfl hc hc' q
theorem s_dup2X1L (A : On l Z n0 own bytes maxL ret R p e s m args below meth c T h k n) {x : Int64} (hd : decode bytes pc = .ok (.dup2_x1, 1)) (hp : pc + 1 = pc') (hc' : w.category = 1) (K : Wp p e below s n0 ck cs Q (T.setTop (mkF m pc' Ls (.long x :: w :: .long x :: st)))) : Wp p e below s n0 ck cs Q (T.setTop (mkF m pc Ls (.long x :: w :: st))) := by
  obtain ⟨locs, X, N, eT, hx, hZ, hby, hml, hown, hret, hlk, hsz⟩ := A
  subst hp
  refine K.goo fun t q => ?_
  jvm_step X.here [X.here.top, hx, (hb hby hd), Value.category, hc']
  exact ⟨hc', q⟩
theorem s_pop (A : On l Z n0 own bytes maxL ret R p e s m args below meth c T h k n)  (hd : decode bytes pc = .ok (.pop, 1)) (hp : pc + 1 = pc') (hc : v.category = 1) (K : Wp p e below s n0 ck cs Q (T.setTop (mkF m pc' Ls st))) : Wp p e below s n0 ck cs Q (T.setTop (mkF m pc Ls (v :: st))) := by
  obtain ⟨locs, X, N, eT, hx, hZ, hby, hml, hown, hret, hlk, hsz⟩ := A
  subst hp
  exact K.goo fun t q => XS.pop X.here hx rfl (hb hby hd) rfl hc q
theorem s_pop2L (A : On l Z n0 own bytes maxL ret R p e s m args below meth c T h k n) {x : Int64} (hd : decode bytes pc = .ok (.pop2, 1)) (hp : pc + 1 = pc') (K : Wp p e below s n0 ck cs Q (T.setTop (mkF m pc' Ls st))) : Wp p e below s n0 ck cs Q (T.setTop (mkF m pc Ls (.long x :: st))) := by
  obtain ⟨locs, X, N, eT, hx, hZ, hby, hml, hown, hret, hlk, hsz⟩ := A
  subst hp
  refine K.goo fun t q => ?_
  jvm_step X.here [X.here.top, hx, (hb hby hd), Value.category]
  exact q
theorem s_iinc (A : On l Z n0 own bytes maxL ret R p e s m args below meth c T h k n) {i : Nat} {j : Int} {x z : Int32} (hd : decode bytes pc = .ok (.iinc i j, 3)) (hp : pc + 3 = pc') (hl : Ls[i]? = some (.val (.int x))) (hz : x + Int32.ofInt j = z) (hs : storeLocals Ls i (.int z) = some Ls') (K : Wp p e below s n0 ck cs Q (T.setTop (mkF m pc' Ls' st))) : Wp p e below s n0 ck cs Q (T.setTop (mkF m pc Ls st)) := by
  obtain ⟨locs, X, N, eT, hx, hZ, hby, hml, hown, hret, hlk, hsz⟩ := A
  subst hp
  subst hz
  exact K.goo fun t q => XS.iinc X.here hx rfl (hb hby hd) hl hs q
theorem s_goto (A : On l Z n0 own bytes maxL ret R p e s m args below meth c T h k n)  {o : Int} (hd : decode bytes pc = .ok (.goto o, 3))  (ho : 0 ≤ (pc : Int) + o) (hp : ((pc : Int) + o).toNat = pc') (K : Wp p e below s n0 ck cs Q (T.setTop (mkF m pc' Ls st))) : Wp p e below s n0 ck cs Q (T.setTop (mkF m pc Ls st)) := by
  obtain ⟨locs, X, N, eT, hx, hZ, hby, hml, hown, hret, hlk, hsz⟩ := A
  exact K.goo fun t q => XS.goto X.here hx rfl (pc0 := pc) rfl (hb hby hd) ho hp q
theorem s_ifY (A : On l Z n0 own bytes maxL ret R p e s m args below meth c T h k n) {cd : ClassFile.Cond} {x : Int32} {o : Int} (hd : decode bytes pc = .ok (.ifCond cd o, 3)) (hc : ifCond.holds cd x = true) (ho : 0 ≤ (pc : Int) + o) (hp : ((pc : Int) + o).toNat = pc') (K : Wp p e below s n0 ck cs Q (T.setTop (mkF m pc' Ls st))) : Wp p e below s n0 ck cs Q (T.setTop (mkF m pc Ls (.int x :: st))) := by
  obtain ⟨locs, X, N, eT, hx, hZ, hby, hml, hown, hret, hlk, hsz⟩ := A
  exact K.goo fun t q => XS.ifYes X.here hx rfl (pc0 := pc) rfl (hb hby hd) rfl hc ho hp q
theorem s_icmpY (A : On l Z n0 own bytes maxL ret R p e s m args below meth c T h k n) {cd : ClassFile.Cond} {x y : Int32} {o : Int} (hd : decode bytes pc = .ok (.if_icmp cd o, 3)) (hc : if_icmp.holds cd x y = true) (ho : 0 ≤ (pc : Int) + o) (hp : ((pc : Int) + o).toNat = pc') (K : Wp p e below s n0 ck cs Q (T.setTop (mkF m pc' Ls st))) : Wp p e below s n0 ck cs Q (T.setTop (mkF m pc Ls (.int y :: .int x :: st))) := by
  obtain ⟨locs, X, N, eT, hx, hZ, hby, hml, hown, hret, hlk, hsz⟩ := A
  exact K.goo fun t q => XS.icmpYes X.here hx rfl (pc0 := pc) rfl (hb hby hd) rfl hc ho hp q
theorem s_ifnullY (A : On l Z n0 own bytes maxL ret R p e s m args below meth c T h k n)  {o : Int} (hd : decode bytes pc = .ok (.ifnull o, 3))  (ho : 0 ≤ (pc : Int) + o) (hp : ((pc : Int) + o).toNat = pc') (K : Wp p e below s n0 ck cs Q (T.setTop (mkF m pc' Ls st))) : Wp p e below s n0 ck cs Q (T.setTop (mkF m pc Ls (.null :: st))) := by
  obtain ⟨locs, X, N, eT, hx, hZ, hby, hml, hown, hret, hlk, hsz⟩ := A
  exact K.goo fun t q => XS.ifnullYes X.here hx rfl (pc0 := pc) rfl (hb hby hd) rfl ho hp q
theorem s_ifnonnullY (A : On l Z n0 own bytes maxL ret R p e s m args below meth c T h k n)  {o : Int} (hd : decode bytes pc = .ok (.ifnonnull o, 3))  (ho : 0 ≤ (pc : Int) + o) (hp : ((pc : Int) + o).toNat = pc') (K : Wp p e below s n0 ck cs Q (T.setTop (mkF m pc' Ls st))) : Wp p e below s n0 ck cs Q (T.setTop (mkF m pc Ls (.ref b :: st))) := by
  obtain ⟨locs, X, N, eT, hx, hZ, hby, hml, hown, hret, hlk, hsz⟩ := A
  exact K.goo fun t q => XS.ifnonnullYes X.here hx rfl (pc0 := pc) rfl (hb hby hd) rfl ho hp q
theorem s_acmpY (A : On l Z n0 own bytes maxL ret R p e s m args below meth c T h k n) {cd : ACond} {o : Int} (hd : decode bytes pc = .ok (.if_acmp cd o, 3)) (hv : v.isRef = true) (hw : w.isRef = true) (hc : XT.acmp cd v w = true) (ho : 0 ≤ (pc : Int) + o) (hp : ((pc : Int) + o).toNat = pc') (K : Wp p e below s n0 ck cs Q (T.setTop (mkF m pc' Ls st))) : Wp p e below s n0 ck cs Q (T.setTop (mkF m pc Ls (w :: v :: st))) := by
  obtain ⟨locs, X, N, eT, hx, hZ, hby, hml, hown, hret, hlk, hsz⟩ := A
  exact K.goo fun t q => XT.acmpYes X.here hx rfl (pc0 := pc) rfl (hb hby hd) rfl hv hw hc ho hp q
theorem s_ifN (A : On l Z n0 own bytes maxL ret R p e s m args below meth c T h k n) {cd : ClassFile.Cond} {x : Int32} {o : Int} (hd : decode bytes pc = .ok (.ifCond cd o, 3)) (hp : pc + 3 = pc') (hc : ifCond.holds cd x = false) (K : Wp p e below s n0 ck cs Q (T.setTop (mkF m pc' Ls st))) : Wp p e below s n0 ck cs Q (T.setTop (mkF m pc Ls (.int x :: st))) := by
  obtain ⟨locs, X, N, eT, hx, hZ, hby, hml, hown, hret, hlk, hsz⟩ := A
  subst hp
  exact K.goo fun t q => XS.ifNo X.here hx rfl (hb hby hd) rfl hc q
theorem s_icmpN (A : On l Z n0 own bytes maxL ret R p e s m args below meth c T h k n) {cd : ClassFile.Cond} {x y : Int32} {o : Int} (hd : decode bytes pc = .ok (.if_icmp cd o, 3)) (hp : pc + 3 = pc') (hc : if_icmp.holds cd x y = false) (K : Wp p e below s n0 ck cs Q (T.setTop (mkF m pc' Ls st))) : Wp p e below s n0 ck cs Q (T.setTop (mkF m pc Ls (.int y :: .int x :: st))) := by
  obtain ⟨locs, X, N, eT, hx, hZ, hby, hml, hown, hret, hlk, hsz⟩ := A
  subst hp
  exact K.goo fun t q => XS.icmpNo X.here hx rfl (hb hby hd) rfl hc q
theorem s_ifnullN (A : On l Z n0 own bytes maxL ret R p e s m args below meth c T h k n) {o : Int} (hd : decode bytes pc = .ok (.ifnull o, 3)) (hp : pc + 3 = pc') (K : Wp p e below s n0 ck cs Q (T.setTop (mkF m pc' Ls st))) : Wp p e below s n0 ck cs Q (T.setTop (mkF m pc Ls (.ref b :: st))) := by
  obtain ⟨locs, X, N, eT, hx, hZ, hby, hml, hown, hret, hlk, hsz⟩ := A
  subst hp
  exact K.goo fun t q => XS.ifnullNo X.here hx rfl (hb hby hd) rfl q
theorem s_ifnonnullN (A : On l Z n0 own bytes maxL ret R p e s m args below meth c T h k n) {o : Int} (hd : decode bytes pc = .ok (.ifnonnull o, 3)) (hp : pc + 3 = pc') (K : Wp p e below s n0 ck cs Q (T.setTop (mkF m pc' Ls st))) : Wp p e below s n0 ck cs Q (T.setTop (mkF m pc Ls (.null :: st))) := by
  obtain ⟨locs, X, N, eT, hx, hZ, hby, hml, hown, hret, hlk, hsz⟩ := A
  subst hp
  exact K.goo fun t q => XS.ifnonnullNo X.here hx rfl (hb hby hd) rfl q
theorem s_acmpN (A : On l Z n0 own bytes maxL ret R p e s m args below meth c T h k n) {cd : ACond} {o : Int} (hd : decode bytes pc = .ok (.if_acmp cd o, 3)) (hp : pc + 3 = pc') (hv : v.isRef = true) (hw : w.isRef = true) (hc : XT.acmp cd v w = false) (K : Wp p e below s n0 ck cs Q (T.setTop (mkF m pc' Ls st))) : Wp p e below s n0 ck cs Q (T.setTop (mkF m pc Ls (w :: v :: st))) := by
  obtain ⟨locs, X, N, eT, hx, hZ, hby, hml, hown, hret, hlk, hsz⟩ := A
  subst hp
  exact K.goo fun t q => XT.acmpNo X.here hx rfl (hb hby hd) rfl hv hw hc q
theorem s_ldcInt (A : On l Z n0 own bytes maxL ret R p e s m args below meth c T h k n) {i : Nat} {z : Int32} (hd : decode bytes pc = .ok (.ldc i, 2)) (hp : pc + 2 = pc') (w0 : (Cond.constant own i z).before a0 Z = true) (K : Wp p e below s n0 ck cs Q (T.setTop (mkF m pc' Ls (.int z :: st)))) : Wp p e below s n0 ck cs Q (T.setTop (mkF m pc Ls st)) := by
  obtain ⟨locs, X, N, eT, hx, hZ, hby, hml, hown, hret, hlk, hsz⟩ := A
  subst hp
  exact K.goo fun t q => X.ldcInt hx hown (mvT hZ w0) (g := mkF m pc Ls st) rfl (hb hby hd) t q
theorem s_ldcwInt (A : On l Z n0 own bytes maxL ret R p e s m args below meth c T h k n) {i : Nat} {z : Int32} (hd : decode bytes pc = .ok (.ldc_w i, 3)) (hp : pc + 3 = pc') (w0 : (Cond.constant own i z).before a0 Z = true) (K : Wp p e below s n0 ck cs Q (T.setTop (mkF m pc' Ls (.int z :: st)))) : Wp p e below s n0 ck cs Q (T.setTop (mkF m pc Ls st)) := by
  obtain ⟨locs, X, N, eT, hx, hZ, hby, hml, hown, hret, hlk, hsz⟩ := A
  subst hp
  exact K.goo fun t q => X.ldcwInt hx hown (mvT hZ w0) (g := mkF m pc Ls st) rfl (hb hby hd) t q
theorem s_ldc2Long (A : On l Z n0 own bytes maxL ret R p e s m args below meth c T h k n) {i : Nat} {z : Int64} (hd : decode bytes pc = .ok (.ldc2_w i, 3)) (hp : pc + 3 = pc') (w0 : (Cond.constantLong own i z).before a0 Z = true) (K : Wp p e below s n0 ck cs Q (T.setTop (mkF m pc' Ls (.long z :: st)))) : Wp p e below s n0 ck cs Q (T.setTop (mkF m pc Ls st)) := by
  obtain ⟨locs, X, N, eT, hx, hZ, hby, hml, hown, hret, hlk, hsz⟩ := A
  subst hp
  exact K.goo fun t q => X.ldc2Long hx hown (mvT hZ w0) (g := mkF m pc Ls st) rfl (hb hby hd) t q
theorem idx_ok {j : Int32} {i : Nat} (hj : j.toInt = (i : Int)) : j.toNatClampNeg = i := by show j.toInt.toNat = i; omega
theorem idx_in' {j : Int32} {i : Nat} {N : Nat} (hj : j.toInt = (i : Int)) (hi : i < N) : ¬ (j < 0 ∨ N ≤ j.toNatClampNeg) := by
  rw [idx_ok hj, Int32.lt_iff_toInt_lt, hj]
  have : (0 : Int32).toInt = 0 := by decide
  omega
theorem s_getfield (A : On l Z n0 own bytes maxL ret R p e s m args below meth c T h k n) {index : Nat} {R0 O f d host : String} (w0 : (Cond.fieldLink own index R0 f d).before a0 Z = true ∨ (Cond.fieldLinkNest own index R0 f d host).before a0 Z = true) (via : Via Z R0 O f d) (F : Fld Z h a O f d v) (hd : decode bytes pc = .ok (.getfield index, 3)) (hp : pc + 3 = pc') (K : ∀ T' , On l Z n0 own bytes maxL ret R p e s m args below meth c T' h k n → Wp p e below s n0 ck cs Q (T'.setTop (mkF m pc' Ls (v :: st)))) : Wp p e below s n0 ck cs Q (T.setTop (mkF m pc Ls (.ref a :: st))) := by
  obtain ⟨locs, X, N, eT, hx, hZ, hby, hml, hown, hret, hlk, hsz⟩ := A
  subst hp
  obtain ⟨T', X', e', q⟩ := getF X hx hZ hown w0 via eT F (g := mkF m pc Ls (.ref a :: st)) rfl rfl (hb hby hd)
  exact (K T' ⟨_, X', N, e', hx, hZ, hby, hml, hown, hret, hlk, hsz⟩).goo q
theorem s_getstatic (A : On l Z n0 own bytes maxL ret R p e s m args below meth c T h k n) {index : Nat} {R0 O f d host : String} (w0 : (Cond.fieldLink own index R0 f d).before a0 Z = true ∨ (Cond.fieldLinkNest own index R0 f d host).before a0 Z = true) (via : Via Z R0 O f d) (F : Sta Z h O f d v) (hd : decode bytes pc = .ok (.getstatic index, 3)) (hp : pc + 3 = pc') (K : ∀ T' , On l Z n0 own bytes maxL ret R p e s m args below meth c T' h k n → Wp p e below s n0 ck cs Q (T'.setTop (mkF m pc' Ls (v :: st)))) : Wp p e below s n0 ck cs Q (T.setTop (mkF m pc Ls st)) := by
  obtain ⟨locs, X, N, eT, hx, hZ, hby, hml, hown, hret, hlk, hsz⟩ := A
  subst hp
  obtain ⟨T', X', e', q⟩ := getS2 X hx hZ hown w0 via eT F (g := mkF m pc Ls st) rfl (hb hby hd)
  exact (K T' ⟨_, X', N, e', hx, hZ, hby, hml, hown, hret, hlk, hsz⟩).goo q
theorem s_putfield (A : On l Z n0 own bytes maxL ret R p e s m args below meth c T h k n) {index kk : Nat} {R0 O f d host C : String} (w0 : (Cond.fieldLink own index R0 f d).before a0 Z = true ∨ (Cond.fieldLinkNest own index R0 f d host).before a0 Z = true) (via : Via Z R0 O f d) (F : Fld Z h a O f d w) (E : Exa Z h a C) (L : (Cond.lays C O f d).before a0 Z = true ∨ ((Cond.laysFinal C O f d).before a0 Z = true ∧ own = O ∧ meth.name = "<init>")) (wi : (Cond.instantiable C kk).before a0 Z = true) (hty : parseFieldDescriptor d = some ty) (hnar : narrow ty v = v) (hfit : fits ty v = true) (ha : n0 ≤ a) (hd : decode bytes pc = .ok (.putfield index, 3)) (hp : pc + 3 = pc') (K : ∀ T' h', On l Z n0 own bytes maxL ret R p e s m args below meth c T' h' k n → Wr h h' a (Jvm.RoadKit.slotOf Z O f d) v → Wp p e below s n0 ck cs Q (T'.setTop (mkF m pc' Ls st))) : Wp p e below s n0 ck cs Q (T.setTop (mkF m pc Ls (v :: .ref a :: st))) := by
  obtain ⟨locs, X, N, eT, hx, hZ, hby, hml, hown, hret, hlk, hsz⟩ := A
  subst hp
  obtain ⟨T', h', X', e', W, q⟩ := putF X hx hZ hown w0 via eT F E L wi hty hnar hfit (g := mkF m pc Ls (v :: .ref a :: st)) rfl rfl (hb hby hd)
  exact (K T' h' ⟨_, X', Fr.snoc X' N ha, e', hx, hZ, hby, hml, hown, hret, hlk, hsz⟩ W).goo q
theorem s_putfieldN (A : On l Z n0 own bytes maxL ret R p e s m args below meth c T h k n) {index kk : Nat} {R0 O f d C : String} {v' : Value} (w0 : (Cond.fieldLink own index R0 f d).before a0 Z = true) (via : Via Z R0 O f d) (F : Fld Z h a O f d w) (E : Exa Z h a C) (L : (Cond.lays C O f d).before a0 Z = true ∨ ((Cond.laysFinal C O f d).before a0 Z = true ∧ own = O ∧ meth.name = "<init>")) (wi : (Cond.instantiable C kk).before a0 Z = true) (hty : parseFieldDescriptor d = some ty) (hnar : narrow ty v = v') (hfit : fits ty v' = true) (ha : n0 ≤ a) (hd : decode bytes pc = .ok (.putfield index, 3)) (hp : pc + 3 = pc') (K : ∀ T' h', On l Z n0 own bytes maxL ret R p e s m args below meth c T' h' k n → Wr h h' a (Jvm.RoadKit.slotOf Z O f d) v' → Wp p e below s n0 ck cs Q (T'.setTop (mkF m pc' Ls st))) : Wp p e below s n0 ck cs Q (T.setTop (mkF m pc Ls (v :: .ref a :: st))) := by
  obtain ⟨locs, X, N, eT, hx, hZ, hby, hml, hown, hret, hlk, hsz⟩ := A
  subst hp
  obtain ⟨T', h', X', e', W, q⟩ := putFN X hx hZ hown w0 via eT F E L wi hty hnar hfit (g := mkF m pc Ls (v :: .ref a :: st)) rfl rfl (hb hby hd)
  exact (K T' h' ⟨_, X', Fr.snoc X' N ha, e', hx, hZ, hby, hml, hown, hret, hlk, hsz⟩ W).goo q
theorem s_new (A : On l Z n0 own bytes maxL ret R p e s m args below meth c T h k n) {index ns : Nat} {C : String} (w0 : (Cond.classLink own index C).before a0 Z = true) (wi : (Cond.instantiable C ns).before a0 Z = true) (wz : (Cond.initialized C).before a0 Z = true) (hc : k + 1 ≤ R.cells) (hs : n + ns ≤ R.slots) (hd : decode bytes pc = .ok (.new index, 3)) (hp : pc + 3 = pc') (K : ∀ T' h' b, On l Z n0 own bytes maxL ret R p e s m args below meth c T' h' (k + 1) (n + ns) → h.size = b → n0 ≤ b → Ext h h' → Exa Z h' b C → (∀ {O nm d : String} {ty : FieldType}, Laid Z a0 C O nm d → parseFieldDescriptor d = some ty → Fld Z h' b O nm d (defaultValue ty)) → Wp p e below s n0 ck cs Q (T'.setTop (mkF m pc' Ls (.ref b :: st)))) : Wp p e below s n0 ck cs Q (T.setTop (mkF m pc Ls st)) := by
  obtain ⟨locs, X, N, eT, hx, hZ, hby, hml, hown, hret, hlk, hsz⟩ := A
  subst hp
  obtain ⟨T', h', X', e', E, A', D, -, q⟩ := newO X hx hZ hown w0 wi wz eT (g := mkF m pc Ls st) rfl (hb hby hd) hc hs
  have hz : n0 ≤ h.size := by rw [← eT]; exact Nat.le_trans hsz X.same.2.1
  exact (K T' h' _ ⟨_, X', N, e', hx, hZ, hby, hml, hown, hret, hlk, hsz⟩ rfl hz E A' D).goo q
theorem s_newarray (A : On l Z n0 own bytes maxL ret R p e s m args below meth c T h k n) {aty : ArrayType} {dv : Value} {z : Int32} {i cap : Nat} (hty : newarray.typeOf aty = ty) (hdv : defaultValue ty = dv) (wa : (Cond.arrayClass ty).before a0 Z = true) (hz : z.toInt = (i : Int)) (hcap : i ≤ cap) (hbig : cap * 8 ≤ 536870912) (hc : k + 1 ≤ R.cells) (hs : n + cap ≤ R.slots) (hd : decode bytes pc = .ok (.newarray aty, 2)) (hp : pc + 2 = pc') (K : ∀ T' h' b, On l Z n0 own bytes maxL ret R p e s m args below meth c T' h' (k + 1) (n + cap) → h.size = b → n0 ≤ b → Ext h h' → AA Z h' b ty (List.replicate i dv) → Wp p e below s n0 ck cs Q (T'.setTop (mkF m pc' Ls (.ref b :: st)))) : Wp p e below s n0 ck cs Q (T.setTop (mkF m pc Ls (.int z :: st))) := by
  obtain ⟨locs, X, N, eT, hx, hZ, hby, hml, hown, hret, hlk, hsz⟩ := A
  subst hp
  subst hty hdv
  have z0 : ¬ z < 0 := by rw [Int32.lt_iff_toInt_lt, hz]; have : (0 : Int32).toInt = 0 := by decide
                          omega
  obtain ⟨T', h', cA, X', e', E, A', q⟩ := newP X hx hZ wa eT (g := mkF m pc Ls (.int z :: st)) rfl (hb hby hd) rfl z0 (cap := cap) (by rw [idx_ok hz]; exact hcap) hbig hc hs
  have hz' : n0 ≤ h.size := by rw [← eT]; exact Nat.le_trans hsz X.same.2.1
  exact (K T' h' _ ⟨_, X', N, e', hx, hZ, hby, hml, hown, hret, hlk, hsz⟩ rfl hz' E (AA.new A' hz)).goo q
theorem s_iastore (A : On l Z n0 own bytes maxL ret R p e s m args below meth c T h k n) {x : Int32} {j : Int32} {i : Nat} (V : AA Z h a .int vs) (hj : j.toInt = (i : Int)) (hi : i < vs.length) (ha : n0 ≤ a) (hd : decode bytes pc = .ok (.iastore, 1)) (hp : pc + 1 = pc') (K : ∀ T' h', On l Z n0 own bytes maxL ret R p e s m args below meth c T' h' k n → Wr h h' a i (.int x) → AA Z h' a .int (vs.set i (.int x)) → Wp p e below s n0 ck cs Q (T'.setTop (mkF m pc' Ls st))) : Wp p e below s n0 ck cs Q (T.setTop (mkF m pc Ls (.int x :: .int j :: .ref a :: st))) := by
  obtain ⟨locs, X, N, eT, hx, hZ, hby, hml, hown, hret, hlk, hsz⟩ := A
  subst hp
  have V0 := V
  obtain ⟨cl, Ar, r1, r2⟩ := V0
  obtain ⟨T', h', X', e', W, q⟩ := stI X hx hZ eT Ar (j := j) (idx_in' hj (by rw [r1]; simpa using hi)) (g := mkF m pc Ls (.int x :: .int j :: .ref a :: st)) rfl rfl (hb hby hd)
  have W' := W
  rw [idx_ok hj] at W'
  exact (K T' h' ⟨_, X', Fr.snoc X' N ha, e', hx, hZ, hby, hml, hown, hret, hlk, hsz⟩ W' (V.set W')).goo q
theorem s_lastore (A : On l Z n0 own bytes maxL ret R p e s m args below meth c T h k n) {x : Int64} {j : Int32} {i : Nat} (V : AA Z h a .long vs) (hj : j.toInt = (i : Int)) (hi : i < vs.length) (ha : n0 ≤ a) (hd : decode bytes pc = .ok (.lastore, 1)) (hp : pc + 1 = pc') (K : ∀ T' h', On l Z n0 own bytes maxL ret R p e s m args below meth c T' h' k n → Wr h h' a i (.long x) → AA Z h' a .long (vs.set i (.long x)) → Wp p e below s n0 ck cs Q (T'.setTop (mkF m pc' Ls st))) : Wp p e below s n0 ck cs Q (T.setTop (mkF m pc Ls (.long x :: .int j :: .ref a :: st))) := by
  obtain ⟨locs, X, N, eT, hx, hZ, hby, hml, hown, hret, hlk, hsz⟩ := A
  subst hp
  have V0 := V
  obtain ⟨cl, Ar, r1, r2⟩ := V0
  obtain ⟨T', h', X', e', W, q⟩ := stJ X hx hZ eT Ar (j := j) (idx_in' hj (by rw [r1]; simpa using hi)) (g := mkF m pc Ls (.long x :: .int j :: .ref a :: st)) rfl rfl (hb hby hd)
  have W' := W
  rw [idx_ok hj] at W'
  exact (K T' h' ⟨_, X', Fr.snoc X' N ha, e', hx, hZ, hby, hml, hown, hret, hlk, hsz⟩ W' (V.set W')).goo q
theorem s_bastore (A : On l Z n0 own bytes maxL ret R p e s m args below meth c T h k n) {x : Int32} {j : Int32} {i : Nat} (V : AA Z h a .byte vs) (hj : j.toInt = (i : Int)) (hi : i < vs.length) (ha : n0 ≤ a) (hd : decode bytes pc = .ok (.bastore, 1)) (hp : pc + 1 = pc') (K : ∀ T' h', On l Z n0 own bytes maxL ret R p e s m args below meth c T' h' k n → Wr h h' a i (.int x.toInt8.toInt32) → AA Z h' a .byte (vs.set i (.int x.toInt8.toInt32)) → Wp p e below s n0 ck cs Q (T'.setTop (mkF m pc' Ls st))) : Wp p e below s n0 ck cs Q (T.setTop (mkF m pc Ls (.int x :: .int j :: .ref a :: st))) := by
  obtain ⟨locs, X, N, eT, hx, hZ, hby, hml, hown, hret, hlk, hsz⟩ := A
  subst hp
  have V0 := V
  obtain ⟨cl, Ar, r1, r2⟩ := V0
  obtain ⟨T', h', X', e', W, q⟩ := stB X hx hZ eT Ar (j := j) (idx_in' hj (by rw [r1]; simpa using hi)) (g := mkF m pc Ls (.int x :: .int j :: .ref a :: st)) rfl rfl (hb hby hd)
  have W' := W
  rw [idx_ok hj] at W'
  exact (K T' h' ⟨_, X', Fr.snoc X' N ha, e', hx, hZ, hby, hml, hown, hret, hlk, hsz⟩ W' (V.set W')).goo q
theorem s_iaload (A : On l Z n0 own bytes maxL ret R p e s m args below meth c T h k n) {j : Int32} {i : Nat} (V : AA Z h a .int vs) (hj : j.toInt = (i : Int)) (hv : vs[i]? = some v) (hd : decode bytes pc = .ok (.iaload, 1)) (hp : pc + 1 = pc') (K : Wp p e below s n0 ck cs Q (T.setTop (mkF m pc' Ls (v :: st)))) : Wp p e below s n0 ck cs Q (T.setTop (mkF m pc Ls (.int j :: .ref a :: st))) := by
  obtain ⟨locs, X, N, eT, hx, hZ, hby, hml, hown, hret, hlk, hsz⟩ := A
  subst hp
  obtain ⟨cl, Ar, r1, r2⟩ := V
  have hi : i < vs.length := (List.getElem?_eq_some_iff.mp hv).1
  exact K.goo fun t q => X.iaload hx (j := j) (v := v) (by rw [eT]; exact Ar.1) (State.isArrayOf_alike hZ.alike Ar.2.1) Ar.2.2 (idx_in' hj (by rw [r1]; simpa using hi)) (by rw [idx_ok hj, r1]; simpa using hv) (g := mkF m pc Ls (.int j :: .ref a :: st)) rfl rfl (hb hby hd) t q
theorem s_laload (A : On l Z n0 own bytes maxL ret R p e s m args below meth c T h k n) {j : Int32} {i : Nat} (V : AA Z h a .long vs) (hj : j.toInt = (i : Int)) (hv : vs[i]? = some v) (hd : decode bytes pc = .ok (.laload, 1)) (hp : pc + 1 = pc') (K : Wp p e below s n0 ck cs Q (T.setTop (mkF m pc' Ls (v :: st)))) : Wp p e below s n0 ck cs Q (T.setTop (mkF m pc Ls (.int j :: .ref a :: st))) := by
  obtain ⟨locs, X, N, eT, hx, hZ, hby, hml, hown, hret, hlk, hsz⟩ := A
  subst hp
  obtain ⟨cl, Ar, r1, r2⟩ := V
  have hi : i < vs.length := (List.getElem?_eq_some_iff.mp hv).1
  exact K.goo fun t q => X.laload hx (j := j) (v := v) (by rw [eT]; exact Ar.1) (State.isArrayOf_alike hZ.alike Ar.2.1) Ar.2.2 (idx_in' hj (by rw [r1]; simpa using hi)) (by rw [idx_ok hj, r1]; simpa using hv) (g := mkF m pc Ls (.int j :: .ref a :: st)) rfl rfl (hb hby hd) t q
theorem s_baload (A : On l Z n0 own bytes maxL ret R p e s m args below meth c T h k n) {j : Int32} {i : Nat} (V : AA Z h a .byte vs) (hj : j.toInt = (i : Int)) (hv : vs[i]? = some v) (hd : decode bytes pc = .ok (.baload, 1)) (hp : pc + 1 = pc') (K : Wp p e below s n0 ck cs Q (T.setTop (mkF m pc' Ls (v :: st)))) : Wp p e below s n0 ck cs Q (T.setTop (mkF m pc Ls (.int j :: .ref a :: st))) := by
  obtain ⟨locs, X, N, eT, hx, hZ, hby, hml, hown, hret, hlk, hsz⟩ := A
  subst hp
  obtain ⟨cl, Ar, r1, r2⟩ := V
  have hi : i < vs.length := (List.getElem?_eq_some_iff.mp hv).1
  exact K.goo fun t q => X.baloadBytes hx (j := j) (v := v) (by rw [eT]; exact Ar.1) (State.isArrayOf_alike hZ.alike Ar.2.1) Ar.2.2 (idx_in' hj (by rw [r1]; simpa using hi)) (by rw [idx_ok hj, r1]; simpa using hv) (g := mkF m pc Ls (.int j :: .ref a :: st)) rfl rfl (hb hby hd) t q
theorem s_arraylength (A : On l Z n0 own bytes maxL ret R p e s m args below meth c T h k n) {z : Int32} (V : AA Z h a ty vs) (hz : z.toInt = (vs.length : Int)) (hd : decode bytes pc = .ok (.arraylength, 1)) (hp : pc + 1 = pc') (K : Wp p e below s n0 ck cs Q (T.setTop (mkF m pc' Ls (.int z :: st)))) : Wp p e below s n0 ck cs Q (T.setTop (mkF m pc Ls (.ref a :: st))) := by
  obtain ⟨locs, X, N, eT, hx, hZ, hby, hml, hown, hret, hlk, hsz⟩ := A
  subst hp
  obtain ⟨cl, Ar, r1, r2⟩ := V
  have q0 : cl.slots.size.toInt32 = z := by
    rw [r1]; apply Int32.toInt_inj.mp; rw [len_toInt (by simpa using r2), hz]; simp
  exact K.goo fun t q => X.arraylength hx (by rw [eT]; exact Ar.1) (State.isArrayOf_alike hZ.alike Ar.2.1) (g := mkF m pc Ls (.ref a :: st)) rfl rfl (hb hby hd) t (by rw [q0]; exact q)
theorem s_static (A : On l Z n0 own bytes maxL ret R p e s m args below meth c T h k n) {index : Nat} {y : MethodName} {bytes' : ByteArray} {maxL' : Nat} {ret' : Option FieldType} {rm : Room} {argsL rest : List Value} {Q' : Option Value → Heap → Prop} (M : Met l Z n0 y bytes' maxL' ret' rm argsL.toArray h Q') (wl : (Cond.methodLink own index y).before a0 Z = true) (ws : (Cond.static y).before a0 Z = true) (wz : (Cond.initialized y.cls).before a0 Z = true) (wc : (Cond.code y bytes' maxL' ret').before a0 Z = true) (hy : y.cls ≠ "java/lang/invoke/MethodHandle" ∧ y.cls ≠ "java/lang/invoke/VarHandle") {sig : MethodDescriptor} (hsig : parseMethodDescriptor y.desc = some sig) (hlen : argsL.length = sig.parameters.length) {W : Nat} (hf : rm.frames + 1 ≤ R.frames) (hl : W + (maxL' + 11) + rm.locals ≤ R.locals) (hW : (rest.map fun v => v.category).sum ≤ W) (hc : k + rm.cells ≤ R.cells) (hs : n + rm.slots ≤ R.slots) (hLs : Ls.size = maxL) {stk : List Value} (hst : stk = argsL.reverse ++ rest) (hd : decode bytes pc = .ok (.invokestatic index, 3)) (hp : pc + 3 = pc') (K : ∀ T' h' v, On l Z n0 own bytes maxL ret R p e s m args below meth c T' h' (k + rm.cells) (n + rm.slots) → Q' v h' → Wp p e below s n0 ck cs Q (T'.setTop (mkF m pc' Ls (v.toList ++ rest)))) : Wp p e below s n0 ck cs Q (T.setTop (mkF m pc Ls stk)) := by
  obtain ⟨locs, X, N, eT, hx, hZ, hby, hml, hown, hret, hlk, hsz⟩ := A
  subst hp
  obtain ⟨v, _, ⟨T', L', k', n'⟩, -, X', ⟨Lc, ⟨Nq, hQ⟩, l1, l2, l3⟩, q⟩ := Jvm.LawKit.callS X hx (y := y) hown (mvT hZ wl) (mvT hZ ws) (mvT hZ wz) (mvT hZ wc) hy (backOf (Q := fun v h L => Fr n0 L ∧ Q' v h) (W := W) (M []) hZ wc wz hf hl) (g := mkF m pc Ls stk) rfl (by rw [hml]; exact hLs) (argsL := argsL) (rest := rest) (lenOf hsig hlen) hst (by show 2 * 0 + _ ≤ _; simpa using hW) (hb hby hd) (fun _ _ => ⟨rfl, eT, hc, hs⟩)
  dsimp only [Pt.U, Pt.locs, Pt.cells, Pt.slots] at X' l1 l2 l3 q hQ Nq
  subst l1 l2 l3
  exact (K T' T'.heap v ⟨_, X', Fr.app N Nq, rfl, hx, hZ, hby, hml, hown, hret, hlk, hsz⟩ hQ).goo q
theorem s_virtual (A : On l Z n0 own bytes maxL ret R p e s m args below meth c T h k n) {index : Nat} {y : MethodName} {bytes' : ByteArray} {maxL' : Nat} {ret' : Option FieldType} {rm : Room} {argsL rest : List Value} {Q' : Option Value → Heap → Prop} {C : String} {z : MethodName} (E : Exa Z h b C) (M : Met l Z n0 z bytes' maxL' ret' rm (.ref b :: argsL).toArray h Q') (wl : (Cond.methodLink own index y).before a0 Z = true) (wd : (Cond.declares y).before a0 Z = true) (wn : ∀ (args : Array Value) (s : State), Z.Warmed39 s.vm → NotFace s y) (wsel : (Cond.selects C y z).before a0 Z = true) (wim : (Cond.instanceMethod z).before a0 Z = true) (wz : (Cond.initialized z.cls).before a0 Z = true) (wc : (Cond.code z bytes' maxL' ret').before a0 Z = true) (hy : y.cls ≠ "java/lang/invoke/MethodHandle" ∧ y.cls ≠ "java/lang/invoke/VarHandle") {sig : MethodDescriptor} (hsig : parseMethodDescriptor y.desc = some sig) (hlen : argsL.length = sig.parameters.length) {W : Nat} (hf : rm.frames + 1 ≤ R.frames) (hl : W + (maxL' + 11) + rm.locals ≤ R.locals) (hW : (rest.map fun v => v.category).sum ≤ W) (hc : k + rm.cells ≤ R.cells) (hs : n + rm.slots ≤ R.slots) (hLs : Ls.size = maxL) {stk : List Value} (hst : stk = argsL.reverse ++ .ref b :: rest) (hd : decode bytes pc = .ok (.invokevirtual index, 3)) (hp : pc + 3 = pc') (K : ∀ T' h' v, On l Z n0 own bytes maxL ret R p e s m args below meth c T' h' (k + rm.cells) (n + rm.slots) → Q' v h' → Wp p e below s n0 ck cs Q (T'.setTop (mkF m pc' Ls (v.toList ++ rest)))) : Wp p e below s n0 ck cs Q (T.setTop (mkF m pc Ls stk)) := by
  obtain ⟨locs, X, N, eT, hx, hZ, hby, hml, hown, hret, hlk, hsz⟩ := A
  subst hp
  obtain ⟨cq, kq, qa, qb, qc⟩ := isOf hZ eT E
  obtain ⟨v, _, ⟨T', L', k', n'⟩, -, X', ⟨Lc, ⟨Nq, hQ⟩, l1, l2, l3⟩, q⟩ := X.virtualBack hx (y := y) (z := z) hown (mvT hZ wl) (mvT hZ wd) (wn #[] s hZ) (mvT hZ wsel) (mvT hZ wim) hy (backOf (Q := fun v h L => Fr n0 L ∧ Q' v h) (W := W) (M []) hZ wc wz hf hl) qa qc (g := mkF m pc Ls stk) rfl (by rw [hml]; exact hLs) (Steps.refl _) (argsL := argsL) (rest := rest) (lenOf hsig hlen) hst (by show 2 * 0 + _ ≤ _; simpa using hW) (hb hby hd) (fun _ _ => ⟨rfl, eT, hc, hs⟩)
  dsimp only [Pt.U, Pt.locs, Pt.cells, Pt.slots] at X' l1 l2 l3 q hQ Nq
  subst l1 l2 l3
  exact (K T' T'.heap v ⟨_, X', Fr.app N Nq, rfl, hx, hZ, hby, hml, hown, hret, hlk, hsz⟩ hQ).goo (fun t r => q.trans r)
theorem nf_same {y : MethodName} {C : String} (wsel : (Cond.selects y.cls y y).before a0 Z = true) : ∀ (args : Array Value) (s : State), Z.Warmed39 s.vm → NotFace s y := fun args s hZ => notFace_of_selects (args := #[]) (mvT hZ wsel)
theorem s_special (A : On l Z n0 own bytes maxL ret R p e s m args below meth c T h k n) {index : Nat} {y : MethodName} {bytes' : ByteArray} {maxL' : Nat} {rm : Room} {argsL rest : List Value} {Q' : Option Value → Heap → Prop} (M : Met l Z n0 y bytes' maxL' none rm (.ref b :: argsL).toArray h Q') (hy1 : y.name = "<init>") (wl : (Cond.methodLink own index y).before a0 Z = true) (wim : (Cond.instanceMethod y).before a0 Z = true) (wz : (Cond.initialized y.cls).before a0 Z = true) (wc : (Cond.code y bytes' maxL' none).before a0 Z = true) (hy : y.cls ≠ "java/lang/invoke/MethodHandle" ∧ y.cls ≠ "java/lang/invoke/VarHandle") {sig : MethodDescriptor} (hsig : parseMethodDescriptor y.desc = some sig) (hlen : argsL.length = sig.parameters.length) {W : Nat} (hf : rm.frames + 1 ≤ R.frames) (hl : W + (maxL' + 11) + rm.locals ≤ R.locals) (hW : (rest.map fun v => v.category).sum ≤ W) (hc : k + rm.cells ≤ R.cells) (hs : n + rm.slots ≤ R.slots) (hLs : Ls.size = maxL) {stk : List Value} (hst : stk = argsL.reverse ++ .ref b :: rest) (hd : decode bytes pc = .ok (.invokespecial index, 3)) (hp : pc + 3 = pc') (K : ∀ T' h' v, On l Z n0 own bytes maxL ret R p e s m args below meth c T' h' (k + rm.cells) (n + rm.slots) → Q' v h' → Wp p e below s n0 ck cs Q (T'.setTop (mkF m pc' Ls (v.toList ++ rest)))) : Wp p e below s n0 ck cs Q (T.setTop (mkF m pc Ls stk)) := by
  obtain ⟨locs, X, N, eT, hx, hZ, hby, hml, hown, hret, hlk, hsz⟩ := A
  subst hp
  obtain ⟨v, _, ⟨T', L', k', n'⟩, -, X', ⟨Lc, ⟨Nq, hQ⟩, l1, l2, l3⟩, q⟩ := X.specialBack hx (y := y) hy1 hown (mvT hZ wl) (mvT hZ wim) (mvT hZ wc) hy (backOf (Q := fun v h L => Fr n0 L ∧ Q' v h) (W := W) (M []) hZ wc wz hf hl) (g := mkF m pc Ls stk) rfl (by rw [hml]; exact hLs) (Steps.refl _) (a := b) (argsL := argsL) (rest := rest) (lenOf hsig hlen) hst (by show 2 * 0 + _ ≤ _; simpa using hW) (hb hby hd) (fun _ _ => ⟨rfl, eT, hc, hs⟩)
  dsimp only [Pt.U, Pt.locs, Pt.cells, Pt.slots] at X' l1 l2 l3 q hQ Nq
  subst l1 l2 l3
  exact (K T' T'.heap v ⟨_, X', Fr.app N Nq, rfl, hx, hZ, hby, hml, hown, hret, hlk, hsz⟩ hQ).goo (fun t r => q.trans r)
theorem s_private (A : On l Z n0 own bytes maxL ret R p e s m args below meth c T h k n) {index : Nat} {y : MethodName} {bytes' : ByteArray} {maxL' : Nat} {ret' : Option FieldType} {rm : Room} {argsL rest : List Value} {Q' : Option Value → Heap → Prop} {C : String} (E : Exa Z h b C) (M : Met l Z n0 y bytes' maxL' ret' rm (.ref b :: argsL).toArray h Q') (wl : (Cond.methodLink own index y).before a0 Z = true) (wim : (Cond.instanceMethod y).before a0 Z = true) {kk : Nat} (wi : (Cond.instantiable y.cls kk).before a0 Z = true) (wp : (Cond.privateMethod y).before a0 Z = true) (wz : (Cond.initialized y.cls).before a0 Z = true) (wc : (Cond.code y bytes' maxL' ret').before a0 Z = true) (hy : y.cls ≠ "java/lang/invoke/MethodHandle" ∧ y.cls ≠ "java/lang/invoke/VarHandle") {sig : MethodDescriptor} (hsig : parseMethodDescriptor y.desc = some sig) (hlen : argsL.length = sig.parameters.length) {W : Nat} (hf : rm.frames + 1 ≤ R.frames) (hl : W + (maxL' + 11) + rm.locals ≤ R.locals) (hW : (rest.map fun v => v.category).sum ≤ W) (hc : k + rm.cells ≤ R.cells) (hs : n + rm.slots ≤ R.slots) (hLs : Ls.size = maxL) {stk : List Value} (hst : stk = argsL.reverse ++ .ref b :: rest) (hd : decode bytes pc = .ok (.invokevirtual index, 3)) (hp : pc + 3 = pc') (K : ∀ T' h' v, On l Z n0 own bytes maxL ret R p e s m args below meth c T' h' (k + rm.cells) (n + rm.slots) → Q' v h' → Wp p e below s n0 ck cs Q (T'.setTop (mkF m pc' Ls (v.toList ++ rest)))) : Wp p e below s n0 ck cs Q (T.setTop (mkF m pc Ls stk)) := by
  obtain ⟨locs, X, N, eT, hx, hZ, hby, hml, hown, hret, hlk, hsz⟩ := A
  subst hp
  obtain ⟨cq, q0, q1⟩ := E.cell
  obtain ⟨ci, ki, i1, i2, -, i4, -⟩ := Cond.instantiable_spec (show (Cond.instantiable y.cls kk).before args s = true from mvT hZ wi)
  have i5 : ki.isInterface = false := by simp only [Bool.or_eq_false_iff] at i4; exact i4.1
  have hpriv := Cond.privateMethod_at (mvP hZ wp (args := args))
  have hsel := selects_self_of_private (args := args) i1 i2 i5 hpriv (mvT hZ wim) hy
  obtain ⟨v, _, ⟨T', L', k', n'⟩, -, X', ⟨Lc, ⟨Nq, hQ⟩, l1, l2, l3⟩, q⟩ := X.privateBack hx (y := y) hown (mvT hZ wl) (mvT hZ wim) hsel hpriv (mvT hZ wc) hy (backOf (Q := fun v h L => Fr n0 L ∧ Q' v h) (W := W) (M []) hZ wc wz hf hl) (g := mkF m pc Ls stk) rfl (by rw [hml]; exact hLs) (Steps.refl _) (a := b) (by rw [eT]; exact q0) q1 (argsL := argsL) (rest := rest) (lenOf hsig hlen) hst (by show 2 * 0 + _ ≤ _; simpa using hW) (hb hby hd) (fun _ _ => ⟨rfl, eT, hc, hs⟩)
  dsimp only [Pt.U, Pt.locs, Pt.cells, Pt.slots] at X' l1 l2 l3 q hQ Nq
  subst l1 l2 l3
  exact (K T' T'.heap v ⟨_, X', Fr.app N Nq, rfl, hx, hZ, hby, hml, hown, hret, hlk, hsz⟩ hQ).goo (fun t r => q.trans r)
theorem s_initO (A : On l Z n0 own bytes maxL ret R p e s m args below meth c T h k n) {index : Nat} (w1 : (Cond.methodLink own index Lib.objectInit).before a0 Z = true) (w2 : (Cond.instanceMethod Lib.objectInit).before a0 Z = true) (w3 : (Cond.code Lib.objectInit ⟨#[0xb1]⟩ 1 none).before a0 Z = true) {W : Nat} (hf : 1 ≤ R.frames) (hW : (st.map fun v => v.category).sum ≤ W) (hl : W + 12 ≤ R.locals) (hLs : Ls.size = maxL) (hd : decode bytes pc = .ok (.invokespecial index, 3)) (hp : pc + 3 = pc') (K : ∀ T', On l Z n0 own bytes maxL ret R p e s m args below meth c T' h k n → Wp p e below s n0 ck cs Q (T'.setTop (mkF m pc' Ls st))) : Wp p e below s n0 ck cs Q (T.setTop (mkF m pc Ls (.ref a :: st))) := by
  obtain ⟨locs, X, N, eT, hx, hZ, hby, hml, hown, hret, hlk, hsz⟩ := A
  subst hp
  obtain ⟨T', X', e', q⟩ := initO X hx hZ hown w1 w2 w3 eT (g := mkF m pc Ls (.ref a :: st)) rfl (by rw [hml]; exact hLs) rfl (hb hby hd) hf (W := W) (by show 2 * 0 + _ ≤ _; simpa using hW) hl
  exact (K T' ⟨_, X', N, e', hx, hZ, hby, hml, hown, hret, hlk, hsz⟩).goo q
theorem AA.arv (F : AA Z h a ty vs) (fit : ∀ v ∈ vs, fits ty v = true) (dv : Value) : ∃ (kc : ClassId) (z : Int32), z.toInt = (vs.length : Int) ∧ Arv Z h a kc ty z vs dv := by
  obtain ⟨c, A, r1, r2⟩ := F
  have ez : vs.length.toInt32.toInt = (vs.length : Int) := len_toInt r2
  have es : c.slots.size = vs.length := by rw [r1]; simp
  refine ⟨c.cls, vs.length.toInt32, ez, c, A, rfl, ?_, ?_, ?_, ?_⟩
  · rw [es, idx_ok ez]
  · rw [Int32.lt_iff_toInt_lt, ez]; have : (0 : Int32).toInt = 0 := by decide
    omega
  · intro q hq
    rw [es] at hq
    rw [r1]; simp [List.getD_eq_getElem?_getD, hq]
  · intro q hq
    rw [es] at hq
    have : vs.getD q dv = vs[q] := by simp [List.getD_eq_getElem?_getD, hq]
    rw [this]; exact fit _ (List.getElem_mem hq)
theorem aa_of_arv {kc : ClassId} {z : Int32} {dv : Value} (F : Arv Z h a kc ty z vs dv) (hl : z.toInt = (vs.length : Int)) : AA Z h a ty vs := by
  obtain ⟨c, A, q, S, N, H, G⟩ := F
  rw [idx_ok hl] at S
  refine ⟨c, A, ?_, ?_⟩
  · apply Array.ext
    · simp [S]
    · intro i h1 h2
      have := H i h1
      rw [Array.getElem?_eq_getElem h1] at this
      have h3 : i < vs.length := by simpa using h2
      simpa [List.getD_eq_getElem?_getD, h3] using this
  · have := z.toInt_lt; omega
theorem range_map (vs : List Value) (dv : Value) (i N : Nat) (hb : i + N ≤ vs.length) : (List.range N).map (fun q => vs.getD (i + q) dv) = (vs.drop i).take N := by
  apply List.ext_getElem
  · simp; omega
  · intro q h1 h2
    have h3 : q < N := by simpa using h1
    have h4 : i + q < vs.length := by omega
    simp [List.getD_eq_getElem?_getD, h4]
theorem s_arraycopy (A : On l Z n0 own bytes maxL ret R p e s m args below meth c T h k n) {index : Nat} {vd : List Value} {sp dp nn : Int32} {i j cnt : Nat} (w1 : (Cond.methodLink own index Jvm.Stand.acN).before a0 Z = true) (w2 : (Cond.native Jvm.Stand.acN).before a0 Z = true) (w3 : (Cond.static Jvm.Stand.acN).before a0 Z = true) (w4 : (Cond.initialized "java/lang/System").before a0 Z = true) (V : AA Z h a ty vs) (V' : AA Z h b ty vd) (fit : ∀ v ∈ vs, fits ty v = true) (fit' : ∀ v ∈ vd, fits ty v = true) (hpr : refKind ty = false) (hsp : sp.toInt = (i : Int)) (hdp : dp.toInt = (j : Int)) (hnn : nn.toInt = (cnt : Int)) (h4 : i + cnt ≤ vs.length) (h5 : j + cnt ≤ vd.length) (ge : n0 ≤ b) {W : Nat} (hf : 1 ≤ R.frames) (hW : (st.map fun v => v.category).sum ≤ W) (hlo : W + (nativeFrameWords "java/lang/System" "arraycopy" 5 + 11) ≤ R.locals) (hLs : Ls.size = maxL) (hd : decode bytes pc = .ok (.invokestatic index, 3)) (hp : pc + 3 = pc') (K : ∀ T' h', On l Z n0 own bytes maxL ret R p e s m args below meth c T' h' k n → Keep h h' [b] → AA Z h' b ty (vd.take j ++ (vs.drop i).take cnt ++ vd.drop (j + cnt)) → Wp p e below s n0 ck cs Q (T'.setTop (mkF m pc' Ls st))) : Wp p e below s n0 ck cs Q (T.setTop (mkF m pc Ls (.int nn :: .int dp :: .ref b :: .int sp :: .ref a :: st))) := by
  obtain ⟨locs, X, N, eT, hx, hZ, hby, hml, hown, hret, hlk, hsz⟩ := A
  subst hp
  obtain ⟨k1, z1, ez1, A1⟩ := V.arv fit .null
  obtain ⟨k2, z2, ez2, A2⟩ := V'.arv fit' .null
  have neg : ∀ {x : Int32} {q : Nat}, x.toInt = (q : Int) → ¬ x < 0 := fun {x q} hq => by
    rw [Int32.lt_iff_toInt_lt, hq]; have : (0 : Int32).toInt = 0 := by decide
    omega
  obtain ⟨T', h', L, X', e', N', K', A', q⟩ := cpA X hx hZ hown w1 w2 w3 w4 eT A1 A2 (us := (vs.drop i).take cnt) (sp := sp) (dp := dp) (nn := nn) (Or.inl ⟨rfl, hpr⟩) (neg hsp) (neg hdp) (neg hnn) (by rw [idx_ok hsp, idx_ok hnn, idx_ok ez1]; exact h4) (by rw [idx_ok hdp, idx_ok hnn, idx_ok ez2]; exact h5) (by rw [idx_ok hsp, idx_ok hnn]; exact (range_map vs _ i cnt h4).symm) (by rw [idx_ok hdp, idx_ok hnn]; exact h5) N ge (g := mkF m pc Ls (.int nn :: .int dp :: .ref b :: .int sp :: .ref a :: st)) rfl (by rw [hml]; exact hLs) rfl (hb hby hd) hf (W := W) (by show 2 * 0 + _ ≤ _; simpa using hW) hlo
  rw [idx_ok hdp, idx_ok hnn] at A'
  exact (K T' h' ⟨L, X', N', e', hx, hZ, hby, hml, hown, hret, hlk, hsz⟩ K' (aa_of_arv A' (by rw [ez2]; simp; omega))).goo q
theorem r_void (A : On l Z n0 own bytes maxL ret R p e s m args below meth c T h k n) (hr : ret = none) (hd : decode bytes pc = .ok (.return_, 1)) (hk : k ≤ ck) (hn : n ≤ cs) (q : Q none h) : Wp p e below s n0 ck cs Q (T.setTop (mkF m pc Ls [])) := by
  obtain ⟨locs, X, N, eT, hx, hZ, hby, hml, hown, hret, hlk, hsz⟩ := A
  have hR : meth.sig.returnType = none := hret.trans hr
  obtain ⟨fs, h1, hrun, hended, hW, hsame⟩ := X.leave (v := none) (fun _ => rfl) hlk
  exact ⟨_, _, X.returnOut hx hR (hb hby hd) h1, hrun, hended, _, _, rfl, ⟨N, by show Q none T.heap; rw [eT]; exact q⟩, ⟨_, rfl⟩, hW, hsame.mono hk hn⟩
theorem r_val (A : On l Z n0 own bytes maxL ret R p e s m args below meth c T h k n) {i : Instr} {t : FieldType} (hr : ret = some t) (hn0 : narrow t v = v) (hi : (i = .ireturn ∧ (t = .int ∨ t = .boolean ∨ t = .byte ∨ t = .char ∨ t = .short) ∧ ∃ z, v = .int z) ∨ (i = .lreturn ∧ t = .long ∧ ∃ z, v = .long z) ∨ (i = .dreturn ∧ t = .double ∧ ∃ z, v = .double z) ∨ (i = .freturn ∧ t = .float ∧ ∃ z, v = .float z) ∨ (i = .areturn ∧ t.isReference = true ∧ v.isRef = true)) (hd : decode bytes pc = .ok (i, 1)) (hk : k ≤ ck) (hn : n ≤ cs) (q : Q (some v) h) : Wp p e below s n0 ck cs Q (T.setTop (mkF m pc Ls (v :: st))) := by
  obtain ⟨locs, X, N, eT, hx, hZ, hby, hml, hown, hret, hlk, hsz⟩ := A
  have hR : meth.sig.returnType = some t := hret.trans hr
  obtain ⟨fs, h1, hrun, hended, hW, hsame⟩ := X.leave (v := some v) (fun z => by rw [hR] at z; cases z) hlk
  exact ⟨_, _, retOut X hx hR hn0 hi (hb hby hd) h1, hrun, hended, _, _, rfl, ⟨N, by show Q (some v) T.heap; rw [eT]; exact q⟩, ⟨_, rfl⟩, hW, hsame.mono hk hn⟩
theorem r_int (A : On l Z n0 own bytes maxL ret R p e s m args below meth c T h k n) {z : Int32} (hr : ret = some .int) (hd : decode bytes pc = .ok (.ireturn, 1)) (hk : k ≤ ck) (hn : n ≤ cs) (q : Q (some (.int z)) h) : Wp p e below s n0 ck cs Q (T.setTop (mkF m pc Ls (.int z :: st))) := r_val A hr rfl (Or.inl ⟨rfl, Or.inl rfl, _, rfl⟩) hd hk hn q
theorem r_bool (A : On l Z n0 own bytes maxL ret R p e s m args below meth c T h k n) {z : Int32} (hr : ret = some .boolean) (hz : z = 0 ∨ z = 1) (hd : decode bytes pc = .ok (.ireturn, 1)) (hk : k ≤ ck) (hn : n ≤ cs) (q : Q (some (.int z)) h) : Wp p e below s n0 ck cs Q (T.setTop (mkF m pc Ls (.int z :: st))) := r_val A hr (by rcases hz with rfl | rfl <;> rfl) (Or.inl ⟨rfl, Or.inr (Or.inl rfl), _, rfl⟩) hd hk hn q
theorem r_long (A : On l Z n0 own bytes maxL ret R p e s m args below meth c T h k n) {z : Int64} (hr : ret = some .long) (hd : decode bytes pc = .ok (.lreturn, 1)) (hk : k ≤ ck) (hn : n ≤ cs) (q : Q (some (.long z)) h) : Wp p e below s n0 ck cs Q (T.setTop (mkF m pc Ls (.long z :: st))) := r_val A hr rfl (Or.inr (Or.inl ⟨rfl, rfl, _, rfl⟩)) hd hk hn q
theorem r_ref (A : On l Z n0 own bytes maxL ret R p e s m args below meth c T h k n) {t : FieldType} (hr : ret = some t) (ht : t.isReference = true) (hv : v.isRef = true) (hd : decode bytes pc = .ok (.areturn, 1)) (hk : k ≤ ck) (hn : n ≤ cs) (q : Q (some v) h) : Wp p e below s n0 ck cs Q (T.setTop (mkF m pc Ls (v :: st))) := r_val A hr (by cases t <;> first | rfl | cases ht) (Or.inr (Or.inr (Or.inr (Or.inr ⟨rfl, ht, hv⟩)))) hd hk hn q
end Kit
end Jvm.Ow
namespace Jvm.Pilot.@@N@@
open Jvm Jvm.ClassFile Sem Op Lib Jvm.Free Jvm.Stand Jvm.LawKit Jvm.RoadKit Jvm.Ow Bundle Jvm.Pilot.@@N@@.Jvm.D
theorem d2_0 : decode jdk_30_method_1_code 0 = .ok (.aload_n 0, 1) := by decide +kernel
theorem d2_1 : decode jdk_30_method_1_code 1 = .ok (.invokespecial 1, 3) := by decide +kernel
theorem w12 {Z : State} {a0 : Array Value} (hw : ∀ d ∈ tables_1, d.before a0 Z = true) : (Jvm.Cond.methodLink "java/lang/Record" (1 : Nat) ({ cls := "java/lang/Object", name := "<init>", desc := "()V" } : Jvm.MethodName)).before a0 Z = true := hw _ (List.mem_of_getElem? (i := 12) rfl)
theorem w13 {Z : State} {a0 : Array Value} (hw : ∀ d ∈ tables_1, d.before a0 Z = true) : (Jvm.Cond.instanceMethod ({ cls := "java/lang/Object", name := "<init>", desc := "()V" } : Jvm.MethodName)).before a0 Z = true := hw _ (List.mem_of_getElem? (i := 13) rfl)
theorem w14 {Z : State} {a0 : Array Value} (hw : ∀ d ∈ tables_1, d.before a0 Z = true) : (Jvm.Cond.code ({ cls := "java/lang/Object", name := "<init>", desc := "()V" } : Jvm.MethodName) object_method_1_code (1 : Nat) (Option.none : Option Jvm.ClassFile.FieldType)).before a0 Z = true := hw _ (List.mem_of_getElem? (i := 14) rfl)
theorem d2_4 : decode jdk_30_method_1_code 4 = .ok (.return_, 1) := by decide +kernel
abbrev y0_init : MethodName := ⟨"java/lang/Record", "<init>", "()V"⟩
theorem pn_java_lang_Record : plainName "java/lang/Record" = true := by first | (simp [plainName, overriddenIn]; done) | decide +kernel
abbrev c0_Record : String := "java/lang/Record"
theorem d1_0 : decode prog_44_method_2_code 0 = .ok (.aload_n 0, 1) := by decide +kernel
theorem d1_1 : decode prog_44_method_2_code 1 = .ok (.invokespecial 1, 3) := by decide +kernel
theorem w7 {Z : State} {a0 : Array Value} (hw : ∀ d ∈ tables_1, d.before a0 Z = true) : (Jvm.Cond.methodLink "com/example/assured_delivery/assureddelivery/storage/StoredMessage" (1 : Nat) ({ cls := "java/lang/Record", name := "<init>", desc := "()V" } : Jvm.MethodName)).before a0 Z = true := hw _ (List.mem_of_getElem? (i := 7) rfl)
theorem pd___V : parseMethodDescriptor "()V" = some ⟨[], none⟩ := by decide +kernel
theorem w10 {Z : State} {a0 : Array Value} (hw : ∀ d ∈ tables_1, d.before a0 Z = true) : (Jvm.Cond.initialized "java/lang/Record").before a0 Z = true := hw _ (List.mem_of_getElem? (i := 10) rfl)
theorem w11 {Z : State} {a0 : Array Value} (hw : ∀ d ∈ tables_1, d.before a0 Z = true) : (Jvm.Cond.code ({ cls := "java/lang/Record", name := "<init>", desc := "()V" } : Jvm.MethodName) jdk_30_method_1_code (1 : Nat) (Option.none : Option Jvm.ClassFile.FieldType)).before a0 Z = true := hw _ (List.mem_of_getElem? (i := 11) rfl)
theorem w8 {Z : State} {a0 : Array Value} (hw : ∀ d ∈ tables_1, d.before a0 Z = true) : (Jvm.Cond.instanceMethod ({ cls := "java/lang/Record", name := "<init>", desc := "()V" } : Jvm.MethodName)).before a0 Z = true := hw _ (List.mem_of_getElem? (i := 8) rfl)
theorem d1_4 : decode prog_44_method_2_code 4 = .ok (.aload_n 0, 1) := by decide +kernel
theorem d1_5 : decode prog_44_method_2_code 5 = .ok (.aload_n 1, 1) := by decide +kernel
theorem d1_6 : decode prog_44_method_2_code 6 = .ok (.putfield 7, 3) := by decide +kernel
theorem w15 {Z : State} {a0 : Array Value} (hw : ∀ d ∈ tables_1, d.before a0 Z = true) : (Jvm.Cond.fieldLink "com/example/assured_delivery/assureddelivery/storage/StoredMessage" (7 : Nat) "com/example/assured_delivery/assureddelivery/storage/StoredMessage" "key" "[B").before a0 Z = true := hw _ (List.mem_of_getElem? (i := 15) rfl)
theorem w16 {Z : State} {a0 : Array Value} (hw : ∀ d ∈ tables_1, d.before a0 Z = true) : (Jvm.Cond.laysFinal "com/example/assured_delivery/assureddelivery/storage/StoredMessage" "com/example/assured_delivery/assureddelivery/storage/StoredMessage" "key" "[B").before a0 Z = true := hw _ (List.mem_of_getElem? (i := 16) rfl)
theorem w2 {Z : State} {a0 : Array Value} (hw : ∀ d ∈ tables_1, d.before a0 Z = true) : (Jvm.Cond.instantiable "com/example/assured_delivery/assureddelivery/storage/StoredMessage" (3 : Nat)).before a0 Z = true := hw _ (List.mem_of_getElem? (i := 2) rfl)
theorem d1_9 : decode prog_44_method_2_code 9 = .ok (.aload_n 0, 1) := by decide +kernel
theorem d1_10 : decode prog_44_method_2_code 10 = .ok (.aload_n 2, 1) := by decide +kernel
theorem d1_11 : decode prog_44_method_2_code 11 = .ok (.putfield 13, 3) := by decide +kernel
theorem w17 {Z : State} {a0 : Array Value} (hw : ∀ d ∈ tables_1, d.before a0 Z = true) : (Jvm.Cond.fieldLink "com/example/assured_delivery/assureddelivery/storage/StoredMessage" (13 : Nat) "com/example/assured_delivery/assureddelivery/storage/StoredMessage" "message" "[B").before a0 Z = true := hw _ (List.mem_of_getElem? (i := 17) rfl)
theorem w18 {Z : State} {a0 : Array Value} (hw : ∀ d ∈ tables_1, d.before a0 Z = true) : (Jvm.Cond.laysFinal "com/example/assured_delivery/assureddelivery/storage/StoredMessage" "com/example/assured_delivery/assureddelivery/storage/StoredMessage" "message" "[B").before a0 Z = true := hw _ (List.mem_of_getElem? (i := 18) rfl)
theorem sn_StoredMessage_message_key {Z : State} {a0 : Array Value} (hw : ∀ d ∈ tables_1, d.before a0 Z = true) : Jvm.RoadKit.slotOf Z "com/example/assured_delivery/assureddelivery/storage/StoredMessage" "message" "[B" ≠ Jvm.RoadKit.slotOf Z "com/example/assured_delivery/assureddelivery/storage/StoredMessage" "key" "[B" := slot_ne (a0 := a0) (C := "com/example/assured_delivery/assureddelivery/storage/StoredMessage") (Or.inr (w18 hw)) (Or.inr (w16 hw)) (by decide) (t := (.array .byte)) (t' := (.array .byte)) (by decide) (by decide)
theorem d1_14 : decode prog_44_method_2_code 14 = .ok (.aload_n 0, 1) := by decide +kernel
theorem d1_15 : decode prog_44_method_2_code 15 = .ok (.aload_n 3, 1) := by decide +kernel
theorem d1_16 : decode prog_44_method_2_code 16 = .ok (.putfield 16, 3) := by decide +kernel
theorem w19 {Z : State} {a0 : Array Value} (hw : ∀ d ∈ tables_1, d.before a0 Z = true) : (Jvm.Cond.fieldLink "com/example/assured_delivery/assureddelivery/storage/StoredMessage" (16 : Nat) "com/example/assured_delivery/assureddelivery/storage/StoredMessage" "signature" "[B").before a0 Z = true := hw _ (List.mem_of_getElem? (i := 19) rfl)
theorem w20 {Z : State} {a0 : Array Value} (hw : ∀ d ∈ tables_1, d.before a0 Z = true) : (Jvm.Cond.laysFinal "com/example/assured_delivery/assureddelivery/storage/StoredMessage" "com/example/assured_delivery/assureddelivery/storage/StoredMessage" "signature" "[B").before a0 Z = true := hw _ (List.mem_of_getElem? (i := 20) rfl)
theorem sn_StoredMessage_signature_key {Z : State} {a0 : Array Value} (hw : ∀ d ∈ tables_1, d.before a0 Z = true) : Jvm.RoadKit.slotOf Z "com/example/assured_delivery/assureddelivery/storage/StoredMessage" "signature" "[B" ≠ Jvm.RoadKit.slotOf Z "com/example/assured_delivery/assureddelivery/storage/StoredMessage" "key" "[B" := slot_ne (a0 := a0) (C := "com/example/assured_delivery/assureddelivery/storage/StoredMessage") (Or.inr (w20 hw)) (Or.inr (w16 hw)) (by decide) (t := (.array .byte)) (t' := (.array .byte)) (by decide) (by decide)
theorem sn_StoredMessage_signature_message {Z : State} {a0 : Array Value} (hw : ∀ d ∈ tables_1, d.before a0 Z = true) : Jvm.RoadKit.slotOf Z "com/example/assured_delivery/assureddelivery/storage/StoredMessage" "signature" "[B" ≠ Jvm.RoadKit.slotOf Z "com/example/assured_delivery/assureddelivery/storage/StoredMessage" "message" "[B" := slot_ne (a0 := a0) (C := "com/example/assured_delivery/assureddelivery/storage/StoredMessage") (Or.inr (w20 hw)) (Or.inr (w18 hw)) (by decide) (t := (.array .byte)) (t' := (.array .byte)) (by decide) (by decide)
theorem d1_19 : decode prog_44_method_2_code 19 = .ok (.return_, 1) := by decide +kernel
theorem sn_StoredMessage_key_message {Z : State} {a0 : Array Value} (hw : ∀ d ∈ tables_1, d.before a0 Z = true) : Jvm.RoadKit.slotOf Z "com/example/assured_delivery/assureddelivery/storage/StoredMessage" "key" "[B" ≠ Jvm.RoadKit.slotOf Z "com/example/assured_delivery/assureddelivery/storage/StoredMessage" "message" "[B" := slot_ne (a0 := a0) (C := "com/example/assured_delivery/assureddelivery/storage/StoredMessage") (Or.inr (w16 hw)) (Or.inr (w18 hw)) (by decide) (t := (.array .byte)) (t' := (.array .byte)) (by decide) (by decide)
theorem sn_StoredMessage_key_signature {Z : State} {a0 : Array Value} (hw : ∀ d ∈ tables_1, d.before a0 Z = true) : Jvm.RoadKit.slotOf Z "com/example/assured_delivery/assureddelivery/storage/StoredMessage" "key" "[B" ≠ Jvm.RoadKit.slotOf Z "com/example/assured_delivery/assureddelivery/storage/StoredMessage" "signature" "[B" := slot_ne (a0 := a0) (C := "com/example/assured_delivery/assureddelivery/storage/StoredMessage") (Or.inr (w16 hw)) (Or.inr (w20 hw)) (by decide) (t := (.array .byte)) (t' := (.array .byte)) (by decide) (by decide)
theorem sn_StoredMessage_message_signature {Z : State} {a0 : Array Value} (hw : ∀ d ∈ tables_1, d.before a0 Z = true) : Jvm.RoadKit.slotOf Z "com/example/assured_delivery/assureddelivery/storage/StoredMessage" "message" "[B" ≠ Jvm.RoadKit.slotOf Z "com/example/assured_delivery/assureddelivery/storage/StoredMessage" "signature" "[B" := slot_ne (a0 := a0) (C := "com/example/assured_delivery/assureddelivery/storage/StoredMessage") (Or.inr (w18 hw)) (Or.inr (w20 hw)) (by decide) (t := (.array .byte)) (t' := (.array .byte)) (by decide) (by decide)
abbrev y1_init : MethodName := ⟨"com/example/assured_delivery/assureddelivery/storage/StoredMessage", "<init>", "([B[B[B)V"⟩
theorem pn_com_example_assured_delivery_assureddelivery_storage_StoredMessage : plainName "com/example/assured_delivery/assureddelivery/storage/StoredMessage" = true := by first | (simp [plainName, overriddenIn]; done) | decide +kernel
abbrev c1_StoredMessage : String := "com/example/assured_delivery/assureddelivery/storage/StoredMessage"
theorem d4_0 : decode prog_44_method_3_code 0 = .ok (.aload_n 0, 1) := by decide +kernel
theorem d4_1 : decode prog_44_method_3_code 1 = .ok (.getfield 7, 3) := by decide +kernel
theorem d4_4 : decode prog_44_method_3_code 4 = .ok (.ifnonnull 7, 3) := by decide +kernel
theorem d4_11 : decode prog_44_method_3_code 11 = .ok (.aload_n 0, 1) := by decide +kernel
theorem d4_12 : decode prog_44_method_3_code 12 = .ok (.getfield 7, 3) := by decide +kernel
theorem d4_15 : decode prog_44_method_3_code 15 = .ok (.arraylength, 1) := by decide +kernel
theorem d4_16 : decode prog_44_method_3_code 16 = .ok (.i2l, 1) := by decide +kernel
theorem d4_17 : decode prog_44_method_3_code 17 = .ok (.lstore_n 1, 1) := by decide +kernel
theorem d4_18 : decode prog_44_method_3_code 18 = .ok (.aload_n 0, 1) := by decide +kernel
theorem d4_19 : decode prog_44_method_3_code 19 = .ok (.getfield 16, 3) := by decide +kernel
theorem d4_22 : decode prog_44_method_3_code 22 = .ok (.ifnonnull 7, 3) := by decide +kernel
theorem d4_29 : decode prog_44_method_3_code 29 = .ok (.aload_n 0, 1) := by decide +kernel
theorem d4_30 : decode prog_44_method_3_code 30 = .ok (.getfield 16, 3) := by decide +kernel
theorem d4_33 : decode prog_44_method_3_code 33 = .ok (.arraylength, 1) := by decide +kernel
theorem d4_34 : decode prog_44_method_3_code 34 = .ok (.i2l, 1) := by decide +kernel
theorem d4_35 : decode prog_44_method_3_code 35 = .ok (.lstore_n 3, 1) := by decide +kernel
theorem d4_36 : decode prog_44_method_3_code 36 = .ok (.lload_n 1, 1) := by decide +kernel
theorem d4_37 : decode prog_44_method_3_code 37 = .ok (.aload_n 0, 1) := by decide +kernel
theorem d4_38 : decode prog_44_method_3_code 38 = .ok (.getfield 13, 3) := by decide +kernel
theorem d4_41 : decode prog_44_method_3_code 41 = .ok (.arraylength, 1) := by decide +kernel
theorem d4_42 : decode prog_44_method_3_code 42 = .ok (.i2l, 1) := by decide +kernel
theorem d4_43 : decode prog_44_method_3_code 43 = .ok (.ladd, 1) := by decide +kernel
theorem d4_44 : decode prog_44_method_3_code 44 = .ok (.lload_n 3, 1) := by decide +kernel
theorem d4_45 : decode prog_44_method_3_code 45 = .ok (.ladd, 1) := by decide +kernel
theorem d4_46 : decode prog_44_method_3_code 46 = .ok (.lreturn, 1) := by decide +kernel
abbrev y2_bytes : MethodName := ⟨"com/example/assured_delivery/assureddelivery/storage/StoredMessage", "bytes", "()J"⟩
theorem d4_25 : decode prog_44_method_3_code 25 = .ok (.lconst 0, 1) := by decide +kernel
theorem d4_26 : decode prog_44_method_3_code 26 = .ok (.goto 9, 3) := by decide +kernel
theorem d4_7 : decode prog_44_method_3_code 7 = .ok (.lconst 0, 1) := by decide +kernel
theorem d4_8 : decode prog_44_method_3_code 8 = .ok (.goto 9, 3) := by decide +kernel
theorem w0 {Z : State} {a0 : Array Value} (hw : ∀ d ∈ tables_1, d.before a0 Z = true) : (Jvm.Cond.arrayClass Jvm.ClassFile.FieldType.byte).before a0 Z = true := hw _ (List.mem_of_getElem? (i := 0) rfl)
theorem w1 {Z : State} {a0 : Array Value} (hw : ∀ d ∈ tables_1, d.before a0 Z = true) : (Jvm.Cond.classLink "com/example/assured_delivery/assureddelivery/storage/StoredMessageBytesPinLaw" (7 : Nat) "com/example/assured_delivery/assureddelivery/storage/StoredMessage").before a0 Z = true := hw _ (List.mem_of_getElem? (i := 1) rfl)
theorem w3 {Z : State} {a0 : Array Value} (hw : ∀ d ∈ tables_1, d.before a0 Z = true) : (Jvm.Cond.initialized "com/example/assured_delivery/assureddelivery/storage/StoredMessage").before a0 Z = true := hw _ (List.mem_of_getElem? (i := 3) rfl)
theorem w4 {Z : State} {a0 : Array Value} (hw : ∀ d ∈ tables_1, d.before a0 Z = true) : (Jvm.Cond.methodLink "com/example/assured_delivery/assureddelivery/storage/StoredMessageBytesPinLaw" (9 : Nat) ({ cls := "com/example/assured_delivery/assureddelivery/storage/StoredMessage", name := "<init>", desc := "([B[B[B)V" } : Jvm.MethodName)).before a0 Z = true := hw _ (List.mem_of_getElem? (i := 4) rfl)
theorem pd___B_B_B_V : parseMethodDescriptor "([B[B[B)V" = some ⟨[(.array .byte), (.array .byte), (.array .byte)], none⟩ := by decide +kernel
theorem w6 {Z : State} {a0 : Array Value} (hw : ∀ d ∈ tables_1, d.before a0 Z = true) : (Jvm.Cond.code ({ cls := "com/example/assured_delivery/assureddelivery/storage/StoredMessage", name := "<init>", desc := "([B[B[B)V" } : Jvm.MethodName) prog_44_method_2_code (4 : Nat) (Option.none : Option Jvm.ClassFile.FieldType)).before a0 Z = true := hw _ (List.mem_of_getElem? (i := 6) rfl)
theorem w5 {Z : State} {a0 : Array Value} (hw : ∀ d ∈ tables_1, d.before a0 Z = true) : (Jvm.Cond.instanceMethod ({ cls := "com/example/assured_delivery/assureddelivery/storage/StoredMessage", name := "<init>", desc := "([B[B[B)V" } : Jvm.MethodName)).before a0 Z = true := hw _ (List.mem_of_getElem? (i := 5) rfl)
theorem w21 {Z : State} {a0 : Array Value} (hw : ∀ d ∈ tables_1, d.before a0 Z = true) : (Jvm.Cond.methodLink "com/example/assured_delivery/assureddelivery/storage/StoredMessageBytesPinLaw" (12 : Nat) ({ cls := "com/example/assured_delivery/assureddelivery/storage/StoredMessage", name := "bytes", desc := "()J" } : Jvm.MethodName)).before a0 Z = true := hw _ (List.mem_of_getElem? (i := 21) rfl)
theorem pd___J : parseMethodDescriptor "()J" = some ⟨[], some .long⟩ := by decide +kernel
theorem w25 {Z : State} {a0 : Array Value} (hw : ∀ d ∈ tables_1, d.before a0 Z = true) : (Jvm.Cond.code ({ cls := "com/example/assured_delivery/assureddelivery/storage/StoredMessage", name := "bytes", desc := "()J" } : Jvm.MethodName) prog_44_method_3_code (5 : Nat) (Option.some Jvm.ClassFile.FieldType.long)).before a0 Z = true := hw _ (List.mem_of_getElem? (i := 25) rfl)
theorem w24 {Z : State} {a0 : Array Value} (hw : ∀ d ∈ tables_1, d.before a0 Z = true) : (Jvm.Cond.selects "com/example/assured_delivery/assureddelivery/storage/StoredMessage" ({ cls := "com/example/assured_delivery/assureddelivery/storage/StoredMessage", name := "bytes", desc := "()J" } : Jvm.MethodName) ({ cls := "com/example/assured_delivery/assureddelivery/storage/StoredMessage", name := "bytes", desc := "()J" } : Jvm.MethodName)).before a0 Z = true := hw _ (List.mem_of_getElem? (i := 24) rfl)
theorem w22 {Z : State} {a0 : Array Value} (hw : ∀ d ∈ tables_1, d.before a0 Z = true) : (Jvm.Cond.declares ({ cls := "com/example/assured_delivery/assureddelivery/storage/StoredMessage", name := "bytes", desc := "()J" } : Jvm.MethodName)).before a0 Z = true := hw _ (List.mem_of_getElem? (i := 22) rfl)
theorem w23 {Z : State} {a0 : Array Value} (hw : ∀ d ∈ tables_1, d.before a0 Z = true) : (Jvm.Cond.instanceMethod ({ cls := "com/example/assured_delivery/assureddelivery/storage/StoredMessage", name := "bytes", desc := "()J" } : Jvm.MethodName)).before a0 Z = true := hw _ (List.mem_of_getElem? (i := 23) rfl)
theorem pn_com_example_assured_delivery_assureddelivery_storage_StoredMessageBytesPinLaw : plainName "com/example/assured_delivery/assureddelivery/storage/StoredMessageBytesPinLaw" = true := by first | (simp [plainName, overriddenIn]; done) | decide +kernel
abbrev c2_StoredMessageBytesPinLaw : String := "com/example/assured_delivery/assureddelivery/storage/StoredMessageBytesPinLaw"
set_option maxRecDepth 65536 in
set_option maxHeartbeats 40000000 in
theorem rec (l : Launch) (Z : State) (a0 : Array Value) (hw : ∀ d ∈ tables_1, d.before a0 Z = true) (n0 : Nat) (h0 : Heap) (Z0 : n0 ≤ h0.size) (a : Addr)  :
    Met l Z n0 y0_init jdk_30_method_1_code 1 (Option.none : Option Jvm.ClassFile.FieldType) ({ frames := 1, cells := 0, slots := 0, locals := 12 } : Room) #[(.ref a)] h0 (fun v h => v = none ∧ h = h0) := by
  refine met_intro (own := c0_Record) (plainFor_of_name pn_java_lang_Record) rfl Z0 ?_
  intro p e s m below meth c T A hnm
  refine Wp.cast (g' := mkF m 0 #[rv a] []) (by first | rfl | (simp [entryFrame, mkF, argsToLocals, Value.category, maxLocals]; done)) ?_
  refine s_aloadN (pc' := 1) A d2_0 rfl rfl rfl ?_
  refine s_initO (pc' := 4) (W := 0) A (w12 hw) (w13 hw) (w14 hw) (by decide) (Nat.le_of_eq rfl) (by decide) rfl d2_1 rfl fun T A => ?_
  exact r_void A rfl d2_4 (by decide) (by decide) (⟨rfl, rfl⟩)
set_option maxRecDepth 65536 in
set_option maxHeartbeats 40000000 in
theorem ini00 (l : Launch) (Z : State) (a0 : Array Value) (hw : ∀ d ∈ tables_1, d.before a0 Z = true) (n0 : Nat) (h0 : Heap) (Z0 : n0 ≤ h0.size) (a k m' s' : Addr) (E : Exa Z h0 a "com/example/assured_delivery/assureddelivery/storage/StoredMessage") (F0' : Fld Z h0 a "com/example/assured_delivery/assureddelivery/storage/StoredMessage" "key" "[B" .null) (F1' : Fld Z h0 a "com/example/assured_delivery/assureddelivery/storage/StoredMessage" "message" "[B" .null) (F2' : Fld Z h0 a "com/example/assured_delivery/assureddelivery/storage/StoredMessage" "signature" "[B" .null) (ga : n0 ≤ a) :
    Met l Z n0 y1_init prog_44_method_2_code 4 (Option.none : Option Jvm.ClassFile.FieldType) ({ frames := 2, cells := 0, slots := 0, locals := 24 } : Room) #[(.ref a), (.ref k), (.ref m'), (.ref s')] h0 (fun v h => v = none ∧ Keep h0 h [a] ∧ Exa Z h a "com/example/assured_delivery/assureddelivery/storage/StoredMessage" ∧ Fld Z h a "com/example/assured_delivery/assureddelivery/storage/StoredMessage" "key" "[B" (.ref k) ∧ Fld Z h a "com/example/assured_delivery/assureddelivery/storage/StoredMessage" "message" "[B" (.ref m') ∧ Fld Z h a "com/example/assured_delivery/assureddelivery/storage/StoredMessage" "signature" "[B" (.ref s')) := by
  refine met_intro (own := c1_StoredMessage) (plainFor_of_name pn_com_example_assured_delivery_assureddelivery_storage_StoredMessage) rfl Z0 ?_
  intro p e s m below meth c T A hnm
  refine Wp.cast (g' := mkF m 0 #[rv a, rv k, rv m', rv s'] []) (by first | rfl | (simp [entryFrame, mkF, argsToLocals, Value.category, maxLocals]; done)) ?_
  refine s_aloadN (pc' := 1) A d1_0 rfl rfl rfl ?_
  refine s_special (pc' := 4) (y := y0_init) (argsL := []) (rest := []) A (rec l Z a0 hw n0 h0 A.size a) rfl (w7 hw) (w8 hw) (w10 hw) (w11 hw) (by decide) pd___V rfl (W := 0) (by decide) (by decide) (Nat.le_of_eq rfl) (by decide) (by decide) rfl rfl d1_1 rfl fun T h1 v2 A Q3 => ?_
  obtain ⟨rfl, eh⟩ := Q3
  rw [eh] at A
  refine Wp.stk (st' := []) rfl ?_
  refine s_aloadN (pc' := 5) A d1_4 rfl rfl rfl ?_
  refine s_aloadN (pc' := 6) A d1_5 rfl rfl rfl ?_
  refine s_putfield (pc' := 9) (host := "") A (Or.inl (w15 hw)) Via.refl F0' E (Or.inr ⟨(w16 hw), rfl, hnm⟩) (w2 hw) (ty := (.array .byte)) (by decide) rfl rfl ga d1_6 rfl fun T h4 A W5 => ?_
  have F6 := F0'.same W5
  refine s_aloadN (pc' := 10) A d1_9 rfl rfl rfl ?_
  refine s_aloadN (pc' := 11) A d1_10 rfl rfl rfl ?_
  have F7 := (F1'.other W5 (Or.inr (sn_StoredMessage_message_key hw)))
  have E8 := (E.wr W5)
  refine s_putfield (pc' := 14) (host := "") A (Or.inl (w17 hw)) Via.refl F7 E8 (Or.inr ⟨(w18 hw), rfl, hnm⟩) (w2 hw) (ty := (.array .byte)) (by decide) rfl rfl ga d1_11 rfl fun T h9 A W10 => ?_
  have F11 := F7.same W10
  refine s_aloadN (pc' := 15) A d1_14 rfl rfl rfl ?_
  refine s_aloadN (pc' := 16) A d1_15 rfl rfl rfl ?_
  have F12 := ((F2'.other W5 (Or.inr (sn_StoredMessage_signature_key hw))).other W10 (Or.inr (sn_StoredMessage_signature_message hw)))
  have E13 := (E8.wr W10)
  refine s_putfield (pc' := 19) (host := "") A (Or.inl (w19 hw)) Via.refl F12 E13 (Or.inr ⟨(w20 hw), rfl, hnm⟩) (w2 hw) (ty := (.array .byte)) (by decide) rfl rfl ga d1_16 rfl fun T h14 A W15 => ?_
  have F16 := F12.same W15
  have K17 := ((((Keep.refl h0 [a]).wr W5 (Or.inl (List.mem_of_getElem? (i := 0) rfl))).wr W10 (Or.inl (List.mem_of_getElem? (i := 0) rfl))).wr W15 (Or.inl (List.mem_of_getElem? (i := 0) rfl)))
  have E18 := (E13.wr W15)
  have F19 := ((F6.other W10 (Or.inr (sn_StoredMessage_key_message hw))).other W15 (Or.inr (sn_StoredMessage_key_signature hw)))
  have F20 := (F11.other W15 (Or.inr (sn_StoredMessage_message_signature hw)))
  exact r_void A rfl d1_19 (by decide) (by decide) (⟨rfl, K17, E18, F19, F20, F16⟩)
set_option maxRecDepth 65536 in
set_option maxHeartbeats 40000000 in
theorem byt00 (l : Launch) (Z : State) (a0 : Array Value) (hw : ∀ d ∈ tables_1, d.before a0 Z = true) (n0 : Nat) (h0 : Heap) (Z0 : n0 ≤ h0.size) (a k m' s' : Addr) (v0 v1 v2 : List Value) (z0 z1 z2 : Int32) (F0' : Fld Z h0 a "com/example/assured_delivery/assureddelivery/storage/StoredMessage" "key" "[B" (.ref k)) (F1' : Fld Z h0 a "com/example/assured_delivery/assureddelivery/storage/StoredMessage" "message" "[B" (.ref m')) (F2' : Fld Z h0 a "com/example/assured_delivery/assureddelivery/storage/StoredMessage" "signature" "[B" (.ref s')) (V0' : AA Z h0 k .byte v0) (hz0 : z0.toInt = (v0.length : Int)) (V1' : AA Z h0 m' .byte v1) (hz1 : z1.toInt = (v1.length : Int)) (V2' : AA Z h0 s' .byte v2) (hz2 : z2.toInt = (v2.length : Int)) :
    Met l Z n0 y2_bytes prog_44_method_3_code 5 (Option.some Jvm.ClassFile.FieldType.long) ({ frames := 0, cells := 0, slots := 0, locals := 0 } : Room) #[(.ref a)] h0 (fun v h => v = some (.long (((z0).toInt64 + (z1).toInt64) + (z2).toInt64)) ∧ h = h0) := by
  refine met_intro (own := c1_StoredMessage) (plainFor_of_name pn_com_example_assured_delivery_assureddelivery_storage_StoredMessage) rfl Z0 ?_
  intro p e s m below meth c T A hnm
  refine Wp.cast (g' := mkF m 0 #[rv a, U0, U0, U0, U0] []) (by first | rfl | (simp [entryFrame, mkF, argsToLocals, Value.category, maxLocals]; done)) ?_
  refine s_aloadN (pc' := 1) A d4_0 rfl rfl rfl ?_
  refine s_getfield (pc' := 4) (host := "") A (Or.inl (w15 hw)) Via.refl F0' d4_1 rfl fun T A => ?_
  refine s_ifnonnullY (pc' := 11) A d4_4 (by decide) (by decide) ?_
  refine s_aloadN (pc' := 12) A d4_11 rfl rfl rfl ?_
  refine s_getfield (pc' := 15) (host := "") A (Or.inl (w15 hw)) Via.refl F0' d4_12 rfl fun T A => ?_
  refine s_arraylength (pc' := 16) (z := z0) A V0' hz0 d4_15 rfl ?_
  refine s_i2l (pc' := 17) (z := (z0).toInt64) A d4_16 rfl rfl ?_
  refine s_lstoreN (pc' := 18) (Ls' := #[rv a, jv (z0).toInt64, S2, U0, U0]) A d4_17 rfl rfl ?_
  refine s_aloadN (pc' := 19) A d4_18 rfl rfl rfl ?_
  refine s_getfield (pc' := 22) (host := "") A (Or.inl (w19 hw)) Via.refl F2' d4_19 rfl fun T A => ?_
  refine s_ifnonnullY (pc' := 29) A d4_22 (by decide) (by decide) ?_
  refine s_aloadN (pc' := 30) A d4_29 rfl rfl rfl ?_
  refine s_getfield (pc' := 33) (host := "") A (Or.inl (w19 hw)) Via.refl F2' d4_30 rfl fun T A => ?_
  refine s_arraylength (pc' := 34) (z := z2) A V2' hz2 d4_33 rfl ?_
  refine s_i2l (pc' := 35) (z := (z2).toInt64) A d4_34 rfl rfl ?_
  refine s_lstoreN (pc' := 36) (Ls' := #[rv a, jv (z0).toInt64, S2, jv (z2).toInt64, S2]) A d4_35 rfl rfl ?_
  refine s_lloadN (pc' := 37) A d4_36 rfl rfl ?_
  refine s_aloadN (pc' := 38) A d4_37 rfl rfl rfl ?_
  refine s_getfield (pc' := 41) (host := "") A (Or.inl (w17 hw)) Via.refl F1' d4_38 rfl fun T A => ?_
  refine s_arraylength (pc' := 42) (z := z1) A V1' hz1 d4_41 rfl ?_
  refine s_i2l (pc' := 43) (z := (z1).toInt64) A d4_42 rfl rfl ?_
  refine s_ladd (pc' := 44) (z := ((z0).toInt64 + (z1).toInt64)) A d4_43 rfl rfl ?_
  refine s_lloadN (pc' := 45) A d4_44 rfl rfl ?_
  refine s_ladd (pc' := 46) (z := (((z0).toInt64 + (z1).toInt64) + (z2).toInt64)) A d4_45 rfl rfl ?_
  exact r_long A rfl d4_46 (by decide) (by decide) (⟨rfl, rfl⟩)
set_option maxRecDepth 65536 in
set_option maxHeartbeats 40000000 in
theorem ini01 (l : Launch) (Z : State) (a0 : Array Value) (hw : ∀ d ∈ tables_1, d.before a0 Z = true) (n0 : Nat) (h0 : Heap) (Z0 : n0 ≤ h0.size) (a k m' s' : Addr) (E : Exa Z h0 a "com/example/assured_delivery/assureddelivery/storage/StoredMessage") (F0' : Fld Z h0 a "com/example/assured_delivery/assureddelivery/storage/StoredMessage" "key" "[B" .null) (F1' : Fld Z h0 a "com/example/assured_delivery/assureddelivery/storage/StoredMessage" "message" "[B" .null) (F2' : Fld Z h0 a "com/example/assured_delivery/assureddelivery/storage/StoredMessage" "signature" "[B" .null) (ga : n0 ≤ a) :
    Met l Z n0 y1_init prog_44_method_2_code 4 (Option.none : Option Jvm.ClassFile.FieldType) ({ frames := 2, cells := 0, slots := 0, locals := 24 } : Room) #[(.ref a), (.ref k), (.ref m'), .null] h0 (fun v h => v = none ∧ Keep h0 h [a] ∧ Exa Z h a "com/example/assured_delivery/assureddelivery/storage/StoredMessage" ∧ Fld Z h a "com/example/assured_delivery/assureddelivery/storage/StoredMessage" "key" "[B" (.ref k) ∧ Fld Z h a "com/example/assured_delivery/assureddelivery/storage/StoredMessage" "message" "[B" (.ref m') ∧ Fld Z h a "com/example/assured_delivery/assureddelivery/storage/StoredMessage" "signature" "[B" .null) := by
  refine met_intro (own := c1_StoredMessage) (plainFor_of_name pn_com_example_assured_delivery_assureddelivery_storage_StoredMessage) rfl Z0 ?_
  intro p e s m below meth c T A hnm
  refine Wp.cast (g' := mkF m 0 #[rv a, rv k, rv m', .val .null] []) (by first | rfl | (simp [entryFrame, mkF, argsToLocals, Value.category, maxLocals]; done)) ?_
  refine s_aloadN (pc' := 1) A d1_0 rfl rfl rfl ?_
  refine s_special (pc' := 4) (y := y0_init) (argsL := []) (rest := []) A (rec l Z a0 hw n0 h0 A.size a) rfl (w7 hw) (w8 hw) (w10 hw) (w11 hw) (by decide) pd___V rfl (W := 0) (by decide) (by decide) (Nat.le_of_eq rfl) (by decide) (by decide) rfl rfl d1_1 rfl fun T h1 v2 A Q3 => ?_
  obtain ⟨rfl, eh⟩ := Q3
  rw [eh] at A
  refine Wp.stk (st' := []) rfl ?_
  refine s_aloadN (pc' := 5) A d1_4 rfl rfl rfl ?_
  refine s_aloadN (pc' := 6) A d1_5 rfl rfl rfl ?_
  refine s_putfield (pc' := 9) (host := "") A (Or.inl (w15 hw)) Via.refl F0' E (Or.inr ⟨(w16 hw), rfl, hnm⟩) (w2 hw) (ty := (.array .byte)) (by decide) rfl rfl ga d1_6 rfl fun T h4 A W5 => ?_
  have F6 := F0'.same W5
  refine s_aloadN (pc' := 10) A d1_9 rfl rfl rfl ?_
  refine s_aloadN (pc' := 11) A d1_10 rfl rfl rfl ?_
  have F7 := (F1'.other W5 (Or.inr (sn_StoredMessage_message_key hw)))
  have E8 := (E.wr W5)
  refine s_putfield (pc' := 14) (host := "") A (Or.inl (w17 hw)) Via.refl F7 E8 (Or.inr ⟨(w18 hw), rfl, hnm⟩) (w2 hw) (ty := (.array .byte)) (by decide) rfl rfl ga d1_11 rfl fun T h9 A W10 => ?_
  have F11 := F7.same W10
  refine s_aloadN (pc' := 15) A d1_14 rfl rfl rfl ?_
  refine s_aloadN (pc' := 16) A d1_15 rfl rfl rfl ?_
  have F12 := ((F2'.other W5 (Or.inr (sn_StoredMessage_signature_key hw))).other W10 (Or.inr (sn_StoredMessage_signature_message hw)))
  have E13 := (E8.wr W10)
  refine s_putfield (pc' := 19) (host := "") A (Or.inl (w19 hw)) Via.refl F12 E13 (Or.inr ⟨(w20 hw), rfl, hnm⟩) (w2 hw) (ty := (.array .byte)) (by decide) rfl rfl ga d1_16 rfl fun T h14 A W15 => ?_
  have F16 := F12.same W15
  have K17 := ((((Keep.refl h0 [a]).wr W5 (Or.inl (List.mem_of_getElem? (i := 0) rfl))).wr W10 (Or.inl (List.mem_of_getElem? (i := 0) rfl))).wr W15 (Or.inl (List.mem_of_getElem? (i := 0) rfl)))
  have E18 := (E13.wr W15)
  have F19 := ((F6.other W10 (Or.inr (sn_StoredMessage_key_message hw))).other W15 (Or.inr (sn_StoredMessage_key_signature hw)))
  have F20 := (F11.other W15 (Or.inr (sn_StoredMessage_message_signature hw)))
  exact r_void A rfl d1_19 (by decide) (by decide) (⟨rfl, K17, E18, F19, F20, F16⟩)
set_option maxRecDepth 65536 in
set_option maxHeartbeats 40000000 in
theorem byt01 (l : Launch) (Z : State) (a0 : Array Value) (hw : ∀ d ∈ tables_1, d.before a0 Z = true) (n0 : Nat) (h0 : Heap) (Z0 : n0 ≤ h0.size) (a k m' s' : Addr) (v0 v1 v2 : List Value) (z0 z1 z2 : Int32) (F0' : Fld Z h0 a "com/example/assured_delivery/assureddelivery/storage/StoredMessage" "key" "[B" (.ref k)) (F1' : Fld Z h0 a "com/example/assured_delivery/assureddelivery/storage/StoredMessage" "message" "[B" (.ref m')) (F2' : Fld Z h0 a "com/example/assured_delivery/assureddelivery/storage/StoredMessage" "signature" "[B" .null) (V0' : AA Z h0 k .byte v0) (hz0 : z0.toInt = (v0.length : Int)) (V1' : AA Z h0 m' .byte v1) (hz1 : z1.toInt = (v1.length : Int)) :
    Met l Z n0 y2_bytes prog_44_method_3_code 5 (Option.some Jvm.ClassFile.FieldType.long) ({ frames := 0, cells := 0, slots := 0, locals := 0 } : Room) #[(.ref a)] h0 (fun v h => v = some (.long (((z0).toInt64 + (z1).toInt64) + (0 : Int64))) ∧ h = h0) := by
  refine met_intro (own := c1_StoredMessage) (plainFor_of_name pn_com_example_assured_delivery_assureddelivery_storage_StoredMessage) rfl Z0 ?_
  intro p e s m below meth c T A hnm
  refine Wp.cast (g' := mkF m 0 #[rv a, U0, U0, U0, U0] []) (by first | rfl | (simp [entryFrame, mkF, argsToLocals, Value.category, maxLocals]; done)) ?_
  refine s_aloadN (pc' := 1) A d4_0 rfl rfl rfl ?_
  refine s_getfield (pc' := 4) (host := "") A (Or.inl (w15 hw)) Via.refl F0' d4_1 rfl fun T A => ?_
  refine s_ifnonnullY (pc' := 11) A d4_4 (by decide) (by decide) ?_
  refine s_aloadN (pc' := 12) A d4_11 rfl rfl rfl ?_
  refine s_getfield (pc' := 15) (host := "") A (Or.inl (w15 hw)) Via.refl F0' d4_12 rfl fun T A => ?_
  refine s_arraylength (pc' := 16) (z := z0) A V0' hz0 d4_15 rfl ?_
  refine s_i2l (pc' := 17) (z := (z0).toInt64) A d4_16 rfl rfl ?_
  refine s_lstoreN (pc' := 18) (Ls' := #[rv a, jv (z0).toInt64, S2, U0, U0]) A d4_17 rfl rfl ?_
  refine s_aloadN (pc' := 19) A d4_18 rfl rfl rfl ?_
  refine s_getfield (pc' := 22) (host := "") A (Or.inl (w19 hw)) Via.refl F2' d4_19 rfl fun T A => ?_
  refine s_ifnonnullN (pc' := 25) A d4_22 rfl ?_
  refine s_lconst (pc' := 26) (z := (0 : Int64)) A d4_25 rfl (by decide) ?_
  refine s_goto (pc' := 35) A d4_26 (by decide) (by decide) ?_
  refine s_lstoreN (pc' := 36) (Ls' := #[rv a, jv (z0).toInt64, S2, jv 0, S2]) A d4_35 rfl rfl ?_
  refine s_lloadN (pc' := 37) A d4_36 rfl rfl ?_
  refine s_aloadN (pc' := 38) A d4_37 rfl rfl rfl ?_
  refine s_getfield (pc' := 41) (host := "") A (Or.inl (w17 hw)) Via.refl F1' d4_38 rfl fun T A => ?_
  refine s_arraylength (pc' := 42) (z := z1) A V1' hz1 d4_41 rfl ?_
  refine s_i2l (pc' := 43) (z := (z1).toInt64) A d4_42 rfl rfl ?_
  refine s_ladd (pc' := 44) (z := ((z0).toInt64 + (z1).toInt64)) A d4_43 rfl rfl ?_
  refine s_lloadN (pc' := 45) A d4_44 rfl rfl ?_
  refine s_ladd (pc' := 46) (z := (((z0).toInt64 + (z1).toInt64) + (0 : Int64))) A d4_45 rfl rfl ?_
  exact r_long A rfl d4_46 (by decide) (by decide) (⟨rfl, rfl⟩)
set_option maxRecDepth 65536 in
set_option maxHeartbeats 40000000 in
theorem ini10 (l : Launch) (Z : State) (a0 : Array Value) (hw : ∀ d ∈ tables_1, d.before a0 Z = true) (n0 : Nat) (h0 : Heap) (Z0 : n0 ≤ h0.size) (a k m' s' : Addr) (E : Exa Z h0 a "com/example/assured_delivery/assureddelivery/storage/StoredMessage") (F0' : Fld Z h0 a "com/example/assured_delivery/assureddelivery/storage/StoredMessage" "key" "[B" .null) (F1' : Fld Z h0 a "com/example/assured_delivery/assureddelivery/storage/StoredMessage" "message" "[B" .null) (F2' : Fld Z h0 a "com/example/assured_delivery/assureddelivery/storage/StoredMessage" "signature" "[B" .null) (ga : n0 ≤ a) :
    Met l Z n0 y1_init prog_44_method_2_code 4 (Option.none : Option Jvm.ClassFile.FieldType) ({ frames := 2, cells := 0, slots := 0, locals := 24 } : Room) #[(.ref a), .null, (.ref m'), (.ref s')] h0 (fun v h => v = none ∧ Keep h0 h [a] ∧ Exa Z h a "com/example/assured_delivery/assureddelivery/storage/StoredMessage" ∧ Fld Z h a "com/example/assured_delivery/assureddelivery/storage/StoredMessage" "key" "[B" .null ∧ Fld Z h a "com/example/assured_delivery/assureddelivery/storage/StoredMessage" "message" "[B" (.ref m') ∧ Fld Z h a "com/example/assured_delivery/assureddelivery/storage/StoredMessage" "signature" "[B" (.ref s')) := by
  refine met_intro (own := c1_StoredMessage) (plainFor_of_name pn_com_example_assured_delivery_assureddelivery_storage_StoredMessage) rfl Z0 ?_
  intro p e s m below meth c T A hnm
  refine Wp.cast (g' := mkF m 0 #[rv a, .val .null, rv m', rv s'] []) (by first | rfl | (simp [entryFrame, mkF, argsToLocals, Value.category, maxLocals]; done)) ?_
  refine s_aloadN (pc' := 1) A d1_0 rfl rfl rfl ?_
  refine s_special (pc' := 4) (y := y0_init) (argsL := []) (rest := []) A (rec l Z a0 hw n0 h0 A.size a) rfl (w7 hw) (w8 hw) (w10 hw) (w11 hw) (by decide) pd___V rfl (W := 0) (by decide) (by decide) (Nat.le_of_eq rfl) (by decide) (by decide) rfl rfl d1_1 rfl fun T h1 v2 A Q3 => ?_
  obtain ⟨rfl, eh⟩ := Q3
  rw [eh] at A
  refine Wp.stk (st' := []) rfl ?_
  refine s_aloadN (pc' := 5) A d1_4 rfl rfl rfl ?_
  refine s_aloadN (pc' := 6) A d1_5 rfl rfl rfl ?_
  refine s_putfield (pc' := 9) (host := "") A (Or.inl (w15 hw)) Via.refl F0' E (Or.inr ⟨(w16 hw), rfl, hnm⟩) (w2 hw) (ty := (.array .byte)) (by decide) rfl rfl ga d1_6 rfl fun T h4 A W5 => ?_
  have F6 := F0'.same W5
  refine s_aloadN (pc' := 10) A d1_9 rfl rfl rfl ?_
  refine s_aloadN (pc' := 11) A d1_10 rfl rfl rfl ?_
  have F7 := (F1'.other W5 (Or.inr (sn_StoredMessage_message_key hw)))
  have E8 := (E.wr W5)
  refine s_putfield (pc' := 14) (host := "") A (Or.inl (w17 hw)) Via.refl F7 E8 (Or.inr ⟨(w18 hw), rfl, hnm⟩) (w2 hw) (ty := (.array .byte)) (by decide) rfl rfl ga d1_11 rfl fun T h9 A W10 => ?_
  have F11 := F7.same W10
  refine s_aloadN (pc' := 15) A d1_14 rfl rfl rfl ?_
  refine s_aloadN (pc' := 16) A d1_15 rfl rfl rfl ?_
  have F12 := ((F2'.other W5 (Or.inr (sn_StoredMessage_signature_key hw))).other W10 (Or.inr (sn_StoredMessage_signature_message hw)))
  have E13 := (E8.wr W10)
  refine s_putfield (pc' := 19) (host := "") A (Or.inl (w19 hw)) Via.refl F12 E13 (Or.inr ⟨(w20 hw), rfl, hnm⟩) (w2 hw) (ty := (.array .byte)) (by decide) rfl rfl ga d1_16 rfl fun T h14 A W15 => ?_
  have F16 := F12.same W15
  have K17 := ((((Keep.refl h0 [a]).wr W5 (Or.inl (List.mem_of_getElem? (i := 0) rfl))).wr W10 (Or.inl (List.mem_of_getElem? (i := 0) rfl))).wr W15 (Or.inl (List.mem_of_getElem? (i := 0) rfl)))
  have E18 := (E13.wr W15)
  have F19 := ((F6.other W10 (Or.inr (sn_StoredMessage_key_message hw))).other W15 (Or.inr (sn_StoredMessage_key_signature hw)))
  have F20 := (F11.other W15 (Or.inr (sn_StoredMessage_message_signature hw)))
  exact r_void A rfl d1_19 (by decide) (by decide) (⟨rfl, K17, E18, F19, F20, F16⟩)
set_option maxRecDepth 65536 in
set_option maxHeartbeats 40000000 in
theorem byt10 (l : Launch) (Z : State) (a0 : Array Value) (hw : ∀ d ∈ tables_1, d.before a0 Z = true) (n0 : Nat) (h0 : Heap) (Z0 : n0 ≤ h0.size) (a k m' s' : Addr) (v0 v1 v2 : List Value) (z0 z1 z2 : Int32) (F0' : Fld Z h0 a "com/example/assured_delivery/assureddelivery/storage/StoredMessage" "key" "[B" .null) (F1' : Fld Z h0 a "com/example/assured_delivery/assureddelivery/storage/StoredMessage" "message" "[B" (.ref m')) (F2' : Fld Z h0 a "com/example/assured_delivery/assureddelivery/storage/StoredMessage" "signature" "[B" (.ref s')) (V1' : AA Z h0 m' .byte v1) (hz1 : z1.toInt = (v1.length : Int)) (V2' : AA Z h0 s' .byte v2) (hz2 : z2.toInt = (v2.length : Int)) :
    Met l Z n0 y2_bytes prog_44_method_3_code 5 (Option.some Jvm.ClassFile.FieldType.long) ({ frames := 0, cells := 0, slots := 0, locals := 0 } : Room) #[(.ref a)] h0 (fun v h => v = some (.long (((0 : Int64) + (z1).toInt64) + (z2).toInt64)) ∧ h = h0) := by
  refine met_intro (own := c1_StoredMessage) (plainFor_of_name pn_com_example_assured_delivery_assureddelivery_storage_StoredMessage) rfl Z0 ?_
  intro p e s m below meth c T A hnm
  refine Wp.cast (g' := mkF m 0 #[rv a, U0, U0, U0, U0] []) (by first | rfl | (simp [entryFrame, mkF, argsToLocals, Value.category, maxLocals]; done)) ?_
  refine s_aloadN (pc' := 1) A d4_0 rfl rfl rfl ?_
  refine s_getfield (pc' := 4) (host := "") A (Or.inl (w15 hw)) Via.refl F0' d4_1 rfl fun T A => ?_
  refine s_ifnonnullN (pc' := 7) A d4_4 rfl ?_
  refine s_lconst (pc' := 8) (z := (0 : Int64)) A d4_7 rfl (by decide) ?_
  refine s_goto (pc' := 17) A d4_8 (by decide) (by decide) ?_
  refine s_lstoreN (pc' := 18) (Ls' := #[rv a, jv 0, S2, U0, U0]) A d4_17 rfl rfl ?_
  refine s_aloadN (pc' := 19) A d4_18 rfl rfl rfl ?_
  refine s_getfield (pc' := 22) (host := "") A (Or.inl (w19 hw)) Via.refl F2' d4_19 rfl fun T A => ?_
  refine s_ifnonnullY (pc' := 29) A d4_22 (by decide) (by decide) ?_
  refine s_aloadN (pc' := 30) A d4_29 rfl rfl rfl ?_
  refine s_getfield (pc' := 33) (host := "") A (Or.inl (w19 hw)) Via.refl F2' d4_30 rfl fun T A => ?_
  refine s_arraylength (pc' := 34) (z := z2) A V2' hz2 d4_33 rfl ?_
  refine s_i2l (pc' := 35) (z := (z2).toInt64) A d4_34 rfl rfl ?_
  refine s_lstoreN (pc' := 36) (Ls' := #[rv a, jv 0, S2, jv (z2).toInt64, S2]) A d4_35 rfl rfl ?_
  refine s_lloadN (pc' := 37) A d4_36 rfl rfl ?_
  refine s_aloadN (pc' := 38) A d4_37 rfl rfl rfl ?_
  refine s_getfield (pc' := 41) (host := "") A (Or.inl (w17 hw)) Via.refl F1' d4_38 rfl fun T A => ?_
  refine s_arraylength (pc' := 42) (z := z1) A V1' hz1 d4_41 rfl ?_
  refine s_i2l (pc' := 43) (z := (z1).toInt64) A d4_42 rfl rfl ?_
  refine s_ladd (pc' := 44) (z := ((0 : Int64) + (z1).toInt64)) A d4_43 rfl rfl ?_
  refine s_lloadN (pc' := 45) A d4_44 rfl rfl ?_
  refine s_ladd (pc' := 46) (z := (((0 : Int64) + (z1).toInt64) + (z2).toInt64)) A d4_45 rfl rfl ?_
  exact r_long A rfl d4_46 (by decide) (by decide) (⟨rfl, rfl⟩)
set_option maxRecDepth 65536 in
set_option maxHeartbeats 40000000 in
theorem ini11 (l : Launch) (Z : State) (a0 : Array Value) (hw : ∀ d ∈ tables_1, d.before a0 Z = true) (n0 : Nat) (h0 : Heap) (Z0 : n0 ≤ h0.size) (a k m' s' : Addr) (E : Exa Z h0 a "com/example/assured_delivery/assureddelivery/storage/StoredMessage") (F0' : Fld Z h0 a "com/example/assured_delivery/assureddelivery/storage/StoredMessage" "key" "[B" .null) (F1' : Fld Z h0 a "com/example/assured_delivery/assureddelivery/storage/StoredMessage" "message" "[B" .null) (F2' : Fld Z h0 a "com/example/assured_delivery/assureddelivery/storage/StoredMessage" "signature" "[B" .null) (ga : n0 ≤ a) :
    Met l Z n0 y1_init prog_44_method_2_code 4 (Option.none : Option Jvm.ClassFile.FieldType) ({ frames := 2, cells := 0, slots := 0, locals := 24 } : Room) #[(.ref a), .null, (.ref m'), .null] h0 (fun v h => v = none ∧ Keep h0 h [a] ∧ Exa Z h a "com/example/assured_delivery/assureddelivery/storage/StoredMessage" ∧ Fld Z h a "com/example/assured_delivery/assureddelivery/storage/StoredMessage" "key" "[B" .null ∧ Fld Z h a "com/example/assured_delivery/assureddelivery/storage/StoredMessage" "message" "[B" (.ref m') ∧ Fld Z h a "com/example/assured_delivery/assureddelivery/storage/StoredMessage" "signature" "[B" .null) := by
  refine met_intro (own := c1_StoredMessage) (plainFor_of_name pn_com_example_assured_delivery_assureddelivery_storage_StoredMessage) rfl Z0 ?_
  intro p e s m below meth c T A hnm
  refine Wp.cast (g' := mkF m 0 #[rv a, .val .null, rv m', .val .null] []) (by first | rfl | (simp [entryFrame, mkF, argsToLocals, Value.category, maxLocals]; done)) ?_
  refine s_aloadN (pc' := 1) A d1_0 rfl rfl rfl ?_
  refine s_special (pc' := 4) (y := y0_init) (argsL := []) (rest := []) A (rec l Z a0 hw n0 h0 A.size a) rfl (w7 hw) (w8 hw) (w10 hw) (w11 hw) (by decide) pd___V rfl (W := 0) (by decide) (by decide) (Nat.le_of_eq rfl) (by decide) (by decide) rfl rfl d1_1 rfl fun T h1 v2 A Q3 => ?_
  obtain ⟨rfl, eh⟩ := Q3
  rw [eh] at A
  refine Wp.stk (st' := []) rfl ?_
  refine s_aloadN (pc' := 5) A d1_4 rfl rfl rfl ?_
  refine s_aloadN (pc' := 6) A d1_5 rfl rfl rfl ?_
  refine s_putfield (pc' := 9) (host := "") A (Or.inl (w15 hw)) Via.refl F0' E (Or.inr ⟨(w16 hw), rfl, hnm⟩) (w2 hw) (ty := (.array .byte)) (by decide) rfl rfl ga d1_6 rfl fun T h4 A W5 => ?_
  have F6 := F0'.same W5
  refine s_aloadN (pc' := 10) A d1_9 rfl rfl rfl ?_
  refine s_aloadN (pc' := 11) A d1_10 rfl rfl rfl ?_
  have F7 := (F1'.other W5 (Or.inr (sn_StoredMessage_message_key hw)))
  have E8 := (E.wr W5)
  refine s_putfield (pc' := 14) (host := "") A (Or.inl (w17 hw)) Via.refl F7 E8 (Or.inr ⟨(w18 hw), rfl, hnm⟩) (w2 hw) (ty := (.array .byte)) (by decide) rfl rfl ga d1_11 rfl fun T h9 A W10 => ?_
  have F11 := F7.same W10
  refine s_aloadN (pc' := 15) A d1_14 rfl rfl rfl ?_
  refine s_aloadN (pc' := 16) A d1_15 rfl rfl rfl ?_
  have F12 := ((F2'.other W5 (Or.inr (sn_StoredMessage_signature_key hw))).other W10 (Or.inr (sn_StoredMessage_signature_message hw)))
  have E13 := (E8.wr W10)
  refine s_putfield (pc' := 19) (host := "") A (Or.inl (w19 hw)) Via.refl F12 E13 (Or.inr ⟨(w20 hw), rfl, hnm⟩) (w2 hw) (ty := (.array .byte)) (by decide) rfl rfl ga d1_16 rfl fun T h14 A W15 => ?_
  have F16 := F12.same W15
  have K17 := ((((Keep.refl h0 [a]).wr W5 (Or.inl (List.mem_of_getElem? (i := 0) rfl))).wr W10 (Or.inl (List.mem_of_getElem? (i := 0) rfl))).wr W15 (Or.inl (List.mem_of_getElem? (i := 0) rfl)))
  have E18 := (E13.wr W15)
  have F19 := ((F6.other W10 (Or.inr (sn_StoredMessage_key_message hw))).other W15 (Or.inr (sn_StoredMessage_key_signature hw)))
  have F20 := (F11.other W15 (Or.inr (sn_StoredMessage_message_signature hw)))
  exact r_void A rfl d1_19 (by decide) (by decide) (⟨rfl, K17, E18, F19, F20, F16⟩)
set_option maxRecDepth 65536 in
set_option maxHeartbeats 40000000 in
theorem byt11 (l : Launch) (Z : State) (a0 : Array Value) (hw : ∀ d ∈ tables_1, d.before a0 Z = true) (n0 : Nat) (h0 : Heap) (Z0 : n0 ≤ h0.size) (a k m' s' : Addr) (v0 v1 v2 : List Value) (z0 z1 z2 : Int32) (F0' : Fld Z h0 a "com/example/assured_delivery/assureddelivery/storage/StoredMessage" "key" "[B" .null) (F1' : Fld Z h0 a "com/example/assured_delivery/assureddelivery/storage/StoredMessage" "message" "[B" (.ref m')) (F2' : Fld Z h0 a "com/example/assured_delivery/assureddelivery/storage/StoredMessage" "signature" "[B" .null) (V1' : AA Z h0 m' .byte v1) (hz1 : z1.toInt = (v1.length : Int)) :
    Met l Z n0 y2_bytes prog_44_method_3_code 5 (Option.some Jvm.ClassFile.FieldType.long) ({ frames := 0, cells := 0, slots := 0, locals := 0 } : Room) #[(.ref a)] h0 (fun v h => v = some (.long (((0 : Int64) + (z1).toInt64) + (0 : Int64))) ∧ h = h0) := by
  refine met_intro (own := c1_StoredMessage) (plainFor_of_name pn_com_example_assured_delivery_assureddelivery_storage_StoredMessage) rfl Z0 ?_
  intro p e s m below meth c T A hnm
  refine Wp.cast (g' := mkF m 0 #[rv a, U0, U0, U0, U0] []) (by first | rfl | (simp [entryFrame, mkF, argsToLocals, Value.category, maxLocals]; done)) ?_
  refine s_aloadN (pc' := 1) A d4_0 rfl rfl rfl ?_
  refine s_getfield (pc' := 4) (host := "") A (Or.inl (w15 hw)) Via.refl F0' d4_1 rfl fun T A => ?_
  refine s_ifnonnullN (pc' := 7) A d4_4 rfl ?_
  refine s_lconst (pc' := 8) (z := (0 : Int64)) A d4_7 rfl (by decide) ?_
  refine s_goto (pc' := 17) A d4_8 (by decide) (by decide) ?_
  refine s_lstoreN (pc' := 18) (Ls' := #[rv a, jv 0, S2, U0, U0]) A d4_17 rfl rfl ?_
  refine s_aloadN (pc' := 19) A d4_18 rfl rfl rfl ?_
  refine s_getfield (pc' := 22) (host := "") A (Or.inl (w19 hw)) Via.refl F2' d4_19 rfl fun T A => ?_
  refine s_ifnonnullN (pc' := 25) A d4_22 rfl ?_
  refine s_lconst (pc' := 26) (z := (0 : Int64)) A d4_25 rfl (by decide) ?_
  refine s_goto (pc' := 35) A d4_26 (by decide) (by decide) ?_
  refine s_lstoreN (pc' := 36) (Ls' := #[rv a, jv 0, S2, jv 0, S2]) A d4_35 rfl rfl ?_
  refine s_lloadN (pc' := 37) A d4_36 rfl rfl ?_
  refine s_aloadN (pc' := 38) A d4_37 rfl rfl rfl ?_
  refine s_getfield (pc' := 41) (host := "") A (Or.inl (w17 hw)) Via.refl F1' d4_38 rfl fun T A => ?_
  refine s_arraylength (pc' := 42) (z := z1) A V1' hz1 d4_41 rfl ?_
  refine s_i2l (pc' := 43) (z := (z1).toInt64) A d4_42 rfl rfl ?_
  refine s_ladd (pc' := 44) (z := ((0 : Int64) + (z1).toInt64)) A d4_43 rfl rfl ?_
  refine s_lloadN (pc' := 45) A d4_44 rfl rfl ?_
  refine s_ladd (pc' := 46) (z := (((0 : Int64) + (z1).toInt64) + (0 : Int64))) A d4_45 rfl rfl ?_
  exact r_long A rfl d4_46 (by decide) (by decide) (⟨rfl, rfl⟩)
set_option maxRecDepth 65536 in
set_option maxHeartbeats 40000000 in
theorem rm0 (l : Launch) (Z : State) (a0 : Array Value) (hw : ∀ d ∈ tables_1, d.before a0 Z = true) (n0 : Nat) (h0 : Heap) (Z0 : n0 ≤ h0.size) (q0 q1 q2 q3 : Int32)  :
    Met l Z n0 x code maxLocals ret room_1 #[(.int q0), (.int q1), (.int q2), (.int q3)] h0 (fun v h => v = some (.int 1)) := by
  refine met_intro (own := c2_StoredMessageBytesPinLaw) (plainFor_of_name pn_com_example_assured_delivery_assureddelivery_storage_StoredMessageBytesPinLaw) rfl Z0 ?_
  intro p e s m below meth c T A hnm
  refine Wp.cast (g' := mkF m 0 #[iv q0, iv q1, iv q2, iv q3, U0, U0, U0, U0, U0, U0, U0, U0, U0, U0, U0] []) (by first | rfl | (simp [entryFrame, mkF, argsToLocals, Value.category, maxLocals]; done)) ?_
  refine s_iloadN (pc' := 1) A at_0 rfl rfl ?_
  refine s_bipush (pc' := 3) (z := (15 : Int32)) A at_1 rfl (by decide) ?_
  obtain ⟨ks, eks⟩ : ∃ z, z = (q0 &&& (15 : Int32)) := ⟨_, rfl⟩
  obtain ⟨iks, hks, bks⟩ : ∃ i : Nat, ks.toInt = (i : Int) ∧ i ≤ 15 := ⟨ks.toInt.toNat, by rw [eks]; have _ := rng32 q0; have _ : (15 : Int32).toInt = 15 := (by decide); have _ := rng32 (q0 &&& (15 : Int32)); have _ : (q0 &&& (15 : Int32)).toInt = q0.toInt % 16 := c_mask q0 (15 : Int32) 4 (by decide) (by decide); omega, by rw [eks]; have _ := rng32 q0; have _ : (15 : Int32).toInt = 15 := (by decide); have _ := rng32 (q0 &&& (15 : Int32)); have _ : (q0 &&& (15 : Int32)).toInt = q0.toInt % 16 := c_mask q0 (15 : Int32) 4 (by decide) (by decide); omega⟩
  refine s_iand (pc' := 4) (z := ks) A at_3 rfl eks.symm ?_
  refine s_istore (pc' := 6) (Ls' := #[iv q0, iv q1, iv q2, iv q3, iv ks, U0, U0, U0, U0, U0, U0, U0, U0, U0, U0]) A at_4 rfl rfl ?_
  refine s_iloadN (pc' := 7) A at_6 rfl rfl ?_
  refine s_bipush (pc' := 9) (z := (15 : Int32)) A at_7 rfl (by decide) ?_
  obtain ⟨ms, ems⟩ : ∃ z, z = (q1 &&& (15 : Int32)) := ⟨_, rfl⟩
  obtain ⟨ims, hms, bms⟩ : ∃ i : Nat, ms.toInt = (i : Int) ∧ i ≤ 15 := ⟨ms.toInt.toNat, by rw [ems]; have _ := rng32 q1; have _ : (15 : Int32).toInt = 15 := (by decide); have _ := rng32 (q1 &&& (15 : Int32)); have _ : (q1 &&& (15 : Int32)).toInt = q1.toInt % 16 := c_mask q1 (15 : Int32) 4 (by decide) (by decide); omega, by rw [ems]; have _ := rng32 q1; have _ : (15 : Int32).toInt = 15 := (by decide); have _ := rng32 (q1 &&& (15 : Int32)); have _ : (q1 &&& (15 : Int32)).toInt = q1.toInt % 16 := c_mask q1 (15 : Int32) 4 (by decide) (by decide); omega⟩
  refine s_iand (pc' := 10) (z := ms) A at_9 rfl ems.symm ?_
  refine s_istore (pc' := 12) (Ls' := #[iv q0, iv q1, iv q2, iv q3, iv ks, iv ms, U0, U0, U0, U0, U0, U0, U0, U0, U0]) A at_10 rfl rfl ?_
  refine s_iloadN (pc' := 13) A at_12 rfl rfl ?_
  refine s_bipush (pc' := 15) (z := (15 : Int32)) A at_13 rfl (by decide) ?_
  obtain ⟨ss, ess⟩ : ∃ z, z = (q2 &&& (15 : Int32)) := ⟨_, rfl⟩
  obtain ⟨iss, hss, bss⟩ : ∃ i : Nat, ss.toInt = (i : Int) ∧ i ≤ 15 := ⟨ss.toInt.toNat, by rw [ess]; have _ := rng32 q2; have _ : (15 : Int32).toInt = 15 := (by decide); have _ := rng32 (q2 &&& (15 : Int32)); have _ : (q2 &&& (15 : Int32)).toInt = q2.toInt % 16 := c_mask q2 (15 : Int32) 4 (by decide) (by decide); omega, by rw [ess]; have _ := rng32 q2; have _ : (15 : Int32).toInt = 15 := (by decide); have _ := rng32 (q2 &&& (15 : Int32)); have _ : (q2 &&& (15 : Int32)).toInt = q2.toInt % 16 := c_mask q2 (15 : Int32) 4 (by decide) (by decide); omega⟩
  refine s_iand (pc' := 16) (z := ss) A at_15 rfl ess.symm ?_
  refine s_istore (pc' := 18) (Ls' := #[iv q0, iv q1, iv q2, iv q3, iv ks, iv ms, iv ss, U0, U0, U0, U0, U0, U0, U0, U0]) A at_16 rfl rfl ?_
  refine s_iloadN (pc' := 19) A at_18 rfl rfl ?_
  refine s_iconst (pc' := 20) (z := (1 : Int32)) A at_19 rfl (by decide) ?_
  refine s_iand (pc' := 21) (z := (q3 &&& (1 : Int32))) A at_20 rfl rfl ?_
  by_cases hc21_1 : (q3 &&& (1 : Int32)) = (0 : Int32)
  ·
    refine s_ifY (pc' := 28) A at_21 ((if0 _ _).trans (teq hc21_1).1) (by decide) (by decide) ?_
    refine s_iconst (pc' := 29) (z := (0 : Int32)) A at_28 rfl (by decide) ?_
    refine s_istore (pc' := 31) (Ls' := #[iv q0, iv q1, iv q2, iv q3, iv ks, iv ms, iv ss, iv 0, U0, U0, U0, U0, U0, U0, U0]) A at_29 rfl rfl ?_
    refine s_iloadN (pc' := 32) A at_31 rfl rfl ?_
    refine s_iconst (pc' := 33) (z := (2 : Int32)) A at_32 rfl (by decide) ?_
    refine s_iand (pc' := 34) (z := (q3 &&& (2 : Int32))) A at_33 rfl rfl ?_
    by_cases hc34_1 : (q3 &&& (2 : Int32)) = (0 : Int32)
    ·
      refine s_ifY (pc' := 41) A at_34 ((if0 _ _).trans (teq hc34_1).1) (by decide) (by decide) ?_
      refine s_iconst (pc' := 42) (z := (0 : Int32)) A at_41 rfl (by decide) ?_
      refine s_istore (pc' := 44) (Ls' := #[iv q0, iv q1, iv q2, iv q3, iv ks, iv ms, iv ss, iv 0, iv 0, U0, U0, U0, U0, U0, U0]) A at_42 rfl rfl ?_
      refine s_iload (pc' := 46) A at_44 rfl rfl ?_
      refine s_ifY (pc' := 53) A at_46 (by decide) (by decide) (by decide) ?_
      refine s_iload (pc' := 55) A at_53 rfl rfl ?_
      refine s_newarray (pc' := 57) (aty := .byte) (ty := .byte) (dv := (.int (0 : Int32))) (i := iks) (cap := 15) A rfl rfl (w0 hw) hks bks (by decide) (by decide) (by decide) at_55 rfl fun T h1 b2 A g3 ge4 X5 V6 => ?_
      have V6 : AA Z h1 b2 .byte (List.replicate iks (.int (0 : Int32))) := V6
      refine s_astore (pc' := 59) (Ls' := #[iv q0, iv q1, iv q2, iv q3, iv ks, iv ms, iv ss, iv 0, iv 0, rv b2, U0, U0, U0, U0, U0]) A at_57 rfl rfl rfl ?_
      refine s_iload (pc' := 61) A at_59 rfl rfl ?_
      refine s_newarray (pc' := 63) (aty := .byte) (ty := .byte) (dv := (.int (0 : Int32))) (i := ims) (cap := 15) A rfl rfl (w0 hw) hms bms (by decide) (by decide) (by decide) at_61 rfl fun T h7 b8 A g9 ge10 X11 V12 => ?_
      have ne13 : b2 ≠ b8 := lt_ne V6.lt g9
      have V12 : AA Z h7 b8 .byte (List.replicate ims (.int (0 : Int32))) := V12
      refine s_astore (pc' := 65) (Ls' := #[iv q0, iv q1, iv q2, iv q3, iv ks, iv ms, iv ss, iv 0, iv 0, rv b2, rv b8, U0, U0, U0, U0]) A at_63 rfl rfl rfl ?_
      refine s_iload (pc' := 67) A at_65 rfl rfl ?_
      refine s_ifY (pc' := 74) A at_67 (by decide) (by decide) (by decide) ?_
      refine s_iload (pc' := 76) A at_74 rfl rfl ?_
      have V20 := (V6.ext X11)
      refine s_newarray (pc' := 78) (aty := .byte) (ty := .byte) (dv := (.int (0 : Int32))) (i := iss) (cap := 15) A rfl rfl (w0 hw) hss bss (by decide) (by decide) (by decide) at_76 rfl fun T h14 b15 A g16 ge17 X18 V19 => ?_
      have ne21 : b2 ≠ b15 := lt_ne V20.lt g16
      have ne22 : b8 ≠ b15 := lt_ne V12.lt g16
      have V19 : AA Z h14 b15 .byte (List.replicate iss (.int (0 : Int32))) := V19
      refine s_astore (pc' := 80) (Ls' := #[iv q0, iv q1, iv q2, iv q3, iv ks, iv ms, iv ss, iv 0, iv 0, rv b2, rv b8, rv b15, U0, U0, U0]) A at_78 rfl rfl rfl ?_
      have V30 := (V20.ext X18)
      have V31 := (V12.ext X18)
      refine s_new (pc' := 83) A (w1 hw) (w2 hw) (w3 hw) (by decide) (by decide) at_80 rfl fun T h23 b24 A g25 ge26 X27 E28 D29 => ?_
      have ne32 : b2 ≠ b24 := lt_ne V30.lt g25
      have ne33 : b8 ≠ b24 := lt_ne V31.lt g25
      have ne34 : b15 ≠ b24 := lt_ne V19.lt g25
      have F35 : Fld Z h23 b24 "com/example/assured_delivery/assureddelivery/storage/StoredMessage" "key" "[B" .null := D29 (Or.inr (w16 hw)) (ty := (.array .byte)) (by decide)
      have F36 : Fld Z h23 b24 "com/example/assured_delivery/assureddelivery/storage/StoredMessage" "message" "[B" .null := D29 (Or.inr (w18 hw)) (ty := (.array .byte)) (by decide)
      have F37 : Fld Z h23 b24 "com/example/assured_delivery/assureddelivery/storage/StoredMessage" "signature" "[B" .null := D29 (Or.inr (w20 hw)) (ty := (.array .byte)) (by decide)
      refine s_dup (pc' := 84) A at_83 rfl rfl ?_
      refine s_aload (pc' := 86) A at_84 rfl rfl rfl ?_
      refine s_aload (pc' := 88) A at_86 rfl rfl rfl ?_
      refine s_aload (pc' := 90) A at_88 rfl rfl rfl ?_
      refine s_special (pc' := 93) (y := y1_init) (argsL := [(.ref b2), (.ref b8), (.ref b15)]) (rest := [(.ref b24)]) A (ini00 l Z a0 hw n0 h23 A.size b24 b2 b8 b15 E28 F35 F36 F37 ge26) rfl (w4 hw) (w5 hw) (w3 hw) (w6 hw) (by decide) pd___B_B_B_V rfl (W := 1) (by decide) (by decide) (Nat.le_of_eq rfl) (by decide) (by decide) rfl rfl at_90 rfl fun T h43 v44 A Q45 => ?_
      obtain ⟨rfl, K38, E39, F40, F41, F42⟩ := Q45
      refine Wp.stk (st' := [(.ref b24)]) rfl ?_
      refine s_astore (pc' := 95) (Ls' := #[iv q0, iv q1, iv q2, iv q3, iv ks, iv ms, iv ss, iv 0, iv 0, rv b2, rv b8, rv b15, rv b24, U0, U0]) A at_93 rfl rfl rfl ?_
      refine s_iload (pc' := 97) A at_95 rfl rfl ?_
      refine s_i2l (pc' := 98) (z := (ms).toInt64) A at_97 rfl rfl ?_
      refine s_lstore (pc' := 100) (Ls' := #[iv q0, iv q1, iv q2, iv q3, iv ks, iv ms, iv ss, iv 0, iv 0, rv b2, rv b8, rv b15, rv b24, jv (ms).toInt64, S2]) A at_98 rfl rfl ?_
      refine s_iload (pc' := 102) A at_100 rfl rfl ?_
      refine s_ifN (pc' := 105) A at_102 rfl (by decide) ?_
      refine s_lload (pc' := 107) A at_105 rfl rfl ?_
      refine s_iload (pc' := 109) A at_107 rfl rfl ?_
      refine s_i2l (pc' := 110) (z := (ks).toInt64) A at_109 rfl rfl ?_
      refine s_ladd (pc' := 111) (z := ((ms).toInt64 + (ks).toInt64)) A at_110 rfl rfl ?_
      refine s_lstore (pc' := 113) (Ls' := #[iv q0, iv q1, iv q2, iv q3, iv ks, iv ms, iv ss, iv 0, iv 0, rv b2, rv b8, rv b15, rv b24, jv ((ms).toInt64 + (ks).toInt64), S2]) A at_111 rfl rfl ?_
      refine s_iload (pc' := 115) A at_113 rfl rfl ?_
      refine s_ifN (pc' := 118) A at_115 rfl (by decide) ?_
      refine s_lload (pc' := 120) A at_118 rfl rfl ?_
      refine s_iload (pc' := 122) A at_120 rfl rfl ?_
      refine s_i2l (pc' := 123) (z := (ss).toInt64) A at_122 rfl rfl ?_
      refine s_ladd (pc' := 124) (z := (((ms).toInt64 + (ks).toInt64) + (ss).toInt64)) A at_123 rfl rfl ?_
      refine s_lstore (pc' := 126) (Ls' := #[iv q0, iv q1, iv q2, iv q3, iv ks, iv ms, iv ss, iv 0, iv 0, rv b2, rv b8, rv b15, rv b24, jv (((ms).toInt64 + (ks).toInt64) + (ss).toInt64), S2]) A at_124 rfl rfl ?_
      refine s_aload (pc' := 128) A at_126 rfl rfl rfl ?_
      have V46 := ((V30.ext X27).keep K38 (ninS ne32 nin0))
      have V47 := ((V31.ext X27).keep K38 (ninS ne33 nin0))
      have V48 := ((V19.ext X27).keep K38 (ninS ne34 nin0))
      refine s_virtual (pc' := 131) (y := y2_bytes) (argsL := []) (rest := []) (z := y2_bytes) A E39 (byt00 l Z a0 hw n0 h43 A.size b24 b2 b8 b15 (List.replicate iks (.int (0 : Int32))) (List.replicate ims (.int (0 : Int32))) (List.replicate iss (.int (0 : Int32))) ks ms ss F40 F41 F42 V46 (by rw [List.length_replicate]; exact hks) V47 (by rw [List.length_replicate]; exact hms) V48 (by rw [List.length_replicate]; exact hss)) (w21 hw) (w22 hw) (nf_same (C := "") (w24 hw)) (w24 hw) (w23 hw) (w3 hw) (w25 hw) (by decide) pd___J rfl (W := 0) (by decide) (by decide) (Nat.le_of_eq rfl) (by decide) (by decide) rfl rfl at_128 rfl fun T h49 v50 A Q51 => ?_
      obtain ⟨rfl, eh⟩ := Q51
      rw [eh] at A
      refine Wp.stk (st' := [(.long (((ks).toInt64 + (ms).toInt64) + (ss).toInt64))]) rfl ?_
      refine s_lload (pc' := 133) A at_131 rfl rfl ?_
      refine s_lcmp (pc' := 134) A at_133 rfl ?_
      refine s_ifN (pc' := 137) A at_134 rfl ((if0 _ _).trans (teq ((lw_eq (((ks).toInt64 + (ms).toInt64) + (ss).toInt64) (((ms).toInt64 + (ks).toInt64) + (ss).toInt64)).2 (show (((ks).toInt64 + (ms).toInt64) + (ss).toInt64) = (((ms).toInt64 + (ks).toInt64) + (ss).toInt64) from (by have _ := rng32 ks; have _ := rng64 (ks).toInt64; have _ := c_i2l ks; have _ := rng32 ms; have _ := rng64 (ms).toInt64; have _ := c_i2l ms; have _ := rng64 ((ks).toInt64 + (ms).toInt64); have _ := c_ladd (ks).toInt64 (ms).toInt64; have _ := rng32 ss; have _ := rng64 (ss).toInt64; have _ := c_i2l ss; have _ := rng64 (((ks).toInt64 + (ms).toInt64) + (ss).toInt64); have _ := c_ladd ((ks).toInt64 + (ms).toInt64) (ss).toInt64; have _ := rng64 ((ms).toInt64 + (ks).toInt64); have _ := c_ladd (ms).toInt64 (ks).toInt64; have _ := rng64 (((ms).toInt64 + (ks).toInt64) + (ss).toInt64); have _ := c_ladd ((ms).toInt64 + (ks).toInt64) (ss).toInt64; have _ := hks; have _ := hms; have _ := hss; have _ := bks; have _ := bms; have _ := bss; apply Int64.toInt_inj.mp; omega)))).2) ?_
      refine s_iconst (pc' := 138) (z := (1 : Int32)) A at_137 rfl (by decide) ?_
      refine s_goto (pc' := 142) A at_138 (by decide) (by decide) ?_
      exact r_bool A rfl (by decide) at_142 (by decide) (by decide) (rfl)
    ·
      refine s_ifN (pc' := 37) A at_34 rfl ((if0 _ _).trans (feq hc34_1).1) ?_
      refine s_iconst (pc' := 38) (z := (1 : Int32)) A at_37 rfl (by decide) ?_
      refine s_goto (pc' := 42) A at_38 (by decide) (by decide) ?_
      refine s_istore (pc' := 44) (Ls' := #[iv q0, iv q1, iv q2, iv q3, iv ks, iv ms, iv ss, iv 0, iv 1, U0, U0, U0, U0, U0, U0]) A at_42 rfl rfl ?_
      refine s_iload (pc' := 46) A at_44 rfl rfl ?_
      refine s_ifY (pc' := 53) A at_46 (by decide) (by decide) (by decide) ?_
      refine s_iload (pc' := 55) A at_53 rfl rfl ?_
      refine s_newarray (pc' := 57) (aty := .byte) (ty := .byte) (dv := (.int (0 : Int32))) (i := iks) (cap := 15) A rfl rfl (w0 hw) hks bks (by decide) (by decide) (by decide) at_55 rfl fun T h52 b53 A g54 ge55 X56 V57 => ?_
      have V57 : AA Z h52 b53 .byte (List.replicate iks (.int (0 : Int32))) := V57
      refine s_astore (pc' := 59) (Ls' := #[iv q0, iv q1, iv q2, iv q3, iv ks, iv ms, iv ss, iv 0, iv 1, rv b53, U0, U0, U0, U0, U0]) A at_57 rfl rfl rfl ?_
      refine s_iload (pc' := 61) A at_59 rfl rfl ?_
      refine s_newarray (pc' := 63) (aty := .byte) (ty := .byte) (dv := (.int (0 : Int32))) (i := ims) (cap := 15) A rfl rfl (w0 hw) hms bms (by decide) (by decide) (by decide) at_61 rfl fun T h58 b59 A g60 ge61 X62 V63 => ?_
      have ne64 : b53 ≠ b59 := lt_ne V57.lt g60
      have V63 : AA Z h58 b59 .byte (List.replicate ims (.int (0 : Int32))) := V63
      refine s_astore (pc' := 65) (Ls' := #[iv q0, iv q1, iv q2, iv q3, iv ks, iv ms, iv ss, iv 0, iv 1, rv b53, rv b59, U0, U0, U0, U0]) A at_63 rfl rfl rfl ?_
      refine s_iload (pc' := 67) A at_65 rfl rfl ?_
      refine s_ifN (pc' := 70) A at_67 rfl (by decide) ?_
      refine s_aconstNull (pc' := 71) A at_70 rfl ?_
      refine s_goto (pc' := 78) A at_71 (by decide) (by decide) ?_
      refine s_astore (pc' := 80) (Ls' := #[iv q0, iv q1, iv q2, iv q3, iv ks, iv ms, iv ss, iv 0, iv 1, rv b53, rv b59, .val .null, U0, U0, U0]) A at_78 rfl rfl rfl ?_
      have V72 := (V57.ext X62)
      refine s_new (pc' := 83) A (w1 hw) (w2 hw) (w3 hw) (by decide) (by decide) at_80 rfl fun T h65 b66 A g67 ge68 X69 E70 D71 => ?_
      have ne73 : b53 ≠ b66 := lt_ne V72.lt g67
      have ne74 : b59 ≠ b66 := lt_ne V63.lt g67
      have F75 : Fld Z h65 b66 "com/example/assured_delivery/assureddelivery/storage/StoredMessage" "key" "[B" .null := D71 (Or.inr (w16 hw)) (ty := (.array .byte)) (by decide)
      have F76 : Fld Z h65 b66 "com/example/assured_delivery/assureddelivery/storage/StoredMessage" "message" "[B" .null := D71 (Or.inr (w18 hw)) (ty := (.array .byte)) (by decide)
      have F77 : Fld Z h65 b66 "com/example/assured_delivery/assureddelivery/storage/StoredMessage" "signature" "[B" .null := D71 (Or.inr (w20 hw)) (ty := (.array .byte)) (by decide)
      refine s_dup (pc' := 84) A at_83 rfl rfl ?_
      refine s_aload (pc' := 86) A at_84 rfl rfl rfl ?_
      refine s_aload (pc' := 88) A at_86 rfl rfl rfl ?_
      refine s_aload (pc' := 90) A at_88 rfl rfl rfl ?_
      refine s_special (pc' := 93) (y := y1_init) (argsL := [(.ref b53), (.ref b59), .null]) (rest := [(.ref b66)]) A (ini01 l Z a0 hw n0 h65 A.size b66 b53 b59 b66 E70 F75 F76 F77 ge68) rfl (w4 hw) (w5 hw) (w3 hw) (w6 hw) (by decide) pd___B_B_B_V rfl (W := 1) (by decide) (by decide) (Nat.le_of_eq rfl) (by decide) (by decide) rfl rfl at_90 rfl fun T h83 v84 A Q85 => ?_
      obtain ⟨rfl, K78, E79, F80, F81, F82⟩ := Q85
      refine Wp.stk (st' := [(.ref b66)]) rfl ?_
      refine s_astore (pc' := 95) (Ls' := #[iv q0, iv q1, iv q2, iv q3, iv ks, iv ms, iv ss, iv 0, iv 1, rv b53, rv b59, .val .null, rv b66, U0, U0]) A at_93 rfl rfl rfl ?_
      refine s_iload (pc' := 97) A at_95 rfl rfl ?_
      refine s_i2l (pc' := 98) (z := (ms).toInt64) A at_97 rfl rfl ?_
      refine s_lstore (pc' := 100) (Ls' := #[iv q0, iv q1, iv q2, iv q3, iv ks, iv ms, iv ss, iv 0, iv 1, rv b53, rv b59, .val .null, rv b66, jv (ms).toInt64, S2]) A at_98 rfl rfl ?_
      refine s_iload (pc' := 102) A at_100 rfl rfl ?_
      refine s_ifN (pc' := 105) A at_102 rfl (by decide) ?_
      refine s_lload (pc' := 107) A at_105 rfl rfl ?_
      refine s_iload (pc' := 109) A at_107 rfl rfl ?_
      refine s_i2l (pc' := 110) (z := (ks).toInt64) A at_109 rfl rfl ?_
      refine s_ladd (pc' := 111) (z := ((ms).toInt64 + (ks).toInt64)) A at_110 rfl rfl ?_
      refine s_lstore (pc' := 113) (Ls' := #[iv q0, iv q1, iv q2, iv q3, iv ks, iv ms, iv ss, iv 0, iv 1, rv b53, rv b59, .val .null, rv b66, jv ((ms).toInt64 + (ks).toInt64), S2]) A at_111 rfl rfl ?_
      refine s_iload (pc' := 115) A at_113 rfl rfl ?_
      refine s_ifY (pc' := 126) A at_115 (by decide) (by decide) (by decide) ?_
      refine s_aload (pc' := 128) A at_126 rfl rfl rfl ?_
      have V86 := ((V72.ext X69).keep K78 (ninS ne73 nin0))
      have V87 := ((V63.ext X69).keep K78 (ninS ne74 nin0))
      refine s_virtual (pc' := 131) (y := y2_bytes) (argsL := []) (rest := []) (z := y2_bytes) A E79 (byt01 l Z a0 hw n0 h83 A.size b66 b53 b59 b66 (List.replicate iks (.int (0 : Int32))) (List.replicate ims (.int (0 : Int32))) [] ks ms ss F80 F81 F82 V86 (by rw [List.length_replicate]; exact hks) V87 (by rw [List.length_replicate]; exact hms)) (w21 hw) (w22 hw) (nf_same (C := "") (w24 hw)) (w24 hw) (w23 hw) (w3 hw) (w25 hw) (by decide) pd___J rfl (W := 0) (by decide) (by decide) (Nat.le_of_eq rfl) (by decide) (by decide) rfl rfl at_128 rfl fun T h88 v89 A Q90 => ?_
      obtain ⟨rfl, eh⟩ := Q90
      rw [eh] at A
      refine Wp.stk (st' := [(.long (((ks).toInt64 + (ms).toInt64) + (0 : Int64)))]) rfl ?_
      refine s_lload (pc' := 133) A at_131 rfl rfl ?_
      refine s_lcmp (pc' := 134) A at_133 rfl ?_
      refine s_ifN (pc' := 137) A at_134 rfl ((if0 _ _).trans (teq ((lw_eq (((ks).toInt64 + (ms).toInt64) + (0 : Int64)) ((ms).toInt64 + (ks).toInt64)).2 (show (((ks).toInt64 + (ms).toInt64) + (0 : Int64)) = ((ms).toInt64 + (ks).toInt64) from (by have _ := rng32 ks; have _ := rng64 (ks).toInt64; have _ := c_i2l ks; have _ := rng32 ms; have _ := rng64 (ms).toInt64; have _ := c_i2l ms; have _ := rng64 ((ks).toInt64 + (ms).toInt64); have _ := c_ladd (ks).toInt64 (ms).toInt64; have _ : (0 : Int64).toInt = 0 := (by decide); have _ := rng64 (((ks).toInt64 + (ms).toInt64) + (0 : Int64)); have _ := c_ladd ((ks).toInt64 + (ms).toInt64) (0 : Int64); have _ := rng64 ((ms).toInt64 + (ks).toInt64); have _ := c_ladd (ms).toInt64 (ks).toInt64; have _ := hks; have _ := hms; have _ := hss; have _ := bks; have _ := bms; have _ := bss; apply Int64.toInt_inj.mp; omega)))).2) ?_
      refine s_iconst (pc' := 138) (z := (1 : Int32)) A at_137 rfl (by decide) ?_
      refine s_goto (pc' := 142) A at_138 (by decide) (by decide) ?_
      exact r_bool A rfl (by decide) at_142 (by decide) (by decide) (rfl)
  ·
    refine s_ifN (pc' := 24) A at_21 rfl ((if0 _ _).trans (feq hc21_1).1) ?_
    refine s_iconst (pc' := 25) (z := (1 : Int32)) A at_24 rfl (by decide) ?_
    refine s_goto (pc' := 29) A at_25 (by decide) (by decide) ?_
    refine s_istore (pc' := 31) (Ls' := #[iv q0, iv q1, iv q2, iv q3, iv ks, iv ms, iv ss, iv 1, U0, U0, U0, U0, U0, U0, U0]) A at_29 rfl rfl ?_
    refine s_iloadN (pc' := 32) A at_31 rfl rfl ?_
    refine s_iconst (pc' := 33) (z := (2 : Int32)) A at_32 rfl (by decide) ?_
    refine s_iand (pc' := 34) (z := (q3 &&& (2 : Int32))) A at_33 rfl rfl ?_
    by_cases hc34_1 : (q3 &&& (2 : Int32)) = (0 : Int32)
    ·
      refine s_ifY (pc' := 41) A at_34 ((if0 _ _).trans (teq hc34_1).1) (by decide) (by decide) ?_
      refine s_iconst (pc' := 42) (z := (0 : Int32)) A at_41 rfl (by decide) ?_
      refine s_istore (pc' := 44) (Ls' := #[iv q0, iv q1, iv q2, iv q3, iv ks, iv ms, iv ss, iv 1, iv 0, U0, U0, U0, U0, U0, U0]) A at_42 rfl rfl ?_
      refine s_iload (pc' := 46) A at_44 rfl rfl ?_
      refine s_ifN (pc' := 49) A at_46 rfl (by decide) ?_
      refine s_aconstNull (pc' := 50) A at_49 rfl ?_
      refine s_goto (pc' := 57) A at_50 (by decide) (by decide) ?_
      refine s_astore (pc' := 59) (Ls' := #[iv q0, iv q1, iv q2, iv q3, iv ks, iv ms, iv ss, iv 1, iv 0, .val .null, U0, U0, U0, U0, U0]) A at_57 rfl rfl rfl ?_
      refine s_iload (pc' := 61) A at_59 rfl rfl ?_
      refine s_newarray (pc' := 63) (aty := .byte) (ty := .byte) (dv := (.int (0 : Int32))) (i := ims) (cap := 15) A rfl rfl (w0 hw) hms bms (by decide) (by decide) (by decide) at_61 rfl fun T h91 b92 A g93 ge94 X95 V96 => ?_
      have V96 : AA Z h91 b92 .byte (List.replicate ims (.int (0 : Int32))) := V96
      refine s_astore (pc' := 65) (Ls' := #[iv q0, iv q1, iv q2, iv q3, iv ks, iv ms, iv ss, iv 1, iv 0, .val .null, rv b92, U0, U0, U0, U0]) A at_63 rfl rfl rfl ?_
      refine s_iload (pc' := 67) A at_65 rfl rfl ?_
      refine s_ifY (pc' := 74) A at_67 (by decide) (by decide) (by decide) ?_
      refine s_iload (pc' := 76) A at_74 rfl rfl ?_
      refine s_newarray (pc' := 78) (aty := .byte) (ty := .byte) (dv := (.int (0 : Int32))) (i := iss) (cap := 15) A rfl rfl (w0 hw) hss bss (by decide) (by decide) (by decide) at_76 rfl fun T h97 b98 A g99 ge100 X101 V102 => ?_
      have ne103 : b92 ≠ b98 := lt_ne V96.lt g99
      have V102 : AA Z h97 b98 .byte (List.replicate iss (.int (0 : Int32))) := V102
      refine s_astore (pc' := 80) (Ls' := #[iv q0, iv q1, iv q2, iv q3, iv ks, iv ms, iv ss, iv 1, iv 0, .val .null, rv b92, rv b98, U0, U0, U0]) A at_78 rfl rfl rfl ?_
      have V111 := (V96.ext X101)
      refine s_new (pc' := 83) A (w1 hw) (w2 hw) (w3 hw) (by decide) (by decide) at_80 rfl fun T h104 b105 A g106 ge107 X108 E109 D110 => ?_
      have ne112 : b92 ≠ b105 := lt_ne V111.lt g106
      have ne113 : b98 ≠ b105 := lt_ne V102.lt g106
      have F114 : Fld Z h104 b105 "com/example/assured_delivery/assureddelivery/storage/StoredMessage" "key" "[B" .null := D110 (Or.inr (w16 hw)) (ty := (.array .byte)) (by decide)
      have F115 : Fld Z h104 b105 "com/example/assured_delivery/assureddelivery/storage/StoredMessage" "message" "[B" .null := D110 (Or.inr (w18 hw)) (ty := (.array .byte)) (by decide)
      have F116 : Fld Z h104 b105 "com/example/assured_delivery/assureddelivery/storage/StoredMessage" "signature" "[B" .null := D110 (Or.inr (w20 hw)) (ty := (.array .byte)) (by decide)
      refine s_dup (pc' := 84) A at_83 rfl rfl ?_
      refine s_aload (pc' := 86) A at_84 rfl rfl rfl ?_
      refine s_aload (pc' := 88) A at_86 rfl rfl rfl ?_
      refine s_aload (pc' := 90) A at_88 rfl rfl rfl ?_
      refine s_special (pc' := 93) (y := y1_init) (argsL := [.null, (.ref b92), (.ref b98)]) (rest := [(.ref b105)]) A (ini10 l Z a0 hw n0 h104 A.size b105 b105 b92 b98 E109 F114 F115 F116 ge107) rfl (w4 hw) (w5 hw) (w3 hw) (w6 hw) (by decide) pd___B_B_B_V rfl (W := 1) (by decide) (by decide) (Nat.le_of_eq rfl) (by decide) (by decide) rfl rfl at_90 rfl fun T h122 v123 A Q124 => ?_
      obtain ⟨rfl, K117, E118, F119, F120, F121⟩ := Q124
      refine Wp.stk (st' := [(.ref b105)]) rfl ?_
      refine s_astore (pc' := 95) (Ls' := #[iv q0, iv q1, iv q2, iv q3, iv ks, iv ms, iv ss, iv 1, iv 0, .val .null, rv b92, rv b98, rv b105, U0, U0]) A at_93 rfl rfl rfl ?_
      refine s_iload (pc' := 97) A at_95 rfl rfl ?_
      refine s_i2l (pc' := 98) (z := (ms).toInt64) A at_97 rfl rfl ?_
      refine s_lstore (pc' := 100) (Ls' := #[iv q0, iv q1, iv q2, iv q3, iv ks, iv ms, iv ss, iv 1, iv 0, .val .null, rv b92, rv b98, rv b105, jv (ms).toInt64, S2]) A at_98 rfl rfl ?_
      refine s_iload (pc' := 102) A at_100 rfl rfl ?_
      refine s_ifY (pc' := 113) A at_102 (by decide) (by decide) (by decide) ?_
      refine s_iload (pc' := 115) A at_113 rfl rfl ?_
      refine s_ifN (pc' := 118) A at_115 rfl (by decide) ?_
      refine s_lload (pc' := 120) A at_118 rfl rfl ?_
      refine s_iload (pc' := 122) A at_120 rfl rfl ?_
      refine s_i2l (pc' := 123) (z := (ss).toInt64) A at_122 rfl rfl ?_
      refine s_ladd (pc' := 124) (z := ((ms).toInt64 + (ss).toInt64)) A at_123 rfl rfl ?_
      refine s_lstore (pc' := 126) (Ls' := #[iv q0, iv q1, iv q2, iv q3, iv ks, iv ms, iv ss, iv 1, iv 0, .val .null, rv b92, rv b98, rv b105, jv ((ms).toInt64 + (ss).toInt64), S2]) A at_124 rfl rfl ?_
      refine s_aload (pc' := 128) A at_126 rfl rfl rfl ?_
      have V125 := ((V111.ext X108).keep K117 (ninS ne112 nin0))
      have V126 := ((V102.ext X108).keep K117 (ninS ne113 nin0))
      refine s_virtual (pc' := 131) (y := y2_bytes) (argsL := []) (rest := []) (z := y2_bytes) A E118 (byt10 l Z a0 hw n0 h122 A.size b105 b105 b92 b98 [] (List.replicate ims (.int (0 : Int32))) (List.replicate iss (.int (0 : Int32))) ks ms ss F119 F120 F121 V125 (by rw [List.length_replicate]; exact hms) V126 (by rw [List.length_replicate]; exact hss)) (w21 hw) (w22 hw) (nf_same (C := "") (w24 hw)) (w24 hw) (w23 hw) (w3 hw) (w25 hw) (by decide) pd___J rfl (W := 0) (by decide) (by decide) (Nat.le_of_eq rfl) (by decide) (by decide) rfl rfl at_128 rfl fun T h127 v128 A Q129 => ?_
      obtain ⟨rfl, eh⟩ := Q129
      rw [eh] at A
      refine Wp.stk (st' := [(.long (((0 : Int64) + (ms).toInt64) + (ss).toInt64))]) rfl ?_
      refine s_lload (pc' := 133) A at_131 rfl rfl ?_
      refine s_lcmp (pc' := 134) A at_133 rfl ?_
      refine s_ifN (pc' := 137) A at_134 rfl ((if0 _ _).trans (teq ((lw_eq (((0 : Int64) + (ms).toInt64) + (ss).toInt64) ((ms).toInt64 + (ss).toInt64)).2 (show (((0 : Int64) + (ms).toInt64) + (ss).toInt64) = ((ms).toInt64 + (ss).toInt64) from (by have _ : (0 : Int64).toInt = 0 := (by decide); have _ := rng32 ms; have _ := rng64 (ms).toInt64; have _ := c_i2l ms; have _ := rng64 ((0 : Int64) + (ms).toInt64); have _ := c_ladd (0 : Int64) (ms).toInt64; have _ := rng32 ss; have _ := rng64 (ss).toInt64; have _ := c_i2l ss; have _ := rng64 (((0 : Int64) + (ms).toInt64) + (ss).toInt64); have _ := c_ladd ((0 : Int64) + (ms).toInt64) (ss).toInt64; have _ := rng64 ((ms).toInt64 + (ss).toInt64); have _ := c_ladd (ms).toInt64 (ss).toInt64; have _ := hks; have _ := hms; have _ := hss; have _ := bks; have _ := bms; have _ := bss; apply Int64.toInt_inj.mp; omega)))).2) ?_
      refine s_iconst (pc' := 138) (z := (1 : Int32)) A at_137 rfl (by decide) ?_
      refine s_goto (pc' := 142) A at_138 (by decide) (by decide) ?_
      exact r_bool A rfl (by decide) at_142 (by decide) (by decide) (rfl)
    ·
      refine s_ifN (pc' := 37) A at_34 rfl ((if0 _ _).trans (feq hc34_1).1) ?_
      refine s_iconst (pc' := 38) (z := (1 : Int32)) A at_37 rfl (by decide) ?_
      refine s_goto (pc' := 42) A at_38 (by decide) (by decide) ?_
      refine s_istore (pc' := 44) (Ls' := #[iv q0, iv q1, iv q2, iv q3, iv ks, iv ms, iv ss, iv 1, iv 1, U0, U0, U0, U0, U0, U0]) A at_42 rfl rfl ?_
      refine s_iload (pc' := 46) A at_44 rfl rfl ?_
      refine s_ifN (pc' := 49) A at_46 rfl (by decide) ?_
      refine s_aconstNull (pc' := 50) A at_49 rfl ?_
      refine s_goto (pc' := 57) A at_50 (by decide) (by decide) ?_
      refine s_astore (pc' := 59) (Ls' := #[iv q0, iv q1, iv q2, iv q3, iv ks, iv ms, iv ss, iv 1, iv 1, .val .null, U0, U0, U0, U0, U0]) A at_57 rfl rfl rfl ?_
      refine s_iload (pc' := 61) A at_59 rfl rfl ?_
      refine s_newarray (pc' := 63) (aty := .byte) (ty := .byte) (dv := (.int (0 : Int32))) (i := ims) (cap := 15) A rfl rfl (w0 hw) hms bms (by decide) (by decide) (by decide) at_61 rfl fun T h130 b131 A g132 ge133 X134 V135 => ?_
      have V135 : AA Z h130 b131 .byte (List.replicate ims (.int (0 : Int32))) := V135
      refine s_astore (pc' := 65) (Ls' := #[iv q0, iv q1, iv q2, iv q3, iv ks, iv ms, iv ss, iv 1, iv 1, .val .null, rv b131, U0, U0, U0, U0]) A at_63 rfl rfl rfl ?_
      refine s_iload (pc' := 67) A at_65 rfl rfl ?_
      refine s_ifN (pc' := 70) A at_67 rfl (by decide) ?_
      refine s_aconstNull (pc' := 71) A at_70 rfl ?_
      refine s_goto (pc' := 78) A at_71 (by decide) (by decide) ?_
      refine s_astore (pc' := 80) (Ls' := #[iv q0, iv q1, iv q2, iv q3, iv ks, iv ms, iv ss, iv 1, iv 1, .val .null, rv b131, .val .null, U0, U0, U0]) A at_78 rfl rfl rfl ?_
      refine s_new (pc' := 83) A (w1 hw) (w2 hw) (w3 hw) (by decide) (by decide) at_80 rfl fun T h136 b137 A g138 ge139 X140 E141 D142 => ?_
      have ne143 : b131 ≠ b137 := lt_ne V135.lt g138
      have F144 : Fld Z h136 b137 "com/example/assured_delivery/assureddelivery/storage/StoredMessage" "key" "[B" .null := D142 (Or.inr (w16 hw)) (ty := (.array .byte)) (by decide)
      have F145 : Fld Z h136 b137 "com/example/assured_delivery/assureddelivery/storage/StoredMessage" "message" "[B" .null := D142 (Or.inr (w18 hw)) (ty := (.array .byte)) (by decide)
      have F146 : Fld Z h136 b137 "com/example/assured_delivery/assureddelivery/storage/StoredMessage" "signature" "[B" .null := D142 (Or.inr (w20 hw)) (ty := (.array .byte)) (by decide)
      refine s_dup (pc' := 84) A at_83 rfl rfl ?_
      refine s_aload (pc' := 86) A at_84 rfl rfl rfl ?_
      refine s_aload (pc' := 88) A at_86 rfl rfl rfl ?_
      refine s_aload (pc' := 90) A at_88 rfl rfl rfl ?_
      refine s_special (pc' := 93) (y := y1_init) (argsL := [.null, (.ref b131), .null]) (rest := [(.ref b137)]) A (ini11 l Z a0 hw n0 h136 A.size b137 b137 b131 b137 E141 F144 F145 F146 ge139) rfl (w4 hw) (w5 hw) (w3 hw) (w6 hw) (by decide) pd___B_B_B_V rfl (W := 1) (by decide) (by decide) (Nat.le_of_eq rfl) (by decide) (by decide) rfl rfl at_90 rfl fun T h152 v153 A Q154 => ?_
      obtain ⟨rfl, K147, E148, F149, F150, F151⟩ := Q154
      refine Wp.stk (st' := [(.ref b137)]) rfl ?_
      refine s_astore (pc' := 95) (Ls' := #[iv q0, iv q1, iv q2, iv q3, iv ks, iv ms, iv ss, iv 1, iv 1, .val .null, rv b131, .val .null, rv b137, U0, U0]) A at_93 rfl rfl rfl ?_
      refine s_iload (pc' := 97) A at_95 rfl rfl ?_
      refine s_i2l (pc' := 98) (z := (ms).toInt64) A at_97 rfl rfl ?_
      refine s_lstore (pc' := 100) (Ls' := #[iv q0, iv q1, iv q2, iv q3, iv ks, iv ms, iv ss, iv 1, iv 1, .val .null, rv b131, .val .null, rv b137, jv (ms).toInt64, S2]) A at_98 rfl rfl ?_
      refine s_iload (pc' := 102) A at_100 rfl rfl ?_
      refine s_ifY (pc' := 113) A at_102 (by decide) (by decide) (by decide) ?_
      refine s_iload (pc' := 115) A at_113 rfl rfl ?_
      refine s_ifY (pc' := 126) A at_115 (by decide) (by decide) (by decide) ?_
      refine s_aload (pc' := 128) A at_126 rfl rfl rfl ?_
      have V155 := ((V135.ext X140).keep K147 (ninS ne143 nin0))
      refine s_virtual (pc' := 131) (y := y2_bytes) (argsL := []) (rest := []) (z := y2_bytes) A E148 (byt11 l Z a0 hw n0 h152 A.size b137 b137 b131 b137 [] (List.replicate ims (.int (0 : Int32))) [] ks ms ss F149 F150 F151 V155 (by rw [List.length_replicate]; exact hms)) (w21 hw) (w22 hw) (nf_same (C := "") (w24 hw)) (w24 hw) (w23 hw) (w3 hw) (w25 hw) (by decide) pd___J rfl (W := 0) (by decide) (by decide) (Nat.le_of_eq rfl) (by decide) (by decide) rfl rfl at_128 rfl fun T h156 v157 A Q158 => ?_
      obtain ⟨rfl, eh⟩ := Q158
      rw [eh] at A
      refine Wp.stk (st' := [(.long (((0 : Int64) + (ms).toInt64) + (0 : Int64)))]) rfl ?_
      refine s_lload (pc' := 133) A at_131 rfl rfl ?_
      refine s_lcmp (pc' := 134) A at_133 rfl ?_
      refine s_ifN (pc' := 137) A at_134 rfl ((if0 _ _).trans (teq ((lw_eq (((0 : Int64) + (ms).toInt64) + (0 : Int64)) (ms).toInt64).2 (show (((0 : Int64) + (ms).toInt64) + (0 : Int64)) = (ms).toInt64 from (by have _ : (0 : Int64).toInt = 0 := (by decide); have _ := rng32 ms; have _ := rng64 (ms).toInt64; have _ := c_i2l ms; have _ := rng64 ((0 : Int64) + (ms).toInt64); have _ := c_ladd (0 : Int64) (ms).toInt64; have _ := rng64 (((0 : Int64) + (ms).toInt64) + (0 : Int64)); have _ := c_ladd ((0 : Int64) + (ms).toInt64) (0 : Int64); have _ := hks; have _ := hms; have _ := hss; have _ := bks; have _ := bms; have _ := bss; apply Int64.toInt_inj.mp; omega)))).2) ?_
      refine s_iconst (pc' := 138) (z := (1 : Int32)) A at_137 rfl (by decide) ?_
      refine s_goto (pc' := 142) A at_138 (by decide) (by decide) ?_
      exact r_bool A rfl (by decide) at_142 (by decide) (by decide) (rfl)
set_option maxRecDepth 65536 in
set_option maxHeartbeats 40000000 in
theorem comes_1 {Post : Tables → Env → Array Value → State → Outcome → State → Prop} (hpost : ∀ tb e args s v u, (limb_1_1.after args s (.returned v) u = true ∧ limb_1_2.after args s (.returned v) u = true ∧ True) → FrameEnd s (.returned v) u (Jvm.fieldLocs frame_1_writes args s ++ Jvm.arrayLocs frame_1_arrays args s ++ Jvm.staticLocs frame_1_statics s) 16 192 → Post tb e args s (.returned v) u) :
    ArmFor flags0 classFile x code maxLocals ret World_1 tables_1 room_1 Calls_1 rest_1 Pre_1 Post := by
  intro l hfl _ _ p e ha hc hk s m args below hf hA hF happ hP
  obtain ⟨hcalls, hrest, hpre⟩ := hP
  obtain ⟨-, -, -, hnamed, -, -, -, hat⟩ := (Spec.applies_iff hf).mp happ
  obtain ⟨hg, hn⟩ := and_e (Cond.before_iff.mp (show (Jvm.Cond.and given_1 narrow_1).before args s = true from hpre))
  obtain ⟨hcnt, hg⟩ := and_e hg
  obtain ⟨w0, w1, w2, w3, rfl⟩ : ∃ w0 w1 w2 w3 : Value, args = #[w0, w1, w2, w3] := by
    have hs : args.size = 4 := by simpa [Cond.value, given_1] using hcnt
    obtain ⟨L⟩ := args
    match L, hs with
    | [w0, w1, w2, w3], _ => exact ⟨w0, w1, w2, w3, rfl⟩
  have hw := fun d (hd : d ∈ tables_1) => atoms_spec (ws := Jvm.Cond.code x code maxLocals ret :: tables_1) hat d (List.mem_cons_of_mem _ hd)
  have hfit : Fit s := fun {y c} hc i hi => by
    obtain ⟨ha, rfl⟩ := Array.getElem?_eq_some_iff.mp hc
    have q := List.all_eq_true.mp ((Array.all_eq_true_iff_forall_mem.mp hF) _ (Array.getElem_mem ha)) i (List.mem_range.mpr hi)
    simpa [Array.getElem?_eq_getElem hi] using q
  obtain ⟨g0, hg⟩ := and_e hg
  obtain ⟨x0, e0⟩ := is_v g0
  obtain rfl : w0 = (.int x0) := Option.some.inj e0
  obtain ⟨g1, hg⟩ := and_e hg
  obtain ⟨x1, e1⟩ := is_v g1
  obtain rfl : w1 = (.int x1) := Option.some.inj e1
  obtain ⟨g2, hg⟩ := and_e hg
  obtain ⟨x2, e2⟩ := is_v g2
  obtain rfl : w2 = (.int x2) := Option.some.inj e2
  obtain ⟨x3, e3⟩ := is_v hg
  obtain rfl : w3 = (.int x3) := Option.some.inj e3
  obtain ⟨n, o, h1, h2, h3, _, L, rfl, ⟨N, rfl⟩, hq⟩ := rm0 l s _ hw s.heap.size s.heap (Nat.le_refl _) x0 x1 x2 x3 tables_1 p e ha hc hk s m _ below hf ((Spec.applies_iff_loose hf).mp happ).1 ⟨rfl, State.Warmed39.refl s, rfl⟩ trivial
  refine ⟨n, _, h1, h2, h3, hpost _ _ _ _ _ _ ⟨Cond.after_iff.mpr rfl, Cond.after_iff.mpr (eq_i res_at (Term.int_eval (1)) rfl), trivial⟩ ⟨hq.1, hq.2.1, (hq.2.2.sift fun y hy => Or.inr (N y hy)).mono (by decide) (by decide)⟩⟩
theorem main_1_1 : Claimed_1_1 := comes_1 fun _ _ _ _ _ _ h hF => ⟨h.1, hF⟩
theorem main_1_2 : Claimed_1_2 := comes_1 fun _ _ _ _ _ _ h hF => ⟨h.2.1, hF⟩
end Jvm.Pilot.@@N@@
namespace Jvm.Pilot.@@N@@
open Jvm Jvm.ClassFile Sem Op Lib Jvm.Free Jvm.Stand Jvm.Pilot.@@N@@.Jvm.D
/-! MADE BY PROGRAM (witnessworld.py) out of the Statement's table words and the real class files: 10 classes; the members and pool entries that the words name. The judged class is class 1, her method 1. -/
namespace start1
open Jvm.ClassFile
def u (s : String) : CpInfo := .utf8 (stringToUtf16 s)
/-- a pool by its gaps: so many unusable entries, then the entry; so many at the end -/
def gap : Nat → List CpInfo → List CpInfo
  | 0, r => r
  | n + 1, r => .unusable :: gap n r
def poolList (es : List (Nat × CpInfo)) (last : Nat) : List CpInfo := es.foldr (fun e r => gap e.1 (e.2 :: r)) (gap last [])
def pool (es : List (Nat × CpInfo)) (last : Nat) : Array CpInfo := ⟨poolList es last⟩
def fileOf (pool : Array CpInfo) (this : Nat) (attrs : Array Attribute := #[]) (ms : Array MethodInfo := #[]) (fl : Nat := 33) (sup : Nat := 0) (ifs : Array Nat := #[]) (fds : Array FieldInfo := #[]) : ClassFile where
  minorVersion := 0
  majorVersion := 65
  constantPool := pool
  accessFlags := fl
  thisClass := this
  superClass := sup
  interfaces := ifs
  fields := fds
  methods := ms
  attributes := attrs
def plain (name : String) (sup : Option ClassId) : Class where
  name := name
  kind := .ordinary
  loader := none
  accessFlags := 33
  super := sup
  interfaces := #[]
  cf := none
  fields := #[]
  methods := #[]
  instanceTypes := #[]
  staticTypes := #[]
  resolved := #[]
  callSites := []
  init := .initialized
  statics := none
  mirror := none

def pool0 : Array CpInfo := pool [(5, u "<init>"), (0, u "()V"), (1, .class_ 10), (1, u "java/lang/Object")] 113

def k0c0 : Code := { maxStack := 0, maxLocals := 1, code := object_method_1_code, exceptionTable := #[], attributes := #[] }
def k0m0 : Method := { name := "<init>", desc := "()V", sig := { parameters := [], returnType := none }, accessFlags := 1, code := some k0c0 }
/-- java/lang/Object -/
def k0 : Class := { plain "java/lang/Object" none with
  accessFlags := 33
  interfaces := #[]
  cf := some (fileOf pool0 8 #[] #[{ accessFlags := 1, nameIndex := 5, descriptorIndex := 6, attributes := #[] }] 33 0 #[] #[])
  fields := #[]
  methods := #[k0m0]
  instanceTypes := #[]
  staticTypes := #[]
  resolved := Array.replicate 124 none
  statics := none }

def pool1 : Array CpInfo := pool [(2, .class_ 4), (1, u "java/lang/Object"), (0, u "<init>"), (0, u "()V"), (0, .class_ 8), (0, u "com/example/assured_delivery/assureddelivery/storage/StoredMessage"), (0, .methodref 7 10), (0, .nameAndType 5 11), (0, u "([B[B[B)V"), (0, .methodref 7 13), (0, .nameAndType 14 15), (0, u "bytes"), (0, u "()J"), (0, .class_ 17), (0, u "com/example/assured_delivery/assureddelivery/storage/StoredMessageBytesPinLaw"), (2, u "law"), (0, u "(IIII)Z")] 5

def k1m0 : Method := { name := "<init>", desc := "()V", sig := { parameters := [], returnType := none }, accessFlags := 1, code := none }
def k1c1 : Code := { maxStack := 5, maxLocals := 15, code := code, exceptionTable := #[], attributes := #[] }
def k1m1 : Method := { name := "law", desc := "(IIII)Z", sig := { parameters := [.int, .int, .int, .int], returnType := some .boolean }, accessFlags := 9, code := some k1c1 }
/-- com/example/assured_delivery/assureddelivery/storage/StoredMessageBytesPinLaw -/
def k1 : Class := { plain "com/example/assured_delivery/assureddelivery/storage/StoredMessageBytesPinLaw" (some 0) with
  accessFlags := 49
  interfaces := #[]
  cf := some (fileOf pool1 16 #[] #[{ accessFlags := 1, nameIndex := 5, descriptorIndex := 6, attributes := #[] }, { accessFlags := 9, nameIndex := 20, descriptorIndex := 21, attributes := #[] }] 49 2 #[] #[])
  fields := #[]
  methods := #[k1m0, k1m1]
  instanceTypes := #[]
  staticTypes := #[]
  resolved := Array.replicate 27 none
  statics := none }

def pool2 : Array CpInfo := pool [(1, .methodref 2 3), (0, .class_ 4), (0, .nameAndType 5 6), (0, u "java/lang/Object"), (0, u "<init>"), (0, u "()V"), (0, .class_ 8), (0, u "java/lang/Record")] 13

def k2c0 : Code := { maxStack := 1, maxLocals := 1, code := jdk_30_method_1_code, exceptionTable := #[], attributes := #[] }
def k2m0 : Method := { name := "<init>", desc := "()V", sig := { parameters := [], returnType := none }, accessFlags := 4, code := some k2c0 }
/-- java/lang/Record -/
def k2 : Class := { plain "java/lang/Record" (some 0) with
  accessFlags := 1057
  interfaces := #[]
  cf := some (fileOf pool2 7 #[] #[{ accessFlags := 4, nameIndex := 5, descriptorIndex := 6, attributes := #[] }] 1057 2 #[] #[])
  fields := #[]
  methods := #[k2m0]
  instanceTypes := #[]
  staticTypes := #[]
  resolved := Array.replicate 22 none
  statics := none }

def pool3 : Array CpInfo := pool [(1, .methodref 2 3), (0, .class_ 4), (0, .nameAndType 5 6), (0, u "java/lang/Record"), (0, u "<init>"), (0, u "()V"), (0, .fieldref 8 9), (0, .class_ 10), (0, .nameAndType 11 12), (0, u "com/example/assured_delivery/assureddelivery/storage/StoredMessage"), (0, u "key"), (0, u "[B"), (0, .fieldref 8 14), (0, .nameAndType 15 12), (0, u "message"), (0, .fieldref 8 17), (0, .nameAndType 18 12), (0, u "signature"), (2, u "([B[B[B)V"), (16, u "bytes"), (0, u "()J")] 27

def k3c0 : Code := { maxStack := 2, maxLocals := 4, code := prog_44_method_2_code, exceptionTable := #[], attributes := #[] }
def k3m0 : Method := { name := "<init>", desc := "([B[B[B)V", sig := { parameters := [(.array .byte), (.array .byte), (.array .byte)], returnType := none }, accessFlags := 1, code := some k3c0 }
def k3c1 : Code := { maxStack := 4, maxLocals := 5, code := prog_44_method_3_code, exceptionTable := #[], attributes := #[] }
def k3m1 : Method := { name := "bytes", desc := "()J", sig := { parameters := [], returnType := some .long }, accessFlags := 1, code := some k3c1 }
/-- com/example/assured_delivery/assureddelivery/storage/StoredMessage -/
def k3 : Class := { plain "com/example/assured_delivery/assureddelivery/storage/StoredMessage" (some 2) with
  accessFlags := 49
  interfaces := #[]
  cf := some (fileOf pool3 8 #[] #[{ accessFlags := 1, nameIndex := 5, descriptorIndex := 21, attributes := #[] }, { accessFlags := 1, nameIndex := 38, descriptorIndex := 39, attributes := #[] }] 49 2 #[] #[{ accessFlags := 18, nameIndex := 11, descriptorIndex := 12, attributes := #[] }, { accessFlags := 18, nameIndex := 15, descriptorIndex := 12, attributes := #[] }, { accessFlags := 18, nameIndex := 18, descriptorIndex := 12, attributes := #[] }])
  fields := #[{ name := "key", type := (.array .byte), accessFlags := 18, slot := 0, constantValue := 0 }, { name := "message", type := (.array .byte), accessFlags := 18, slot := 1, constantValue := 0 }, { name := "signature", type := (.array .byte), accessFlags := 18, slot := 2, constantValue := 0 }]
  methods := #[k3m0, k3m1]
  instanceTypes := #[(.array .byte), (.array .byte), (.array .byte)]
  staticTypes := #[]
  resolved := Array.replicate 67 none
  statics := none }

def pool4 : Array CpInfo := pool [(1, u "java/lang/Cloneable"), (0, .class_ 1), (0, u "java/lang/Object"), (0, .class_ 3)] 3

/-- java/lang/Cloneable -/
def k4 : Class := { plain "java/lang/Cloneable" (some 0) with
  accessFlags := 1537
  interfaces := #[]
  cf := some (fileOf pool4 2 #[] #[] 1537 4 #[] #[])
  fields := #[]
  methods := #[]
  instanceTypes := #[]
  staticTypes := #[]
  resolved := Array.replicate 8 none
  statics := none }

def pool5 : Array CpInfo := pool [(1, u "java/io/Serializable"), (0, .class_ 1), (0, u "java/lang/Object"), (0, .class_ 3)] 3

/-- java/io/Serializable -/
def k5 : Class := { plain "java/io/Serializable" (some 0) with
  accessFlags := 1537
  interfaces := #[]
  cf := some (fileOf pool5 2 #[] #[] 1537 4 #[] #[])
  fields := #[]
  methods := #[]
  instanceTypes := #[]
  staticTypes := #[]
  resolved := Array.replicate 8 none
  statics := none }

/-- the primitive byte -/
def k6 : Class := { plain "byte" none with kind := .primitive 'B', accessFlags := 0x411 }
/-- [B -/
def k7 : Class := { plain "[B" (some 0) with kind := .array 6 .byte, interfaces := #[4, 5], accessFlags := 1041 }

/-- the primitive int -/
def k8 : Class := { plain "int" none with kind := .primitive 'I', accessFlags := 0x411 }
/-- [I -/
def k9 : Class := { plain "[I" (some 0) with kind := .array 8 .int, interfaces := #[4, 5], accessFlags := 1041 }

def heap : Heap := #[]
def classes : Array Class := #[k0, k1, k2, k3, k4, k5, k6, k7, k8, k9]
def interned : List (Array UInt16 × Addr) := []
def slotsUsed : Nat := 0
def theMethod : MethodId := ⟨1, 1⟩
def args0 : Array Value := #[.int 5, .int 7, .int 9, .int 3]
def aboutOver (below : List Frame) : State where
  vm := { classes := classes, interned := interned.toArray }
  heap := heap
  slotsUsed := slotsUsed
  threads := #[{ frames := .invoking theMethod args0 :: below }]
def below0 : List Frame := [.native { method := ⟨0, 0⟩, args := #[] }]
def about1 : State := aboutOver below0
def p0 : Program := .bare "" "" ""
def e0 : Env := launch0.env 0 0 0
theorem w_frames : about1.frames = Frame.invoking theMethod args0 :: below0 := rfl
set_option maxRecDepth 65536 in
theorem w_args : argsFit about1.vm theMethod args0 = true := by decide +kernel
set_option maxRecDepth 65536 in
theorem w_heap : heapFits about1 = true := by decide +kernel
set_option maxRecDepth 65536 in
theorem w_runnable : about1.curStatus? = some .runnable := by decide +kernel
set_option maxRecDepth 65536 in
theorem w_alone : about1.alone = true := by decide +kernel
set_option maxRecDepth 65536 in
theorem w_named : about1.methodNamed? x = some theMethod := by decide +kernel
set_option maxRecDepth 65536 in
theorem w_hears : about1.hears theMethod below0 = true := by decide +kernel
set_option maxRecDepth 65536 in
theorem w_ripe : about1.ripe theMethod args0 below0 = true := by decide +kernel
theorem w_running : about1.status = .running := rfl
set_option maxRecDepth 65536 in
theorem w_room : about1.hasRoom e0.platform room_1 = true :=
  launch0.hasRoom_least _ room_1 (by decide +kernel) (by decide +kernel) (by decide +kernel) (by decide +kernel) (by decide +kernel) (by decide +kernel)
theorem allAtoms_all (ts : List Jvm.Cond) (a : Array Jvm.Value) (st : Jvm.State) : (allAtoms ts).before a st = ts.all (fun c => c.before a st) := by
  induction ts with
  | nil => rfl
  | cons c t ih =>
    show (Jvm.Cond.and c (allAtoms t)).before a st = _
    rw [Jvm.Cond.before_and, ih, List.all_cons]
def words1 : List Jvm.Cond := Jvm.Cond.code x code maxLocals ret :: tables_1
/-- a 'code' word, met by the world's own term for the bytes: nothing is compared byte by byte -/
theorem code_word {y : MethodName} {bytes : ByteArray} {mx : Nat} {rt : Option FieldType} {a : Array Value} {s : State} {m : MethodId} {meth : Method} {c : Code} (h1 : s.methodNamed? y = some m) (h2 : s.vm.method? m = some meth) (h3 : meth.code = some c) (h4 : c.code = bytes)
    (h5 : (c.maxLocals == mx && c.exceptionTable.isEmpty && decide (c.maxStack ≤ mostOperands) && decide (meth.sig.returnType = rt) && !meth.locks && decide (parseMethodDescriptor y.desc = some meth.sig)) = true) : (Jvm.Cond.code y bytes mx rt).before a s = true := by
  simp only [Bool.and_eq_true, beq_iff_eq, Bool.not_eq_true', decide_eq_true_eq] at h5
  obtain ⟨⟨⟨⟨⟨g1, g2⟩, g3⟩, g4⟩, g5⟩, g6⟩ := h5
  simp [Cond.before, Cond.holds, Cond.value, h1, h2, h3, h4, g1, g2, g3, g4, g5, g6]
def isCode : Jvm.Cond → Bool
  | .code _ _ _ _ => true
  | _ => false
theorem all_split {L : List Jvm.Cond} {P : Jvm.Cond → Bool} (h1 : L.all (fun c => isCode c || P c) = true) (h2 : ∀ c ∈ L.filter isCode, P c = true) : L.all P = true := by
  refine List.all_eq_true.mpr fun c hc => ?_
  have h := List.all_eq_true.mp h1 c hc
  rcases Bool.eq_false_or_eq_true (isCode c) with hi | hi
  · exact h2 c (List.mem_filter.mpr ⟨hc, hi⟩)
  · simpa [hi] using h
set_option maxRecDepth 65536 in
theorem w_c0 : (Jvm.Cond.code x code maxLocals ret).before args0 about1 = true := code_word (m := ⟨1, 1⟩) (meth := k1m1) (c := k1c1) (by decide +kernel) rfl rfl rfl (by decide +kernel)
set_option maxRecDepth 65536 in
theorem w_c1 : (Jvm.Cond.code ({ cls := "com/example/assured_delivery/assureddelivery/storage/StoredMessage", name := "<init>", desc := "([B[B[B)V" } : Jvm.MethodName) prog_44_method_2_code (4 : Nat) (Option.none : Option Jvm.ClassFile.FieldType)).before args0 about1 = true := code_word (m := ⟨3, 0⟩) (meth := k3m0) (c := k3c0) (by decide +kernel) rfl rfl rfl (by decide +kernel)
set_option maxRecDepth 65536 in
theorem w_c2 : (Jvm.Cond.code ({ cls := "java/lang/Record", name := "<init>", desc := "()V" } : Jvm.MethodName) jdk_30_method_1_code (1 : Nat) (Option.none : Option Jvm.ClassFile.FieldType)).before args0 about1 = true := code_word (m := ⟨2, 0⟩) (meth := k2m0) (c := k2c0) (by decide +kernel) rfl rfl rfl (by decide +kernel)
set_option maxRecDepth 65536 in
theorem w_c3 : (Jvm.Cond.code ({ cls := "java/lang/Object", name := "<init>", desc := "()V" } : Jvm.MethodName) object_method_1_code (1 : Nat) (Option.none : Option Jvm.ClassFile.FieldType)).before args0 about1 = true := code_word (m := ⟨0, 0⟩) (meth := k0m0) (c := k0c0) (by decide +kernel) rfl rfl rfl (by decide +kernel)
set_option maxRecDepth 65536 in
theorem w_c4 : (Jvm.Cond.code ({ cls := "com/example/assured_delivery/assureddelivery/storage/StoredMessage", name := "bytes", desc := "()J" } : Jvm.MethodName) prog_44_method_3_code (5 : Nat) (Option.some Jvm.ClassFile.FieldType.long)).before args0 about1 = true := code_word (m := ⟨3, 1⟩) (meth := k3m1) (c := k3c1) (by decide +kernel) rfl rfl rfl (by decide +kernel)
def codes1 : List Jvm.Cond := [Jvm.Cond.code x code maxLocals ret, Jvm.Cond.code ({ cls := "com/example/assured_delivery/assureddelivery/storage/StoredMessage", name := "<init>", desc := "([B[B[B)V" } : Jvm.MethodName) prog_44_method_2_code (4 : Nat) (Option.none : Option Jvm.ClassFile.FieldType), Jvm.Cond.code ({ cls := "java/lang/Record", name := "<init>", desc := "()V" } : Jvm.MethodName) jdk_30_method_1_code (1 : Nat) (Option.none : Option Jvm.ClassFile.FieldType), Jvm.Cond.code ({ cls := "java/lang/Object", name := "<init>", desc := "()V" } : Jvm.MethodName) object_method_1_code (1 : Nat) (Option.none : Option Jvm.ClassFile.FieldType), Jvm.Cond.code ({ cls := "com/example/assured_delivery/assureddelivery/storage/StoredMessage", name := "bytes", desc := "()J" } : Jvm.MethodName) prog_44_method_3_code (5 : Nat) (Option.some Jvm.ClassFile.FieldType.long)]
set_option maxRecDepth 65536 in
theorem codes_eq : words1.filter isCode = codes1 := rfl
theorem w_codes : ∀ c ∈ words1.filter isCode, c.before args0 about1 = true := by
  rw [codes_eq]
  intro c hc
  simp only [codes1, List.mem_cons, List.not_mem_nil, or_false] at hc
  rcases hc with rfl | rfl | rfl | rfl | rfl
  · exact w_c0
  · exact w_c1
  · exact w_c2
  · exact w_c3
  · exact w_c4
set_option maxRecDepth 65536 in
theorem w_t1 : (words1.take 24).all (fun c => isCode c || c.before args0 about1) = true := by decide +kernel
set_option maxRecDepth 65536 in
theorem w_t2 : (words1.drop 24).all (fun c => isCode c || c.before args0 about1) = true := by decide +kernel
theorem w_tables : (allAtoms (Jvm.Cond.code x code maxLocals ret :: tables_1)).before args0 about1 = true := by
  rw [allAtoms_all]
  show words1.all (fun c => c.before args0 about1) = true
  refine all_split ?_ w_codes
  rw [← List.take_append_drop 24 words1, List.all_append, w_t1, w_t2]
  rfl
set_option maxRecDepth 65536 in
theorem w_case : (Jvm.Cond.and given_1 narrow_1).before args0 about1 = true := by decide +kernel
theorem w_applies : (headSpec (Jvm.Cond.code x code maxLocals ret :: tables_1) room_1).applies x e0.platform about1 = true :=
  (Spec.applies_iff w_frames).mpr ⟨w_running, w_runnable, w_alone, w_named, w_hears, w_ripe, w_room, w_tables⟩
theorem atStart : AtStart classFile x code maxLocals ret World_1 tables_1 room_1 Calls_1 rest_1 Pre_1 launch0 p0 e0 about1 theMethod args0 below0 :=
  ⟨lists_1, trivial, launch0.admits_env _ _ _, launch0.least_env, fairChoices_fair.cas, fairChoices_fair.clock, w_frames, w_args, w_heap, w_applies, trivial, trivial, w_case⟩
end start1
theorem witness_1 : WitnessClaimed_1 := ⟨start1.p0, start1.e0, start1.about1, start1.theMethod, start1.args0, start1.below0, start1.atStart⟩
end Jvm.Pilot.@@N@@
