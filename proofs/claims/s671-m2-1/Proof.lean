import JvmDerived
import JvmDerived.Pilot.@@N@@Statement
import JvmDerived.Pilot.@@N@@Code
set_option linter.unusedVariables false
set_option linter.unusedSimpArgs false
namespace Jvm.Ow
open Sem ClassFile Op Lib Jvm.Stand Jvm.Free Jvm.LawKit Jvm.RoadKit
abbrev jv (x : Int64) : Slot := .val (.long x)
abbrev U0 : Slot := .unset
abbrev S2 : Slot := .second
def ush (x y : Int32) : Int32 := (x.toUInt32 >>> (y &&& 31).toUInt32).toInt32
def ushL (x : Int64) (y : Int32) : Int64 := (x.toUInt64 >>> (y &&& 0x3f).toInt64.toUInt64).toInt64
def On (l : Launch) (Z : State) (n0 : Nat) (own : String) (bytes : ByteArray) (maxL : Nat) (ret : Option FieldType) (R : Room) (p : Program) (e : Env) (s : State) (m : MethodId) (args : Array Value) (below : List Frame) (meth : Method) (c : Code) (T : State) (h : Heap) (k n : Nat) : Prop :=
  ∃ locs, Stand p l e R s m args below meth c T locs k n ∧ Fr n0 locs ∧ T.heap = h ∧ p.tables.exec = Jvm.exec ∧ Z.Warmed39 s.vm ∧ c.code = bytes ∧ c.maxLocals = maxL ∧ s.vm.findClass own = some m.cls ∧ meth.sig.returnType = ret ∧ meth.locks = false ∧ n0 ≤ s.heap.size
def Wp (p : Program) (e : Env) (below : List Frame) (s : State) (n0 ck cs : Nat) (Q : Option Value → Heap → Prop) (U : State) : Prop :=
  ∃ t o, Steps p.tables e below U t ∧ t.status = .running ∧ Ended t below o ∧ ∃ v L, o = .returned v ∧ (Fr n0 L ∧ Q v t.heap) ∧ FrameEnd s o t L ck cs
def Met (l : Launch) (Z : State) (n0 : Nat) (y : MethodName) (bytes : ByteArray) (maxL : Nat) (ret : Option FieldType) (rm : Room) (as : Array Value) (h : Heap) (Q : Option Value → Heap → Prop) : Prop :=
  ∀ ws, MetFree l y (head1 (Cond.code y bytes maxL ret :: ws) rm) (fun a U => a = as ∧ Z.Warmed39 U.vm ∧ U.heap = h) (fun _ _ _ _ _ => True) (fun _ U o U' => ∃ v L, o = .returned v ∧ (Fr n0 L ∧ Q v U'.heap) ∧ FrameEnd U o U' L rm.cells rm.slots)
/-- an array of the component type ty, whose components are vs -/
def AA (Z : State) (h : Heap) (a : Addr) (ty : FieldType) (vs : List Value) : Prop := ∃ c : Cell, Arr Z h a c ty ∧ c.slots = vs.toArray ∧ vs.length < 2147483648
section Kit
variable {l : Launch} {Z : State} {n0 : Nat} {own : String} {bytes : ByteArray} {maxL : Nat} {ret : Option FieldType} {R : Room} {p : Program} {e : Env} {s : State} {m : MethodId} {args : Array Value} {below : List Frame} {meth : Method} {c : Code} {T : State} {h h' : Heap} {k n ck cs : Nat} {Q : Option Value → Heap → Prop} {pc pc' : Nat} {Ls Ls' : Array Slot} {st : List Value} {a0 : Array Value} {a b : Addr} {ty : FieldType} {vs : List Value} {sl : Nat} {v w : Value} {ws : List Addr}
theorem AA.ext (F : AA Z h a ty vs) (E : Ext h h') : AA Z h' a ty vs := by obtain ⟨c, A, r⟩ := F; exact ⟨c, A.ext E, r⟩
theorem AA.other (F : AA Z h b ty vs) (W : Wr h h' a sl v) (q : b ≠ a) : AA Z h' b ty vs := by obtain ⟨c, A, r⟩ := F; exact ⟨c, A.other W q, r⟩
theorem AA.keep (F : AA Z h a ty vs) (K : Keep h h' ws) (q : a ∉ ws) : AA Z h' a ty vs := by obtain ⟨c, A, r⟩ := F; exact ⟨c, ⟨K.2.1 a c A.1 q, A.2⟩, r⟩
theorem AA.set (F : AA Z h a ty vs) (W : Wr h h' a sl v) : AA Z h' a ty (vs.set sl v) := by
  obtain ⟨c, A, r1, r2⟩ := F
  exact ⟨_, A.same W, by simp [Cell.setSlot, r1], by simpa using r2⟩
theorem AA.lt (F : AA Z h a ty vs) : a < h.size := by obtain ⟨c, A, -⟩ := F; exact A.lt
theorem AA.len (F : AA Z h a ty vs) : vs.length < 2147483648 := F.choose_spec.2.2
theorem AA.cast {vs' : List Value} (F : AA Z h a ty vs) (q : vs = vs') : AA Z h a ty vs' := q ▸ F
theorem Fld.cast {C f d : String} (F : Fld Z h a C f d v) (q : v = w) : Fld Z h a C f d w := q ▸ F
theorem AA.new {cA : ClassId} {z : Int32} {i : Nat} (A : Arr Z h a (newA cA ty z) ty) (hz : z.toInt = (i : Int)) : AA Z h a ty (List.replicate i (defaultValue ty)) := by
  have q : z.toNatClampNeg = i := by show z.toInt.toNat = i; omega
  have := z.toInt_lt
  refine ⟨_, A, ?_, ?_⟩
  · simp [newA, q]
  · simp; omega
theorem AA.ne_exa {C : String} {kk : Nat} (F : AA Z h a ty vs) (E : Exa Z h b C) (wi : (Cond.instantiable C kk).before a0 Z = true) : b ≠ a := by obtain ⟨c, A, -⟩ := F; exact ne_arr E wi A
theorem lt_ne {x y z : Nat} (q : x < y) (r : y = z) : x ≠ z := by omega
theorem le_eq {x y z : Nat} (q : x ≤ y) (r : y = z) : x ≤ z := by omega
theorem On.size(A : On l Z n0 own bytes maxL ret R p e s m args below meth c T h k n) : n0 ≤ h.size := by
  obtain ⟨locs, X, N, eT, hx, hZ, hby, hml, hown, hret, hlk, hsz⟩ := A
  have := X.same.2.1
  subst eT
  exact Nat.le_trans hsz this
theorem Wp.goo {U U' : State} (f : ∀ t, Steps p.tables e below U' t → Steps p.tables e below U t) (K : Wp p e below s n0 ck cs Q U') : Wp p e below s n0 ck cs Q U := by
  obtain ⟨t, o, q, r⟩ := K; exact ⟨t, o, f t q, r⟩
theorem Wp.cast {g g' : JFrame} (q : g = g') (K : Wp p e below s n0 ck cs Q (T.setTop g')) : Wp p e below s n0 ck cs Q (T.setTop g) := q ▸ K
theorem Wp.stk {st' : List Value} (q : st = st') (K : Wp p e below s n0 ck cs Q (T.setTop (mkF m pc Ls st'))) : Wp p e below s n0 ck cs Q (T.setTop (mkF m pc Ls st)) := q ▸ K
theorem Wp.mono {Q' : Option Value → Heap → Prop} {U : State} (K : Wp p e below s n0 ck cs Q U) (q : ∀ v h, Q v h → Q' v h) : Wp p e below s n0 ck cs Q' U := by
  obtain ⟨t, o, h1, h2, h3, v, L, h4, ⟨h5, h6⟩, h7⟩ := K; exact ⟨t, o, h1, h2, h3, v, L, h4, ⟨h5, q _ _ h6⟩, h7⟩
theorem met_intro {y : MethodName} {rm : Room} {as : Array Value} (hpl : plainFor y = true) (ho : y.cls = own) (hsz : n0 ≤ h.size)
    (body : ∀ p e s m below meth c T, On l Z n0 own bytes maxL ret rm p e s m as below meth c T h 0 0 → meth.name = y.name → Wp p e below s n0 rm.cells rm.slots Q (T.setTop (entryFrame m as maxL))) : Met l Z n0 y bytes maxL ret rm as h Q := by
  subst ho
  intro ws
  refine MetFree.of_bodySF hpl hisR ?_
  intro p e s m args below meth c s₁ Bd hml0 hP hK
  obtain ⟨rfl, hZ, hh⟩ := hP
  have X0 : Stand p l e rm s m args below meth c s₁ [] 0 0 := Stand.of_body Bd
  have e0 : s₁.heap = h := by rw [← hh, Bd.state]; rfl
  exact body p e s m below meth c s₁ ⟨[], X0, Fr.nil n0, e0, Bd.exec, hZ, Bd.bytes, hml0, findClass_of_methodNamed Bd.named, Bd.returns, Bd.notSynchronized, by rw [hh]; exact hsz⟩ (name_of_methodNamed Bd.named Bd.method).1
theorem Met.mono {y : MethodName} {rm : Room} {as : Array Value} {Q' : Option Value → Heap → Prop} (M : Met l Z n0 y bytes maxL ret rm as h Q) (q : ∀ v h, Q v h → Q' v h) : Met l Z n0 y bytes maxL ret rm as h Q' := by
  intro ws p e ha hc hk s m args below hf happ hP hK
  obtain ⟨n, o, h1, h2, h3, v, L, h4, ⟨h5, h6⟩, h7⟩ := M ws p e ha hc hk s m args below hf happ hP hK
  exact ⟨n, o, h1, h2, h3, v, L, h4, ⟨h5, q _ _ h6⟩, h7⟩
theorem s_iloadN (A : On l Z n0 own bytes maxL ret R p e s m args below meth c T h k n) {i : Fin 4} {z : Int32} (hd : decode bytes pc = .ok (.iload_n i, 1)) (hp : pc + 1 = pc') (hl : Ls[i.val]? = some (.val (.int z))) (K : Wp p e below s n0 ck cs Q (T.setTop (mkF m pc' Ls (.int z :: st)))) : Wp p e below s n0 ck cs Q (T.setTop (mkF m pc Ls st)) := by
  obtain ⟨locs, X, N, eT, hx, hZ, hby, hml, hown, hret, hlk, hsz⟩ := A
  subst hp
  exact K.goo fun t q => XS.iloadN X.here hx rfl (hb hby hd) hl q
theorem s_lloadN (A : On l Z n0 own bytes maxL ret R p e s m args below meth c T h k n) {i : Fin 4} {z : Int64} (hd : decode bytes pc = .ok (.lload_n i, 1)) (hp : pc + 1 = pc') (hl : Ls[i.val]? = some (.val (.long z))) (K : Wp p e below s n0 ck cs Q (T.setTop (mkF m pc' Ls (.long z :: st)))) : Wp p e below s n0 ck cs Q (T.setTop (mkF m pc Ls st)) := by
  obtain ⟨locs, X, N, eT, hx, hZ, hby, hml, hown, hret, hlk, hsz⟩ := A
  subst hp
  exact K.goo fun t q => XS.lloadN X.here hx rfl (hb hby hd) hl q
theorem s_aloadN (A : On l Z n0 own bytes maxL ret R p e s m args below meth c T h k n) {i : Fin 4} (hd : decode bytes pc = .ok (.aload_n i, 1)) (hp : pc + 1 = pc') (hl : Ls[i.val]? = some (.val v)) (hv : v.isRef = true) (K : Wp p e below s n0 ck cs Q (T.setTop (mkF m pc' Ls (v :: st)))) : Wp p e below s n0 ck cs Q (T.setTop (mkF m pc Ls st)) := by
  obtain ⟨locs, X, N, eT, hx, hZ, hby, hml, hown, hret, hlk, hsz⟩ := A
  subst hp
  exact K.goo fun t q => XS.aloadN X.here hx rfl (hb hby hd) hl hv q
theorem s_istoreN (A : On l Z n0 own bytes maxL ret R p e s m args below meth c T h k n) {i : Fin 4} {z : Int32} (hd : decode bytes pc = .ok (.istore_n i, 1)) (hp : pc + 1 = pc') (hl : storeLocals Ls i.val (.int z) = some Ls') (K : Wp p e below s n0 ck cs Q (T.setTop (mkF m pc' Ls' st))) : Wp p e below s n0 ck cs Q (T.setTop (mkF m pc Ls (.int z :: st))) := by
  obtain ⟨locs, X, N, eT, hx, hZ, hby, hml, hown, hret, hlk, hsz⟩ := A
  subst hp
  exact K.goo fun t q => XS.istoreN X.here hx rfl (hb hby hd) rfl hl q
theorem s_lstoreN (A : On l Z n0 own bytes maxL ret R p e s m args below meth c T h k n) {i : Fin 4} {z : Int64} (hd : decode bytes pc = .ok (.lstore_n i, 1)) (hp : pc + 1 = pc') (hl : storeLocals Ls i.val (.long z) = some Ls') (K : Wp p e below s n0 ck cs Q (T.setTop (mkF m pc' Ls' st))) : Wp p e below s n0 ck cs Q (T.setTop (mkF m pc Ls (.long z :: st))) := by
  obtain ⟨locs, X, N, eT, hx, hZ, hby, hml, hown, hret, hlk, hsz⟩ := A
  subst hp
  exact K.goo fun t q => XS.lstoreN X.here hx rfl (hb hby hd) rfl hl q
theorem s_astoreN (A : On l Z n0 own bytes maxL ret R p e s m args below meth c T h k n) {i : Fin 4} (hd : decode bytes pc = .ok (.astore_n i, 1)) (hp : pc + 1 = pc') (hv : v.isRef = true) (hl : storeLocals Ls i.val v = some Ls') (K : Wp p e below s n0 ck cs Q (T.setTop (mkF m pc' Ls' st))) : Wp p e below s n0 ck cs Q (T.setTop (mkF m pc Ls (v :: st))) := by
  obtain ⟨locs, X, N, eT, hx, hZ, hby, hml, hown, hret, hlk, hsz⟩ := A
  subst hp
  exact K.goo fun t q => XS.astoreN X.here hx rfl (hb hby hd) rfl hv hl q
theorem s_iload (A : On l Z n0 own bytes maxL ret R p e s m args below meth c T h k n) {i : Nat} {z : Int32} (hd : decode bytes pc = .ok (.iload i, 2)) (hp : pc + 2 = pc') (hl : Ls[i]? = some (.val (.int z))) (K : Wp p e below s n0 ck cs Q (T.setTop (mkF m pc' Ls (.int z :: st)))) : Wp p e below s n0 ck cs Q (T.setTop (mkF m pc Ls st)) := by
  obtain ⟨locs, X, N, eT, hx, hZ, hby, hml, hown, hret, hlk, hsz⟩ := A
  subst hp
  exact K.goo fun t q => XS.iload X.here hx rfl (hb hby hd) hl q
theorem s_lload (A : On l Z n0 own bytes maxL ret R p e s m args below meth c T h k n) {i : Nat} {z : Int64} (hd : decode bytes pc = .ok (.lload i, 2)) (hp : pc + 2 = pc') (hl : Ls[i]? = some (.val (.long z))) (K : Wp p e below s n0 ck cs Q (T.setTop (mkF m pc' Ls (.long z :: st)))) : Wp p e below s n0 ck cs Q (T.setTop (mkF m pc Ls st)) := by
  obtain ⟨locs, X, N, eT, hx, hZ, hby, hml, hown, hret, hlk, hsz⟩ := A
  subst hp
  exact K.goo fun t q => XS.lload X.here hx rfl (hb hby hd) hl q
theorem s_aload (A : On l Z n0 own bytes maxL ret R p e s m args below meth c T h k n) {i : Nat} (hd : decode bytes pc = .ok (.aload i, 2)) (hp : pc + 2 = pc') (hl : Ls[i]? = some (.val v)) (hv : v.isRef = true) (K : Wp p e below s n0 ck cs Q (T.setTop (mkF m pc' Ls (v :: st)))) : Wp p e below s n0 ck cs Q (T.setTop (mkF m pc Ls st)) := by
  obtain ⟨locs, X, N, eT, hx, hZ, hby, hml, hown, hret, hlk, hsz⟩ := A
  subst hp
  exact K.goo fun t q => XS.aload X.here hx rfl (hb hby hd) hl hv q
theorem s_istore (A : On l Z n0 own bytes maxL ret R p e s m args below meth c T h k n) {i : Nat} {z : Int32} (hd : decode bytes pc = .ok (.istore i, 2)) (hp : pc + 2 = pc') (hl : storeLocals Ls i (.int z) = some Ls') (K : Wp p e below s n0 ck cs Q (T.setTop (mkF m pc' Ls' st))) : Wp p e below s n0 ck cs Q (T.setTop (mkF m pc Ls (.int z :: st))) := by
  obtain ⟨locs, X, N, eT, hx, hZ, hby, hml, hown, hret, hlk, hsz⟩ := A
  subst hp
  exact K.goo fun t q => XS.istore X.here hx rfl (hb hby hd) rfl hl q
theorem s_lstore (A : On l Z n0 own bytes maxL ret R p e s m args below meth c T h k n) {i : Nat} {z : Int64} (hd : decode bytes pc = .ok (.lstore i, 2)) (hp : pc + 2 = pc') (hl : storeLocals Ls i (.long z) = some Ls') (K : Wp p e below s n0 ck cs Q (T.setTop (mkF m pc' Ls' st))) : Wp p e below s n0 ck cs Q (T.setTop (mkF m pc Ls (.long z :: st))) := by
  obtain ⟨locs, X, N, eT, hx, hZ, hby, hml, hown, hret, hlk, hsz⟩ := A
  subst hp
  exact K.goo fun t q => XS.lstore X.here hx rfl (hb hby hd) rfl hl q
theorem s_astore (A : On l Z n0 own bytes maxL ret R p e s m args below meth c T h k n) {i : Nat} (hd : decode bytes pc = .ok (.astore i, 2)) (hp : pc + 2 = pc') (hv : v.isRef = true) (hl : storeLocals Ls i v = some Ls') (K : Wp p e below s n0 ck cs Q (T.setTop (mkF m pc' Ls' st))) : Wp p e below s n0 ck cs Q (T.setTop (mkF m pc Ls (v :: st))) := by
  obtain ⟨locs, X, N, eT, hx, hZ, hby, hml, hown, hret, hlk, hsz⟩ := A
  subst hp
  exact K.goo fun t q => XS.astore X.here hx rfl (hb hby hd) rfl hv hl q
theorem s_iconst (A : On l Z n0 own bytes maxL ret R p e s m args below meth c T h k n) {i : Int} {z : Int32} (hd : decode bytes pc = .ok (.iconst i, 1)) (hp : pc + 1 = pc') (hz : Int32.ofInt i = z) (K : Wp p e below s n0 ck cs Q (T.setTop (mkF m pc' Ls (.int z :: st)))) : Wp p e below s n0 ck cs Q (T.setTop (mkF m pc Ls st)) := by
  obtain ⟨locs, X, N, eT, hx, hZ, hby, hml, hown, hret, hlk, hsz⟩ := A
  subst hp
  subst hz
  exact K.goo fun t q => XS.iconst X.here hx rfl (hb hby hd) q
theorem s_bipush (A : On l Z n0 own bytes maxL ret R p e s m args below meth c T h k n) {i : Int} {z : Int32} (hd : decode bytes pc = .ok (.bipush i, 2)) (hp : pc + 2 = pc') (hz : (Int8.ofInt i).toInt32 = z) (K : Wp p e below s n0 ck cs Q (T.setTop (mkF m pc' Ls (.int z :: st)))) : Wp p e below s n0 ck cs Q (T.setTop (mkF m pc Ls st)) := by
  obtain ⟨locs, X, N, eT, hx, hZ, hby, hml, hown, hret, hlk, hsz⟩ := A
  subst hp
  subst hz
  exact K.goo fun t q => XS.bipush X.here hx rfl (hb hby hd) q
theorem s_sipush (A : On l Z n0 own bytes maxL ret R p e s m args below meth c T h k n) {i : Int} {z : Int32} (hd : decode bytes pc = .ok (.sipush i, 3)) (hp : pc + 3 = pc') (hz : (Int16.ofInt i).toInt32 = z) (K : Wp p e below s n0 ck cs Q (T.setTop (mkF m pc' Ls (.int z :: st)))) : Wp p e below s n0 ck cs Q (T.setTop (mkF m pc Ls st)) := by
  obtain ⟨locs, X, N, eT, hx, hZ, hby, hml, hown, hret, hlk, hsz⟩ := A
  subst hp
  subst hz
  exact K.goo fun t q => XS.sipush X.here hx rfl (hb hby hd) q
theorem s_lconst (A : On l Z n0 own bytes maxL ret R p e s m args below meth c T h k n) {i : Fin 2} {z : Int64} (hd : decode bytes pc = .ok (.lconst i, 1)) (hp : pc + 1 = pc') (hz : Int64.ofNat i = z) (K : Wp p e below s n0 ck cs Q (T.setTop (mkF m pc' Ls (.long z :: st)))) : Wp p e below s n0 ck cs Q (T.setTop (mkF m pc Ls st)) := by
  obtain ⟨locs, X, N, eT, hx, hZ, hby, hml, hown, hret, hlk, hsz⟩ := A
  subst hp
  subst hz
  exact K.goo fun t q => XS.lconst X.here hx rfl (hb hby hd) q
theorem s_aconstNull (A : On l Z n0 own bytes maxL ret R p e s m args below meth c T h k n)  (hd : decode bytes pc = .ok (.aconst_null, 1)) (hp : pc + 1 = pc') (K : Wp p e below s n0 ck cs Q (T.setTop (mkF m pc' Ls (.null :: st)))) : Wp p e below s n0 ck cs Q (T.setTop (mkF m pc Ls st)) := by
  obtain ⟨locs, X, N, eT, hx, hZ, hby, hml, hown, hret, hlk, hsz⟩ := A
  subst hp
  exact K.goo fun t q => XS.aconstNull X.here hx rfl (hb hby hd) q
theorem s_iadd (A : On l Z n0 own bytes maxL ret R p e s m args below meth c T h k n) {x y z : Int32} (hd : decode bytes pc = .ok (.iadd, 1)) (hp : pc + 1 = pc') (hz : x + y = z) (K : Wp p e below s n0 ck cs Q (T.setTop (mkF m pc' Ls (.int z :: st)))) : Wp p e below s n0 ck cs Q (T.setTop (mkF m pc Ls (.int y :: .int x :: st))) := by
  obtain ⟨locs, X, N, eT, hx, hZ, hby, hml, hown, hret, hlk, hsz⟩ := A
  subst hp
  subst hz
  exact K.goo fun t q => XS.iadd X.here hx rfl (hb hby hd) rfl q
theorem s_ladd (A : On l Z n0 own bytes maxL ret R p e s m args below meth c T h k n) {x y z : Int64} (hd : decode bytes pc = .ok (.ladd, 1)) (hp : pc + 1 = pc') (hz : x + y = z) (K : Wp p e below s n0 ck cs Q (T.setTop (mkF m pc' Ls (.long z :: st)))) : Wp p e below s n0 ck cs Q (T.setTop (mkF m pc Ls (.long y :: .long x :: st))) := by
  obtain ⟨locs, X, N, eT, hx, hZ, hby, hml, hown, hret, hlk, hsz⟩ := A
  subst hp
  subst hz
  exact K.goo fun t q => XS.ladd X.here hx rfl (hb hby hd) rfl q
theorem s_isub (A : On l Z n0 own bytes maxL ret R p e s m args below meth c T h k n) {x y z : Int32} (hd : decode bytes pc = .ok (.isub, 1)) (hp : pc + 1 = pc') (hz : x - y = z) (K : Wp p e below s n0 ck cs Q (T.setTop (mkF m pc' Ls (.int z :: st)))) : Wp p e below s n0 ck cs Q (T.setTop (mkF m pc Ls (.int y :: .int x :: st))) := by
  obtain ⟨locs, X, N, eT, hx, hZ, hby, hml, hown, hret, hlk, hsz⟩ := A
  subst hp
  subst hz
  exact K.goo fun t q => XS.isub X.here hx rfl (hb hby hd) rfl q
theorem s_lsub (A : On l Z n0 own bytes maxL ret R p e s m args below meth c T h k n) {x y z : Int64} (hd : decode bytes pc = .ok (.lsub, 1)) (hp : pc + 1 = pc') (hz : x - y = z) (K : Wp p e below s n0 ck cs Q (T.setTop (mkF m pc' Ls (.long z :: st)))) : Wp p e below s n0 ck cs Q (T.setTop (mkF m pc Ls (.long y :: .long x :: st))) := by
  obtain ⟨locs, X, N, eT, hx, hZ, hby, hml, hown, hret, hlk, hsz⟩ := A
  subst hp
  subst hz
  exact K.goo fun t q => XS.lsub X.here hx rfl (hb hby hd) rfl q
theorem s_imul (A : On l Z n0 own bytes maxL ret R p e s m args below meth c T h k n) {x y z : Int32} (hd : decode bytes pc = .ok (.imul, 1)) (hp : pc + 1 = pc') (hz : x * y = z) (K : Wp p e below s n0 ck cs Q (T.setTop (mkF m pc' Ls (.int z :: st)))) : Wp p e below s n0 ck cs Q (T.setTop (mkF m pc Ls (.int y :: .int x :: st))) := by
  obtain ⟨locs, X, N, eT, hx, hZ, hby, hml, hown, hret, hlk, hsz⟩ := A
  subst hp
  subst hz
  exact K.goo fun t q => XS.imul X.here hx rfl (hb hby hd) rfl q
theorem s_lmul (A : On l Z n0 own bytes maxL ret R p e s m args below meth c T h k n) {x y z : Int64} (hd : decode bytes pc = .ok (.lmul, 1)) (hp : pc + 1 = pc') (hz : x * y = z) (K : Wp p e below s n0 ck cs Q (T.setTop (mkF m pc' Ls (.long z :: st)))) : Wp p e below s n0 ck cs Q (T.setTop (mkF m pc Ls (.long y :: .long x :: st))) := by
  obtain ⟨locs, X, N, eT, hx, hZ, hby, hml, hown, hret, hlk, hsz⟩ := A
  subst hp
  subst hz
  exact K.goo fun t q => XS.lmul X.here hx rfl (hb hby hd) rfl q
theorem s_iand (A : On l Z n0 own bytes maxL ret R p e s m args below meth c T h k n) {x y z : Int32} (hd : decode bytes pc = .ok (.iand, 1)) (hp : pc + 1 = pc') (hz : x &&& y = z) (K : Wp p e below s n0 ck cs Q (T.setTop (mkF m pc' Ls (.int z :: st)))) : Wp p e below s n0 ck cs Q (T.setTop (mkF m pc Ls (.int y :: .int x :: st))) := by
  obtain ⟨locs, X, N, eT, hx, hZ, hby, hml, hown, hret, hlk, hsz⟩ := A
  subst hp
  subst hz
  exact K.goo fun t q => XS.iand X.here hx rfl (hb hby hd) rfl q
theorem s_land (A : On l Z n0 own bytes maxL ret R p e s m args below meth c T h k n) {x y z : Int64} (hd : decode bytes pc = .ok (.land, 1)) (hp : pc + 1 = pc') (hz : x &&& y = z) (K : Wp p e below s n0 ck cs Q (T.setTop (mkF m pc' Ls (.long z :: st)))) : Wp p e below s n0 ck cs Q (T.setTop (mkF m pc Ls (.long y :: .long x :: st))) := by
  obtain ⟨locs, X, N, eT, hx, hZ, hby, hml, hown, hret, hlk, hsz⟩ := A
  subst hp
  subst hz
  exact K.goo fun t q => XS.land X.here hx rfl (hb hby hd) rfl q
theorem s_ior (A : On l Z n0 own bytes maxL ret R p e s m args below meth c T h k n) {x y z : Int32} (hd : decode bytes pc = .ok (.ior, 1)) (hp : pc + 1 = pc') (hz : x ||| y = z) (K : Wp p e below s n0 ck cs Q (T.setTop (mkF m pc' Ls (.int z :: st)))) : Wp p e below s n0 ck cs Q (T.setTop (mkF m pc Ls (.int y :: .int x :: st))) := by
  obtain ⟨locs, X, N, eT, hx, hZ, hby, hml, hown, hret, hlk, hsz⟩ := A
  subst hp
  subst hz
  exact K.goo fun t q => XS.ior X.here hx rfl (hb hby hd) rfl q
theorem s_lor (A : On l Z n0 own bytes maxL ret R p e s m args below meth c T h k n) {x y z : Int64} (hd : decode bytes pc = .ok (.lor, 1)) (hp : pc + 1 = pc') (hz : x ||| y = z) (K : Wp p e below s n0 ck cs Q (T.setTop (mkF m pc' Ls (.long z :: st)))) : Wp p e below s n0 ck cs Q (T.setTop (mkF m pc Ls (.long y :: .long x :: st))) := by
  obtain ⟨locs, X, N, eT, hx, hZ, hby, hml, hown, hret, hlk, hsz⟩ := A
  subst hp
  subst hz
  exact K.goo fun t q => XS.lor X.here hx rfl (hb hby hd) rfl q
theorem s_ixor (A : On l Z n0 own bytes maxL ret R p e s m args below meth c T h k n) {x y z : Int32} (hd : decode bytes pc = .ok (.ixor, 1)) (hp : pc + 1 = pc') (hz : x ^^^ y = z) (K : Wp p e below s n0 ck cs Q (T.setTop (mkF m pc' Ls (.int z :: st)))) : Wp p e below s n0 ck cs Q (T.setTop (mkF m pc Ls (.int y :: .int x :: st))) := by
  obtain ⟨locs, X, N, eT, hx, hZ, hby, hml, hown, hret, hlk, hsz⟩ := A
  subst hp
  subst hz
  exact K.goo fun t q => XS.ixor X.here hx rfl (hb hby hd) rfl q
theorem s_lxor (A : On l Z n0 own bytes maxL ret R p e s m args below meth c T h k n) {x y z : Int64} (hd : decode bytes pc = .ok (.lxor, 1)) (hp : pc + 1 = pc') (hz : x ^^^ y = z) (K : Wp p e below s n0 ck cs Q (T.setTop (mkF m pc' Ls (.long z :: st)))) : Wp p e below s n0 ck cs Q (T.setTop (mkF m pc Ls (.long y :: .long x :: st))) := by
  obtain ⟨locs, X, N, eT, hx, hZ, hby, hml, hown, hret, hlk, hsz⟩ := A
  subst hp
  subst hz
  exact K.goo fun t q => XS.lxor X.here hx rfl (hb hby hd) rfl q
theorem s_idiv (A : On l Z n0 own bytes maxL ret R p e s m args below meth c T h k n) {x y z : Int32} (hd : decode bytes pc = .ok (.idiv, 1)) (hp : pc + 1 = pc') (hy : y ≠ 0) (hz : x / y = z) (K : Wp p e below s n0 ck cs Q (T.setTop (mkF m pc' Ls (.int z :: st)))) : Wp p e below s n0 ck cs Q (T.setTop (mkF m pc Ls (.int y :: .int x :: st))) := by
  obtain ⟨locs, X, N, eT, hx, hZ, hby, hml, hown, hret, hlk, hsz⟩ := A
  subst hp
  subst hz
  exact K.goo fun t q => XS.idiv X.here hx rfl (hb hby hd) rfl hy q
theorem s_ldiv (A : On l Z n0 own bytes maxL ret R p e s m args below meth c T h k n) {x y z : Int64} (hd : decode bytes pc = .ok (.ldiv, 1)) (hp : pc + 1 = pc') (hy : y ≠ 0) (hz : x / y = z) (K : Wp p e below s n0 ck cs Q (T.setTop (mkF m pc' Ls (.long z :: st)))) : Wp p e below s n0 ck cs Q (T.setTop (mkF m pc Ls (.long y :: .long x :: st))) := by
  obtain ⟨locs, X, N, eT, hx, hZ, hby, hml, hown, hret, hlk, hsz⟩ := A
  subst hp
  subst hz
  exact K.goo fun t q => XS.ldiv X.here hx rfl (hb hby hd) rfl hy q
theorem s_irem (A : On l Z n0 own bytes maxL ret R p e s m args below meth c T h k n) {x y z : Int32} (hd : decode bytes pc = .ok (.irem, 1)) (hp : pc + 1 = pc') (hy : y ≠ 0) (hz : x % y = z) (K : Wp p e below s n0 ck cs Q (T.setTop (mkF m pc' Ls (.int z :: st)))) : Wp p e below s n0 ck cs Q (T.setTop (mkF m pc Ls (.int y :: .int x :: st))) := by
  obtain ⟨locs, X, N, eT, hx, hZ, hby, hml, hown, hret, hlk, hsz⟩ := A
  subst hp
  subst hz
  exact K.goo fun t q => iremM X hx rfl (hb hby hd) rfl hy q
theorem s_ineg (A : On l Z n0 own bytes maxL ret R p e s m args below meth c T h k n) {x z : Int32} (hd : decode bytes pc = .ok (.ineg, 1)) (hp : pc + 1 = pc') (hz : -x = z) (K : Wp p e below s n0 ck cs Q (T.setTop (mkF m pc' Ls (.int z :: st)))) : Wp p e below s n0 ck cs Q (T.setTop (mkF m pc Ls (.int x :: st))) := by
  obtain ⟨locs, X, N, eT, hx, hZ, hby, hml, hown, hret, hlk, hsz⟩ := A
  subst hp
  subst hz
  exact K.goo fun t q => XS.ineg X.here hx rfl (hb hby hd) rfl q
theorem s_ishl (A : On l Z n0 own bytes maxL ret R p e s m args below meth c T h k n) {x y z : Int32} (hd : decode bytes pc = .ok (.ishl, 1)) (hp : pc + 1 = pc') (hz : x <<< (y &&& 31) = z) (K : Wp p e below s n0 ck cs Q (T.setTop (mkF m pc' Ls (.int z :: st)))) : Wp p e below s n0 ck cs Q (T.setTop (mkF m pc Ls (.int y :: .int x :: st))) := by
  obtain ⟨locs, X, N, eT, hx, hZ, hby, hml, hown, hret, hlk, hsz⟩ := A
  subst hp
  subst hz
  exact K.goo fun t q => XS.ishl X.here hx rfl (hb hby hd) rfl q
theorem s_ishr (A : On l Z n0 own bytes maxL ret R p e s m args below meth c T h k n) {x y z : Int32} (hd : decode bytes pc = .ok (.ishr, 1)) (hp : pc + 1 = pc') (hz : x >>> (y &&& 31) = z) (K : Wp p e below s n0 ck cs Q (T.setTop (mkF m pc' Ls (.int z :: st)))) : Wp p e below s n0 ck cs Q (T.setTop (mkF m pc Ls (.int y :: .int x :: st))) := by
  obtain ⟨locs, X, N, eT, hx, hZ, hby, hml, hown, hret, hlk, hsz⟩ := A
  subst hp
  subst hz
  exact K.goo fun t q => XS.ishr X.here hx rfl (hb hby hd) rfl q
theorem s_iushr (A : On l Z n0 own bytes maxL ret R p e s m args below meth c T h k n) {x y z : Int32} (hd : decode bytes pc = .ok (.iushr, 1)) (hp : pc + 1 = pc') (hz : ush x y = z) (K : Wp p e below s n0 ck cs Q (T.setTop (mkF m pc' Ls (.int z :: st)))) : Wp p e below s n0 ck cs Q (T.setTop (mkF m pc Ls (.int y :: .int x :: st))) := by
  obtain ⟨locs, X, N, eT, hx, hZ, hby, hml, hown, hret, hlk, hsz⟩ := A
  subst hp
  subst hz
  exact K.goo fun t q => XS.iushr X.here hx rfl (hb hby hd) rfl q
theorem s_lshl (A : On l Z n0 own bytes maxL ret R p e s m args below meth c T h k n) {x z : Int64} {y : Int32} (hd : decode bytes pc = .ok (.lshl, 1)) (hp : pc + 1 = pc') (hz : x <<< (y &&& 0x3f).toInt64 = z) (K : Wp p e below s n0 ck cs Q (T.setTop (mkF m pc' Ls (.long z :: st)))) : Wp p e below s n0 ck cs Q (T.setTop (mkF m pc Ls (.int y :: .long x :: st))) := by
  obtain ⟨locs, X, N, eT, hx, hZ, hby, hml, hown, hret, hlk, hsz⟩ := A
  subst hp
  subst hz
  exact K.goo fun t q => XS.lshl X.here hx rfl (hb hby hd) rfl q
theorem s_lshr (A : On l Z n0 own bytes maxL ret R p e s m args below meth c T h k n) {x z : Int64} {y : Int32} (hd : decode bytes pc = .ok (.lshr, 1)) (hp : pc + 1 = pc') (hz : x >>> (y &&& 0x3f).toInt64 = z) (K : Wp p e below s n0 ck cs Q (T.setTop (mkF m pc' Ls (.long z :: st)))) : Wp p e below s n0 ck cs Q (T.setTop (mkF m pc Ls (.int y :: .long x :: st))) := by
  obtain ⟨locs, X, N, eT, hx, hZ, hby, hml, hown, hret, hlk, hsz⟩ := A
  subst hp
  subst hz
  exact K.goo fun t q => XS.lshr X.here hx rfl (hb hby hd) rfl q
theorem s_lushr (A : On l Z n0 own bytes maxL ret R p e s m args below meth c T h k n) {x z : Int64} {y : Int32} (hd : decode bytes pc = .ok (.lushr, 1)) (hp : pc + 1 = pc') (hz : ushL x y = z) (K : Wp p e below s n0 ck cs Q (T.setTop (mkF m pc' Ls (.long z :: st)))) : Wp p e below s n0 ck cs Q (T.setTop (mkF m pc Ls (.int y :: .long x :: st))) := by
  obtain ⟨locs, X, N, eT, hx, hZ, hby, hml, hown, hret, hlk, hsz⟩ := A
  subst hp
  subst hz
  exact K.goo fun t q => XS.lushr X.here hx rfl (hb hby hd) rfl q
theorem s_lcmp (A : On l Z n0 own bytes maxL ret R p e s m args below meth c T h k n) {x y : Int64} (hd : decode bytes pc = .ok (.lcmp, 1)) (hp : pc + 1 = pc') (K : Wp p e below s n0 ck cs Q (T.setTop (mkF m pc' Ls (.int (lcmpW x y) :: st)))) : Wp p e below s n0 ck cs Q (T.setTop (mkF m pc Ls (.long y :: .long x :: st))) := by
  obtain ⟨locs, X, N, eT, hx, hZ, hby, hml, hown, hret, hlk, hsz⟩ := A
  subst hp
  exact K.goo fun t q => XS.lcmp X.here hx rfl (hb hby hd) rfl q
theorem s_i2l (A : On l Z n0 own bytes maxL ret R p e s m args below meth c T h k n) {x : Int32} {z : Int64} (hd : decode bytes pc = .ok (.i2l, 1)) (hp : pc + 1 = pc') (hz : x.toInt64 = z) (K : Wp p e below s n0 ck cs Q (T.setTop (mkF m pc' Ls (.long z :: st)))) : Wp p e below s n0 ck cs Q (T.setTop (mkF m pc Ls (.int x :: st))) := by
  obtain ⟨locs, X, N, eT, hx, hZ, hby, hml, hown, hret, hlk, hsz⟩ := A
  subst hp
  subst hz
  exact K.goo fun t q => XS.i2l X.here hx rfl (hb hby hd) rfl q
theorem s_l2i (A : On l Z n0 own bytes maxL ret R p e s m args below meth c T h k n) {x : Int64} {z : Int32} (hd : decode bytes pc = .ok (.l2i, 1)) (hp : pc + 1 = pc') (hz : x.toInt32 = z) (K : Wp p e below s n0 ck cs Q (T.setTop (mkF m pc' Ls (.int z :: st)))) : Wp p e below s n0 ck cs Q (T.setTop (mkF m pc Ls (.long x :: st))) := by
  obtain ⟨locs, X, N, eT, hx, hZ, hby, hml, hown, hret, hlk, hsz⟩ := A
  subst hp
  subst hz
  exact K.goo fun t q => XS.l2i X.here hx rfl (hb hby hd) rfl q
theorem s_i2b (A : On l Z n0 own bytes maxL ret R p e s m args below meth c T h k n) {x z : Int32} (hd : decode bytes pc = .ok (.i2b, 1)) (hp : pc + 1 = pc') (hz : x.toInt8.toInt32 = z) (K : Wp p e below s n0 ck cs Q (T.setTop (mkF m pc' Ls (.int z :: st)))) : Wp p e below s n0 ck cs Q (T.setTop (mkF m pc Ls (.int x :: st))) := by
  obtain ⟨locs, X, N, eT, hx, hZ, hby, hml, hown, hret, hlk, hsz⟩ := A
  subst hp
  subst hz
  exact K.goo fun t q => XS.i2b X.here hx rfl (hb hby hd) rfl q
theorem s_dup (A : On l Z n0 own bytes maxL ret R p e s m args below meth c T h k n)  (hd : decode bytes pc = .ok (.dup, 1)) (hp : pc + 1 = pc') (hc : v.category = 1) (K : Wp p e below s n0 ck cs Q (T.setTop (mkF m pc' Ls (v :: v :: st)))) : Wp p e below s n0 ck cs Q (T.setTop (mkF m pc Ls (v :: st))) := by
  obtain ⟨locs, X, N, eT, hx, hZ, hby, hml, hown, hret, hlk, hsz⟩ := A
  subst hp
  exact K.goo fun t q => XS.dup X.here hx rfl (hb hby hd) rfl hc q
theorem s_dup2 (A : On l Z n0 own bytes maxL ret R p e s m args below meth c T h k n)  (hd : decode bytes pc = .ok (.dup2, 1)) (hp : pc + 1 = pc') (hc : v.category = 1) (hc' : w.category = 1) (K : Wp p e below s n0 ck cs Q (T.setTop (mkF m pc' Ls (v :: w :: v :: w :: st)))) : Wp p e below s n0 ck cs Q (T.setTop (mkF m pc Ls (v :: w :: st))) := by
  obtain ⟨locs, X, N, eT, hx, hZ, hby, hml, hown, hret, hlk, hsz⟩ := A
  subst hp
  exact K.goo fun t q => XT.dup2 X.here hx rfl (hb hby hd) rfl hc hc' q
theorem s_dup2L (A : On l Z n0 own bytes maxL ret R p e s m args below meth c T h k n) {x : Int64} (hd : decode bytes pc = .ok (.dup2, 1)) (hp : pc + 1 = pc') (K : Wp p e below s n0 ck cs Q (T.setTop (mkF m pc' Ls (.long x :: .long x :: st)))) : Wp p e below s n0 ck cs Q (T.setTop (mkF m pc Ls (.long x :: st))) := by
  obtain ⟨locs, X, N, eT, hx, hZ, hby, hml, hown, hret, hlk, hsz⟩ := A
  subst hp
  exact K.goo fun t q => XT.dup2L X.here hx rfl (hb hby hd) rfl q
theorem s_dupX1 (A : On l Z n0 own bytes maxL ret R p e s m args below meth c T h k n)  (hd : decode bytes pc = .ok (.dup_x1, 1)) (hp : pc + 1 = pc') (hc : v.category = 1) (hc' : w.category = 1) (K : Wp p e below s n0 ck cs Q (T.setTop (mkF m pc' Ls (v :: w :: v :: st)))) : Wp p e below s n0 ck cs Q (T.setTop (mkF m pc Ls (v :: w :: st))) := by
  obtain ⟨locs, X, N, eT, hx, hZ, hby, hml, hown, hret, hlk, hsz⟩ := A
  subst hp
  exact K.goo fun t q => XS.dupX1 X.here hx rfl (hb hby hd) rfl hc hc' q
theorem s_dup2X1L (A : On l Z n0 own bytes maxL ret R p e s m args below meth c T h k n) {x : Int64} (hd : decode bytes pc = .ok (.dup2_x1, 1)) (hp : pc + 1 = pc') (hc' : w.category = 1) (K : Wp p e below s n0 ck cs Q (T.setTop (mkF m pc' Ls (.long x :: w :: .long x :: st)))) : Wp p e below s n0 ck cs Q (T.setTop (mkF m pc Ls (.long x :: w :: st))) := by
  obtain ⟨locs, X, N, eT, hx, hZ, hby, hml, hown, hret, hlk, hsz⟩ := A
  subst hp
  refine K.goo fun t q => ?_
  jvm_step X.here [X.here.top, hx, (hb hby hd), Value.category, hc']
  exact ⟨hc', q⟩
theorem s_pop (A : On l Z n0 own bytes maxL ret R p e s m args below meth c T h k n)  (hd : decode bytes pc = .ok (.pop, 1)) (hp : pc + 1 = pc') (hc : v.category = 1) (K : Wp p e below s n0 ck cs Q (T.setTop (mkF m pc' Ls st))) : Wp p e below s n0 ck cs Q (T.setTop (mkF m pc Ls (v :: st))) := by
  obtain ⟨locs, X, N, eT, hx, hZ, hby, hml, hown, hret, hlk, hsz⟩ := A
  subst hp
  exact K.goo fun t q => XS.pop X.here hx rfl (hb hby hd) rfl hc q
theorem s_pop2L (A : On l Z n0 own bytes maxL ret R p e s m args below meth c T h k n) {x : Int64} (hd : decode bytes pc = .ok (.pop2, 1)) (hp : pc + 1 = pc') (K : Wp p e below s n0 ck cs Q (T.setTop (mkF m pc' Ls st))) : Wp p e below s n0 ck cs Q (T.setTop (mkF m pc Ls (.long x :: st))) := by
  obtain ⟨locs, X, N, eT, hx, hZ, hby, hml, hown, hret, hlk, hsz⟩ := A
  subst hp
  refine K.goo fun t q => ?_
  jvm_step X.here [X.here.top, hx, (hb hby hd), Value.category]
  exact q
theorem s_iinc (A : On l Z n0 own bytes maxL ret R p e s m args below meth c T h k n) {i : Nat} {j : Int} {x z : Int32} (hd : decode bytes pc = .ok (.iinc i j, 3)) (hp : pc + 3 = pc') (hl : Ls[i]? = some (.val (.int x))) (hz : x + Int32.ofInt j = z) (hs : storeLocals Ls i (.int z) = some Ls') (K : Wp p e below s n0 ck cs Q (T.setTop (mkF m pc' Ls' st))) : Wp p e below s n0 ck cs Q (T.setTop (mkF m pc Ls st)) := by
  obtain ⟨locs, X, N, eT, hx, hZ, hby, hml, hown, hret, hlk, hsz⟩ := A
  subst hp
  subst hz
  exact K.goo fun t q => XS.iinc X.here hx rfl (hb hby hd) hl hs q
theorem s_goto (A : On l Z n0 own bytes maxL ret R p e s m args below meth c T h k n)  {o : Int} (hd : decode bytes pc = .ok (.goto o, 3))  (ho : 0 ≤ (pc : Int) + o) (hp : ((pc : Int) + o).toNat = pc') (K : Wp p e below s n0 ck cs Q (T.setTop (mkF m pc' Ls st))) : Wp p e below s n0 ck cs Q (T.setTop (mkF m pc Ls st)) := by
  obtain ⟨locs, X, N, eT, hx, hZ, hby, hml, hown, hret, hlk, hsz⟩ := A
  exact K.goo fun t q => XS.goto X.here hx rfl (pc0 := pc) rfl (hb hby hd) ho hp q
theorem s_ifY (A : On l Z n0 own bytes maxL ret R p e s m args below meth c T h k n) {cd : ClassFile.Cond} {x : Int32} {o : Int} (hd : decode bytes pc = .ok (.ifCond cd o, 3)) (hc : ifCond.holds cd x = true) (ho : 0 ≤ (pc : Int) + o) (hp : ((pc : Int) + o).toNat = pc') (K : Wp p e below s n0 ck cs Q (T.setTop (mkF m pc' Ls st))) : Wp p e below s n0 ck cs Q (T.setTop (mkF m pc Ls (.int x :: st))) := by
  obtain ⟨locs, X, N, eT, hx, hZ, hby, hml, hown, hret, hlk, hsz⟩ := A
  exact K.goo fun t q => XS.ifYes X.here hx rfl (pc0 := pc) rfl (hb hby hd) rfl hc ho hp q
theorem s_icmpY (A : On l Z n0 own bytes maxL ret R p e s m args below meth c T h k n) {cd : ClassFile.Cond} {x y : Int32} {o : Int} (hd : decode bytes pc = .ok (.if_icmp cd o, 3)) (hc : if_icmp.holds cd x y = true) (ho : 0 ≤ (pc : Int) + o) (hp : ((pc : Int) + o).toNat = pc') (K : Wp p e below s n0 ck cs Q (T.setTop (mkF m pc' Ls st))) : Wp p e below s n0 ck cs Q (T.setTop (mkF m pc Ls (.int y :: .int x :: st))) := by
  obtain ⟨locs, X, N, eT, hx, hZ, hby, hml, hown, hret, hlk, hsz⟩ := A
  exact K.goo fun t q => XS.icmpYes X.here hx rfl (pc0 := pc) rfl (hb hby hd) rfl hc ho hp q
theorem s_ifnullY (A : On l Z n0 own bytes maxL ret R p e s m args below meth c T h k n)  {o : Int} (hd : decode bytes pc = .ok (.ifnull o, 3))  (ho : 0 ≤ (pc : Int) + o) (hp : ((pc : Int) + o).toNat = pc') (K : Wp p e below s n0 ck cs Q (T.setTop (mkF m pc' Ls st))) : Wp p e below s n0 ck cs Q (T.setTop (mkF m pc Ls (.null :: st))) := by
  obtain ⟨locs, X, N, eT, hx, hZ, hby, hml, hown, hret, hlk, hsz⟩ := A
  exact K.goo fun t q => XS.ifnullYes X.here hx rfl (pc0 := pc) rfl (hb hby hd) rfl ho hp q
theorem s_ifnonnullY (A : On l Z n0 own bytes maxL ret R p e s m args below meth c T h k n)  {o : Int} (hd : decode bytes pc = .ok (.ifnonnull o, 3))  (ho : 0 ≤ (pc : Int) + o) (hp : ((pc : Int) + o).toNat = pc') (K : Wp p e below s n0 ck cs Q (T.setTop (mkF m pc' Ls st))) : Wp p e below s n0 ck cs Q (T.setTop (mkF m pc Ls (.ref b :: st))) := by
  obtain ⟨locs, X, N, eT, hx, hZ, hby, hml, hown, hret, hlk, hsz⟩ := A
  exact K.goo fun t q => XS.ifnonnullYes X.here hx rfl (pc0 := pc) rfl (hb hby hd) rfl ho hp q
theorem s_acmpY (A : On l Z n0 own bytes maxL ret R p e s m args below meth c T h k n) {cd : ACond} {o : Int} (hd : decode bytes pc = .ok (.if_acmp cd o, 3)) (hv : v.isRef = true) (hw : w.isRef = true) (hc : XT.acmp cd v w = true) (ho : 0 ≤ (pc : Int) + o) (hp : ((pc : Int) + o).toNat = pc') (K : Wp p e below s n0 ck cs Q (T.setTop (mkF m pc' Ls st))) : Wp p e below s n0 ck cs Q (T.setTop (mkF m pc Ls (w :: v :: st))) := by
  obtain ⟨locs, X, N, eT, hx, hZ, hby, hml, hown, hret, hlk, hsz⟩ := A
  exact K.goo fun t q => XT.acmpYes X.here hx rfl (pc0 := pc) rfl (hb hby hd) rfl hv hw hc ho hp q
theorem s_ifN (A : On l Z n0 own bytes maxL ret R p e s m args below meth c T h k n) {cd : ClassFile.Cond} {x : Int32} {o : Int} (hd : decode bytes pc = .ok (.ifCond cd o, 3)) (hp : pc + 3 = pc') (hc : ifCond.holds cd x = false) (K : Wp p e below s n0 ck cs Q (T.setTop (mkF m pc' Ls st))) : Wp p e below s n0 ck cs Q (T.setTop (mkF m pc Ls (.int x :: st))) := by
  obtain ⟨locs, X, N, eT, hx, hZ, hby, hml, hown, hret, hlk, hsz⟩ := A
  subst hp
  exact K.goo fun t q => XS.ifNo X.here hx rfl (hb hby hd) rfl hc q
theorem s_icmpN (A : On l Z n0 own bytes maxL ret R p e s m args below meth c T h k n) {cd : ClassFile.Cond} {x y : Int32} {o : Int} (hd : decode bytes pc = .ok (.if_icmp cd o, 3)) (hp : pc + 3 = pc') (hc : if_icmp.holds cd x y = false) (K : Wp p e below s n0 ck cs Q (T.setTop (mkF m pc' Ls st))) : Wp p e below s n0 ck cs Q (T.setTop (mkF m pc Ls (.int y :: .int x :: st))) := by
  obtain ⟨locs, X, N, eT, hx, hZ, hby, hml, hown, hret, hlk, hsz⟩ := A
  subst hp
  exact K.goo fun t q => XS.icmpNo X.here hx rfl (hb hby hd) rfl hc q
theorem s_ifnullN (A : On l Z n0 own bytes maxL ret R p e s m args below meth c T h k n) {o : Int} (hd : decode bytes pc = .ok (.ifnull o, 3)) (hp : pc + 3 = pc') (K : Wp p e below s n0 ck cs Q (T.setTop (mkF m pc' Ls st))) : Wp p e below s n0 ck cs Q (T.setTop (mkF m pc Ls (.ref b :: st))) := by
  obtain ⟨locs, X, N, eT, hx, hZ, hby, hml, hown, hret, hlk, hsz⟩ := A
  subst hp
  exact K.goo fun t q => XS.ifnullNo X.here hx rfl (hb hby hd) rfl q
theorem s_ifnonnullN (A : On l Z n0 own bytes maxL ret R p e s m args below meth c T h k n) {o : Int} (hd : decode bytes pc = .ok (.ifnonnull o, 3)) (hp : pc + 3 = pc') (K : Wp p e below s n0 ck cs Q (T.setTop (mkF m pc' Ls st))) : Wp p e below s n0 ck cs Q (T.setTop (mkF m pc Ls (.null :: st))) := by
  obtain ⟨locs, X, N, eT, hx, hZ, hby, hml, hown, hret, hlk, hsz⟩ := A
  subst hp
  exact K.goo fun t q => XS.ifnonnullNo X.here hx rfl (hb hby hd) rfl q
theorem s_acmpN (A : On l Z n0 own bytes maxL ret R p e s m args below meth c T h k n) {cd : ACond} {o : Int} (hd : decode bytes pc = .ok (.if_acmp cd o, 3)) (hp : pc + 3 = pc') (hv : v.isRef = true) (hw : w.isRef = true) (hc : XT.acmp cd v w = false) (K : Wp p e below s n0 ck cs Q (T.setTop (mkF m pc' Ls st))) : Wp p e below s n0 ck cs Q (T.setTop (mkF m pc Ls (w :: v :: st))) := by
  obtain ⟨locs, X, N, eT, hx, hZ, hby, hml, hown, hret, hlk, hsz⟩ := A
  subst hp
  exact K.goo fun t q => XT.acmpNo X.here hx rfl (hb hby hd) rfl hv hw hc q
theorem s_ldcInt (A : On l Z n0 own bytes maxL ret R p e s m args below meth c T h k n) {i : Nat} {z : Int32} (hd : decode bytes pc = .ok (.ldc i, 2)) (hp : pc + 2 = pc') (w0 : (Cond.constant own i z).before a0 Z = true) (K : Wp p e below s n0 ck cs Q (T.setTop (mkF m pc' Ls (.int z :: st)))) : Wp p e below s n0 ck cs Q (T.setTop (mkF m pc Ls st)) := by
  obtain ⟨locs, X, N, eT, hx, hZ, hby, hml, hown, hret, hlk, hsz⟩ := A
  subst hp
  exact K.goo fun t q => X.ldcInt hx hown (mvT hZ w0) (g := mkF m pc Ls st) rfl (hb hby hd) t q
theorem s_ldcwInt (A : On l Z n0 own bytes maxL ret R p e s m args below meth c T h k n) {i : Nat} {z : Int32} (hd : decode bytes pc = .ok (.ldc_w i, 3)) (hp : pc + 3 = pc') (w0 : (Cond.constant own i z).before a0 Z = true) (K : Wp p e below s n0 ck cs Q (T.setTop (mkF m pc' Ls (.int z :: st)))) : Wp p e below s n0 ck cs Q (T.setTop (mkF m pc Ls st)) := by
  obtain ⟨locs, X, N, eT, hx, hZ, hby, hml, hown, hret, hlk, hsz⟩ := A
  subst hp
  exact K.goo fun t q => X.ldcwInt hx hown (mvT hZ w0) (g := mkF m pc Ls st) rfl (hb hby hd) t q
theorem s_ldc2Long (A : On l Z n0 own bytes maxL ret R p e s m args below meth c T h k n) {i : Nat} {z : Int64} (hd : decode bytes pc = .ok (.ldc2_w i, 3)) (hp : pc + 3 = pc') (w0 : (Cond.constantLong own i z).before a0 Z = true) (K : Wp p e below s n0 ck cs Q (T.setTop (mkF m pc' Ls (.long z :: st)))) : Wp p e below s n0 ck cs Q (T.setTop (mkF m pc Ls st)) := by
  obtain ⟨locs, X, N, eT, hx, hZ, hby, hml, hown, hret, hlk, hsz⟩ := A
  subst hp
  exact K.goo fun t q => X.ldc2Long hx hown (mvT hZ w0) (g := mkF m pc Ls st) rfl (hb hby hd) t q
theorem idx_ok {j : Int32} {i : Nat} (hj : j.toInt = (i : Int)) : j.toNatClampNeg = i := by show j.toInt.toNat = i; omega
theorem idx_in' {j : Int32} {i : Nat} {N : Nat} (hj : j.toInt = (i : Int)) (hi : i < N) : ¬ (j < 0 ∨ N ≤ j.toNatClampNeg) := by
  rw [idx_ok hj, Int32.lt_iff_toInt_lt, hj]
  have : (0 : Int32).toInt = 0 := by decide
  omega
theorem s_getfield (A : On l Z n0 own bytes maxL ret R p e s m args below meth c T h k n) {index : Nat} {R0 O f d host : String} (w0 : (Cond.fieldLink own index R0 f d).before a0 Z = true ∨ (Cond.fieldLinkNest own index R0 f d host).before a0 Z = true) (via : Via Z R0 O f d) (F : Fld Z h a O f d v) (hd : decode bytes pc = .ok (.getfield index, 3)) (hp : pc + 3 = pc') (K : ∀ T' , On l Z n0 own bytes maxL ret R p e s m args below meth c T' h k n → Wp p e below s n0 ck cs Q (T'.setTop (mkF m pc' Ls (v :: st)))) : Wp p e below s n0 ck cs Q (T.setTop (mkF m pc Ls (.ref a :: st))) := by
  obtain ⟨locs, X, N, eT, hx, hZ, hby, hml, hown, hret, hlk, hsz⟩ := A
  subst hp
  obtain ⟨T', X', e', q⟩ := getF X hx hZ hown w0 via eT F (g := mkF m pc Ls (.ref a :: st)) rfl rfl (hb hby hd)
  exact (K T' ⟨_, X', N, e', hx, hZ, hby, hml, hown, hret, hlk, hsz⟩).goo q
theorem s_getstatic (A : On l Z n0 own bytes maxL ret R p e s m args below meth c T h k n) {index : Nat} {R0 O f d host : String} (w0 : (Cond.fieldLink own index R0 f d).before a0 Z = true ∨ (Cond.fieldLinkNest own index R0 f d host).before a0 Z = true) (via : Via Z R0 O f d) (F : Sta Z h O f d v) (hd : decode bytes pc = .ok (.getstatic index, 3)) (hp : pc + 3 = pc') (K : ∀ T' , On l Z n0 own bytes maxL ret R p e s m args below meth c T' h k n → Wp p e below s n0 ck cs Q (T'.setTop (mkF m pc' Ls (v :: st)))) : Wp p e below s n0 ck cs Q (T.setTop (mkF m pc Ls st)) := by
  obtain ⟨locs, X, N, eT, hx, hZ, hby, hml, hown, hret, hlk, hsz⟩ := A
  subst hp
  obtain ⟨T', X', e', q⟩ := getS2 X hx hZ hown w0 via eT F (g := mkF m pc Ls st) rfl (hb hby hd)
  exact (K T' ⟨_, X', N, e', hx, hZ, hby, hml, hown, hret, hlk, hsz⟩).goo q
theorem s_putfield (A : On l Z n0 own bytes maxL ret R p e s m args below meth c T h k n) {index kk : Nat} {R0 O f d host C : String} (w0 : (Cond.fieldLink own index R0 f d).before a0 Z = true ∨ (Cond.fieldLinkNest own index R0 f d host).before a0 Z = true) (via : Via Z R0 O f d) (F : Fld Z h a O f d w) (E : Exa Z h a C) (L : (Cond.lays C O f d).before a0 Z = true ∨ ((Cond.laysFinal C O f d).before a0 Z = true ∧ own = O ∧ meth.name = "<init>")) (wi : (Cond.instantiable C kk).before a0 Z = true) (hty : parseFieldDescriptor d = some ty) (hnar : narrow ty v = v) (hfit : fits ty v = true) (ha : n0 ≤ a) (hd : decode bytes pc = .ok (.putfield index, 3)) (hp : pc + 3 = pc') (K : ∀ T' h', On l Z n0 own bytes maxL ret R p e s m args below meth c T' h' k n → Wr h h' a (Jvm.RoadKit.slotOf Z O f d) v → Wp p e below s n0 ck cs Q (T'.setTop (mkF m pc' Ls st))) : Wp p e below s n0 ck cs Q (T.setTop (mkF m pc Ls (v :: .ref a :: st))) := by
  obtain ⟨locs, X, N, eT, hx, hZ, hby, hml, hown, hret, hlk, hsz⟩ := A
  subst hp
  obtain ⟨T', h', X', e', W, q⟩ := putF X hx hZ hown w0 via eT F E L wi hty hnar hfit (g := mkF m pc Ls (v :: .ref a :: st)) rfl rfl (hb hby hd)
  exact (K T' h' ⟨_, X', Fr.snoc X' N ha, e', hx, hZ, hby, hml, hown, hret, hlk, hsz⟩ W).goo q
theorem s_putfieldN (A : On l Z n0 own bytes maxL ret R p e s m args below meth c T h k n) {index kk : Nat} {R0 O f d C : String} {v' : Value} (w0 : (Cond.fieldLink own index R0 f d).before a0 Z = true) (via : Via Z R0 O f d) (F : Fld Z h a O f d w) (E : Exa Z h a C) (L : (Cond.lays C O f d).before a0 Z = true ∨ ((Cond.laysFinal C O f d).before a0 Z = true ∧ own = O ∧ meth.name = "<init>")) (wi : (Cond.instantiable C kk).before a0 Z = true) (hty : parseFieldDescriptor d = some ty) (hnar : narrow ty v = v') (hfit : fits ty v' = true) (ha : n0 ≤ a) (hd : decode bytes pc = .ok (.putfield index, 3)) (hp : pc + 3 = pc') (K : ∀ T' h', On l Z n0 own bytes maxL ret R p e s m args below meth c T' h' k n → Wr h h' a (Jvm.RoadKit.slotOf Z O f d) v' → Wp p e below s n0 ck cs Q (T'.setTop (mkF m pc' Ls st))) : Wp p e below s n0 ck cs Q (T.setTop (mkF m pc Ls (v :: .ref a :: st))) := by
  obtain ⟨locs, X, N, eT, hx, hZ, hby, hml, hown, hret, hlk, hsz⟩ := A
  subst hp
  obtain ⟨T', h', X', e', W, q⟩ := putFN X hx hZ hown w0 via eT F E L wi hty hnar hfit (g := mkF m pc Ls (v :: .ref a :: st)) rfl rfl (hb hby hd)
  exact (K T' h' ⟨_, X', Fr.snoc X' N ha, e', hx, hZ, hby, hml, hown, hret, hlk, hsz⟩ W).goo q
theorem s_new (A : On l Z n0 own bytes maxL ret R p e s m args below meth c T h k n) {index ns : Nat} {C : String} (w0 : (Cond.classLink own index C).before a0 Z = true) (wi : (Cond.instantiable C ns).before a0 Z = true) (wz : (Cond.initialized C).before a0 Z = true) (hc : k + 1 ≤ R.cells) (hs : n + ns ≤ R.slots) (hd : decode bytes pc = .ok (.new index, 3)) (hp : pc + 3 = pc') (K : ∀ T' h' b, On l Z n0 own bytes maxL ret R p e s m args below meth c T' h' (k + 1) (n + ns) → h.size = b → n0 ≤ b → Ext h h' → Exa Z h' b C → (∀ {O nm d : String} {ty : FieldType}, Laid Z a0 C O nm d → parseFieldDescriptor d = some ty → Fld Z h' b O nm d (defaultValue ty)) → Wp p e below s n0 ck cs Q (T'.setTop (mkF m pc' Ls (.ref b :: st)))) : Wp p e below s n0 ck cs Q (T.setTop (mkF m pc Ls st)) := by
  obtain ⟨locs, X, N, eT, hx, hZ, hby, hml, hown, hret, hlk, hsz⟩ := A
  subst hp
  obtain ⟨T', h', X', e', E, A', D, -, q⟩ := newO X hx hZ hown w0 wi wz eT (g := mkF m pc Ls st) rfl (hb hby hd) hc hs
  have hz : n0 ≤ h.size := by rw [← eT]; exact Nat.le_trans hsz X.same.2.1
  exact (K T' h' _ ⟨_, X', N, e', hx, hZ, hby, hml, hown, hret, hlk, hsz⟩ rfl hz E A' D).goo q
theorem s_newarray (A : On l Z n0 own bytes maxL ret R p e s m args below meth c T h k n) {aty : ArrayType} {dv : Value} {z : Int32} {i cap : Nat} (hty : newarray.typeOf aty = ty) (hdv : defaultValue ty = dv) (wa : (Cond.arrayClass ty).before a0 Z = true) (hz : z.toInt = (i : Int)) (hcap : i ≤ cap) (hbig : cap * 8 ≤ 536870912) (hc : k + 1 ≤ R.cells) (hs : n + cap ≤ R.slots) (hd : decode bytes pc = .ok (.newarray aty, 2)) (hp : pc + 2 = pc') (K : ∀ T' h' b, On l Z n0 own bytes maxL ret R p e s m args below meth c T' h' (k + 1) (n + cap) → h.size = b → n0 ≤ b → Ext h h' → AA Z h' b ty (List.replicate i dv) → Wp p e below s n0 ck cs Q (T'.setTop (mkF m pc' Ls (.ref b :: st)))) : Wp p e below s n0 ck cs Q (T.setTop (mkF m pc Ls (.int z :: st))) := by
  obtain ⟨locs, X, N, eT, hx, hZ, hby, hml, hown, hret, hlk, hsz⟩ := A
  subst hp
  subst hty hdv
  have z0 : ¬ z < 0 := by rw [Int32.lt_iff_toInt_lt, hz]; have : (0 : Int32).toInt = 0 := by decide
                          omega
  obtain ⟨T', h', cA, X', e', E, A', q⟩ := newP X hx hZ wa eT (g := mkF m pc Ls (.int z :: st)) rfl (hb hby hd) rfl z0 (cap := cap) (by rw [idx_ok hz]; exact hcap) hbig hc hs
  have hz' : n0 ≤ h.size := by rw [← eT]; exact Nat.le_trans hsz X.same.2.1
  exact (K T' h' _ ⟨_, X', N, e', hx, hZ, hby, hml, hown, hret, hlk, hsz⟩ rfl hz' E (AA.new A' hz)).goo q
theorem s_iastore (A : On l Z n0 own bytes maxL ret R p e s m args below meth c T h k n) {x : Int32} {j : Int32} {i : Nat} (V : AA Z h a .int vs) (hj : j.toInt = (i : Int)) (hi : i < vs.length) (ha : n0 ≤ a) (hd : decode bytes pc = .ok (.iastore, 1)) (hp : pc + 1 = pc') (K : ∀ T' h', On l Z n0 own bytes maxL ret R p e s m args below meth c T' h' k n → Wr h h' a i (.int x) → AA Z h' a .int (vs.set i (.int x)) → Wp p e below s n0 ck cs Q (T'.setTop (mkF m pc' Ls st))) : Wp p e below s n0 ck cs Q (T.setTop (mkF m pc Ls (.int x :: .int j :: .ref a :: st))) := by
  obtain ⟨locs, X, N, eT, hx, hZ, hby, hml, hown, hret, hlk, hsz⟩ := A
  subst hp
  have V0 := V
  obtain ⟨cl, Ar, r1, r2⟩ := V0
  obtain ⟨T', h', X', e', W, q⟩ := stI X hx hZ eT Ar (j := j) (idx_in' hj (by rw [r1]; simpa using hi)) (g := mkF m pc Ls (.int x :: .int j :: .ref a :: st)) rfl rfl (hb hby hd)
  have W' := W
  rw [idx_ok hj] at W'
  exact (K T' h' ⟨_, X', Fr.snoc X' N ha, e', hx, hZ, hby, hml, hown, hret, hlk, hsz⟩ W' (V.set W')).goo q
theorem s_lastore (A : On l Z n0 own bytes maxL ret R p e s m args below meth c T h k n) {x : Int64} {j : Int32} {i : Nat} (V : AA Z h a .long vs) (hj : j.toInt = (i : Int)) (hi : i < vs.length) (ha : n0 ≤ a) (hd : decode bytes pc = .ok (.lastore, 1)) (hp : pc + 1 = pc') (K : ∀ T' h', On l Z n0 own bytes maxL ret R p e s m args below meth c T' h' k n → Wr h h' a i (.long x) → AA Z h' a .long (vs.set i (.long x)) → Wp p e below s n0 ck cs Q (T'.setTop (mkF m pc' Ls st))) : Wp p e below s n0 ck cs Q (T.setTop (mkF m pc Ls (.long x :: .int j :: .ref a :: st))) := by
  obtain ⟨locs, X, N, eT, hx, hZ, hby, hml, hown, hret, hlk, hsz⟩ := A
  subst hp
  have V0 := V
  obtain ⟨cl, Ar, r1, r2⟩ := V0
  obtain ⟨T', h', X', e', W, q⟩ := stJ X hx hZ eT Ar (j := j) (idx_in' hj (by rw [r1]; simpa using hi)) (g := mkF m pc Ls (.long x :: .int j :: .ref a :: st)) rfl rfl (hb hby hd)
  have W' := W
  rw [idx_ok hj] at W'
  exact (K T' h' ⟨_, X', Fr.snoc X' N ha, e', hx, hZ, hby, hml, hown, hret, hlk, hsz⟩ W' (V.set W')).goo q
theorem s_bastore (A : On l Z n0 own bytes maxL ret R p e s m args below meth c T h k n) {x : Int32} {j : Int32} {i : Nat} (V : AA Z h a .byte vs) (hj : j.toInt = (i : Int)) (hi : i < vs.length) (ha : n0 ≤ a) (hd : decode bytes pc = .ok (.bastore, 1)) (hp : pc + 1 = pc') (K : ∀ T' h', On l Z n0 own bytes maxL ret R p e s m args below meth c T' h' k n → Wr h h' a i (.int x.toInt8.toInt32) → AA Z h' a .byte (vs.set i (.int x.toInt8.toInt32)) → Wp p e below s n0 ck cs Q (T'.setTop (mkF m pc' Ls st))) : Wp p e below s n0 ck cs Q (T.setTop (mkF m pc Ls (.int x :: .int j :: .ref a :: st))) := by
  obtain ⟨locs, X, N, eT, hx, hZ, hby, hml, hown, hret, hlk, hsz⟩ := A
  subst hp
  have V0 := V
  obtain ⟨cl, Ar, r1, r2⟩ := V0
  obtain ⟨T', h', X', e', W, q⟩ := stB X hx hZ eT Ar (j := j) (idx_in' hj (by rw [r1]; simpa using hi)) (g := mkF m pc Ls (.int x :: .int j :: .ref a :: st)) rfl rfl (hb hby hd)
  have W' := W
  rw [idx_ok hj] at W'
  exact (K T' h' ⟨_, X', Fr.snoc X' N ha, e', hx, hZ, hby, hml, hown, hret, hlk, hsz⟩ W' (V.set W')).goo q
theorem s_iaload (A : On l Z n0 own bytes maxL ret R p e s m args below meth c T h k n) {j : Int32} {i : Nat} (V : AA Z h a .int vs) (hj : j.toInt = (i : Int)) (hv : vs[i]? = some v) (hd : decode bytes pc = .ok (.iaload, 1)) (hp : pc + 1 = pc') (K : Wp p e below s n0 ck cs Q (T.setTop (mkF m pc' Ls (v :: st)))) : Wp p e below s n0 ck cs Q (T.setTop (mkF m pc Ls (.int j :: .ref a :: st))) := by
  obtain ⟨locs, X, N, eT, hx, hZ, hby, hml, hown, hret, hlk, hsz⟩ := A
  subst hp
  obtain ⟨cl, Ar, r1, r2⟩ := V
  have hi : i < vs.length := (List.getElem?_eq_some_iff.mp hv).1
  exact K.goo fun t q => X.iaload hx (j := j) (v := v) (by rw [eT]; exact Ar.1) (State.isArrayOf_alike hZ.alike Ar.2.1) Ar.2.2 (idx_in' hj (by rw [r1]; simpa using hi)) (by rw [idx_ok hj, r1]; simpa using hv) (g := mkF m pc Ls (.int j :: .ref a :: st)) rfl rfl (hb hby hd) t q
theorem s_laload (A : On l Z n0 own bytes maxL ret R p e s m args below meth c T h k n) {j : Int32} {i : Nat} (V : AA Z h a .long vs) (hj : j.toInt = (i : Int)) (hv : vs[i]? = some v) (hd : decode bytes pc = .ok (.laload, 1)) (hp : pc + 1 = pc') (K : Wp p e below s n0 ck cs Q (T.setTop (mkF m pc' Ls (v :: st)))) : Wp p e below s n0 ck cs Q (T.setTop (mkF m pc Ls (.int j :: .ref a :: st))) := by
  obtain ⟨locs, X, N, eT, hx, hZ, hby, hml, hown, hret, hlk, hsz⟩ := A
  subst hp
  obtain ⟨cl, Ar, r1, r2⟩ := V
  have hi : i < vs.length := (List.getElem?_eq_some_iff.mp hv).1
  exact K.goo fun t q => X.laload hx (j := j) (v := v) (by rw [eT]; exact Ar.1) (State.isArrayOf_alike hZ.alike Ar.2.1) Ar.2.2 (idx_in' hj (by rw [r1]; simpa using hi)) (by rw [idx_ok hj, r1]; simpa using hv) (g := mkF m pc Ls (.int j :: .ref a :: st)) rfl rfl (hb hby hd) t q
theorem s_baload (A : On l Z n0 own bytes maxL ret R p e s m args below meth c T h k n) {j : Int32} {i : Nat} (V : AA Z h a .byte vs) (hj : j.toInt = (i : Int)) (hv : vs[i]? = some v) (hd : decode bytes pc = .ok (.baload, 1)) (hp : pc + 1 = pc') (K : Wp p e below s n0 ck cs Q (T.setTop (mkF m pc' Ls (v :: st)))) : Wp p e below s n0 ck cs Q (T.setTop (mkF m pc Ls (.int j :: .ref a :: st))) := by
  obtain ⟨locs, X, N, eT, hx, hZ, hby, hml, hown, hret, hlk, hsz⟩ := A
  subst hp
  obtain ⟨cl, Ar, r1, r2⟩ := V
  have hi : i < vs.length := (List.getElem?_eq_some_iff.mp hv).1
  exact K.goo fun t q => X.baloadBytes hx (j := j) (v := v) (by rw [eT]; exact Ar.1) (State.isArrayOf_alike hZ.alike Ar.2.1) Ar.2.2 (idx_in' hj (by rw [r1]; simpa using hi)) (by rw [idx_ok hj, r1]; simpa using hv) (g := mkF m pc Ls (.int j :: .ref a :: st)) rfl rfl (hb hby hd) t q
theorem s_arraylength (A : On l Z n0 own bytes maxL ret R p e s m args below meth c T h k n) {z : Int32} (V : AA Z h a ty vs) (hz : z.toInt = (vs.length : Int)) (hd : decode bytes pc = .ok (.arraylength, 1)) (hp : pc + 1 = pc') (K : Wp p e below s n0 ck cs Q (T.setTop (mkF m pc' Ls (.int z :: st)))) : Wp p e below s n0 ck cs Q (T.setTop (mkF m pc Ls (.ref a :: st))) := by
  obtain ⟨locs, X, N, eT, hx, hZ, hby, hml, hown, hret, hlk, hsz⟩ := A
  subst hp
  obtain ⟨cl, Ar, r1, r2⟩ := V
  have q0 : cl.slots.size.toInt32 = z := by
    rw [r1]; apply Int32.toInt_inj.mp; rw [len_toInt (by simpa using r2), hz]; simp
  exact K.goo fun t q => X.arraylength hx (by rw [eT]; exact Ar.1) (State.isArrayOf_alike hZ.alike Ar.2.1) (g := mkF m pc Ls (.ref a :: st)) rfl rfl (hb hby hd) t (by rw [q0]; exact q)
theorem s_static (A : On l Z n0 own bytes maxL ret R p e s m args below meth c T h k n) {index : Nat} {y : MethodName} {bytes' : ByteArray} {maxL' : Nat} {ret' : Option FieldType} {rm : Room} {argsL rest : List Value} {Q' : Option Value → Heap → Prop} (M : Met l Z n0 y bytes' maxL' ret' rm argsL.toArray h Q') (wl : (Cond.methodLink own index y).before a0 Z = true) (ws : (Cond.static y).before a0 Z = true) (wz : (Cond.initialized y.cls).before a0 Z = true) (wc : (Cond.code y bytes' maxL' ret').before a0 Z = true) (hy : y.cls ≠ "java/lang/invoke/MethodHandle" ∧ y.cls ≠ "java/lang/invoke/VarHandle") {sig : MethodDescriptor} (hsig : parseMethodDescriptor y.desc = some sig) (hlen : argsL.length = sig.parameters.length) {W : Nat} (hf : rm.frames + 1 ≤ R.frames) (hl : W + (maxL' + 11) + rm.locals ≤ R.locals) (hW : (rest.map fun v => v.category).sum ≤ W) (hc : k + rm.cells ≤ R.cells) (hs : n + rm.slots ≤ R.slots) (hLs : Ls.size = maxL) {stk : List Value} (hst : stk = argsL.reverse ++ rest) (hd : decode bytes pc = .ok (.invokestatic index, 3)) (hp : pc + 3 = pc') (K : ∀ T' h' v, On l Z n0 own bytes maxL ret R p e s m args below meth c T' h' (k + rm.cells) (n + rm.slots) → Q' v h' → Wp p e below s n0 ck cs Q (T'.setTop (mkF m pc' Ls (v.toList ++ rest)))) : Wp p e below s n0 ck cs Q (T.setTop (mkF m pc Ls stk)) := by
  obtain ⟨locs, X, N, eT, hx, hZ, hby, hml, hown, hret, hlk, hsz⟩ := A
  subst hp
  obtain ⟨v, _, ⟨T', L', k', n'⟩, -, X', ⟨Lc, ⟨Nq, hQ⟩, l1, l2, l3⟩, q⟩ := Jvm.LawKit.callS X hx (y := y) hown (mvT hZ wl) (mvT hZ ws) (mvT hZ wz) (mvT hZ wc) hy (backOf (Q := fun v h L => Fr n0 L ∧ Q' v h) (W := W) (M []) hZ wc wz hf hl) (g := mkF m pc Ls stk) rfl (by rw [hml]; exact hLs) (argsL := argsL) (rest := rest) (lenOf hsig hlen) hst (by show 2 * 0 + _ ≤ _; simpa using hW) (hb hby hd) (fun _ _ => ⟨rfl, eT, hc, hs⟩)
  dsimp only [Pt.U, Pt.locs, Pt.cells, Pt.slots] at X' l1 l2 l3 q hQ Nq
  subst l1 l2 l3
  exact (K T' T'.heap v ⟨_, X', Fr.app N Nq, rfl, hx, hZ, hby, hml, hown, hret, hlk, hsz⟩ hQ).goo q
theorem s_virtual (A : On l Z n0 own bytes maxL ret R p e s m args below meth c T h k n) {index : Nat} {y : MethodName} {bytes' : ByteArray} {maxL' : Nat} {ret' : Option FieldType} {rm : Room} {argsL rest : List Value} {Q' : Option Value → Heap → Prop} {C : String} {z : MethodName} (E : Exa Z h b C) (M : Met l Z n0 z bytes' maxL' ret' rm (.ref b :: argsL).toArray h Q') (wl : (Cond.methodLink own index y).before a0 Z = true) (wd : (Cond.declares y).before a0 Z = true) (wn : ∀ (args : Array Value) (s : State), Z.Warmed39 s.vm → NotFace s y) (wsel : (Cond.selects C y z).before a0 Z = true) (wim : (Cond.instanceMethod z).before a0 Z = true) (wz : (Cond.initialized z.cls).before a0 Z = true) (wc : (Cond.code z bytes' maxL' ret').before a0 Z = true) (hy : y.cls ≠ "java/lang/invoke/MethodHandle" ∧ y.cls ≠ "java/lang/invoke/VarHandle") {sig : MethodDescriptor} (hsig : parseMethodDescriptor y.desc = some sig) (hlen : argsL.length = sig.parameters.length) {W : Nat} (hf : rm.frames + 1 ≤ R.frames) (hl : W + (maxL' + 11) + rm.locals ≤ R.locals) (hW : (rest.map fun v => v.category).sum ≤ W) (hc : k + rm.cells ≤ R.cells) (hs : n + rm.slots ≤ R.slots) (hLs : Ls.size = maxL) {stk : List Value} (hst : stk = argsL.reverse ++ .ref b :: rest) (hd : decode bytes pc = .ok (.invokevirtual index, 3)) (hp : pc + 3 = pc') (K : ∀ T' h' v, On l Z n0 own bytes maxL ret R p e s m args below meth c T' h' (k + rm.cells) (n + rm.slots) → Q' v h' → Wp p e below s n0 ck cs Q (T'.setTop (mkF m pc' Ls (v.toList ++ rest)))) : Wp p e below s n0 ck cs Q (T.setTop (mkF m pc Ls stk)) := by
  obtain ⟨locs, X, N, eT, hx, hZ, hby, hml, hown, hret, hlk, hsz⟩ := A
  subst hp
  obtain ⟨cq, kq, qa, qb, qc⟩ := isOf hZ eT E
  obtain ⟨v, _, ⟨T', L', k', n'⟩, -, X', ⟨Lc, ⟨Nq, hQ⟩, l1, l2, l3⟩, q⟩ := X.virtualBack hx (y := y) (z := z) hown (mvT hZ wl) (mvT hZ wd) (wn #[] s hZ) (mvT hZ wsel) (mvT hZ wim) hy (backOf (Q := fun v h L => Fr n0 L ∧ Q' v h) (W := W) (M []) hZ wc wz hf hl) qa qc (g := mkF m pc Ls stk) rfl (by rw [hml]; exact hLs) (Steps.refl _) (argsL := argsL) (rest := rest) (lenOf hsig hlen) hst (by show 2 * 0 + _ ≤ _; simpa using hW) (hb hby hd) (fun _ _ => ⟨rfl, eT, hc, hs⟩)
  dsimp only [Pt.U, Pt.locs, Pt.cells, Pt.slots] at X' l1 l2 l3 q hQ Nq
  subst l1 l2 l3
  exact (K T' T'.heap v ⟨_, X', Fr.app N Nq, rfl, hx, hZ, hby, hml, hown, hret, hlk, hsz⟩ hQ).goo (fun t r => q.trans r)
theorem nf_same {y : MethodName} {C : String} (wsel : (Cond.selects y.cls y y).before a0 Z = true) : ∀ (args : Array Value) (s : State), Z.Warmed39 s.vm → NotFace s y := fun args s hZ => notFace_of_selects (args := #[]) (mvT hZ wsel)
theorem s_special (A : On l Z n0 own bytes maxL ret R p e s m args below meth c T h k n) {index : Nat} {y : MethodName} {bytes' : ByteArray} {maxL' : Nat} {rm : Room} {argsL rest : List Value} {Q' : Option Value → Heap → Prop} (M : Met l Z n0 y bytes' maxL' none rm (.ref b :: argsL).toArray h Q') (hy1 : y.name = "<init>") (wl : (Cond.methodLink own index y).before a0 Z = true) (wim : (Cond.instanceMethod y).before a0 Z = true) (wz : (Cond.initialized y.cls).before a0 Z = true) (wc : (Cond.code y bytes' maxL' none).before a0 Z = true) (hy : y.cls ≠ "java/lang/invoke/MethodHandle" ∧ y.cls ≠ "java/lang/invoke/VarHandle") {sig : MethodDescriptor} (hsig : parseMethodDescriptor y.desc = some sig) (hlen : argsL.length = sig.parameters.length) {W : Nat} (hf : rm.frames + 1 ≤ R.frames) (hl : W + (maxL' + 11) + rm.locals ≤ R.locals) (hW : (rest.map fun v => v.category).sum ≤ W) (hc : k + rm.cells ≤ R.cells) (hs : n + rm.slots ≤ R.slots) (hLs : Ls.size = maxL) {stk : List Value} (hst : stk = argsL.reverse ++ .ref b :: rest) (hd : decode bytes pc = .ok (.invokespecial index, 3)) (hp : pc + 3 = pc') (K : ∀ T' h' v, On l Z n0 own bytes maxL ret R p e s m args below meth c T' h' (k + rm.cells) (n + rm.slots) → Q' v h' → Wp p e below s n0 ck cs Q (T'.setTop (mkF m pc' Ls (v.toList ++ rest)))) : Wp p e below s n0 ck cs Q (T.setTop (mkF m pc Ls stk)) := by
  obtain ⟨locs, X, N, eT, hx, hZ, hby, hml, hown, hret, hlk, hsz⟩ := A
  subst hp
  obtain ⟨v, _, ⟨T', L', k', n'⟩, -, X', ⟨Lc, ⟨Nq, hQ⟩, l1, l2, l3⟩, q⟩ := X.specialBack hx (y := y) hy1 hown (mvT hZ wl) (mvT hZ wim) (mvT hZ wc) hy (backOf (Q := fun v h L => Fr n0 L ∧ Q' v h) (W := W) (M []) hZ wc wz hf hl) (g := mkF m pc Ls stk) rfl (by rw [hml]; exact hLs) (Steps.refl _) (a := b) (argsL := argsL) (rest := rest) (lenOf hsig hlen) hst (by show 2 * 0 + _ ≤ _; simpa using hW) (hb hby hd) (fun _ _ => ⟨rfl, eT, hc, hs⟩)
  dsimp only [Pt.U, Pt.locs, Pt.cells, Pt.slots] at X' l1 l2 l3 q hQ Nq
  subst l1 l2 l3
  exact (K T' T'.heap v ⟨_, X', Fr.app N Nq, rfl, hx, hZ, hby, hml, hown, hret, hlk, hsz⟩ hQ).goo (fun t r => q.trans r)
theorem s_private (A : On l Z n0 own bytes maxL ret R p e s m args below meth c T h k n) {index : Nat} {y : MethodName} {bytes' : ByteArray} {maxL' : Nat} {ret' : Option FieldType} {rm : Room} {argsL rest : List Value} {Q' : Option Value → Heap → Prop} {C : String} (E : Exa Z h b C) (M : Met l Z n0 y bytes' maxL' ret' rm (.ref b :: argsL).toArray h Q') (wl : (Cond.methodLink own index y).before a0 Z = true) (wim : (Cond.instanceMethod y).before a0 Z = true) {kk : Nat} (wi : (Cond.instantiable y.cls kk).before a0 Z = true) (wp : (Cond.privateMethod y).before a0 Z = true) (wz : (Cond.initialized y.cls).before a0 Z = true) (wc : (Cond.code y bytes' maxL' ret').before a0 Z = true) (hy : y.cls ≠ "java/lang/invoke/MethodHandle" ∧ y.cls ≠ "java/lang/invoke/VarHandle") {sig : MethodDescriptor} (hsig : parseMethodDescriptor y.desc = some sig) (hlen : argsL.length = sig.parameters.length) {W : Nat} (hf : rm.frames + 1 ≤ R.frames) (hl : W + (maxL' + 11) + rm.locals ≤ R.locals) (hW : (rest.map fun v => v.category).sum ≤ W) (hc : k + rm.cells ≤ R.cells) (hs : n + rm.slots ≤ R.slots) (hLs : Ls.size = maxL) {stk : List Value} (hst : stk = argsL.reverse ++ .ref b :: rest) (hd : decode bytes pc = .ok (.invokevirtual index, 3)) (hp : pc + 3 = pc') (K : ∀ T' h' v, On l Z n0 own bytes maxL ret R p e s m args below meth c T' h' (k + rm.cells) (n + rm.slots) → Q' v h' → Wp p e below s n0 ck cs Q (T'.setTop (mkF m pc' Ls (v.toList ++ rest)))) : Wp p e below s n0 ck cs Q (T.setTop (mkF m pc Ls stk)) := by
  obtain ⟨locs, X, N, eT, hx, hZ, hby, hml, hown, hret, hlk, hsz⟩ := A
  subst hp
  obtain ⟨cq, q0, q1⟩ := E.cell
  obtain ⟨ci, ki, i1, i2, -, i4, -⟩ := Cond.instantiable_spec (show (Cond.instantiable y.cls kk).before args s = true from mvT hZ wi)
  have i5 : ki.isInterface = false := by simp only [Bool.or_eq_false_iff] at i4; exact i4.1
  have hpriv := Cond.privateMethod_at (mvP hZ wp (args := args))
  have hsel := selects_self_of_private (args := args) i1 i2 i5 hpriv (mvT hZ wim) hy
  obtain ⟨v, _, ⟨T', L', k', n'⟩, -, X', ⟨Lc, ⟨Nq, hQ⟩, l1, l2, l3⟩, q⟩ := X.privateBack hx (y := y) hown (mvT hZ wl) (mvT hZ wim) hsel hpriv (mvT hZ wc) hy (backOf (Q := fun v h L => Fr n0 L ∧ Q' v h) (W := W) (M []) hZ wc wz hf hl) (g := mkF m pc Ls stk) rfl (by rw [hml]; exact hLs) (Steps.refl _) (a := b) (by rw [eT]; exact q0) q1 (argsL := argsL) (rest := rest) (lenOf hsig hlen) hst (by show 2 * 0 + _ ≤ _; simpa using hW) (hb hby hd) (fun _ _ => ⟨rfl, eT, hc, hs⟩)
  dsimp only [Pt.U, Pt.locs, Pt.cells, Pt.slots] at X' l1 l2 l3 q hQ Nq
  subst l1 l2 l3
  exact (K T' T'.heap v ⟨_, X', Fr.app N Nq, rfl, hx, hZ, hby, hml, hown, hret, hlk, hsz⟩ hQ).goo (fun t r => q.trans r)
theorem s_initO (A : On l Z n0 own bytes maxL ret R p e s m args below meth c T h k n) {index : Nat} (w1 : (Cond.methodLink own index Lib.objectInit).before a0 Z = true) (w2 : (Cond.instanceMethod Lib.objectInit).before a0 Z = true) (w3 : (Cond.code Lib.objectInit ⟨#[0xb1]⟩ 1 none).before a0 Z = true) {W : Nat} (hf : 1 ≤ R.frames) (hW : (st.map fun v => v.category).sum ≤ W) (hl : W + 12 ≤ R.locals) (hLs : Ls.size = maxL) (hd : decode bytes pc = .ok (.invokespecial index, 3)) (hp : pc + 3 = pc') (K : ∀ T', On l Z n0 own bytes maxL ret R p e s m args below meth c T' h k n → Wp p e below s n0 ck cs Q (T'.setTop (mkF m pc' Ls st))) : Wp p e below s n0 ck cs Q (T.setTop (mkF m pc Ls (.ref a :: st))) := by
  obtain ⟨locs, X, N, eT, hx, hZ, hby, hml, hown, hret, hlk, hsz⟩ := A
  subst hp
  obtain ⟨T', X', e', q⟩ := initO X hx hZ hown w1 w2 w3 eT (g := mkF m pc Ls (.ref a :: st)) rfl (by rw [hml]; exact hLs) rfl (hb hby hd) hf (W := W) (by show 2 * 0 + _ ≤ _; simpa using hW) hl
  exact (K T' ⟨_, X', N, e', hx, hZ, hby, hml, hown, hret, hlk, hsz⟩).goo q
theorem AA.arv (F : AA Z h a ty vs) (fit : ∀ v ∈ vs, fits ty v = true) (dv : Value) : ∃ (kc : ClassId) (z : Int32), z.toInt = (vs.length : Int) ∧ Arv Z h a kc ty z vs dv := by
  obtain ⟨c, A, r1, r2⟩ := F
  have ez : vs.length.toInt32.toInt = (vs.length : Int) := len_toInt r2
  have es : c.slots.size = vs.length := by rw [r1]; simp
  refine ⟨c.cls, vs.length.toInt32, ez, c, A, rfl, ?_, ?_, ?_, ?_⟩
  · rw [es, idx_ok ez]
  · rw [Int32.lt_iff_toInt_lt, ez]; have : (0 : Int32).toInt = 0 := by decide
    omega
  · intro q hq
    rw [es] at hq
    rw [r1]; simp [List.getD_eq_getElem?_getD, hq]
  · intro q hq
    rw [es] at hq
    have : vs.getD q dv = vs[q] := by simp [List.getD_eq_getElem?_getD, hq]
    rw [this]; exact fit _ (List.getElem_mem hq)
theorem aa_of_arv {kc : ClassId} {z : Int32} {dv : Value} (F : Arv Z h a kc ty z vs dv) (hl : z.toInt = (vs.length : Int)) : AA Z h a ty vs := by
  obtain ⟨c, A, q, S, N, H, G⟩ := F
  rw [idx_ok hl] at S
  refine ⟨c, A, ?_, ?_⟩
  · apply Array.ext
    · simp [S]
    · intro i h1 h2
      have := H i h1
      rw [Array.getElem?_eq_getElem h1] at this
      have h3 : i < vs.length := by simpa using h2
      simpa [List.getD_eq_getElem?_getD, h3] using this
  · have := z.toInt_lt; omega
theorem range_map (vs : List Value) (dv : Value) (i N : Nat) (hb : i + N ≤ vs.length) : (List.range N).map (fun q => vs.getD (i + q) dv) = (vs.drop i).take N := by
  apply List.ext_getElem
  · simp; omega
  · intro q h1 h2
    have h3 : q < N := by simpa using h1
    have h4 : i + q < vs.length := by omega
    simp [List.getD_eq_getElem?_getD, h4]
theorem s_arraycopy (A : On l Z n0 own bytes maxL ret R p e s m args below meth c T h k n) {index : Nat} {vd : List Value} {sp dp nn : Int32} {i j cnt : Nat} (w1 : (Cond.methodLink own index Jvm.Stand.acN).before a0 Z = true) (w2 : (Cond.native Jvm.Stand.acN).before a0 Z = true) (w3 : (Cond.static Jvm.Stand.acN).before a0 Z = true) (w4 : (Cond.initialized "java/lang/System").before a0 Z = true) (V : AA Z h a ty vs) (V' : AA Z h b ty vd) (fit : ∀ v ∈ vs, fits ty v = true) (fit' : ∀ v ∈ vd, fits ty v = true) (hpr : refKind ty = false) (hsp : sp.toInt = (i : Int)) (hdp : dp.toInt = (j : Int)) (hnn : nn.toInt = (cnt : Int)) (h4 : i + cnt ≤ vs.length) (h5 : j + cnt ≤ vd.length) (ge : n0 ≤ b) {W : Nat} (hf : 1 ≤ R.frames) (hW : (st.map fun v => v.category).sum ≤ W) (hlo : W + (nativeFrameWords "java/lang/System" "arraycopy" 5 + 11) ≤ R.locals) (hLs : Ls.size = maxL) (hd : decode bytes pc = .ok (.invokestatic index, 3)) (hp : pc + 3 = pc') (K : ∀ T' h', On l Z n0 own bytes maxL ret R p e s m args below meth c T' h' k n → Keep h h' [b] → AA Z h' b ty (vd.take j ++ (vs.drop i).take cnt ++ vd.drop (j + cnt)) → Wp p e below s n0 ck cs Q (T'.setTop (mkF m pc' Ls st))) : Wp p e below s n0 ck cs Q (T.setTop (mkF m pc Ls (.int nn :: .int dp :: .ref b :: .int sp :: .ref a :: st))) := by
  obtain ⟨locs, X, N, eT, hx, hZ, hby, hml, hown, hret, hlk, hsz⟩ := A
  subst hp
  obtain ⟨k1, z1, ez1, A1⟩ := V.arv fit .null
  obtain ⟨k2, z2, ez2, A2⟩ := V'.arv fit' .null
  have neg : ∀ {x : Int32} {q : Nat}, x.toInt = (q : Int) → ¬ x < 0 := fun {x q} hq => by
    rw [Int32.lt_iff_toInt_lt, hq]; have : (0 : Int32).toInt = 0 := by decide
    omega
  obtain ⟨T', h', L, X', e', N', K', A', q⟩ := cpA X hx hZ hown w1 w2 w3 w4 eT A1 A2 (us := (vs.drop i).take cnt) (sp := sp) (dp := dp) (nn := nn) (Or.inl ⟨rfl, hpr⟩) (neg hsp) (neg hdp) (neg hnn) (by rw [idx_ok hsp, idx_ok hnn, idx_ok ez1]; exact h4) (by rw [idx_ok hdp, idx_ok hnn, idx_ok ez2]; exact h5) (by rw [idx_ok hsp, idx_ok hnn]; exact (range_map vs _ i cnt h4).symm) (by rw [idx_ok hdp, idx_ok hnn]; exact h5) N ge (g := mkF m pc Ls (.int nn :: .int dp :: .ref b :: .int sp :: .ref a :: st)) rfl (by rw [hml]; exact hLs) rfl (hb hby hd) hf (W := W) (by show 2 * 0 + _ ≤ _; simpa using hW) hlo
  rw [idx_ok hdp, idx_ok hnn] at A'
  exact (K T' h' ⟨L, X', N', e', hx, hZ, hby, hml, hown, hret, hlk, hsz⟩ K' (aa_of_arv A' (by rw [ez2]; simp; omega))).goo q
theorem r_void (A : On l Z n0 own bytes maxL ret R p e s m args below meth c T h k n) (hr : ret = none) (hd : decode bytes pc = .ok (.return_, 1)) (hk : k ≤ ck) (hn : n ≤ cs) (q : Q none h) : Wp p e below s n0 ck cs Q (T.setTop (mkF m pc Ls [])) := by
  obtain ⟨locs, X, N, eT, hx, hZ, hby, hml, hown, hret, hlk, hsz⟩ := A
  have hR : meth.sig.returnType = none := hret.trans hr
  obtain ⟨fs, h1, hrun, hended, hW, hsame⟩ := X.leave (v := none) (fun _ => rfl) hlk
  exact ⟨_, _, X.returnOut hx hR (hb hby hd) h1, hrun, hended, _, _, rfl, ⟨N, by show Q none T.heap; rw [eT]; exact q⟩, ⟨_, rfl⟩, hW, hsame.mono hk hn⟩
theorem r_val (A : On l Z n0 own bytes maxL ret R p e s m args below meth c T h k n) {i : Instr} {t : FieldType} (hr : ret = some t) (hn0 : narrow t v = v) (hi : (i = .ireturn ∧ (t = .int ∨ t = .boolean ∨ t = .byte ∨ t = .char ∨ t = .short) ∧ ∃ z, v = .int z) ∨ (i = .lreturn ∧ t = .long ∧ ∃ z, v = .long z) ∨ (i = .dreturn ∧ t = .double ∧ ∃ z, v = .double z) ∨ (i = .freturn ∧ t = .float ∧ ∃ z, v = .float z) ∨ (i = .areturn ∧ t.isReference = true ∧ v.isRef = true)) (hd : decode bytes pc = .ok (i, 1)) (hk : k ≤ ck) (hn : n ≤ cs) (q : Q (some v) h) : Wp p e below s n0 ck cs Q (T.setTop (mkF m pc Ls (v :: st))) := by
  obtain ⟨locs, X, N, eT, hx, hZ, hby, hml, hown, hret, hlk, hsz⟩ := A
  have hR : meth.sig.returnType = some t := hret.trans hr
  obtain ⟨fs, h1, hrun, hended, hW, hsame⟩ := X.leave (v := some v) (fun z => by rw [hR] at z; cases z) hlk
  exact ⟨_, _, retOut X hx hR hn0 hi (hb hby hd) h1, hrun, hended, _, _, rfl, ⟨N, by show Q (some v) T.heap; rw [eT]; exact q⟩, ⟨_, rfl⟩, hW, hsame.mono hk hn⟩
theorem r_int (A : On l Z n0 own bytes maxL ret R p e s m args below meth c T h k n) {z : Int32} (hr : ret = some .int) (hd : decode bytes pc = .ok (.ireturn, 1)) (hk : k ≤ ck) (hn : n ≤ cs) (q : Q (some (.int z)) h) : Wp p e below s n0 ck cs Q (T.setTop (mkF m pc Ls (.int z :: st))) := r_val A hr rfl (Or.inl ⟨rfl, Or.inl rfl, _, rfl⟩) hd hk hn q
theorem r_bool (A : On l Z n0 own bytes maxL ret R p e s m args below meth c T h k n) {z : Int32} (hr : ret = some .boolean) (hz : z = 0 ∨ z = 1) (hd : decode bytes pc = .ok (.ireturn, 1)) (hk : k ≤ ck) (hn : n ≤ cs) (q : Q (some (.int z)) h) : Wp p e below s n0 ck cs Q (T.setTop (mkF m pc Ls (.int z :: st))) := r_val A hr (by rcases hz with rfl | rfl <;> rfl) (Or.inl ⟨rfl, Or.inr (Or.inl rfl), _, rfl⟩) hd hk hn q
theorem r_long (A : On l Z n0 own bytes maxL ret R p e s m args below meth c T h k n) {z : Int64} (hr : ret = some .long) (hd : decode bytes pc = .ok (.lreturn, 1)) (hk : k ≤ ck) (hn : n ≤ cs) (q : Q (some (.long z)) h) : Wp p e below s n0 ck cs Q (T.setTop (mkF m pc Ls (.long z :: st))) := r_val A hr rfl (Or.inr (Or.inl ⟨rfl, rfl, _, rfl⟩)) hd hk hn q
theorem r_ref (A : On l Z n0 own bytes maxL ret R p e s m args below meth c T h k n) {t : FieldType} (hr : ret = some t) (ht : t.isReference = true) (hv : v.isRef = true) (hd : decode bytes pc = .ok (.areturn, 1)) (hk : k ≤ ck) (hn : n ≤ cs) (q : Q (some v) h) : Wp p e below s n0 ck cs Q (T.setTop (mkF m pc Ls (v :: st))) := r_val A hr (by cases t <;> first | rfl | cases ht) (Or.inr (Or.inr (Or.inr (Or.inr ⟨rfl, ht, hv⟩)))) hd hk hn q
end Kit
end Jvm.Ow
namespace Jvm.Pilot.@@N@@
open Jvm Jvm.ClassFile Sem Op Lib Jvm.Free Jvm.Stand Jvm.LawKit Jvm.RoadKit Jvm.Ow Bundle Jvm.Pilot.@@N@@.Jvm.D
theorem d1_0 : decode prog_23_method_9_code 0 = .ok (.iconst 0, 1) := by decide +kernel
theorem d1_1 : decode prog_23_method_9_code 1 = .ok (.istore 4, 2) := by decide +kernel
theorem d1_3 : decode prog_23_method_9_code 3 = .ok (.iload 4, 2) := by decide +kernel
theorem d1_5 : decode prog_23_method_9_code 5 = .ok (.iconst 5, 1) := by decide +kernel
theorem d1_6 : decode prog_23_method_9_code 6 = .ok (.if_icmp .ge 27, 3) := by decide +kernel
theorem d1_9 : decode prog_23_method_9_code 9 = .ok (.aload_n 0, 1) := by decide +kernel
theorem d1_10 : decode prog_23_method_9_code 10 = .ok (.iload 4, 2) := by decide +kernel
theorem d1_12 : decode prog_23_method_9_code 12 = .ok (.dup2, 1) := by decide +kernel
theorem d1_13 : decode prog_23_method_9_code 13 = .ok (.laload, 1) := by decide +kernel
theorem d1_14 : decode prog_23_method_9_code 14 = .ok (.aload_n 0, 1) := by decide +kernel
theorem d1_15 : decode prog_23_method_9_code 15 = .ok (.iload 4, 2) := by decide +kernel
theorem d1_17 : decode prog_23_method_9_code 17 = .ok (.laload, 1) := by decide +kernel
theorem d1_18 : decode prog_23_method_9_code 18 = .ok (.aload_n 1, 1) := by decide +kernel
theorem d1_19 : decode prog_23_method_9_code 19 = .ok (.iload 4, 2) := by decide +kernel
theorem d1_21 : decode prog_23_method_9_code 21 = .ok (.laload, 1) := by decide +kernel
theorem d1_22 : decode prog_23_method_9_code 22 = .ok (.lxor, 1) := by decide +kernel
theorem d1_23 : decode prog_23_method_9_code 23 = .ok (.lload_n 2, 1) := by decide +kernel
theorem d1_24 : decode prog_23_method_9_code 24 = .ok (.land, 1) := by decide +kernel
theorem d1_25 : decode prog_23_method_9_code 25 = .ok (.lxor, 1) := by decide +kernel
theorem d1_26 : decode prog_23_method_9_code 26 = .ok (.lastore, 1) := by decide +kernel
theorem d1_27 : decode prog_23_method_9_code 27 = .ok (.iinc 4 1, 3) := by decide +kernel
theorem d1_30 : decode prog_23_method_9_code 30 = .ok (.goto (-27), 3) := by decide +kernel
theorem d1_33 : decode prog_23_method_9_code 33 = .ok (.return_, 1) := by decide +kernel
abbrev y0_select : MethodName := ⟨"com/example/assured_delivery/assureddelivery/protocol/Ed25519Field", "select", "([J[JJ)V"⟩
theorem pn_com_example_assured_delivery_assureddelivery_protocol_Ed25519Field : plainName "com/example/assured_delivery/assureddelivery/protocol/Ed25519Field" = true := by first | (simp [plainName, overriddenIn]; done) | decide +kernel
abbrev c0_Ed25519Field : String := "com/example/assured_delivery/assureddelivery/protocol/Ed25519Field"
theorem d2_0 : decode method_2_code 0 = .ok (.aload_n 0, 1) := by decide +kernel
theorem d2_1 : decode method_2_code 1 = .ok (.arraylength, 1) := by decide +kernel
theorem d2_2 : decode method_2_code 2 = .ok (.iconst 5, 1) := by decide +kernel
theorem d2_3 : decode method_2_code 3 = .ok (.if_icmp .ne 50, 3) := by decide +kernel
theorem d2_6 : decode method_2_code 6 = .ok (.aload_n 0, 1) := by decide +kernel
theorem d2_7 : decode method_2_code 7 = .ok (.iconst 0, 1) := by decide +kernel
theorem d2_8 : decode method_2_code 8 = .ok (.laload, 1) := by decide +kernel
theorem d2_9 : decode method_2_code 9 = .ok (.lload_n 1, 1) := by decide +kernel
theorem d2_10 : decode method_2_code 10 = .ok (.lcmp, 1) := by decide +kernel
theorem d2_11 : decode method_2_code 11 = .ok (.ifCond .ne 42, 3) := by decide +kernel
theorem d2_14 : decode method_2_code 14 = .ok (.aload_n 0, 1) := by decide +kernel
theorem d2_15 : decode method_2_code 15 = .ok (.iconst 1, 1) := by decide +kernel
theorem d2_16 : decode method_2_code 16 = .ok (.laload, 1) := by decide +kernel
theorem d2_17 : decode method_2_code 17 = .ok (.lload_n 3, 1) := by decide +kernel
theorem d2_18 : decode method_2_code 18 = .ok (.lcmp, 1) := by decide +kernel
theorem d2_19 : decode method_2_code 19 = .ok (.ifCond .ne 34, 3) := by decide +kernel
theorem d2_22 : decode method_2_code 22 = .ok (.aload_n 0, 1) := by decide +kernel
theorem d2_23 : decode method_2_code 23 = .ok (.iconst 2, 1) := by decide +kernel
theorem d2_24 : decode method_2_code 24 = .ok (.laload, 1) := by decide +kernel
theorem d2_25 : decode method_2_code 25 = .ok (.lload 5, 2) := by decide +kernel
theorem d2_27 : decode method_2_code 27 = .ok (.lcmp, 1) := by decide +kernel
theorem d2_28 : decode method_2_code 28 = .ok (.ifCond .ne 25, 3) := by decide +kernel
theorem d2_31 : decode method_2_code 31 = .ok (.aload_n 0, 1) := by decide +kernel
theorem d2_32 : decode method_2_code 32 = .ok (.iconst 3, 1) := by decide +kernel
theorem d2_33 : decode method_2_code 33 = .ok (.laload, 1) := by decide +kernel
theorem d2_34 : decode method_2_code 34 = .ok (.lload 7, 2) := by decide +kernel
theorem d2_36 : decode method_2_code 36 = .ok (.lcmp, 1) := by decide +kernel
theorem d2_37 : decode method_2_code 37 = .ok (.ifCond .ne 16, 3) := by decide +kernel
theorem d2_40 : decode method_2_code 40 = .ok (.aload_n 0, 1) := by decide +kernel
theorem d2_41 : decode method_2_code 41 = .ok (.iconst 4, 1) := by decide +kernel
theorem d2_42 : decode method_2_code 42 = .ok (.laload, 1) := by decide +kernel
theorem d2_43 : decode method_2_code 43 = .ok (.lload 9, 2) := by decide +kernel
theorem d2_45 : decode method_2_code 45 = .ok (.lcmp, 1) := by decide +kernel
theorem d2_46 : decode method_2_code 46 = .ok (.ifCond .ne 7, 3) := by decide +kernel
theorem d2_49 : decode method_2_code 49 = .ok (.iconst 1, 1) := by decide +kernel
theorem d2_50 : decode method_2_code 50 = .ok (.goto 4, 3) := by decide +kernel
theorem d2_54 : decode method_2_code 54 = .ok (.ireturn, 1) := by decide +kernel
abbrev y1_same : MethodName := ⟨"com/example/assured_delivery/assureddelivery/protocol/Ed25519FieldSelectPinLaw", "same", "([JJJJJJ)Z"⟩
theorem pn_com_example_assured_delivery_assureddelivery_protocol_Ed25519FieldSelectPinLaw : plainName "com/example/assured_delivery/assureddelivery/protocol/Ed25519FieldSelectPinLaw" = true := by first | (simp [plainName, overriddenIn]; done) | decide +kernel
abbrev c1_Ed25519FieldSelectPinLaw : String := "com/example/assured_delivery/assureddelivery/protocol/Ed25519FieldSelectPinLaw"
theorem w0 {Z : State} {a0 : Array Value} (hw : ∀ d ∈ tables_1, d.before a0 Z = true) : (Jvm.Cond.arrayClass Jvm.ClassFile.FieldType.long).before a0 Z = true := hw _ (List.mem_of_getElem? (i := 0) rfl)
theorem w1 {Z : State} {a0 : Array Value} (hw : ∀ d ∈ tables_1, d.before a0 Z = true) : (Jvm.Cond.methodLink "com/example/assured_delivery/assureddelivery/protocol/Ed25519FieldSelectPinLaw" (9 : Nat) ({ cls := "com/example/assured_delivery/assureddelivery/protocol/Ed25519Field", name := "select", desc := "([J[JJ)V" } : Jvm.MethodName)).before a0 Z = true := hw _ (List.mem_of_getElem? (i := 1) rfl)
theorem pd___J_JJ_V : parseMethodDescriptor "([J[JJ)V" = some ⟨[(.array .long), (.array .long), .long], none⟩ := by decide +kernel
theorem w3 {Z : State} {a0 : Array Value} (hw : ∀ d ∈ tables_1, d.before a0 Z = true) : (Jvm.Cond.initialized "com/example/assured_delivery/assureddelivery/protocol/Ed25519Field").before a0 Z = true := hw _ (List.mem_of_getElem? (i := 3) rfl)
theorem w4 {Z : State} {a0 : Array Value} (hw : ∀ d ∈ tables_1, d.before a0 Z = true) : (Jvm.Cond.code ({ cls := "com/example/assured_delivery/assureddelivery/protocol/Ed25519Field", name := "select", desc := "([J[JJ)V" } : Jvm.MethodName) prog_23_method_9_code (5 : Nat) (Option.none : Option Jvm.ClassFile.FieldType)).before a0 Z = true := hw _ (List.mem_of_getElem? (i := 4) rfl)
theorem w2 {Z : State} {a0 : Array Value} (hw : ∀ d ∈ tables_1, d.before a0 Z = true) : (Jvm.Cond.static ({ cls := "com/example/assured_delivery/assureddelivery/protocol/Ed25519Field", name := "select", desc := "([J[JJ)V" } : Jvm.MethodName)).before a0 Z = true := hw _ (List.mem_of_getElem? (i := 2) rfl)
theorem w5 {Z : State} {a0 : Array Value} (hw : ∀ d ∈ tables_1, d.before a0 Z = true) : (Jvm.Cond.methodLink "com/example/assured_delivery/assureddelivery/protocol/Ed25519FieldSelectPinLaw" (15 : Nat) ({ cls := "com/example/assured_delivery/assureddelivery/protocol/Ed25519FieldSelectPinLaw", name := "same", desc := "([JJJJJJ)Z" } : Jvm.MethodName)).before a0 Z = true := hw _ (List.mem_of_getElem? (i := 5) rfl)
theorem pd___JJJJJJ_Z : parseMethodDescriptor "([JJJJJJ)Z" = some ⟨[(.array .long), .long, .long, .long, .long, .long], some .boolean⟩ := by decide +kernel
theorem w7 {Z : State} {a0 : Array Value} (hw : ∀ d ∈ tables_1, d.before a0 Z = true) : (Jvm.Cond.initialized "com/example/assured_delivery/assureddelivery/protocol/Ed25519FieldSelectPinLaw").before a0 Z = true := hw _ (List.mem_of_getElem? (i := 7) rfl)
theorem w8 {Z : State} {a0 : Array Value} (hw : ∀ d ∈ tables_1, d.before a0 Z = true) : (Jvm.Cond.code ({ cls := "com/example/assured_delivery/assureddelivery/protocol/Ed25519FieldSelectPinLaw", name := "same", desc := "([JJJJJJ)Z" } : Jvm.MethodName) method_2_code (11 : Nat) (Option.some Jvm.ClassFile.FieldType.boolean)).before a0 Z = true := hw _ (List.mem_of_getElem? (i := 8) rfl)
theorem w6 {Z : State} {a0 : Array Value} (hw : ∀ d ∈ tables_1, d.before a0 Z = true) : (Jvm.Cond.static ({ cls := "com/example/assured_delivery/assureddelivery/protocol/Ed25519FieldSelectPinLaw", name := "same", desc := "([JJJJJJ)Z" } : Jvm.MethodName)).before a0 Z = true := hw _ (List.mem_of_getElem? (i := 6) rfl)
theorem w9 {Z : State} {a0 : Array Value} (hw : ∀ d ∈ tables_1, d.before a0 Z = true) : (Jvm.Cond.constantLong "com/example/assured_delivery/assureddelivery/protocol/Ed25519FieldSelectPinLaw" (7 : Nat) (-1 : Int64)).before a0 Z = true := hw _ (List.mem_of_getElem? (i := 9) rfl)
theorem own_x0 (x : Int64) : x ^^^ 0 = x := Int64.toBitVec_inj.mp (by simp)
theorem own_xx (x : Int64) : x ^^^ x = 0 := Int64.toBitVec_inj.mp (by simp)
theorem own_am (x : Int64) : x &&& (-1) = x := Int64.toBitVec_inj.mp (by
  rw [Int64.toBitVec_and]
  have : (-1 : Int64).toBitVec = BitVec.allOnes 64 := by decide
  rw [this, BitVec.and_allOnes])
theorem own_a0 (x : Int64) : x &&& 0 = 0 := Int64.toBitVec_inj.mp (by simp)
theorem own_xxy (x y : Int64) : x ^^^ (x ^^^ y) = y := Int64.toBitVec_inj.mp (by
  rw [Int64.toBitVec_xor, Int64.toBitVec_xor, ← BitVec.xor_assoc, BitVec.xor_self, BitVec.zero_xor])
set_option maxRecDepth 65536 in
set_option maxHeartbeats 40000000 in
theorem sel00 (l : Launch) (Z : State) (a0 : Array Value) (hw : ∀ d ∈ tables_1, d.before a0 Z = true) (n0 : Nat) (h0 : Heap) (Z0 : n0 ≤ h0.size) (a b : Addr) (x0 x1 x2 x3 x4 y0 y1 y2 y3 y4 : Int64) (V : AA Z h0 a .long [.long x0, .long x1, .long x2, .long x3, .long x4]) (ga : n0 ≤ a) (U : AA Z h0 b .long [.long y0, .long y1, .long y2, .long y3, .long y4]) (ne : a ≠ b) :
    Met l Z n0 y0_select prog_23_method_9_code 5 (Option.none : Option Jvm.ClassFile.FieldType) ({ frames := 0, cells := 0, slots := 0, locals := 0 } : Room) #[(.ref a), (.ref b), (.long (0 : Int64))] h0 (fun v h => v = none ∧ Keep h0 h [a] ∧ AA Z h a .long [.long x0, .long x1, .long x2, .long x3, .long x4]) := by
  refine met_intro (own := c0_Ed25519Field) (plainFor_of_name pn_com_example_assured_delivery_assureddelivery_protocol_Ed25519Field) rfl Z0 ?_
  intro p e s m below meth c T A hnm
  refine Wp.cast (g' := mkF m 0 #[rv a, rv b, jv 0, S2, U0] []) (by first | (simp [entryFrame, mkF, argsToLocals, Value.category, maxLocals]; done) | rfl) ?_
  refine s_iconst (pc' := 1) (z := (0 : Int32)) A d1_0 rfl (by decide) ?_
  refine s_istore (pc' := 3) (Ls' := #[rv a, rv b, jv 0, S2, iv 0]) A d1_1 rfl rfl ?_
  refine s_iload (pc' := 5) A d1_3 rfl rfl ?_
  refine s_iconst (pc' := 6) (z := (5 : Int32)) A d1_5 rfl (by decide) ?_
  refine s_icmpN (pc' := 9) A d1_6 rfl (by decide) ?_
  refine s_aloadN (pc' := 10) A d1_9 rfl rfl rfl ?_
  refine s_iload (pc' := 12) A d1_10 rfl rfl ?_
  refine s_dup2 (pc' := 13) A d1_12 rfl rfl rfl ?_
  refine s_laload (pc' := 14) (i := 0) (v := (.long x0)) A V (by decide) rfl d1_13 rfl ?_
  refine s_aloadN (pc' := 15) A d1_14 rfl rfl rfl ?_
  refine s_iload (pc' := 17) A d1_15 rfl rfl ?_
  refine s_laload (pc' := 18) (i := 0) (v := (.long x0)) A V (by decide) rfl d1_17 rfl ?_
  refine s_aloadN (pc' := 19) A d1_18 rfl rfl rfl ?_
  refine s_iload (pc' := 21) A d1_19 rfl rfl ?_
  refine s_laload (pc' := 22) (i := 0) (v := (.long y0)) A U (by decide) rfl d1_21 rfl ?_
  refine s_lxor (pc' := 23) (z := (x0 ^^^ y0)) A d1_22 rfl rfl ?_
  refine s_lloadN (pc' := 24) A d1_23 rfl rfl ?_
  refine s_land (pc' := 25) (z := (0 : Int64)) A d1_24 rfl (own_a0 (x0 ^^^ y0)) ?_
  refine s_lxor (pc' := 26) (z := x0) A d1_25 rfl (own_x0 x0) ?_
  refine s_lastore (pc' := 27) (i := 0) A V (by decide) (Nat.le_of_ble_eq_true rfl) ga d1_26 rfl fun T h1 A W2 V3 => ?_
  have V3 : AA Z h1 a .long [.long x0, .long x1, .long x2, .long x3, .long x4] := V3
  refine s_iinc (pc' := 30) (z := (1 : Int32)) (Ls' := #[rv a, rv b, jv 0, S2, iv 1]) A d1_27 rfl rfl (by decide) rfl ?_
  refine s_goto (pc' := 3) A d1_30 (by decide) (by decide) ?_
  refine s_iload (pc' := 5) A d1_3 rfl rfl ?_
  refine s_iconst (pc' := 6) (z := (5 : Int32)) A d1_5 rfl (by decide) ?_
  refine s_icmpN (pc' := 9) A d1_6 rfl (by decide) ?_
  refine s_aloadN (pc' := 10) A d1_9 rfl rfl rfl ?_
  refine s_iload (pc' := 12) A d1_10 rfl rfl ?_
  refine s_dup2 (pc' := 13) A d1_12 rfl rfl rfl ?_
  refine s_laload (pc' := 14) (i := 1) (v := (.long x1)) A V3 (by decide) rfl d1_13 rfl ?_
  refine s_aloadN (pc' := 15) A d1_14 rfl rfl rfl ?_
  refine s_iload (pc' := 17) A d1_15 rfl rfl ?_
  refine s_laload (pc' := 18) (i := 1) (v := (.long x1)) A V3 (by decide) rfl d1_17 rfl ?_
  refine s_aloadN (pc' := 19) A d1_18 rfl rfl rfl ?_
  refine s_iload (pc' := 21) A d1_19 rfl rfl ?_
  have V4 := (U.other W2 (Ne.symm ne))
  refine s_laload (pc' := 22) (i := 1) (v := (.long y1)) A V4 (by decide) rfl d1_21 rfl ?_
  refine s_lxor (pc' := 23) (z := (x1 ^^^ y1)) A d1_22 rfl rfl ?_
  refine s_lloadN (pc' := 24) A d1_23 rfl rfl ?_
  refine s_land (pc' := 25) (z := (0 : Int64)) A d1_24 rfl (own_a0 (x1 ^^^ y1)) ?_
  refine s_lxor (pc' := 26) (z := x1) A d1_25 rfl (own_x0 x1) ?_
  refine s_lastore (pc' := 27) (i := 1) A V3 (by decide) (Nat.le_of_ble_eq_true rfl) ga d1_26 rfl fun T h5 A W6 V7 => ?_
  have V7 : AA Z h5 a .long [.long x0, .long x1, .long x2, .long x3, .long x4] := V7
  refine s_iinc (pc' := 30) (z := (2 : Int32)) (Ls' := #[rv a, rv b, jv 0, S2, iv 2]) A d1_27 rfl rfl (by decide) rfl ?_
  refine s_goto (pc' := 3) A d1_30 (by decide) (by decide) ?_
  refine s_iload (pc' := 5) A d1_3 rfl rfl ?_
  refine s_iconst (pc' := 6) (z := (5 : Int32)) A d1_5 rfl (by decide) ?_
  refine s_icmpN (pc' := 9) A d1_6 rfl (by decide) ?_
  refine s_aloadN (pc' := 10) A d1_9 rfl rfl rfl ?_
  refine s_iload (pc' := 12) A d1_10 rfl rfl ?_
  refine s_dup2 (pc' := 13) A d1_12 rfl rfl rfl ?_
  refine s_laload (pc' := 14) (i := 2) (v := (.long x2)) A V7 (by decide) rfl d1_13 rfl ?_
  refine s_aloadN (pc' := 15) A d1_14 rfl rfl rfl ?_
  refine s_iload (pc' := 17) A d1_15 rfl rfl ?_
  refine s_laload (pc' := 18) (i := 2) (v := (.long x2)) A V7 (by decide) rfl d1_17 rfl ?_
  refine s_aloadN (pc' := 19) A d1_18 rfl rfl rfl ?_
  refine s_iload (pc' := 21) A d1_19 rfl rfl ?_
  have V8 := (V4.other W6 (Ne.symm ne))
  refine s_laload (pc' := 22) (i := 2) (v := (.long y2)) A V8 (by decide) rfl d1_21 rfl ?_
  refine s_lxor (pc' := 23) (z := (x2 ^^^ y2)) A d1_22 rfl rfl ?_
  refine s_lloadN (pc' := 24) A d1_23 rfl rfl ?_
  refine s_land (pc' := 25) (z := (0 : Int64)) A d1_24 rfl (own_a0 (x2 ^^^ y2)) ?_
  refine s_lxor (pc' := 26) (z := x2) A d1_25 rfl (own_x0 x2) ?_
  refine s_lastore (pc' := 27) (i := 2) A V7 (by decide) (Nat.le_of_ble_eq_true rfl) ga d1_26 rfl fun T h9 A W10 V11 => ?_
  have V11 : AA Z h9 a .long [.long x0, .long x1, .long x2, .long x3, .long x4] := V11
  refine s_iinc (pc' := 30) (z := (3 : Int32)) (Ls' := #[rv a, rv b, jv 0, S2, iv 3]) A d1_27 rfl rfl (by decide) rfl ?_
  refine s_goto (pc' := 3) A d1_30 (by decide) (by decide) ?_
  refine s_iload (pc' := 5) A d1_3 rfl rfl ?_
  refine s_iconst (pc' := 6) (z := (5 : Int32)) A d1_5 rfl (by decide) ?_
  refine s_icmpN (pc' := 9) A d1_6 rfl (by decide) ?_
  refine s_aloadN (pc' := 10) A d1_9 rfl rfl rfl ?_
  refine s_iload (pc' := 12) A d1_10 rfl rfl ?_
  refine s_dup2 (pc' := 13) A d1_12 rfl rfl rfl ?_
  refine s_laload (pc' := 14) (i := 3) (v := (.long x3)) A V11 (by decide) rfl d1_13 rfl ?_
  refine s_aloadN (pc' := 15) A d1_14 rfl rfl rfl ?_
  refine s_iload (pc' := 17) A d1_15 rfl rfl ?_
  refine s_laload (pc' := 18) (i := 3) (v := (.long x3)) A V11 (by decide) rfl d1_17 rfl ?_
  refine s_aloadN (pc' := 19) A d1_18 rfl rfl rfl ?_
  refine s_iload (pc' := 21) A d1_19 rfl rfl ?_
  have V12 := (V8.other W10 (Ne.symm ne))
  refine s_laload (pc' := 22) (i := 3) (v := (.long y3)) A V12 (by decide) rfl d1_21 rfl ?_
  refine s_lxor (pc' := 23) (z := (x3 ^^^ y3)) A d1_22 rfl rfl ?_
  refine s_lloadN (pc' := 24) A d1_23 rfl rfl ?_
  refine s_land (pc' := 25) (z := (0 : Int64)) A d1_24 rfl (own_a0 (x3 ^^^ y3)) ?_
  refine s_lxor (pc' := 26) (z := x3) A d1_25 rfl (own_x0 x3) ?_
  refine s_lastore (pc' := 27) (i := 3) A V11 (by decide) (Nat.le_of_ble_eq_true rfl) ga d1_26 rfl fun T h13 A W14 V15 => ?_
  have V15 : AA Z h13 a .long [.long x0, .long x1, .long x2, .long x3, .long x4] := V15
  refine s_iinc (pc' := 30) (z := (4 : Int32)) (Ls' := #[rv a, rv b, jv 0, S2, iv 4]) A d1_27 rfl rfl (by decide) rfl ?_
  refine s_goto (pc' := 3) A d1_30 (by decide) (by decide) ?_
  refine s_iload (pc' := 5) A d1_3 rfl rfl ?_
  refine s_iconst (pc' := 6) (z := (5 : Int32)) A d1_5 rfl (by decide) ?_
  refine s_icmpN (pc' := 9) A d1_6 rfl (by decide) ?_
  refine s_aloadN (pc' := 10) A d1_9 rfl rfl rfl ?_
  refine s_iload (pc' := 12) A d1_10 rfl rfl ?_
  refine s_dup2 (pc' := 13) A d1_12 rfl rfl rfl ?_
  refine s_laload (pc' := 14) (i := 4) (v := (.long x4)) A V15 (by decide) rfl d1_13 rfl ?_
  refine s_aloadN (pc' := 15) A d1_14 rfl rfl rfl ?_
  refine s_iload (pc' := 17) A d1_15 rfl rfl ?_
  refine s_laload (pc' := 18) (i := 4) (v := (.long x4)) A V15 (by decide) rfl d1_17 rfl ?_
  refine s_aloadN (pc' := 19) A d1_18 rfl rfl rfl ?_
  refine s_iload (pc' := 21) A d1_19 rfl rfl ?_
  have V16 := (V12.other W14 (Ne.symm ne))
  refine s_laload (pc' := 22) (i := 4) (v := (.long y4)) A V16 (by decide) rfl d1_21 rfl ?_
  refine s_lxor (pc' := 23) (z := (x4 ^^^ y4)) A d1_22 rfl rfl ?_
  refine s_lloadN (pc' := 24) A d1_23 rfl rfl ?_
  refine s_land (pc' := 25) (z := (0 : Int64)) A d1_24 rfl (own_a0 (x4 ^^^ y4)) ?_
  refine s_lxor (pc' := 26) (z := x4) A d1_25 rfl (own_x0 x4) ?_
  refine s_lastore (pc' := 27) (i := 4) A V15 (by decide) (Nat.le_of_ble_eq_true rfl) ga d1_26 rfl fun T h17 A W18 V19 => ?_
  have V19 : AA Z h17 a .long [.long x0, .long x1, .long x2, .long x3, .long x4] := V19
  refine s_iinc (pc' := 30) (z := (5 : Int32)) (Ls' := #[rv a, rv b, jv 0, S2, iv 5]) A d1_27 rfl rfl (by decide) rfl ?_
  refine s_goto (pc' := 3) A d1_30 (by decide) (by decide) ?_
  refine s_iload (pc' := 5) A d1_3 rfl rfl ?_
  refine s_iconst (pc' := 6) (z := (5 : Int32)) A d1_5 rfl (by decide) ?_
  refine s_icmpY (pc' := 33) A d1_6 (by decide) (by decide) (by decide) ?_
  have K20 := ((((((Keep.refl h0 [a]).wr W2 (Or.inl (List.mem_of_getElem? (i := 0) rfl))).wr W6 (Or.inl (List.mem_of_getElem? (i := 0) rfl))).wr W10 (Or.inl (List.mem_of_getElem? (i := 0) rfl))).wr W14 (Or.inl (List.mem_of_getElem? (i := 0) rfl))).wr W18 (Or.inl (List.mem_of_getElem? (i := 0) rfl)))
  exact r_void A rfl d1_33 (by decide) (by decide) (⟨rfl, K20, V19⟩)
set_option maxRecDepth 65536 in
set_option maxHeartbeats 40000000 in
theorem sel01 (l : Launch) (Z : State) (a0 : Array Value) (hw : ∀ d ∈ tables_1, d.before a0 Z = true) (n0 : Nat) (h0 : Heap) (Z0 : n0 ≤ h0.size) (a b : Addr) (x0 x1 x2 x3 x4 y0 y1 y2 y3 y4 : Int64) (V : AA Z h0 a .long [.long x0, .long x1, .long x2, .long x3, .long x4]) (ga : n0 ≤ a) (U : AA Z h0 b .long [.long y0, .long y1, .long y2, .long y3, .long y4]) (ne : a ≠ b) :
    Met l Z n0 y0_select prog_23_method_9_code 5 (Option.none : Option Jvm.ClassFile.FieldType) ({ frames := 0, cells := 0, slots := 0, locals := 0 } : Room) #[(.ref a), (.ref b), (.long (-1 : Int64))] h0 (fun v h => v = none ∧ Keep h0 h [a] ∧ AA Z h a .long [.long y0, .long y1, .long y2, .long y3, .long y4]) := by
  refine met_intro (own := c0_Ed25519Field) (plainFor_of_name pn_com_example_assured_delivery_assureddelivery_protocol_Ed25519Field) rfl Z0 ?_
  intro p e s m below meth c T A hnm
  refine Wp.cast (g' := mkF m 0 #[rv a, rv b, jv (-1), S2, U0] []) (by first | (simp [entryFrame, mkF, argsToLocals, Value.category, maxLocals]; done) | rfl) ?_
  refine s_iconst (pc' := 1) (z := (0 : Int32)) A d1_0 rfl (by decide) ?_
  refine s_istore (pc' := 3) (Ls' := #[rv a, rv b, jv (-1), S2, iv 0]) A d1_1 rfl rfl ?_
  refine s_iload (pc' := 5) A d1_3 rfl rfl ?_
  refine s_iconst (pc' := 6) (z := (5 : Int32)) A d1_5 rfl (by decide) ?_
  refine s_icmpN (pc' := 9) A d1_6 rfl (by decide) ?_
  refine s_aloadN (pc' := 10) A d1_9 rfl rfl rfl ?_
  refine s_iload (pc' := 12) A d1_10 rfl rfl ?_
  refine s_dup2 (pc' := 13) A d1_12 rfl rfl rfl ?_
  refine s_laload (pc' := 14) (i := 0) (v := (.long x0)) A V (by decide) rfl d1_13 rfl ?_
  refine s_aloadN (pc' := 15) A d1_14 rfl rfl rfl ?_
  refine s_iload (pc' := 17) A d1_15 rfl rfl ?_
  refine s_laload (pc' := 18) (i := 0) (v := (.long x0)) A V (by decide) rfl d1_17 rfl ?_
  refine s_aloadN (pc' := 19) A d1_18 rfl rfl rfl ?_
  refine s_iload (pc' := 21) A d1_19 rfl rfl ?_
  refine s_laload (pc' := 22) (i := 0) (v := (.long y0)) A U (by decide) rfl d1_21 rfl ?_
  refine s_lxor (pc' := 23) (z := (x0 ^^^ y0)) A d1_22 rfl rfl ?_
  refine s_lloadN (pc' := 24) A d1_23 rfl rfl ?_
  refine s_land (pc' := 25) (z := (x0 ^^^ y0)) A d1_24 rfl (own_am (x0 ^^^ y0)) ?_
  refine s_lxor (pc' := 26) (z := y0) A d1_25 rfl (own_xxy x0 y0) ?_
  refine s_lastore (pc' := 27) (i := 0) A V (by decide) (Nat.le_of_ble_eq_true rfl) ga d1_26 rfl fun T h1 A W2 V3 => ?_
  have V3 : AA Z h1 a .long [.long y0, .long x1, .long x2, .long x3, .long x4] := V3
  refine s_iinc (pc' := 30) (z := (1 : Int32)) (Ls' := #[rv a, rv b, jv (-1), S2, iv 1]) A d1_27 rfl rfl (by decide) rfl ?_
  refine s_goto (pc' := 3) A d1_30 (by decide) (by decide) ?_
  refine s_iload (pc' := 5) A d1_3 rfl rfl ?_
  refine s_iconst (pc' := 6) (z := (5 : Int32)) A d1_5 rfl (by decide) ?_
  refine s_icmpN (pc' := 9) A d1_6 rfl (by decide) ?_
  refine s_aloadN (pc' := 10) A d1_9 rfl rfl rfl ?_
  refine s_iload (pc' := 12) A d1_10 rfl rfl ?_
  refine s_dup2 (pc' := 13) A d1_12 rfl rfl rfl ?_
  refine s_laload (pc' := 14) (i := 1) (v := (.long x1)) A V3 (by decide) rfl d1_13 rfl ?_
  refine s_aloadN (pc' := 15) A d1_14 rfl rfl rfl ?_
  refine s_iload (pc' := 17) A d1_15 rfl rfl ?_
  refine s_laload (pc' := 18) (i := 1) (v := (.long x1)) A V3 (by decide) rfl d1_17 rfl ?_
  refine s_aloadN (pc' := 19) A d1_18 rfl rfl rfl ?_
  refine s_iload (pc' := 21) A d1_19 rfl rfl ?_
  have V4 := (U.other W2 (Ne.symm ne))
  refine s_laload (pc' := 22) (i := 1) (v := (.long y1)) A V4 (by decide) rfl d1_21 rfl ?_
  refine s_lxor (pc' := 23) (z := (x1 ^^^ y1)) A d1_22 rfl rfl ?_
  refine s_lloadN (pc' := 24) A d1_23 rfl rfl ?_
  refine s_land (pc' := 25) (z := (x1 ^^^ y1)) A d1_24 rfl (own_am (x1 ^^^ y1)) ?_
  refine s_lxor (pc' := 26) (z := y1) A d1_25 rfl (own_xxy x1 y1) ?_
  refine s_lastore (pc' := 27) (i := 1) A V3 (by decide) (Nat.le_of_ble_eq_true rfl) ga d1_26 rfl fun T h5 A W6 V7 => ?_
  have V7 : AA Z h5 a .long [.long y0, .long y1, .long x2, .long x3, .long x4] := V7
  refine s_iinc (pc' := 30) (z := (2 : Int32)) (Ls' := #[rv a, rv b, jv (-1), S2, iv 2]) A d1_27 rfl rfl (by decide) rfl ?_
  refine s_goto (pc' := 3) A d1_30 (by decide) (by decide) ?_
  refine s_iload (pc' := 5) A d1_3 rfl rfl ?_
  refine s_iconst (pc' := 6) (z := (5 : Int32)) A d1_5 rfl (by decide) ?_
  refine s_icmpN (pc' := 9) A d1_6 rfl (by decide) ?_
  refine s_aloadN (pc' := 10) A d1_9 rfl rfl rfl ?_
  refine s_iload (pc' := 12) A d1_10 rfl rfl ?_
  refine s_dup2 (pc' := 13) A d1_12 rfl rfl rfl ?_
  refine s_laload (pc' := 14) (i := 2) (v := (.long x2)) A V7 (by decide) rfl d1_13 rfl ?_
  refine s_aloadN (pc' := 15) A d1_14 rfl rfl rfl ?_
  refine s_iload (pc' := 17) A d1_15 rfl rfl ?_
  refine s_laload (pc' := 18) (i := 2) (v := (.long x2)) A V7 (by decide) rfl d1_17 rfl ?_
  refine s_aloadN (pc' := 19) A d1_18 rfl rfl rfl ?_
  refine s_iload (pc' := 21) A d1_19 rfl rfl ?_
  have V8 := (V4.other W6 (Ne.symm ne))
  refine s_laload (pc' := 22) (i := 2) (v := (.long y2)) A V8 (by decide) rfl d1_21 rfl ?_
  refine s_lxor (pc' := 23) (z := (x2 ^^^ y2)) A d1_22 rfl rfl ?_
  refine s_lloadN (pc' := 24) A d1_23 rfl rfl ?_
  refine s_land (pc' := 25) (z := (x2 ^^^ y2)) A d1_24 rfl (own_am (x2 ^^^ y2)) ?_
  refine s_lxor (pc' := 26) (z := y2) A d1_25 rfl (own_xxy x2 y2) ?_
  refine s_lastore (pc' := 27) (i := 2) A V7 (by decide) (Nat.le_of_ble_eq_true rfl) ga d1_26 rfl fun T h9 A W10 V11 => ?_
  have V11 : AA Z h9 a .long [.long y0, .long y1, .long y2, .long x3, .long x4] := V11
  refine s_iinc (pc' := 30) (z := (3 : Int32)) (Ls' := #[rv a, rv b, jv (-1), S2, iv 3]) A d1_27 rfl rfl (by decide) rfl ?_
  refine s_goto (pc' := 3) A d1_30 (by decide) (by decide) ?_
  refine s_iload (pc' := 5) A d1_3 rfl rfl ?_
  refine s_iconst (pc' := 6) (z := (5 : Int32)) A d1_5 rfl (by decide) ?_
  refine s_icmpN (pc' := 9) A d1_6 rfl (by decide) ?_
  refine s_aloadN (pc' := 10) A d1_9 rfl rfl rfl ?_
  refine s_iload (pc' := 12) A d1_10 rfl rfl ?_
  refine s_dup2 (pc' := 13) A d1_12 rfl rfl rfl ?_
  refine s_laload (pc' := 14) (i := 3) (v := (.long x3)) A V11 (by decide) rfl d1_13 rfl ?_
  refine s_aloadN (pc' := 15) A d1_14 rfl rfl rfl ?_
  refine s_iload (pc' := 17) A d1_15 rfl rfl ?_
  refine s_laload (pc' := 18) (i := 3) (v := (.long x3)) A V11 (by decide) rfl d1_17 rfl ?_
  refine s_aloadN (pc' := 19) A d1_18 rfl rfl rfl ?_
  refine s_iload (pc' := 21) A d1_19 rfl rfl ?_
  have V12 := (V8.other W10 (Ne.symm ne))
  refine s_laload (pc' := 22) (i := 3) (v := (.long y3)) A V12 (by decide) rfl d1_21 rfl ?_
  refine s_lxor (pc' := 23) (z := (x3 ^^^ y3)) A d1_22 rfl rfl ?_
  refine s_lloadN (pc' := 24) A d1_23 rfl rfl ?_
  refine s_land (pc' := 25) (z := (x3 ^^^ y3)) A d1_24 rfl (own_am (x3 ^^^ y3)) ?_
  refine s_lxor (pc' := 26) (z := y3) A d1_25 rfl (own_xxy x3 y3) ?_
  refine s_lastore (pc' := 27) (i := 3) A V11 (by decide) (Nat.le_of_ble_eq_true rfl) ga d1_26 rfl fun T h13 A W14 V15 => ?_
  have V15 : AA Z h13 a .long [.long y0, .long y1, .long y2, .long y3, .long x4] := V15
  refine s_iinc (pc' := 30) (z := (4 : Int32)) (Ls' := #[rv a, rv b, jv (-1), S2, iv 4]) A d1_27 rfl rfl (by decide) rfl ?_
  refine s_goto (pc' := 3) A d1_30 (by decide) (by decide) ?_
  refine s_iload (pc' := 5) A d1_3 rfl rfl ?_
  refine s_iconst (pc' := 6) (z := (5 : Int32)) A d1_5 rfl (by decide) ?_
  refine s_icmpN (pc' := 9) A d1_6 rfl (by decide) ?_
  refine s_aloadN (pc' := 10) A d1_9 rfl rfl rfl ?_
  refine s_iload (pc' := 12) A d1_10 rfl rfl ?_
  refine s_dup2 (pc' := 13) A d1_12 rfl rfl rfl ?_
  refine s_laload (pc' := 14) (i := 4) (v := (.long x4)) A V15 (by decide) rfl d1_13 rfl ?_
  refine s_aloadN (pc' := 15) A d1_14 rfl rfl rfl ?_
  refine s_iload (pc' := 17) A d1_15 rfl rfl ?_
  refine s_laload (pc' := 18) (i := 4) (v := (.long x4)) A V15 (by decide) rfl d1_17 rfl ?_
  refine s_aloadN (pc' := 19) A d1_18 rfl rfl rfl ?_
  refine s_iload (pc' := 21) A d1_19 rfl rfl ?_
  have V16 := (V12.other W14 (Ne.symm ne))
  refine s_laload (pc' := 22) (i := 4) (v := (.long y4)) A V16 (by decide) rfl d1_21 rfl ?_
  refine s_lxor (pc' := 23) (z := (x4 ^^^ y4)) A d1_22 rfl rfl ?_
  refine s_lloadN (pc' := 24) A d1_23 rfl rfl ?_
  refine s_land (pc' := 25) (z := (x4 ^^^ y4)) A d1_24 rfl (own_am (x4 ^^^ y4)) ?_
  refine s_lxor (pc' := 26) (z := y4) A d1_25 rfl (own_xxy x4 y4) ?_
  refine s_lastore (pc' := 27) (i := 4) A V15 (by decide) (Nat.le_of_ble_eq_true rfl) ga d1_26 rfl fun T h17 A W18 V19 => ?_
  have V19 : AA Z h17 a .long [.long y0, .long y1, .long y2, .long y3, .long y4] := V19
  refine s_iinc (pc' := 30) (z := (5 : Int32)) (Ls' := #[rv a, rv b, jv (-1), S2, iv 5]) A d1_27 rfl rfl (by decide) rfl ?_
  refine s_goto (pc' := 3) A d1_30 (by decide) (by decide) ?_
  refine s_iload (pc' := 5) A d1_3 rfl rfl ?_
  refine s_iconst (pc' := 6) (z := (5 : Int32)) A d1_5 rfl (by decide) ?_
  refine s_icmpY (pc' := 33) A d1_6 (by decide) (by decide) (by decide) ?_
  have K20 := ((((((Keep.refl h0 [a]).wr W2 (Or.inl (List.mem_of_getElem? (i := 0) rfl))).wr W6 (Or.inl (List.mem_of_getElem? (i := 0) rfl))).wr W10 (Or.inl (List.mem_of_getElem? (i := 0) rfl))).wr W14 (Or.inl (List.mem_of_getElem? (i := 0) rfl))).wr W18 (Or.inl (List.mem_of_getElem? (i := 0) rfl)))
  exact r_void A rfl d1_33 (by decide) (by decide) (⟨rfl, K20, V19⟩)
set_option maxRecDepth 65536 in
set_option maxHeartbeats 40000000 in
theorem sel10 (l : Launch) (Z : State) (a0 : Array Value) (hw : ∀ d ∈ tables_1, d.before a0 Z = true) (n0 : Nat) (h0 : Heap) (Z0 : n0 ≤ h0.size) (a b : Addr) (x0 x1 x2 x3 x4 y0 y1 y2 y3 y4 : Int64) (V : AA Z h0 a .long [.long x0, .long x1, .long x2, .long x3, .long x4]) (ga : n0 ≤ a) :
    Met l Z n0 y0_select prog_23_method_9_code 5 (Option.none : Option Jvm.ClassFile.FieldType) ({ frames := 0, cells := 0, slots := 0, locals := 0 } : Room) #[(.ref a), (.ref a), (.long (0 : Int64))] h0 (fun v h => v = none ∧ Keep h0 h [a] ∧ AA Z h a .long [.long x0, .long x1, .long x2, .long x3, .long x4]) := by
  refine met_intro (own := c0_Ed25519Field) (plainFor_of_name pn_com_example_assured_delivery_assureddelivery_protocol_Ed25519Field) rfl Z0 ?_
  intro p e s m below meth c T A hnm
  refine Wp.cast (g' := mkF m 0 #[rv a, rv a, jv 0, S2, U0] []) (by first | (simp [entryFrame, mkF, argsToLocals, Value.category, maxLocals]; done) | rfl) ?_
  refine s_iconst (pc' := 1) (z := (0 : Int32)) A d1_0 rfl (by decide) ?_
  refine s_istore (pc' := 3) (Ls' := #[rv a, rv a, jv 0, S2, iv 0]) A d1_1 rfl rfl ?_
  refine s_iload (pc' := 5) A d1_3 rfl rfl ?_
  refine s_iconst (pc' := 6) (z := (5 : Int32)) A d1_5 rfl (by decide) ?_
  refine s_icmpN (pc' := 9) A d1_6 rfl (by decide) ?_
  refine s_aloadN (pc' := 10) A d1_9 rfl rfl rfl ?_
  refine s_iload (pc' := 12) A d1_10 rfl rfl ?_
  refine s_dup2 (pc' := 13) A d1_12 rfl rfl rfl ?_
  refine s_laload (pc' := 14) (i := 0) (v := (.long x0)) A V (by decide) rfl d1_13 rfl ?_
  refine s_aloadN (pc' := 15) A d1_14 rfl rfl rfl ?_
  refine s_iload (pc' := 17) A d1_15 rfl rfl ?_
  refine s_laload (pc' := 18) (i := 0) (v := (.long x0)) A V (by decide) rfl d1_17 rfl ?_
  refine s_aloadN (pc' := 19) A d1_18 rfl rfl rfl ?_
  refine s_iload (pc' := 21) A d1_19 rfl rfl ?_
  refine s_laload (pc' := 22) (i := 0) (v := (.long x0)) A V (by decide) rfl d1_21 rfl ?_
  refine s_lxor (pc' := 23) (z := (0 : Int64)) A d1_22 rfl (own_xx x0) ?_
  refine s_lloadN (pc' := 24) A d1_23 rfl rfl ?_
  refine s_land (pc' := 25) (z := (0 : Int64)) A d1_24 rfl (by decide) ?_
  refine s_lxor (pc' := 26) (z := x0) A d1_25 rfl (own_x0 x0) ?_
  refine s_lastore (pc' := 27) (i := 0) A V (by decide) (Nat.le_of_ble_eq_true rfl) ga d1_26 rfl fun T h1 A W2 V3 => ?_
  have V3 : AA Z h1 a .long [.long x0, .long x1, .long x2, .long x3, .long x4] := V3
  refine s_iinc (pc' := 30) (z := (1 : Int32)) (Ls' := #[rv a, rv a, jv 0, S2, iv 1]) A d1_27 rfl rfl (by decide) rfl ?_
  refine s_goto (pc' := 3) A d1_30 (by decide) (by decide) ?_
  refine s_iload (pc' := 5) A d1_3 rfl rfl ?_
  refine s_iconst (pc' := 6) (z := (5 : Int32)) A d1_5 rfl (by decide) ?_
  refine s_icmpN (pc' := 9) A d1_6 rfl (by decide) ?_
  refine s_aloadN (pc' := 10) A d1_9 rfl rfl rfl ?_
  refine s_iload (pc' := 12) A d1_10 rfl rfl ?_
  refine s_dup2 (pc' := 13) A d1_12 rfl rfl rfl ?_
  refine s_laload (pc' := 14) (i := 1) (v := (.long x1)) A V3 (by decide) rfl d1_13 rfl ?_
  refine s_aloadN (pc' := 15) A d1_14 rfl rfl rfl ?_
  refine s_iload (pc' := 17) A d1_15 rfl rfl ?_
  refine s_laload (pc' := 18) (i := 1) (v := (.long x1)) A V3 (by decide) rfl d1_17 rfl ?_
  refine s_aloadN (pc' := 19) A d1_18 rfl rfl rfl ?_
  refine s_iload (pc' := 21) A d1_19 rfl rfl ?_
  refine s_laload (pc' := 22) (i := 1) (v := (.long x1)) A V3 (by decide) rfl d1_21 rfl ?_
  refine s_lxor (pc' := 23) (z := (0 : Int64)) A d1_22 rfl (own_xx x1) ?_
  refine s_lloadN (pc' := 24) A d1_23 rfl rfl ?_
  refine s_land (pc' := 25) (z := (0 : Int64)) A d1_24 rfl (by decide) ?_
  refine s_lxor (pc' := 26) (z := x1) A d1_25 rfl (own_x0 x1) ?_
  refine s_lastore (pc' := 27) (i := 1) A V3 (by decide) (Nat.le_of_ble_eq_true rfl) ga d1_26 rfl fun T h4 A W5 V6 => ?_
  have V6 : AA Z h4 a .long [.long x0, .long x1, .long x2, .long x3, .long x4] := V6
  refine s_iinc (pc' := 30) (z := (2 : Int32)) (Ls' := #[rv a, rv a, jv 0, S2, iv 2]) A d1_27 rfl rfl (by decide) rfl ?_
  refine s_goto (pc' := 3) A d1_30 (by decide) (by decide) ?_
  refine s_iload (pc' := 5) A d1_3 rfl rfl ?_
  refine s_iconst (pc' := 6) (z := (5 : Int32)) A d1_5 rfl (by decide) ?_
  refine s_icmpN (pc' := 9) A d1_6 rfl (by decide) ?_
  refine s_aloadN (pc' := 10) A d1_9 rfl rfl rfl ?_
  refine s_iload (pc' := 12) A d1_10 rfl rfl ?_
  refine s_dup2 (pc' := 13) A d1_12 rfl rfl rfl ?_
  refine s_laload (pc' := 14) (i := 2) (v := (.long x2)) A V6 (by decide) rfl d1_13 rfl ?_
  refine s_aloadN (pc' := 15) A d1_14 rfl rfl rfl ?_
  refine s_iload (pc' := 17) A d1_15 rfl rfl ?_
  refine s_laload (pc' := 18) (i := 2) (v := (.long x2)) A V6 (by decide) rfl d1_17 rfl ?_
  refine s_aloadN (pc' := 19) A d1_18 rfl rfl rfl ?_
  refine s_iload (pc' := 21) A d1_19 rfl rfl ?_
  refine s_laload (pc' := 22) (i := 2) (v := (.long x2)) A V6 (by decide) rfl d1_21 rfl ?_
  refine s_lxor (pc' := 23) (z := (0 : Int64)) A d1_22 rfl (own_xx x2) ?_
  refine s_lloadN (pc' := 24) A d1_23 rfl rfl ?_
  refine s_land (pc' := 25) (z := (0 : Int64)) A d1_24 rfl (by decide) ?_
  refine s_lxor (pc' := 26) (z := x2) A d1_25 rfl (own_x0 x2) ?_
  refine s_lastore (pc' := 27) (i := 2) A V6 (by decide) (Nat.le_of_ble_eq_true rfl) ga d1_26 rfl fun T h7 A W8 V9 => ?_
  have V9 : AA Z h7 a .long [.long x0, .long x1, .long x2, .long x3, .long x4] := V9
  refine s_iinc (pc' := 30) (z := (3 : Int32)) (Ls' := #[rv a, rv a, jv 0, S2, iv 3]) A d1_27 rfl rfl (by decide) rfl ?_
  refine s_goto (pc' := 3) A d1_30 (by decide) (by decide) ?_
  refine s_iload (pc' := 5) A d1_3 rfl rfl ?_
  refine s_iconst (pc' := 6) (z := (5 : Int32)) A d1_5 rfl (by decide) ?_
  refine s_icmpN (pc' := 9) A d1_6 rfl (by decide) ?_
  refine s_aloadN (pc' := 10) A d1_9 rfl rfl rfl ?_
  refine s_iload (pc' := 12) A d1_10 rfl rfl ?_
  refine s_dup2 (pc' := 13) A d1_12 rfl rfl rfl ?_
  refine s_laload (pc' := 14) (i := 3) (v := (.long x3)) A V9 (by decide) rfl d1_13 rfl ?_
  refine s_aloadN (pc' := 15) A d1_14 rfl rfl rfl ?_
  refine s_iload (pc' := 17) A d1_15 rfl rfl ?_
  refine s_laload (pc' := 18) (i := 3) (v := (.long x3)) A V9 (by decide) rfl d1_17 rfl ?_
  refine s_aloadN (pc' := 19) A d1_18 rfl rfl rfl ?_
  refine s_iload (pc' := 21) A d1_19 rfl rfl ?_
  refine s_laload (pc' := 22) (i := 3) (v := (.long x3)) A V9 (by decide) rfl d1_21 rfl ?_
  refine s_lxor (pc' := 23) (z := (0 : Int64)) A d1_22 rfl (own_xx x3) ?_
  refine s_lloadN (pc' := 24) A d1_23 rfl rfl ?_
  refine s_land (pc' := 25) (z := (0 : Int64)) A d1_24 rfl (by decide) ?_
  refine s_lxor (pc' := 26) (z := x3) A d1_25 rfl (own_x0 x3) ?_
  refine s_lastore (pc' := 27) (i := 3) A V9 (by decide) (Nat.le_of_ble_eq_true rfl) ga d1_26 rfl fun T h10 A W11 V12 => ?_
  have V12 : AA Z h10 a .long [.long x0, .long x1, .long x2, .long x3, .long x4] := V12
  refine s_iinc (pc' := 30) (z := (4 : Int32)) (Ls' := #[rv a, rv a, jv 0, S2, iv 4]) A d1_27 rfl rfl (by decide) rfl ?_
  refine s_goto (pc' := 3) A d1_30 (by decide) (by decide) ?_
  refine s_iload (pc' := 5) A d1_3 rfl rfl ?_
  refine s_iconst (pc' := 6) (z := (5 : Int32)) A d1_5 rfl (by decide) ?_
  refine s_icmpN (pc' := 9) A d1_6 rfl (by decide) ?_
  refine s_aloadN (pc' := 10) A d1_9 rfl rfl rfl ?_
  refine s_iload (pc' := 12) A d1_10 rfl rfl ?_
  refine s_dup2 (pc' := 13) A d1_12 rfl rfl rfl ?_
  refine s_laload (pc' := 14) (i := 4) (v := (.long x4)) A V12 (by decide) rfl d1_13 rfl ?_
  refine s_aloadN (pc' := 15) A d1_14 rfl rfl rfl ?_
  refine s_iload (pc' := 17) A d1_15 rfl rfl ?_
  refine s_laload (pc' := 18) (i := 4) (v := (.long x4)) A V12 (by decide) rfl d1_17 rfl ?_
  refine s_aloadN (pc' := 19) A d1_18 rfl rfl rfl ?_
  refine s_iload (pc' := 21) A d1_19 rfl rfl ?_
  refine s_laload (pc' := 22) (i := 4) (v := (.long x4)) A V12 (by decide) rfl d1_21 rfl ?_
  refine s_lxor (pc' := 23) (z := (0 : Int64)) A d1_22 rfl (own_xx x4) ?_
  refine s_lloadN (pc' := 24) A d1_23 rfl rfl ?_
  refine s_land (pc' := 25) (z := (0 : Int64)) A d1_24 rfl (by decide) ?_
  refine s_lxor (pc' := 26) (z := x4) A d1_25 rfl (own_x0 x4) ?_
  refine s_lastore (pc' := 27) (i := 4) A V12 (by decide) (Nat.le_of_ble_eq_true rfl) ga d1_26 rfl fun T h13 A W14 V15 => ?_
  have V15 : AA Z h13 a .long [.long x0, .long x1, .long x2, .long x3, .long x4] := V15
  refine s_iinc (pc' := 30) (z := (5 : Int32)) (Ls' := #[rv a, rv a, jv 0, S2, iv 5]) A d1_27 rfl rfl (by decide) rfl ?_
  refine s_goto (pc' := 3) A d1_30 (by decide) (by decide) ?_
  refine s_iload (pc' := 5) A d1_3 rfl rfl ?_
  refine s_iconst (pc' := 6) (z := (5 : Int32)) A d1_5 rfl (by decide) ?_
  refine s_icmpY (pc' := 33) A d1_6 (by decide) (by decide) (by decide) ?_
  have K16 := ((((((Keep.refl h0 [a]).wr W2 (Or.inl (List.mem_of_getElem? (i := 0) rfl))).wr W5 (Or.inl (List.mem_of_getElem? (i := 0) rfl))).wr W8 (Or.inl (List.mem_of_getElem? (i := 0) rfl))).wr W11 (Or.inl (List.mem_of_getElem? (i := 0) rfl))).wr W14 (Or.inl (List.mem_of_getElem? (i := 0) rfl)))
  exact r_void A rfl d1_33 (by decide) (by decide) (⟨rfl, K16, V15⟩)
set_option maxRecDepth 65536 in
set_option maxHeartbeats 40000000 in
theorem sel11 (l : Launch) (Z : State) (a0 : Array Value) (hw : ∀ d ∈ tables_1, d.before a0 Z = true) (n0 : Nat) (h0 : Heap) (Z0 : n0 ≤ h0.size) (a b : Addr) (x0 x1 x2 x3 x4 y0 y1 y2 y3 y4 : Int64) (V : AA Z h0 a .long [.long x0, .long x1, .long x2, .long x3, .long x4]) (ga : n0 ≤ a) :
    Met l Z n0 y0_select prog_23_method_9_code 5 (Option.none : Option Jvm.ClassFile.FieldType) ({ frames := 0, cells := 0, slots := 0, locals := 0 } : Room) #[(.ref a), (.ref a), (.long (-1 : Int64))] h0 (fun v h => v = none ∧ Keep h0 h [a] ∧ AA Z h a .long [.long x0, .long x1, .long x2, .long x3, .long x4]) := by
  refine met_intro (own := c0_Ed25519Field) (plainFor_of_name pn_com_example_assured_delivery_assureddelivery_protocol_Ed25519Field) rfl Z0 ?_
  intro p e s m below meth c T A hnm
  refine Wp.cast (g' := mkF m 0 #[rv a, rv a, jv (-1), S2, U0] []) (by first | (simp [entryFrame, mkF, argsToLocals, Value.category, maxLocals]; done) | rfl) ?_
  refine s_iconst (pc' := 1) (z := (0 : Int32)) A d1_0 rfl (by decide) ?_
  refine s_istore (pc' := 3) (Ls' := #[rv a, rv a, jv (-1), S2, iv 0]) A d1_1 rfl rfl ?_
  refine s_iload (pc' := 5) A d1_3 rfl rfl ?_
  refine s_iconst (pc' := 6) (z := (5 : Int32)) A d1_5 rfl (by decide) ?_
  refine s_icmpN (pc' := 9) A d1_6 rfl (by decide) ?_
  refine s_aloadN (pc' := 10) A d1_9 rfl rfl rfl ?_
  refine s_iload (pc' := 12) A d1_10 rfl rfl ?_
  refine s_dup2 (pc' := 13) A d1_12 rfl rfl rfl ?_
  refine s_laload (pc' := 14) (i := 0) (v := (.long x0)) A V (by decide) rfl d1_13 rfl ?_
  refine s_aloadN (pc' := 15) A d1_14 rfl rfl rfl ?_
  refine s_iload (pc' := 17) A d1_15 rfl rfl ?_
  refine s_laload (pc' := 18) (i := 0) (v := (.long x0)) A V (by decide) rfl d1_17 rfl ?_
  refine s_aloadN (pc' := 19) A d1_18 rfl rfl rfl ?_
  refine s_iload (pc' := 21) A d1_19 rfl rfl ?_
  refine s_laload (pc' := 22) (i := 0) (v := (.long x0)) A V (by decide) rfl d1_21 rfl ?_
  refine s_lxor (pc' := 23) (z := (0 : Int64)) A d1_22 rfl (own_xx x0) ?_
  refine s_lloadN (pc' := 24) A d1_23 rfl rfl ?_
  refine s_land (pc' := 25) (z := (0 : Int64)) A d1_24 rfl (by decide) ?_
  refine s_lxor (pc' := 26) (z := x0) A d1_25 rfl (own_x0 x0) ?_
  refine s_lastore (pc' := 27) (i := 0) A V (by decide) (Nat.le_of_ble_eq_true rfl) ga d1_26 rfl fun T h1 A W2 V3 => ?_
  have V3 : AA Z h1 a .long [.long x0, .long x1, .long x2, .long x3, .long x4] := V3
  refine s_iinc (pc' := 30) (z := (1 : Int32)) (Ls' := #[rv a, rv a, jv (-1), S2, iv 1]) A d1_27 rfl rfl (by decide) rfl ?_
  refine s_goto (pc' := 3) A d1_30 (by decide) (by decide) ?_
  refine s_iload (pc' := 5) A d1_3 rfl rfl ?_
  refine s_iconst (pc' := 6) (z := (5 : Int32)) A d1_5 rfl (by decide) ?_
  refine s_icmpN (pc' := 9) A d1_6 rfl (by decide) ?_
  refine s_aloadN (pc' := 10) A d1_9 rfl rfl rfl ?_
  refine s_iload (pc' := 12) A d1_10 rfl rfl ?_
  refine s_dup2 (pc' := 13) A d1_12 rfl rfl rfl ?_
  refine s_laload (pc' := 14) (i := 1) (v := (.long x1)) A V3 (by decide) rfl d1_13 rfl ?_
  refine s_aloadN (pc' := 15) A d1_14 rfl rfl rfl ?_
  refine s_iload (pc' := 17) A d1_15 rfl rfl ?_
  refine s_laload (pc' := 18) (i := 1) (v := (.long x1)) A V3 (by decide) rfl d1_17 rfl ?_
  refine s_aloadN (pc' := 19) A d1_18 rfl rfl rfl ?_
  refine s_iload (pc' := 21) A d1_19 rfl rfl ?_
  refine s_laload (pc' := 22) (i := 1) (v := (.long x1)) A V3 (by decide) rfl d1_21 rfl ?_
  refine s_lxor (pc' := 23) (z := (0 : Int64)) A d1_22 rfl (own_xx x1) ?_
  refine s_lloadN (pc' := 24) A d1_23 rfl rfl ?_
  refine s_land (pc' := 25) (z := (0 : Int64)) A d1_24 rfl (by decide) ?_
  refine s_lxor (pc' := 26) (z := x1) A d1_25 rfl (own_x0 x1) ?_
  refine s_lastore (pc' := 27) (i := 1) A V3 (by decide) (Nat.le_of_ble_eq_true rfl) ga d1_26 rfl fun T h4 A W5 V6 => ?_
  have V6 : AA Z h4 a .long [.long x0, .long x1, .long x2, .long x3, .long x4] := V6
  refine s_iinc (pc' := 30) (z := (2 : Int32)) (Ls' := #[rv a, rv a, jv (-1), S2, iv 2]) A d1_27 rfl rfl (by decide) rfl ?_
  refine s_goto (pc' := 3) A d1_30 (by decide) (by decide) ?_
  refine s_iload (pc' := 5) A d1_3 rfl rfl ?_
  refine s_iconst (pc' := 6) (z := (5 : Int32)) A d1_5 rfl (by decide) ?_
  refine s_icmpN (pc' := 9) A d1_6 rfl (by decide) ?_
  refine s_aloadN (pc' := 10) A d1_9 rfl rfl rfl ?_
  refine s_iload (pc' := 12) A d1_10 rfl rfl ?_
  refine s_dup2 (pc' := 13) A d1_12 rfl rfl rfl ?_
  refine s_laload (pc' := 14) (i := 2) (v := (.long x2)) A V6 (by decide) rfl d1_13 rfl ?_
  refine s_aloadN (pc' := 15) A d1_14 rfl rfl rfl ?_
  refine s_iload (pc' := 17) A d1_15 rfl rfl ?_
  refine s_laload (pc' := 18) (i := 2) (v := (.long x2)) A V6 (by decide) rfl d1_17 rfl ?_
  refine s_aloadN (pc' := 19) A d1_18 rfl rfl rfl ?_
  refine s_iload (pc' := 21) A d1_19 rfl rfl ?_
  refine s_laload (pc' := 22) (i := 2) (v := (.long x2)) A V6 (by decide) rfl d1_21 rfl ?_
  refine s_lxor (pc' := 23) (z := (0 : Int64)) A d1_22 rfl (own_xx x2) ?_
  refine s_lloadN (pc' := 24) A d1_23 rfl rfl ?_
  refine s_land (pc' := 25) (z := (0 : Int64)) A d1_24 rfl (by decide) ?_
  refine s_lxor (pc' := 26) (z := x2) A d1_25 rfl (own_x0 x2) ?_
  refine s_lastore (pc' := 27) (i := 2) A V6 (by decide) (Nat.le_of_ble_eq_true rfl) ga d1_26 rfl fun T h7 A W8 V9 => ?_
  have V9 : AA Z h7 a .long [.long x0, .long x1, .long x2, .long x3, .long x4] := V9
  refine s_iinc (pc' := 30) (z := (3 : Int32)) (Ls' := #[rv a, rv a, jv (-1), S2, iv 3]) A d1_27 rfl rfl (by decide) rfl ?_
  refine s_goto (pc' := 3) A d1_30 (by decide) (by decide) ?_
  refine s_iload (pc' := 5) A d1_3 rfl rfl ?_
  refine s_iconst (pc' := 6) (z := (5 : Int32)) A d1_5 rfl (by decide) ?_
  refine s_icmpN (pc' := 9) A d1_6 rfl (by decide) ?_
  refine s_aloadN (pc' := 10) A d1_9 rfl rfl rfl ?_
  refine s_iload (pc' := 12) A d1_10 rfl rfl ?_
  refine s_dup2 (pc' := 13) A d1_12 rfl rfl rfl ?_
  refine s_laload (pc' := 14) (i := 3) (v := (.long x3)) A V9 (by decide) rfl d1_13 rfl ?_
  refine s_aloadN (pc' := 15) A d1_14 rfl rfl rfl ?_
  refine s_iload (pc' := 17) A d1_15 rfl rfl ?_
  refine s_laload (pc' := 18) (i := 3) (v := (.long x3)) A V9 (by decide) rfl d1_17 rfl ?_
  refine s_aloadN (pc' := 19) A d1_18 rfl rfl rfl ?_
  refine s_iload (pc' := 21) A d1_19 rfl rfl ?_
  refine s_laload (pc' := 22) (i := 3) (v := (.long x3)) A V9 (by decide) rfl d1_21 rfl ?_
  refine s_lxor (pc' := 23) (z := (0 : Int64)) A d1_22 rfl (own_xx x3) ?_
  refine s_lloadN (pc' := 24) A d1_23 rfl rfl ?_
  refine s_land (pc' := 25) (z := (0 : Int64)) A d1_24 rfl (by decide) ?_
  refine s_lxor (pc' := 26) (z := x3) A d1_25 rfl (own_x0 x3) ?_
  refine s_lastore (pc' := 27) (i := 3) A V9 (by decide) (Nat.le_of_ble_eq_true rfl) ga d1_26 rfl fun T h10 A W11 V12 => ?_
  have V12 : AA Z h10 a .long [.long x0, .long x1, .long x2, .long x3, .long x4] := V12
  refine s_iinc (pc' := 30) (z := (4 : Int32)) (Ls' := #[rv a, rv a, jv (-1), S2, iv 4]) A d1_27 rfl rfl (by decide) rfl ?_
  refine s_goto (pc' := 3) A d1_30 (by decide) (by decide) ?_
  refine s_iload (pc' := 5) A d1_3 rfl rfl ?_
  refine s_iconst (pc' := 6) (z := (5 : Int32)) A d1_5 rfl (by decide) ?_
  refine s_icmpN (pc' := 9) A d1_6 rfl (by decide) ?_
  refine s_aloadN (pc' := 10) A d1_9 rfl rfl rfl ?_
  refine s_iload (pc' := 12) A d1_10 rfl rfl ?_
  refine s_dup2 (pc' := 13) A d1_12 rfl rfl rfl ?_
  refine s_laload (pc' := 14) (i := 4) (v := (.long x4)) A V12 (by decide) rfl d1_13 rfl ?_
  refine s_aloadN (pc' := 15) A d1_14 rfl rfl rfl ?_
  refine s_iload (pc' := 17) A d1_15 rfl rfl ?_
  refine s_laload (pc' := 18) (i := 4) (v := (.long x4)) A V12 (by decide) rfl d1_17 rfl ?_
  refine s_aloadN (pc' := 19) A d1_18 rfl rfl rfl ?_
  refine s_iload (pc' := 21) A d1_19 rfl rfl ?_
  refine s_laload (pc' := 22) (i := 4) (v := (.long x4)) A V12 (by decide) rfl d1_21 rfl ?_
  refine s_lxor (pc' := 23) (z := (0 : Int64)) A d1_22 rfl (own_xx x4) ?_
  refine s_lloadN (pc' := 24) A d1_23 rfl rfl ?_
  refine s_land (pc' := 25) (z := (0 : Int64)) A d1_24 rfl (by decide) ?_
  refine s_lxor (pc' := 26) (z := x4) A d1_25 rfl (own_x0 x4) ?_
  refine s_lastore (pc' := 27) (i := 4) A V12 (by decide) (Nat.le_of_ble_eq_true rfl) ga d1_26 rfl fun T h13 A W14 V15 => ?_
  have V15 : AA Z h13 a .long [.long x0, .long x1, .long x2, .long x3, .long x4] := V15
  refine s_iinc (pc' := 30) (z := (5 : Int32)) (Ls' := #[rv a, rv a, jv (-1), S2, iv 5]) A d1_27 rfl rfl (by decide) rfl ?_
  refine s_goto (pc' := 3) A d1_30 (by decide) (by decide) ?_
  refine s_iload (pc' := 5) A d1_3 rfl rfl ?_
  refine s_iconst (pc' := 6) (z := (5 : Int32)) A d1_5 rfl (by decide) ?_
  refine s_icmpY (pc' := 33) A d1_6 (by decide) (by decide) (by decide) ?_
  have K16 := ((((((Keep.refl h0 [a]).wr W2 (Or.inl (List.mem_of_getElem? (i := 0) rfl))).wr W5 (Or.inl (List.mem_of_getElem? (i := 0) rfl))).wr W8 (Or.inl (List.mem_of_getElem? (i := 0) rfl))).wr W11 (Or.inl (List.mem_of_getElem? (i := 0) rfl))).wr W14 (Or.inl (List.mem_of_getElem? (i := 0) rfl)))
  exact r_void A rfl d1_33 (by decide) (by decide) (⟨rfl, K16, V15⟩)
set_option maxRecDepth 65536 in
set_option maxHeartbeats 40000000 in
theorem sam (l : Launch) (Z : State) (a0 : Array Value) (hw : ∀ d ∈ tables_1, d.before a0 Z = true) (n0 : Nat) (h0 : Heap) (Z0 : n0 ≤ h0.size) (a : Addr) (x0 x1 x2 x3 x4 : Int64) (V : AA Z h0 a .long [.long x0, .long x1, .long x2, .long x3, .long x4]) :
    Met l Z n0 y1_same method_2_code 11 (Option.some Jvm.ClassFile.FieldType.boolean) ({ frames := 0, cells := 0, slots := 0, locals := 0 } : Room) #[(.ref a), (.long x0), (.long x1), (.long x2), (.long x3), (.long x4)] h0 (fun v h => v = some (.int 1) ∧ h = h0) := by
  refine met_intro (own := c1_Ed25519FieldSelectPinLaw) (plainFor_of_name pn_com_example_assured_delivery_assureddelivery_protocol_Ed25519FieldSelectPinLaw) rfl Z0 ?_
  intro p e s m below meth c T A hnm
  refine Wp.cast (g' := mkF m 0 #[rv a, jv x0, S2, jv x1, S2, jv x2, S2, jv x3, S2, jv x4, S2] []) (by first | (simp [entryFrame, mkF, argsToLocals, Value.category, maxLocals]; done) | rfl) ?_
  refine s_aloadN (pc' := 1) A d2_0 rfl rfl rfl ?_
  refine s_arraylength (pc' := 2) (z := (5 : Int32)) A V (by show _ = ((5 : Nat) : Int); decide) d2_1 rfl ?_
  refine s_iconst (pc' := 3) (z := (5 : Int32)) A d2_2 rfl (by decide) ?_
  refine s_icmpN (pc' := 6) A d2_3 rfl (by decide) ?_
  refine s_aloadN (pc' := 7) A d2_6 rfl rfl rfl ?_
  refine s_iconst (pc' := 8) (z := (0 : Int32)) A d2_7 rfl (by decide) ?_
  refine s_laload (pc' := 9) (i := 0) (v := (.long x0)) A V (by decide) rfl d2_8 rfl ?_
  refine s_lloadN (pc' := 10) A d2_9 rfl rfl ?_
  refine s_lcmp (pc' := 11) A d2_10 rfl ?_
  refine s_ifN (pc' := 14) A d2_11 rfl ((if0 _ _).trans (teq ((lw_eq x0 x0).2 (rfl : x0 = x0))).2) ?_
  refine s_aloadN (pc' := 15) A d2_14 rfl rfl rfl ?_
  refine s_iconst (pc' := 16) (z := (1 : Int32)) A d2_15 rfl (by decide) ?_
  refine s_laload (pc' := 17) (i := 1) (v := (.long x1)) A V (by decide) rfl d2_16 rfl ?_
  refine s_lloadN (pc' := 18) A d2_17 rfl rfl ?_
  refine s_lcmp (pc' := 19) A d2_18 rfl ?_
  refine s_ifN (pc' := 22) A d2_19 rfl ((if0 _ _).trans (teq ((lw_eq x1 x1).2 (rfl : x1 = x1))).2) ?_
  refine s_aloadN (pc' := 23) A d2_22 rfl rfl rfl ?_
  refine s_iconst (pc' := 24) (z := (2 : Int32)) A d2_23 rfl (by decide) ?_
  refine s_laload (pc' := 25) (i := 2) (v := (.long x2)) A V (by decide) rfl d2_24 rfl ?_
  refine s_lload (pc' := 27) A d2_25 rfl rfl ?_
  refine s_lcmp (pc' := 28) A d2_27 rfl ?_
  refine s_ifN (pc' := 31) A d2_28 rfl ((if0 _ _).trans (teq ((lw_eq x2 x2).2 (rfl : x2 = x2))).2) ?_
  refine s_aloadN (pc' := 32) A d2_31 rfl rfl rfl ?_
  refine s_iconst (pc' := 33) (z := (3 : Int32)) A d2_32 rfl (by decide) ?_
  refine s_laload (pc' := 34) (i := 3) (v := (.long x3)) A V (by decide) rfl d2_33 rfl ?_
  refine s_lload (pc' := 36) A d2_34 rfl rfl ?_
  refine s_lcmp (pc' := 37) A d2_36 rfl ?_
  refine s_ifN (pc' := 40) A d2_37 rfl ((if0 _ _).trans (teq ((lw_eq x3 x3).2 (rfl : x3 = x3))).2) ?_
  refine s_aloadN (pc' := 41) A d2_40 rfl rfl rfl ?_
  refine s_iconst (pc' := 42) (z := (4 : Int32)) A d2_41 rfl (by decide) ?_
  refine s_laload (pc' := 43) (i := 4) (v := (.long x4)) A V (by decide) rfl d2_42 rfl ?_
  refine s_lload (pc' := 45) A d2_43 rfl rfl ?_
  refine s_lcmp (pc' := 46) A d2_45 rfl ?_
  refine s_ifN (pc' := 49) A d2_46 rfl ((if0 _ _).trans (teq ((lw_eq x4 x4).2 (rfl : x4 = x4))).2) ?_
  refine s_iconst (pc' := 50) (z := (1 : Int32)) A d2_49 rfl (by decide) ?_
  refine s_goto (pc' := 54) A d2_50 (by decide) (by decide) ?_
  exact r_bool A rfl (by decide) d2_54 (by decide) (by decide) (⟨rfl, rfl⟩)
set_option maxRecDepth 65536 in
set_option maxHeartbeats 40000000 in
theorem rm0 (l : Launch) (Z : State) (a0 : Array Value) (hw : ∀ d ∈ tables_1, d.before a0 Z = true) (n0 : Nat) (h0 : Heap) (Z0 : n0 ≤ h0.size) (q0 q1 q2 q3 q4 : Int64) (q5 : Int32)  :
    Met l Z n0 x code maxLocals ret room_1 #[(.long q0), (.long q1), (.long q2), (.long q3), (.long q4), (.int q5)] h0 (fun v h => v = some (.int 1)) := by
  refine met_intro (own := c1_Ed25519FieldSelectPinLaw) (plainFor_of_name pn_com_example_assured_delivery_assureddelivery_protocol_Ed25519FieldSelectPinLaw) rfl Z0 ?_
  intro p e s m below meth c T A hnm
  refine Wp.cast (g' := mkF m 0 #[jv q0, S2, jv q1, S2, jv q2, S2, jv q3, S2, jv q4, S2, iv q5, U0, U0, U0, U0, U0, U0, U0] []) (by first | (simp [entryFrame, mkF, argsToLocals, Value.category, maxLocals]; done) | rfl) ?_
  refine s_iload (pc' := 2) A at_0 rfl rfl ?_
  refine s_iconst (pc' := 3) (z := (1 : Int32)) A at_2 rfl (by decide) ?_
  refine s_iand (pc' := 4) (z := (q5 &&& (1 : Int32))) A at_3 rfl rfl ?_
  by_cases hc4_1 : (q5 &&& (1 : Int32)) = (0 : Int32)
  ·
    refine s_ifY (pc' := 11) A at_4 ((if0 _ _).trans (teq hc4_1).1) (by decide) (by decide) ?_
    refine s_iconst (pc' := 12) (z := (0 : Int32)) A at_11 rfl (by decide) ?_
    refine s_istore (pc' := 14) (Ls' := #[jv q0, S2, jv q1, S2, jv q2, S2, jv q3, S2, jv q4, S2, iv q5, iv 0, U0, U0, U0, U0, U0, U0]) A at_12 rfl rfl ?_
    refine s_iload (pc' := 16) A at_14 rfl rfl ?_
    refine s_iconst (pc' := 17) (z := (2 : Int32)) A at_16 rfl (by decide) ?_
    refine s_iand (pc' := 18) (z := (q5 &&& (2 : Int32))) A at_17 rfl rfl ?_
    by_cases hc18_1 : (q5 &&& (2 : Int32)) = (0 : Int32)
    ·
      refine s_ifY (pc' := 25) A at_18 ((if0 _ _).trans (teq hc18_1).1) (by decide) (by decide) ?_
      refine s_iconst (pc' := 26) (z := (0 : Int32)) A at_25 rfl (by decide) ?_
      refine s_istore (pc' := 28) (Ls' := #[jv q0, S2, jv q1, S2, jv q2, S2, jv q3, S2, jv q4, S2, iv q5, iv 0, iv 0, U0, U0, U0, U0, U0]) A at_26 rfl rfl ?_
      refine s_iload (pc' := 30) A at_28 rfl rfl ?_
      refine s_ifY (pc' := 39) A at_30 (by decide) (by decide) (by decide) ?_
      refine s_lconst (pc' := 40) (z := (0 : Int64)) A at_39 rfl (by decide) ?_
      refine s_lstore (pc' := 42) (Ls' := #[jv q0, S2, jv q1, S2, jv q2, S2, jv q3, S2, jv q4, S2, iv q5, iv 0, iv 0, jv 0, S2, U0, U0, U0]) A at_40 rfl rfl ?_
      refine s_iconst (pc' := 43) (z := (5 : Int32)) A at_42 rfl (by decide) ?_
      refine s_newarray (pc' := 45) (aty := .long) (ty := .long) (dv := (.long (0 : Int64))) (i := 5) (cap := 5) A rfl rfl (w0 hw) (by decide) (by decide) (by decide) (by decide) (by decide) at_43 rfl fun T h1 b2 A g3 ge4 X5 V6 => ?_
      have V6 : AA Z h1 b2 .long [.long (0 : Int64), .long (0 : Int64), .long (0 : Int64), .long (0 : Int64), .long (0 : Int64)] := V6
      refine s_dup (pc' := 46) A at_45 rfl rfl ?_
      refine s_iconst (pc' := 47) (z := (0 : Int32)) A at_46 rfl (by decide) ?_
      refine s_lloadN (pc' := 48) A at_47 rfl rfl ?_
      refine s_lastore (pc' := 49) (i := 0) A V6 (by decide) (Nat.le_of_ble_eq_true rfl) ge4 at_48 rfl fun T h7 A W8 V9 => ?_
      have V9 : AA Z h7 b2 .long [.long q0, .long (0 : Int64), .long (0 : Int64), .long (0 : Int64), .long (0 : Int64)] := V9
      refine s_dup (pc' := 50) A at_49 rfl rfl ?_
      refine s_iconst (pc' := 51) (z := (1 : Int32)) A at_50 rfl (by decide) ?_
      refine s_lloadN (pc' := 52) A at_51 rfl rfl ?_
      refine s_lastore (pc' := 53) (i := 1) A V9 (by decide) (Nat.le_of_ble_eq_true rfl) ge4 at_52 rfl fun T h10 A W11 V12 => ?_
      have V12 : AA Z h10 b2 .long [.long q0, .long q1, .long (0 : Int64), .long (0 : Int64), .long (0 : Int64)] := V12
      refine s_dup (pc' := 54) A at_53 rfl rfl ?_
      refine s_iconst (pc' := 55) (z := (2 : Int32)) A at_54 rfl (by decide) ?_
      refine s_lload (pc' := 57) A at_55 rfl rfl ?_
      refine s_lastore (pc' := 58) (i := 2) A V12 (by decide) (Nat.le_of_ble_eq_true rfl) ge4 at_57 rfl fun T h13 A W14 V15 => ?_
      have V15 : AA Z h13 b2 .long [.long q0, .long q1, .long q2, .long (0 : Int64), .long (0 : Int64)] := V15
      refine s_dup (pc' := 59) A at_58 rfl rfl ?_
      refine s_iconst (pc' := 60) (z := (3 : Int32)) A at_59 rfl (by decide) ?_
      refine s_lload (pc' := 62) A at_60 rfl rfl ?_
      refine s_lastore (pc' := 63) (i := 3) A V15 (by decide) (Nat.le_of_ble_eq_true rfl) ge4 at_62 rfl fun T h16 A W17 V18 => ?_
      have V18 : AA Z h16 b2 .long [.long q0, .long q1, .long q2, .long q3, .long (0 : Int64)] := V18
      refine s_dup (pc' := 64) A at_63 rfl rfl ?_
      refine s_iconst (pc' := 65) (z := (4 : Int32)) A at_64 rfl (by decide) ?_
      refine s_lload (pc' := 67) A at_65 rfl rfl ?_
      refine s_lastore (pc' := 68) (i := 4) A V18 (by decide) (Nat.le_of_ble_eq_true rfl) ge4 at_67 rfl fun T h19 A W20 V21 => ?_
      have V21 : AA Z h19 b2 .long [.long q0, .long q1, .long q2, .long q3, .long q4] := V21
      refine s_astore (pc' := 70) (Ls' := #[jv q0, S2, jv q1, S2, jv q2, S2, jv q3, S2, jv q4, S2, iv q5, iv 0, iv 0, jv 0, S2, rv b2, U0, U0]) A at_68 rfl rfl rfl ?_
      refine s_iconst (pc' := 71) (z := (5 : Int32)) A at_70 rfl (by decide) ?_
      refine s_newarray (pc' := 73) (aty := .long) (ty := .long) (dv := (.long (0 : Int64))) (i := 5) (cap := 5) A rfl rfl (w0 hw) (by decide) (by decide) (by decide) (by decide) (by decide) at_71 rfl fun T h22 b23 A g24 ge25 X26 V27 => ?_
      have ne28 : b2 ≠ b23 := lt_ne V21.lt g24
      have V27 : AA Z h22 b23 .long [.long (0 : Int64), .long (0 : Int64), .long (0 : Int64), .long (0 : Int64), .long (0 : Int64)] := V27
      refine s_dup (pc' := 74) A at_73 rfl rfl ?_
      refine s_iconst (pc' := 75) (z := (0 : Int32)) A at_74 rfl (by decide) ?_
      refine s_lload (pc' := 77) A at_75 rfl rfl ?_
      refine s_lastore (pc' := 78) (i := 0) A V27 (by decide) (Nat.le_of_ble_eq_true rfl) ge25 at_77 rfl fun T h29 A W30 V31 => ?_
      have V31 : AA Z h29 b23 .long [.long q4, .long (0 : Int64), .long (0 : Int64), .long (0 : Int64), .long (0 : Int64)] := V31
      refine s_dup (pc' := 79) A at_78 rfl rfl ?_
      refine s_iconst (pc' := 80) (z := (1 : Int32)) A at_79 rfl (by decide) ?_
      refine s_lloadN (pc' := 81) A at_80 rfl rfl ?_
      refine s_lastore (pc' := 82) (i := 1) A V31 (by decide) (Nat.le_of_ble_eq_true rfl) ge25 at_81 rfl fun T h32 A W33 V34 => ?_
      have V34 : AA Z h32 b23 .long [.long q4, .long q0, .long (0 : Int64), .long (0 : Int64), .long (0 : Int64)] := V34
      refine s_dup (pc' := 83) A at_82 rfl rfl ?_
      refine s_iconst (pc' := 84) (z := (2 : Int32)) A at_83 rfl (by decide) ?_
      refine s_lloadN (pc' := 85) A at_84 rfl rfl ?_
      refine s_lastore (pc' := 86) (i := 2) A V34 (by decide) (Nat.le_of_ble_eq_true rfl) ge25 at_85 rfl fun T h35 A W36 V37 => ?_
      have V37 : AA Z h35 b23 .long [.long q4, .long q0, .long q1, .long (0 : Int64), .long (0 : Int64)] := V37
      refine s_dup (pc' := 87) A at_86 rfl rfl ?_
      refine s_iconst (pc' := 88) (z := (3 : Int32)) A at_87 rfl (by decide) ?_
      refine s_lload (pc' := 90) A at_88 rfl rfl ?_
      refine s_lastore (pc' := 91) (i := 3) A V37 (by decide) (Nat.le_of_ble_eq_true rfl) ge25 at_90 rfl fun T h38 A W39 V40 => ?_
      have V40 : AA Z h38 b23 .long [.long q4, .long q0, .long q1, .long q2, .long (0 : Int64)] := V40
      refine s_dup (pc' := 92) A at_91 rfl rfl ?_
      refine s_iconst (pc' := 93) (z := (4 : Int32)) A at_92 rfl (by decide) ?_
      refine s_lload (pc' := 95) A at_93 rfl rfl ?_
      refine s_lastore (pc' := 96) (i := 4) A V40 (by decide) (Nat.le_of_ble_eq_true rfl) ge25 at_95 rfl fun T h41 A W42 V43 => ?_
      have V43 : AA Z h41 b23 .long [.long q4, .long q0, .long q1, .long q2, .long q3] := V43
      refine s_astore (pc' := 98) (Ls' := #[jv q0, S2, jv q1, S2, jv q2, S2, jv q3, S2, jv q4, S2, iv q5, iv 0, iv 0, jv 0, S2, rv b2, rv b23, U0]) A at_96 rfl rfl rfl ?_
      refine s_iload (pc' := 100) A at_98 rfl rfl ?_
      refine s_ifY (pc' := 150) A at_100 (by decide) (by decide) (by decide) ?_
      refine s_aload (pc' := 152) A at_150 rfl rfl rfl ?_
      refine s_aload (pc' := 154) A at_152 rfl rfl rfl ?_
      refine s_lload (pc' := 156) A at_154 rfl rfl ?_
      have V46 := ((((((V21.ext X26).other W30 ne28).other W33 ne28).other W36 ne28).other W39 ne28).other W42 ne28)
      refine s_static (pc' := 159) (y := y0_select) (argsL := [(.ref b2), (.ref b23), (.long (0 : Int64))]) (rest := []) A (sel00 l Z a0 hw n0 h41 A.size b2 b23 q0 q1 q2 q3 q4 q4 q0 q1 q2 q3 V46 ge4 V43 ne28) (w1 hw) (w2 hw) (w3 hw) (w4 hw) (by decide) pd___J_JJ_V rfl (W := 0) (by decide) (by decide) (Nat.le_of_eq rfl) (by decide) (by decide) rfl rfl at_156 rfl fun T h47 v48 A Q49 => ?_
      obtain ⟨rfl, K44, V45⟩ := Q49
      refine Wp.stk (st' := []) rfl ?_
      refine s_aload (pc' := 161) A at_159 rfl rfl rfl ?_
      refine s_lload (pc' := 163) A at_161 rfl rfl ?_
      refine s_lloadN (pc' := 164) A at_163 rfl rfl ?_
      refine s_lloadN (pc' := 165) A at_164 rfl rfl ?_
      refine s_lload (pc' := 167) A at_165 rfl rfl ?_
      refine s_lload (pc' := 169) A at_167 rfl rfl ?_
      have V50 := (V43.keep K44 (ninS (Ne.symm ne28) nin0))
      refine s_static (pc' := 172) (y := y1_same) (argsL := [(.ref b23), (.long q4), (.long q0), (.long q1), (.long q2), (.long q3)]) (rest := []) A (sam l Z a0 hw n0 h47 A.size b23 q4 q0 q1 q2 q3 V50) (w5 hw) (w6 hw) (w7 hw) (w8 hw) (by decide) pd___JJJJJJ_Z rfl (W := 0) (by decide) (by decide) (Nat.le_of_eq rfl) (by decide) (by decide) rfl rfl at_169 rfl fun T h51 v52 A Q53 => ?_
      obtain ⟨rfl, eh⟩ := Q53
      rw [eh] at A
      refine Wp.stk (st' := [(.int (1 : Int32))]) rfl ?_
      refine s_istore (pc' := 174) (Ls' := #[jv q0, S2, jv q1, S2, jv q2, S2, jv q3, S2, jv q4, S2, iv q5, iv 0, iv 0, jv 0, S2, rv b2, rv b23, iv 1]) A at_172 rfl rfl ?_
      refine s_iload (pc' := 176) A at_174 rfl rfl ?_
      refine s_ifY (pc' := 206) A at_176 (by decide) (by decide) (by decide) ?_
      refine s_iload (pc' := 208) A at_206 rfl rfl ?_
      refine s_ifN (pc' := 211) A at_208 rfl (by decide) ?_
      refine s_aload (pc' := 213) A at_211 rfl rfl rfl ?_
      refine s_lloadN (pc' := 214) A at_213 rfl rfl ?_
      refine s_lloadN (pc' := 215) A at_214 rfl rfl ?_
      refine s_lload (pc' := 217) A at_215 rfl rfl ?_
      refine s_lload (pc' := 219) A at_217 rfl rfl ?_
      refine s_lload (pc' := 221) A at_219 rfl rfl ?_
      refine s_static (pc' := 224) (y := y1_same) (argsL := [(.ref b2), (.long q0), (.long q1), (.long q2), (.long q3), (.long q4)]) (rest := []) A (sam l Z a0 hw n0 h47 A.size b2 q0 q1 q2 q3 q4 V45) (w5 hw) (w6 hw) (w7 hw) (w8 hw) (by decide) pd___JJJJJJ_Z rfl (W := 0) (by decide) (by decide) (Nat.le_of_eq rfl) (by decide) (by decide) rfl rfl at_221 rfl fun T h54 v55 A Q56 => ?_
      obtain ⟨rfl, eh⟩ := Q56
      rw [eh] at A
      refine Wp.stk (st' := [(.int (1 : Int32))]) rfl ?_
      refine s_ifN (pc' := 227) A at_224 rfl (by decide) ?_
      refine s_iconst (pc' := 228) (z := (1 : Int32)) A at_227 rfl (by decide) ?_
      refine s_goto (pc' := 232) A at_228 (by decide) (by decide) ?_
      exact r_bool A rfl (by decide) at_232 (by decide) (by decide) (rfl)
    ·
      refine s_ifN (pc' := 21) A at_18 rfl ((if0 _ _).trans (feq hc18_1).1) ?_
      refine s_iconst (pc' := 22) (z := (1 : Int32)) A at_21 rfl (by decide) ?_
      refine s_goto (pc' := 26) A at_22 (by decide) (by decide) ?_
      refine s_istore (pc' := 28) (Ls' := #[jv q0, S2, jv q1, S2, jv q2, S2, jv q3, S2, jv q4, S2, iv q5, iv 0, iv 1, U0, U0, U0, U0, U0]) A at_26 rfl rfl ?_
      refine s_iload (pc' := 30) A at_28 rfl rfl ?_
      refine s_ifY (pc' := 39) A at_30 (by decide) (by decide) (by decide) ?_
      refine s_lconst (pc' := 40) (z := (0 : Int64)) A at_39 rfl (by decide) ?_
      refine s_lstore (pc' := 42) (Ls' := #[jv q0, S2, jv q1, S2, jv q2, S2, jv q3, S2, jv q4, S2, iv q5, iv 0, iv 1, jv 0, S2, U0, U0, U0]) A at_40 rfl rfl ?_
      refine s_iconst (pc' := 43) (z := (5 : Int32)) A at_42 rfl (by decide) ?_
      refine s_newarray (pc' := 45) (aty := .long) (ty := .long) (dv := (.long (0 : Int64))) (i := 5) (cap := 5) A rfl rfl (w0 hw) (by decide) (by decide) (by decide) (by decide) (by decide) at_43 rfl fun T h57 b58 A g59 ge60 X61 V62 => ?_
      have V62 : AA Z h57 b58 .long [.long (0 : Int64), .long (0 : Int64), .long (0 : Int64), .long (0 : Int64), .long (0 : Int64)] := V62
      refine s_dup (pc' := 46) A at_45 rfl rfl ?_
      refine s_iconst (pc' := 47) (z := (0 : Int32)) A at_46 rfl (by decide) ?_
      refine s_lloadN (pc' := 48) A at_47 rfl rfl ?_
      refine s_lastore (pc' := 49) (i := 0) A V62 (by decide) (Nat.le_of_ble_eq_true rfl) ge60 at_48 rfl fun T h63 A W64 V65 => ?_
      have V65 : AA Z h63 b58 .long [.long q0, .long (0 : Int64), .long (0 : Int64), .long (0 : Int64), .long (0 : Int64)] := V65
      refine s_dup (pc' := 50) A at_49 rfl rfl ?_
      refine s_iconst (pc' := 51) (z := (1 : Int32)) A at_50 rfl (by decide) ?_
      refine s_lloadN (pc' := 52) A at_51 rfl rfl ?_
      refine s_lastore (pc' := 53) (i := 1) A V65 (by decide) (Nat.le_of_ble_eq_true rfl) ge60 at_52 rfl fun T h66 A W67 V68 => ?_
      have V68 : AA Z h66 b58 .long [.long q0, .long q1, .long (0 : Int64), .long (0 : Int64), .long (0 : Int64)] := V68
      refine s_dup (pc' := 54) A at_53 rfl rfl ?_
      refine s_iconst (pc' := 55) (z := (2 : Int32)) A at_54 rfl (by decide) ?_
      refine s_lload (pc' := 57) A at_55 rfl rfl ?_
      refine s_lastore (pc' := 58) (i := 2) A V68 (by decide) (Nat.le_of_ble_eq_true rfl) ge60 at_57 rfl fun T h69 A W70 V71 => ?_
      have V71 : AA Z h69 b58 .long [.long q0, .long q1, .long q2, .long (0 : Int64), .long (0 : Int64)] := V71
      refine s_dup (pc' := 59) A at_58 rfl rfl ?_
      refine s_iconst (pc' := 60) (z := (3 : Int32)) A at_59 rfl (by decide) ?_
      refine s_lload (pc' := 62) A at_60 rfl rfl ?_
      refine s_lastore (pc' := 63) (i := 3) A V71 (by decide) (Nat.le_of_ble_eq_true rfl) ge60 at_62 rfl fun T h72 A W73 V74 => ?_
      have V74 : AA Z h72 b58 .long [.long q0, .long q1, .long q2, .long q3, .long (0 : Int64)] := V74
      refine s_dup (pc' := 64) A at_63 rfl rfl ?_
      refine s_iconst (pc' := 65) (z := (4 : Int32)) A at_64 rfl (by decide) ?_
      refine s_lload (pc' := 67) A at_65 rfl rfl ?_
      refine s_lastore (pc' := 68) (i := 4) A V74 (by decide) (Nat.le_of_ble_eq_true rfl) ge60 at_67 rfl fun T h75 A W76 V77 => ?_
      have V77 : AA Z h75 b58 .long [.long q0, .long q1, .long q2, .long q3, .long q4] := V77
      refine s_astore (pc' := 70) (Ls' := #[jv q0, S2, jv q1, S2, jv q2, S2, jv q3, S2, jv q4, S2, iv q5, iv 0, iv 1, jv 0, S2, rv b58, U0, U0]) A at_68 rfl rfl rfl ?_
      refine s_iconst (pc' := 71) (z := (5 : Int32)) A at_70 rfl (by decide) ?_
      refine s_newarray (pc' := 73) (aty := .long) (ty := .long) (dv := (.long (0 : Int64))) (i := 5) (cap := 5) A rfl rfl (w0 hw) (by decide) (by decide) (by decide) (by decide) (by decide) at_71 rfl fun T h78 b79 A g80 ge81 X82 V83 => ?_
      have ne84 : b58 ≠ b79 := lt_ne V77.lt g80
      have V83 : AA Z h78 b79 .long [.long (0 : Int64), .long (0 : Int64), .long (0 : Int64), .long (0 : Int64), .long (0 : Int64)] := V83
      refine s_dup (pc' := 74) A at_73 rfl rfl ?_
      refine s_iconst (pc' := 75) (z := (0 : Int32)) A at_74 rfl (by decide) ?_
      refine s_lload (pc' := 77) A at_75 rfl rfl ?_
      refine s_lastore (pc' := 78) (i := 0) A V83 (by decide) (Nat.le_of_ble_eq_true rfl) ge81 at_77 rfl fun T h85 A W86 V87 => ?_
      have V87 : AA Z h85 b79 .long [.long q4, .long (0 : Int64), .long (0 : Int64), .long (0 : Int64), .long (0 : Int64)] := V87
      refine s_dup (pc' := 79) A at_78 rfl rfl ?_
      refine s_iconst (pc' := 80) (z := (1 : Int32)) A at_79 rfl (by decide) ?_
      refine s_lloadN (pc' := 81) A at_80 rfl rfl ?_
      refine s_lastore (pc' := 82) (i := 1) A V87 (by decide) (Nat.le_of_ble_eq_true rfl) ge81 at_81 rfl fun T h88 A W89 V90 => ?_
      have V90 : AA Z h88 b79 .long [.long q4, .long q0, .long (0 : Int64), .long (0 : Int64), .long (0 : Int64)] := V90
      refine s_dup (pc' := 83) A at_82 rfl rfl ?_
      refine s_iconst (pc' := 84) (z := (2 : Int32)) A at_83 rfl (by decide) ?_
      refine s_lloadN (pc' := 85) A at_84 rfl rfl ?_
      refine s_lastore (pc' := 86) (i := 2) A V90 (by decide) (Nat.le_of_ble_eq_true rfl) ge81 at_85 rfl fun T h91 A W92 V93 => ?_
      have V93 : AA Z h91 b79 .long [.long q4, .long q0, .long q1, .long (0 : Int64), .long (0 : Int64)] := V93
      refine s_dup (pc' := 87) A at_86 rfl rfl ?_
      refine s_iconst (pc' := 88) (z := (3 : Int32)) A at_87 rfl (by decide) ?_
      refine s_lload (pc' := 90) A at_88 rfl rfl ?_
      refine s_lastore (pc' := 91) (i := 3) A V93 (by decide) (Nat.le_of_ble_eq_true rfl) ge81 at_90 rfl fun T h94 A W95 V96 => ?_
      have V96 : AA Z h94 b79 .long [.long q4, .long q0, .long q1, .long q2, .long (0 : Int64)] := V96
      refine s_dup (pc' := 92) A at_91 rfl rfl ?_
      refine s_iconst (pc' := 93) (z := (4 : Int32)) A at_92 rfl (by decide) ?_
      refine s_lload (pc' := 95) A at_93 rfl rfl ?_
      refine s_lastore (pc' := 96) (i := 4) A V96 (by decide) (Nat.le_of_ble_eq_true rfl) ge81 at_95 rfl fun T h97 A W98 V99 => ?_
      have V99 : AA Z h97 b79 .long [.long q4, .long q0, .long q1, .long q2, .long q3] := V99
      refine s_astore (pc' := 98) (Ls' := #[jv q0, S2, jv q1, S2, jv q2, S2, jv q3, S2, jv q4, S2, iv q5, iv 0, iv 1, jv 0, S2, rv b58, rv b79, U0]) A at_96 rfl rfl rfl ?_
      refine s_iload (pc' := 100) A at_98 rfl rfl ?_
      refine s_ifN (pc' := 103) A at_100 rfl (by decide) ?_
      refine s_aload (pc' := 105) A at_103 rfl rfl rfl ?_
      refine s_aload (pc' := 107) A at_105 rfl rfl rfl ?_
      refine s_lload (pc' := 109) A at_107 rfl rfl ?_
      have V102 := ((((((V77.ext X82).other W86 ne84).other W89 ne84).other W92 ne84).other W95 ne84).other W98 ne84)
      refine s_static (pc' := 112) (y := y0_select) (argsL := [(.ref b58), (.ref b58), (.long (0 : Int64))]) (rest := []) A (sel10 l Z a0 hw n0 h97 A.size b58 b58 q0 q1 q2 q3 q4 q0 q1 q2 q3 q4 V102 ge60) (w1 hw) (w2 hw) (w3 hw) (w4 hw) (by decide) pd___J_JJ_V rfl (W := 0) (by decide) (by decide) (Nat.le_of_eq rfl) (by decide) (by decide) rfl rfl at_109 rfl fun T h103 v104 A Q105 => ?_
      obtain ⟨rfl, K100, V101⟩ := Q105
      refine Wp.stk (st' := []) rfl ?_
      refine s_aload (pc' := 114) A at_112 rfl rfl rfl ?_
      refine s_lloadN (pc' := 115) A at_114 rfl rfl ?_
      refine s_lloadN (pc' := 116) A at_115 rfl rfl ?_
      refine s_lload (pc' := 118) A at_116 rfl rfl ?_
      refine s_lload (pc' := 120) A at_118 rfl rfl ?_
      refine s_lload (pc' := 122) A at_120 rfl rfl ?_
      refine s_static (pc' := 125) (y := y1_same) (argsL := [(.ref b58), (.long q0), (.long q1), (.long q2), (.long q3), (.long q4)]) (rest := []) A (sam l Z a0 hw n0 h103 A.size b58 q0 q1 q2 q3 q4 V101) (w5 hw) (w6 hw) (w7 hw) (w8 hw) (by decide) pd___JJJJJJ_Z rfl (W := 0) (by decide) (by decide) (Nat.le_of_eq rfl) (by decide) (by decide) rfl rfl at_122 rfl fun T h106 v107 A Q108 => ?_
      obtain ⟨rfl, eh⟩ := Q108
      rw [eh] at A
      refine Wp.stk (st' := [(.int (1 : Int32))]) rfl ?_
      refine s_ifN (pc' := 128) A at_125 rfl (by decide) ?_
      refine s_aload (pc' := 130) A at_128 rfl rfl rfl ?_
      refine s_lload (pc' := 132) A at_130 rfl rfl ?_
      refine s_lloadN (pc' := 133) A at_132 rfl rfl ?_
      refine s_lloadN (pc' := 134) A at_133 rfl rfl ?_
      refine s_lload (pc' := 136) A at_134 rfl rfl ?_
      refine s_lload (pc' := 138) A at_136 rfl rfl ?_
      have V109 := (V99.keep K100 (ninS (Ne.symm ne84) nin0))
      refine s_static (pc' := 141) (y := y1_same) (argsL := [(.ref b79), (.long q4), (.long q0), (.long q1), (.long q2), (.long q3)]) (rest := []) A (sam l Z a0 hw n0 h103 A.size b79 q4 q0 q1 q2 q3 V109) (w5 hw) (w6 hw) (w7 hw) (w8 hw) (by decide) pd___JJJJJJ_Z rfl (W := 0) (by decide) (by decide) (Nat.le_of_eq rfl) (by decide) (by decide) rfl rfl at_138 rfl fun T h110 v111 A Q112 => ?_
      obtain ⟨rfl, eh⟩ := Q112
      rw [eh] at A
      refine Wp.stk (st' := [(.int (1 : Int32))]) rfl ?_
      refine s_ifN (pc' := 144) A at_141 rfl (by decide) ?_
      refine s_iconst (pc' := 145) (z := (1 : Int32)) A at_144 rfl (by decide) ?_
      refine s_goto (pc' := 149) A at_145 (by decide) (by decide) ?_
      exact r_bool A rfl (by decide) at_149 (by decide) (by decide) (rfl)
  ·
    refine s_ifN (pc' := 7) A at_4 rfl ((if0 _ _).trans (feq hc4_1).1) ?_
    refine s_iconst (pc' := 8) (z := (1 : Int32)) A at_7 rfl (by decide) ?_
    refine s_goto (pc' := 12) A at_8 (by decide) (by decide) ?_
    refine s_istore (pc' := 14) (Ls' := #[jv q0, S2, jv q1, S2, jv q2, S2, jv q3, S2, jv q4, S2, iv q5, iv 1, U0, U0, U0, U0, U0, U0]) A at_12 rfl rfl ?_
    refine s_iload (pc' := 16) A at_14 rfl rfl ?_
    refine s_iconst (pc' := 17) (z := (2 : Int32)) A at_16 rfl (by decide) ?_
    refine s_iand (pc' := 18) (z := (q5 &&& (2 : Int32))) A at_17 rfl rfl ?_
    by_cases hc18_1 : (q5 &&& (2 : Int32)) = (0 : Int32)
    ·
      refine s_ifY (pc' := 25) A at_18 ((if0 _ _).trans (teq hc18_1).1) (by decide) (by decide) ?_
      refine s_iconst (pc' := 26) (z := (0 : Int32)) A at_25 rfl (by decide) ?_
      refine s_istore (pc' := 28) (Ls' := #[jv q0, S2, jv q1, S2, jv q2, S2, jv q3, S2, jv q4, S2, iv q5, iv 1, iv 0, U0, U0, U0, U0, U0]) A at_26 rfl rfl ?_
      refine s_iload (pc' := 30) A at_28 rfl rfl ?_
      refine s_ifN (pc' := 33) A at_30 rfl (by decide) ?_
      refine s_ldc2Long (pc' := 36) A at_33 rfl (w9 hw) ?_
      refine s_goto (pc' := 40) A at_36 (by decide) (by decide) ?_
      refine s_lstore (pc' := 42) (Ls' := #[jv q0, S2, jv q1, S2, jv q2, S2, jv q3, S2, jv q4, S2, iv q5, iv 1, iv 0, jv (-1), S2, U0, U0, U0]) A at_40 rfl rfl ?_
      refine s_iconst (pc' := 43) (z := (5 : Int32)) A at_42 rfl (by decide) ?_
      refine s_newarray (pc' := 45) (aty := .long) (ty := .long) (dv := (.long (0 : Int64))) (i := 5) (cap := 5) A rfl rfl (w0 hw) (by decide) (by decide) (by decide) (by decide) (by decide) at_43 rfl fun T h113 b114 A g115 ge116 X117 V118 => ?_
      have V118 : AA Z h113 b114 .long [.long (0 : Int64), .long (0 : Int64), .long (0 : Int64), .long (0 : Int64), .long (0 : Int64)] := V118
      refine s_dup (pc' := 46) A at_45 rfl rfl ?_
      refine s_iconst (pc' := 47) (z := (0 : Int32)) A at_46 rfl (by decide) ?_
      refine s_lloadN (pc' := 48) A at_47 rfl rfl ?_
      refine s_lastore (pc' := 49) (i := 0) A V118 (by decide) (Nat.le_of_ble_eq_true rfl) ge116 at_48 rfl fun T h119 A W120 V121 => ?_
      have V121 : AA Z h119 b114 .long [.long q0, .long (0 : Int64), .long (0 : Int64), .long (0 : Int64), .long (0 : Int64)] := V121
      refine s_dup (pc' := 50) A at_49 rfl rfl ?_
      refine s_iconst (pc' := 51) (z := (1 : Int32)) A at_50 rfl (by decide) ?_
      refine s_lloadN (pc' := 52) A at_51 rfl rfl ?_
      refine s_lastore (pc' := 53) (i := 1) A V121 (by decide) (Nat.le_of_ble_eq_true rfl) ge116 at_52 rfl fun T h122 A W123 V124 => ?_
      have V124 : AA Z h122 b114 .long [.long q0, .long q1, .long (0 : Int64), .long (0 : Int64), .long (0 : Int64)] := V124
      refine s_dup (pc' := 54) A at_53 rfl rfl ?_
      refine s_iconst (pc' := 55) (z := (2 : Int32)) A at_54 rfl (by decide) ?_
      refine s_lload (pc' := 57) A at_55 rfl rfl ?_
      refine s_lastore (pc' := 58) (i := 2) A V124 (by decide) (Nat.le_of_ble_eq_true rfl) ge116 at_57 rfl fun T h125 A W126 V127 => ?_
      have V127 : AA Z h125 b114 .long [.long q0, .long q1, .long q2, .long (0 : Int64), .long (0 : Int64)] := V127
      refine s_dup (pc' := 59) A at_58 rfl rfl ?_
      refine s_iconst (pc' := 60) (z := (3 : Int32)) A at_59 rfl (by decide) ?_
      refine s_lload (pc' := 62) A at_60 rfl rfl ?_
      refine s_lastore (pc' := 63) (i := 3) A V127 (by decide) (Nat.le_of_ble_eq_true rfl) ge116 at_62 rfl fun T h128 A W129 V130 => ?_
      have V130 : AA Z h128 b114 .long [.long q0, .long q1, .long q2, .long q3, .long (0 : Int64)] := V130
      refine s_dup (pc' := 64) A at_63 rfl rfl ?_
      refine s_iconst (pc' := 65) (z := (4 : Int32)) A at_64 rfl (by decide) ?_
      refine s_lload (pc' := 67) A at_65 rfl rfl ?_
      refine s_lastore (pc' := 68) (i := 4) A V130 (by decide) (Nat.le_of_ble_eq_true rfl) ge116 at_67 rfl fun T h131 A W132 V133 => ?_
      have V133 : AA Z h131 b114 .long [.long q0, .long q1, .long q2, .long q3, .long q4] := V133
      refine s_astore (pc' := 70) (Ls' := #[jv q0, S2, jv q1, S2, jv q2, S2, jv q3, S2, jv q4, S2, iv q5, iv 1, iv 0, jv (-1), S2, rv b114, U0, U0]) A at_68 rfl rfl rfl ?_
      refine s_iconst (pc' := 71) (z := (5 : Int32)) A at_70 rfl (by decide) ?_
      refine s_newarray (pc' := 73) (aty := .long) (ty := .long) (dv := (.long (0 : Int64))) (i := 5) (cap := 5) A rfl rfl (w0 hw) (by decide) (by decide) (by decide) (by decide) (by decide) at_71 rfl fun T h134 b135 A g136 ge137 X138 V139 => ?_
      have ne140 : b114 ≠ b135 := lt_ne V133.lt g136
      have V139 : AA Z h134 b135 .long [.long (0 : Int64), .long (0 : Int64), .long (0 : Int64), .long (0 : Int64), .long (0 : Int64)] := V139
      refine s_dup (pc' := 74) A at_73 rfl rfl ?_
      refine s_iconst (pc' := 75) (z := (0 : Int32)) A at_74 rfl (by decide) ?_
      refine s_lload (pc' := 77) A at_75 rfl rfl ?_
      refine s_lastore (pc' := 78) (i := 0) A V139 (by decide) (Nat.le_of_ble_eq_true rfl) ge137 at_77 rfl fun T h141 A W142 V143 => ?_
      have V143 : AA Z h141 b135 .long [.long q4, .long (0 : Int64), .long (0 : Int64), .long (0 : Int64), .long (0 : Int64)] := V143
      refine s_dup (pc' := 79) A at_78 rfl rfl ?_
      refine s_iconst (pc' := 80) (z := (1 : Int32)) A at_79 rfl (by decide) ?_
      refine s_lloadN (pc' := 81) A at_80 rfl rfl ?_
      refine s_lastore (pc' := 82) (i := 1) A V143 (by decide) (Nat.le_of_ble_eq_true rfl) ge137 at_81 rfl fun T h144 A W145 V146 => ?_
      have V146 : AA Z h144 b135 .long [.long q4, .long q0, .long (0 : Int64), .long (0 : Int64), .long (0 : Int64)] := V146
      refine s_dup (pc' := 83) A at_82 rfl rfl ?_
      refine s_iconst (pc' := 84) (z := (2 : Int32)) A at_83 rfl (by decide) ?_
      refine s_lloadN (pc' := 85) A at_84 rfl rfl ?_
      refine s_lastore (pc' := 86) (i := 2) A V146 (by decide) (Nat.le_of_ble_eq_true rfl) ge137 at_85 rfl fun T h147 A W148 V149 => ?_
      have V149 : AA Z h147 b135 .long [.long q4, .long q0, .long q1, .long (0 : Int64), .long (0 : Int64)] := V149
      refine s_dup (pc' := 87) A at_86 rfl rfl ?_
      refine s_iconst (pc' := 88) (z := (3 : Int32)) A at_87 rfl (by decide) ?_
      refine s_lload (pc' := 90) A at_88 rfl rfl ?_
      refine s_lastore (pc' := 91) (i := 3) A V149 (by decide) (Nat.le_of_ble_eq_true rfl) ge137 at_90 rfl fun T h150 A W151 V152 => ?_
      have V152 : AA Z h150 b135 .long [.long q4, .long q0, .long q1, .long q2, .long (0 : Int64)] := V152
      refine s_dup (pc' := 92) A at_91 rfl rfl ?_
      refine s_iconst (pc' := 93) (z := (4 : Int32)) A at_92 rfl (by decide) ?_
      refine s_lload (pc' := 95) A at_93 rfl rfl ?_
      refine s_lastore (pc' := 96) (i := 4) A V152 (by decide) (Nat.le_of_ble_eq_true rfl) ge137 at_95 rfl fun T h153 A W154 V155 => ?_
      have V155 : AA Z h153 b135 .long [.long q4, .long q0, .long q1, .long q2, .long q3] := V155
      refine s_astore (pc' := 98) (Ls' := #[jv q0, S2, jv q1, S2, jv q2, S2, jv q3, S2, jv q4, S2, iv q5, iv 1, iv 0, jv (-1), S2, rv b114, rv b135, U0]) A at_96 rfl rfl rfl ?_
      refine s_iload (pc' := 100) A at_98 rfl rfl ?_
      refine s_ifY (pc' := 150) A at_100 (by decide) (by decide) (by decide) ?_
      refine s_aload (pc' := 152) A at_150 rfl rfl rfl ?_
      refine s_aload (pc' := 154) A at_152 rfl rfl rfl ?_
      refine s_lload (pc' := 156) A at_154 rfl rfl ?_
      have V158 := ((((((V133.ext X138).other W142 ne140).other W145 ne140).other W148 ne140).other W151 ne140).other W154 ne140)
      refine s_static (pc' := 159) (y := y0_select) (argsL := [(.ref b114), (.ref b135), (.long (-1 : Int64))]) (rest := []) A (sel01 l Z a0 hw n0 h153 A.size b114 b135 q0 q1 q2 q3 q4 q4 q0 q1 q2 q3 V158 ge116 V155 ne140) (w1 hw) (w2 hw) (w3 hw) (w4 hw) (by decide) pd___J_JJ_V rfl (W := 0) (by decide) (by decide) (Nat.le_of_eq rfl) (by decide) (by decide) rfl rfl at_156 rfl fun T h159 v160 A Q161 => ?_
      obtain ⟨rfl, K156, V157⟩ := Q161
      refine Wp.stk (st' := []) rfl ?_
      refine s_aload (pc' := 161) A at_159 rfl rfl rfl ?_
      refine s_lload (pc' := 163) A at_161 rfl rfl ?_
      refine s_lloadN (pc' := 164) A at_163 rfl rfl ?_
      refine s_lloadN (pc' := 165) A at_164 rfl rfl ?_
      refine s_lload (pc' := 167) A at_165 rfl rfl ?_
      refine s_lload (pc' := 169) A at_167 rfl rfl ?_
      have V162 := (V155.keep K156 (ninS (Ne.symm ne140) nin0))
      refine s_static (pc' := 172) (y := y1_same) (argsL := [(.ref b135), (.long q4), (.long q0), (.long q1), (.long q2), (.long q3)]) (rest := []) A (sam l Z a0 hw n0 h159 A.size b135 q4 q0 q1 q2 q3 V162) (w5 hw) (w6 hw) (w7 hw) (w8 hw) (by decide) pd___JJJJJJ_Z rfl (W := 0) (by decide) (by decide) (Nat.le_of_eq rfl) (by decide) (by decide) rfl rfl at_169 rfl fun T h163 v164 A Q165 => ?_
      obtain ⟨rfl, eh⟩ := Q165
      rw [eh] at A
      refine Wp.stk (st' := [(.int (1 : Int32))]) rfl ?_
      refine s_istore (pc' := 174) (Ls' := #[jv q0, S2, jv q1, S2, jv q2, S2, jv q3, S2, jv q4, S2, iv q5, iv 1, iv 0, jv (-1), S2, rv b114, rv b135, iv 1]) A at_172 rfl rfl ?_
      refine s_iload (pc' := 176) A at_174 rfl rfl ?_
      refine s_ifN (pc' := 179) A at_176 rfl (by decide) ?_
      refine s_iload (pc' := 181) A at_179 rfl rfl ?_
      refine s_ifN (pc' := 184) A at_181 rfl (by decide) ?_
      refine s_aload (pc' := 186) A at_184 rfl rfl rfl ?_
      refine s_lload (pc' := 188) A at_186 rfl rfl ?_
      refine s_lloadN (pc' := 189) A at_188 rfl rfl ?_
      refine s_lloadN (pc' := 190) A at_189 rfl rfl ?_
      refine s_lload (pc' := 192) A at_190 rfl rfl ?_
      refine s_lload (pc' := 194) A at_192 rfl rfl ?_
      refine s_static (pc' := 197) (y := y1_same) (argsL := [(.ref b114), (.long q4), (.long q0), (.long q1), (.long q2), (.long q3)]) (rest := []) A (sam l Z a0 hw n0 h159 A.size b114 q4 q0 q1 q2 q3 V157) (w5 hw) (w6 hw) (w7 hw) (w8 hw) (by decide) pd___JJJJJJ_Z rfl (W := 0) (by decide) (by decide) (Nat.le_of_eq rfl) (by decide) (by decide) rfl rfl at_194 rfl fun T h166 v167 A Q168 => ?_
      obtain ⟨rfl, eh⟩ := Q168
      rw [eh] at A
      refine Wp.stk (st' := [(.int (1 : Int32))]) rfl ?_
      refine s_ifN (pc' := 200) A at_197 rfl (by decide) ?_
      refine s_iconst (pc' := 201) (z := (1 : Int32)) A at_200 rfl (by decide) ?_
      refine s_goto (pc' := 205) A at_201 (by decide) (by decide) ?_
      exact r_bool A rfl (by decide) at_205 (by decide) (by decide) (rfl)
    ·
      refine s_ifN (pc' := 21) A at_18 rfl ((if0 _ _).trans (feq hc18_1).1) ?_
      refine s_iconst (pc' := 22) (z := (1 : Int32)) A at_21 rfl (by decide) ?_
      refine s_goto (pc' := 26) A at_22 (by decide) (by decide) ?_
      refine s_istore (pc' := 28) (Ls' := #[jv q0, S2, jv q1, S2, jv q2, S2, jv q3, S2, jv q4, S2, iv q5, iv 1, iv 1, U0, U0, U0, U0, U0]) A at_26 rfl rfl ?_
      refine s_iload (pc' := 30) A at_28 rfl rfl ?_
      refine s_ifN (pc' := 33) A at_30 rfl (by decide) ?_
      refine s_ldc2Long (pc' := 36) A at_33 rfl (w9 hw) ?_
      refine s_goto (pc' := 40) A at_36 (by decide) (by decide) ?_
      refine s_lstore (pc' := 42) (Ls' := #[jv q0, S2, jv q1, S2, jv q2, S2, jv q3, S2, jv q4, S2, iv q5, iv 1, iv 1, jv (-1), S2, U0, U0, U0]) A at_40 rfl rfl ?_
      refine s_iconst (pc' := 43) (z := (5 : Int32)) A at_42 rfl (by decide) ?_
      refine s_newarray (pc' := 45) (aty := .long) (ty := .long) (dv := (.long (0 : Int64))) (i := 5) (cap := 5) A rfl rfl (w0 hw) (by decide) (by decide) (by decide) (by decide) (by decide) at_43 rfl fun T h169 b170 A g171 ge172 X173 V174 => ?_
      have V174 : AA Z h169 b170 .long [.long (0 : Int64), .long (0 : Int64), .long (0 : Int64), .long (0 : Int64), .long (0 : Int64)] := V174
      refine s_dup (pc' := 46) A at_45 rfl rfl ?_
      refine s_iconst (pc' := 47) (z := (0 : Int32)) A at_46 rfl (by decide) ?_
      refine s_lloadN (pc' := 48) A at_47 rfl rfl ?_
      refine s_lastore (pc' := 49) (i := 0) A V174 (by decide) (Nat.le_of_ble_eq_true rfl) ge172 at_48 rfl fun T h175 A W176 V177 => ?_
      have V177 : AA Z h175 b170 .long [.long q0, .long (0 : Int64), .long (0 : Int64), .long (0 : Int64), .long (0 : Int64)] := V177
      refine s_dup (pc' := 50) A at_49 rfl rfl ?_
      refine s_iconst (pc' := 51) (z := (1 : Int32)) A at_50 rfl (by decide) ?_
      refine s_lloadN (pc' := 52) A at_51 rfl rfl ?_
      refine s_lastore (pc' := 53) (i := 1) A V177 (by decide) (Nat.le_of_ble_eq_true rfl) ge172 at_52 rfl fun T h178 A W179 V180 => ?_
      have V180 : AA Z h178 b170 .long [.long q0, .long q1, .long (0 : Int64), .long (0 : Int64), .long (0 : Int64)] := V180
      refine s_dup (pc' := 54) A at_53 rfl rfl ?_
      refine s_iconst (pc' := 55) (z := (2 : Int32)) A at_54 rfl (by decide) ?_
      refine s_lload (pc' := 57) A at_55 rfl rfl ?_
      refine s_lastore (pc' := 58) (i := 2) A V180 (by decide) (Nat.le_of_ble_eq_true rfl) ge172 at_57 rfl fun T h181 A W182 V183 => ?_
      have V183 : AA Z h181 b170 .long [.long q0, .long q1, .long q2, .long (0 : Int64), .long (0 : Int64)] := V183
      refine s_dup (pc' := 59) A at_58 rfl rfl ?_
      refine s_iconst (pc' := 60) (z := (3 : Int32)) A at_59 rfl (by decide) ?_
      refine s_lload (pc' := 62) A at_60 rfl rfl ?_
      refine s_lastore (pc' := 63) (i := 3) A V183 (by decide) (Nat.le_of_ble_eq_true rfl) ge172 at_62 rfl fun T h184 A W185 V186 => ?_
      have V186 : AA Z h184 b170 .long [.long q0, .long q1, .long q2, .long q3, .long (0 : Int64)] := V186
      refine s_dup (pc' := 64) A at_63 rfl rfl ?_
      refine s_iconst (pc' := 65) (z := (4 : Int32)) A at_64 rfl (by decide) ?_
      refine s_lload (pc' := 67) A at_65 rfl rfl ?_
      refine s_lastore (pc' := 68) (i := 4) A V186 (by decide) (Nat.le_of_ble_eq_true rfl) ge172 at_67 rfl fun T h187 A W188 V189 => ?_
      have V189 : AA Z h187 b170 .long [.long q0, .long q1, .long q2, .long q3, .long q4] := V189
      refine s_astore (pc' := 70) (Ls' := #[jv q0, S2, jv q1, S2, jv q2, S2, jv q3, S2, jv q4, S2, iv q5, iv 1, iv 1, jv (-1), S2, rv b170, U0, U0]) A at_68 rfl rfl rfl ?_
      refine s_iconst (pc' := 71) (z := (5 : Int32)) A at_70 rfl (by decide) ?_
      refine s_newarray (pc' := 73) (aty := .long) (ty := .long) (dv := (.long (0 : Int64))) (i := 5) (cap := 5) A rfl rfl (w0 hw) (by decide) (by decide) (by decide) (by decide) (by decide) at_71 rfl fun T h190 b191 A g192 ge193 X194 V195 => ?_
      have ne196 : b170 ≠ b191 := lt_ne V189.lt g192
      have V195 : AA Z h190 b191 .long [.long (0 : Int64), .long (0 : Int64), .long (0 : Int64), .long (0 : Int64), .long (0 : Int64)] := V195
      refine s_dup (pc' := 74) A at_73 rfl rfl ?_
      refine s_iconst (pc' := 75) (z := (0 : Int32)) A at_74 rfl (by decide) ?_
      refine s_lload (pc' := 77) A at_75 rfl rfl ?_
      refine s_lastore (pc' := 78) (i := 0) A V195 (by decide) (Nat.le_of_ble_eq_true rfl) ge193 at_77 rfl fun T h197 A W198 V199 => ?_
      have V199 : AA Z h197 b191 .long [.long q4, .long (0 : Int64), .long (0 : Int64), .long (0 : Int64), .long (0 : Int64)] := V199
      refine s_dup (pc' := 79) A at_78 rfl rfl ?_
      refine s_iconst (pc' := 80) (z := (1 : Int32)) A at_79 rfl (by decide) ?_
      refine s_lloadN (pc' := 81) A at_80 rfl rfl ?_
      refine s_lastore (pc' := 82) (i := 1) A V199 (by decide) (Nat.le_of_ble_eq_true rfl) ge193 at_81 rfl fun T h200 A W201 V202 => ?_
      have V202 : AA Z h200 b191 .long [.long q4, .long q0, .long (0 : Int64), .long (0 : Int64), .long (0 : Int64)] := V202
      refine s_dup (pc' := 83) A at_82 rfl rfl ?_
      refine s_iconst (pc' := 84) (z := (2 : Int32)) A at_83 rfl (by decide) ?_
      refine s_lloadN (pc' := 85) A at_84 rfl rfl ?_
      refine s_lastore (pc' := 86) (i := 2) A V202 (by decide) (Nat.le_of_ble_eq_true rfl) ge193 at_85 rfl fun T h203 A W204 V205 => ?_
      have V205 : AA Z h203 b191 .long [.long q4, .long q0, .long q1, .long (0 : Int64), .long (0 : Int64)] := V205
      refine s_dup (pc' := 87) A at_86 rfl rfl ?_
      refine s_iconst (pc' := 88) (z := (3 : Int32)) A at_87 rfl (by decide) ?_
      refine s_lload (pc' := 90) A at_88 rfl rfl ?_
      refine s_lastore (pc' := 91) (i := 3) A V205 (by decide) (Nat.le_of_ble_eq_true rfl) ge193 at_90 rfl fun T h206 A W207 V208 => ?_
      have V208 : AA Z h206 b191 .long [.long q4, .long q0, .long q1, .long q2, .long (0 : Int64)] := V208
      refine s_dup (pc' := 92) A at_91 rfl rfl ?_
      refine s_iconst (pc' := 93) (z := (4 : Int32)) A at_92 rfl (by decide) ?_
      refine s_lload (pc' := 95) A at_93 rfl rfl ?_
      refine s_lastore (pc' := 96) (i := 4) A V208 (by decide) (Nat.le_of_ble_eq_true rfl) ge193 at_95 rfl fun T h209 A W210 V211 => ?_
      have V211 : AA Z h209 b191 .long [.long q4, .long q0, .long q1, .long q2, .long q3] := V211
      refine s_astore (pc' := 98) (Ls' := #[jv q0, S2, jv q1, S2, jv q2, S2, jv q3, S2, jv q4, S2, iv q5, iv 1, iv 1, jv (-1), S2, rv b170, rv b191, U0]) A at_96 rfl rfl rfl ?_
      refine s_iload (pc' := 100) A at_98 rfl rfl ?_
      refine s_ifN (pc' := 103) A at_100 rfl (by decide) ?_
      refine s_aload (pc' := 105) A at_103 rfl rfl rfl ?_
      refine s_aload (pc' := 107) A at_105 rfl rfl rfl ?_
      refine s_lload (pc' := 109) A at_107 rfl rfl ?_
      have V214 := ((((((V189.ext X194).other W198 ne196).other W201 ne196).other W204 ne196).other W207 ne196).other W210 ne196)
      refine s_static (pc' := 112) (y := y0_select) (argsL := [(.ref b170), (.ref b170), (.long (-1 : Int64))]) (rest := []) A (sel11 l Z a0 hw n0 h209 A.size b170 b170 q0 q1 q2 q3 q4 q0 q1 q2 q3 q4 V214 ge172) (w1 hw) (w2 hw) (w3 hw) (w4 hw) (by decide) pd___J_JJ_V rfl (W := 0) (by decide) (by decide) (Nat.le_of_eq rfl) (by decide) (by decide) rfl rfl at_109 rfl fun T h215 v216 A Q217 => ?_
      obtain ⟨rfl, K212, V213⟩ := Q217
      refine Wp.stk (st' := []) rfl ?_
      refine s_aload (pc' := 114) A at_112 rfl rfl rfl ?_
      refine s_lloadN (pc' := 115) A at_114 rfl rfl ?_
      refine s_lloadN (pc' := 116) A at_115 rfl rfl ?_
      refine s_lload (pc' := 118) A at_116 rfl rfl ?_
      refine s_lload (pc' := 120) A at_118 rfl rfl ?_
      refine s_lload (pc' := 122) A at_120 rfl rfl ?_
      refine s_static (pc' := 125) (y := y1_same) (argsL := [(.ref b170), (.long q0), (.long q1), (.long q2), (.long q3), (.long q4)]) (rest := []) A (sam l Z a0 hw n0 h215 A.size b170 q0 q1 q2 q3 q4 V213) (w5 hw) (w6 hw) (w7 hw) (w8 hw) (by decide) pd___JJJJJJ_Z rfl (W := 0) (by decide) (by decide) (Nat.le_of_eq rfl) (by decide) (by decide) rfl rfl at_122 rfl fun T h218 v219 A Q220 => ?_
      obtain ⟨rfl, eh⟩ := Q220
      rw [eh] at A
      refine Wp.stk (st' := [(.int (1 : Int32))]) rfl ?_
      refine s_ifN (pc' := 128) A at_125 rfl (by decide) ?_
      refine s_aload (pc' := 130) A at_128 rfl rfl rfl ?_
      refine s_lload (pc' := 132) A at_130 rfl rfl ?_
      refine s_lloadN (pc' := 133) A at_132 rfl rfl ?_
      refine s_lloadN (pc' := 134) A at_133 rfl rfl ?_
      refine s_lload (pc' := 136) A at_134 rfl rfl ?_
      refine s_lload (pc' := 138) A at_136 rfl rfl ?_
      have V221 := (V211.keep K212 (ninS (Ne.symm ne196) nin0))
      refine s_static (pc' := 141) (y := y1_same) (argsL := [(.ref b191), (.long q4), (.long q0), (.long q1), (.long q2), (.long q3)]) (rest := []) A (sam l Z a0 hw n0 h215 A.size b191 q4 q0 q1 q2 q3 V221) (w5 hw) (w6 hw) (w7 hw) (w8 hw) (by decide) pd___JJJJJJ_Z rfl (W := 0) (by decide) (by decide) (Nat.le_of_eq rfl) (by decide) (by decide) rfl rfl at_138 rfl fun T h222 v223 A Q224 => ?_
      obtain ⟨rfl, eh⟩ := Q224
      rw [eh] at A
      refine Wp.stk (st' := [(.int (1 : Int32))]) rfl ?_
      refine s_ifN (pc' := 144) A at_141 rfl (by decide) ?_
      refine s_iconst (pc' := 145) (z := (1 : Int32)) A at_144 rfl (by decide) ?_
      refine s_goto (pc' := 149) A at_145 (by decide) (by decide) ?_
      exact r_bool A rfl (by decide) at_149 (by decide) (by decide) (rfl)
set_option maxRecDepth 65536 in
set_option maxHeartbeats 40000000 in
theorem comes_1 {Post : Tables → Env → Array Value → State → Outcome → State → Prop} (hpost : ∀ tb e args s v u, (limb_1_1.after args s (.returned v) u = true ∧ limb_1_2.after args s (.returned v) u = true ∧ True) → FrameEnd s (.returned v) u (Jvm.fieldLocs frame_1_writes args s ++ Jvm.arrayLocs frame_1_arrays args s ++ Jvm.staticLocs frame_1_statics s) 16 128 → Post tb e args s (.returned v) u) :
    ArmFor flags0 classFile x code maxLocals ret World_1 tables_1 room_1 Calls_1 rest_1 Pre_1 Post := by
  intro l hfl _ _ p e ha hc hk s m args below hf hA hF happ hP
  obtain ⟨hcalls, hrest, hpre⟩ := hP
  obtain ⟨-, -, -, hnamed, -, -, -, hat⟩ := (Spec.applies_iff hf).mp happ
  obtain ⟨hg, hn⟩ := and_e (Cond.before_iff.mp (show (Jvm.Cond.and given_1 narrow_1).before args s = true from hpre))
  obtain ⟨hcnt, hg⟩ := and_e hg
  obtain ⟨w0, w1, w2, w3, w4, w5, rfl⟩ : ∃ w0 w1 w2 w3 w4 w5 : Value, args = #[w0, w1, w2, w3, w4, w5] := by
    have hs : args.size = 6 := by simpa [Cond.value, given_1] using hcnt
    obtain ⟨L⟩ := args
    match L, hs with
    | [w0, w1, w2, w3, w4, w5], _ => exact ⟨w0, w1, w2, w3, w4, w5, rfl⟩
  have hw := fun d (hd : d ∈ tables_1) => atoms_spec (ws := Jvm.Cond.code x code maxLocals ret :: tables_1) hat d (List.mem_cons_of_mem _ hd)
  have hfit : Fit s := fun {y c} hc i hi => by
    obtain ⟨ha, rfl⟩ := Array.getElem?_eq_some_iff.mp hc
    have q := List.all_eq_true.mp ((Array.all_eq_true_iff_forall_mem.mp hF) _ (Array.getElem_mem ha)) i (List.mem_range.mpr hi)
    simpa [Array.getElem?_eq_getElem hi] using q
  obtain ⟨g0, hg⟩ := and_e hg
  obtain ⟨x0, e0⟩ := isL_v g0
  obtain rfl : w0 = (.long x0) := Option.some.inj e0
  obtain ⟨g1, hg⟩ := and_e hg
  obtain ⟨x1, e1⟩ := isL_v g1
  obtain rfl : w1 = (.long x1) := Option.some.inj e1
  obtain ⟨g2, hg⟩ := and_e hg
  obtain ⟨x2, e2⟩ := isL_v g2
  obtain rfl : w2 = (.long x2) := Option.some.inj e2
  obtain ⟨g3, hg⟩ := and_e hg
  obtain ⟨x3, e3⟩ := isL_v g3
  obtain rfl : w3 = (.long x3) := Option.some.inj e3
  obtain ⟨g4, hg⟩ := and_e hg
  obtain ⟨x4, e4⟩ := isL_v g4
  obtain rfl : w4 = (.long x4) := Option.some.inj e4
  obtain ⟨x5, e5⟩ := is_v hg
  obtain rfl : w5 = (.int x5) := Option.some.inj e5
  obtain ⟨n, o, h1, h2, h3, _, L, rfl, ⟨N, rfl⟩, hq⟩ := rm0 l s _ hw s.heap.size s.heap (Nat.le_refl _) x0 x1 x2 x3 x4 x5 tables_1 p e ha hc hk s m _ below hf ((Spec.applies_iff_loose hf).mp happ).1 ⟨rfl, State.Warmed39.refl s, rfl⟩ trivial
  refine ⟨n, _, h1, h2, h3, hpost _ _ _ _ _ _ ⟨Cond.after_iff.mpr rfl, Cond.after_iff.mpr (eq_i res_at (Term.int_eval (1)) rfl), trivial⟩ ⟨hq.1, hq.2.1, (hq.2.2.sift fun y hy => Or.inr (N y hy)).mono (by decide) (by decide)⟩⟩
theorem main_1_1 : Claimed_1_1 := comes_1 fun _ _ _ _ _ _ h hF => ⟨h.1, hF⟩
theorem main_1_2 : Claimed_1_2 := comes_1 fun _ _ _ _ _ _ h hF => ⟨h.2.1, hF⟩
end Jvm.Pilot.@@N@@
namespace Jvm.Pilot.@@N@@
open Jvm Jvm.ClassFile Sem Op Lib Jvm.Free Jvm.Stand Jvm.Pilot.@@N@@.Jvm.D
/-! MADE BY PROGRAM (witnessworld.py) out of the Statement's table words and the real class files: 11 classes; the members and pool entries that the words name. The judged class is class 1, her method 2. -/
namespace start1
open Jvm.ClassFile
def u (s : String) : CpInfo := .utf8 (stringToUtf16 s)
/-- a pool by its gaps: so many unusable entries, then the entry; so many at the end -/
def gap : Nat → List CpInfo → List CpInfo
  | 0, r => r
  | n + 1, r => .unusable :: gap n r
def poolList (es : List (Nat × CpInfo)) (last : Nat) : List CpInfo := es.foldr (fun e r => gap e.1 (e.2 :: r)) (gap last [])
def pool (es : List (Nat × CpInfo)) (last : Nat) : Array CpInfo := ⟨poolList es last⟩
def fileOf (pool : Array CpInfo) (this : Nat) (attrs : Array Attribute := #[]) (ms : Array MethodInfo := #[]) (fl : Nat := 33) (sup : Nat := 0) (ifs : Array Nat := #[]) (fds : Array FieldInfo := #[]) : ClassFile where
  minorVersion := 0
  majorVersion := 65
  constantPool := pool
  accessFlags := fl
  thisClass := this
  superClass := sup
  interfaces := ifs
  fields := fds
  methods := ms
  attributes := attrs
def plain (name : String) (sup : Option ClassId) : Class where
  name := name
  kind := .ordinary
  loader := none
  accessFlags := 33
  super := sup
  interfaces := #[]
  cf := none
  fields := #[]
  methods := #[]
  instanceTypes := #[]
  staticTypes := #[]
  resolved := #[]
  callSites := []
  init := .initialized
  statics := none
  mirror := none

def pool0 : Array CpInfo := pool [(5, u "<init>"), (0, u "()V"), (1, .class_ 10), (1, u "java/lang/Object")] 113

def k0m0 : Method := { name := "<init>", desc := "()V", sig := { parameters := [], returnType := none }, accessFlags := 1, code := none }
/-- java/lang/Object -/
def k0 : Class := { plain "java/lang/Object" none with
  accessFlags := 33
  interfaces := #[]
  cf := some (fileOf pool0 8 #[] #[{ accessFlags := 1, nameIndex := 5, descriptorIndex := 6, attributes := #[] }] 33 0 #[] #[])
  fields := #[]
  methods := #[k0m0]
  instanceTypes := #[]
  staticTypes := #[]
  resolved := Array.replicate 124 none
  statics := none }

def pool1 : Array CpInfo := pool [(2, .class_ 4), (1, u "java/lang/Object"), (0, u "<init>"), (0, u "()V"), (0, .long 18446744073709551615), (1, .methodref 10 11), (0, .class_ 12), (0, .nameAndType 13 14), (0, u "com/example/assured_delivery/assureddelivery/protocol/Ed25519Field"), (0, u "select"), (0, u "([J[JJ)V"), (0, .methodref 16 17), (0, .class_ 18), (0, .nameAndType 19 20), (0, u "com/example/assured_delivery/assureddelivery/protocol/Ed25519FieldSelectPinLaw"), (0, u "same"), (0, u "([JJJJJJ)Z"), (3, u "law"), (0, u "(JJJJJI)Z")] 4

def k1m0 : Method := { name := "<init>", desc := "()V", sig := { parameters := [], returnType := none }, accessFlags := 2, code := none }
def k1c1 : Code := { maxStack := 4, maxLocals := 11, code := method_2_code, exceptionTable := #[], attributes := #[] }
def k1m1 : Method := { name := "same", desc := "([JJJJJJ)Z", sig := { parameters := [(.array .long), .long, .long, .long, .long, .long], returnType := some .boolean }, accessFlags := 10, code := some k1c1 }
def k1c2 : Code := { maxStack := 11, maxLocals := 18, code := code, exceptionTable := #[], attributes := #[] }
def k1m2 : Method := { name := "law", desc := "(JJJJJI)Z", sig := { parameters := [.long, .long, .long, .long, .long, .int], returnType := some .boolean }, accessFlags := 9, code := some k1c2 }
/-- com/example/assured_delivery/assureddelivery/protocol/Ed25519FieldSelectPinLaw -/
def k1 : Class := { plain "com/example/assured_delivery/assureddelivery/protocol/Ed25519FieldSelectPinLaw" (some 0) with
  accessFlags := 49
  interfaces := #[]
  cf := some (fileOf pool1 16 #[] #[{ accessFlags := 2, nameIndex := 5, descriptorIndex := 6, attributes := #[] }, { accessFlags := 10, nameIndex := 19, descriptorIndex := 20, attributes := #[] }, { accessFlags := 9, nameIndex := 24, descriptorIndex := 25, attributes := #[] }] 49 2 #[] #[])
  fields := #[]
  methods := #[k1m0, k1m1, k1m2]
  instanceTypes := #[]
  staticTypes := #[]
  resolved := Array.replicate 30 none
  statics := none }

def pool2 : Array CpInfo := pool [(1, .class_ 2), (0, u "com/example/assured_delivery/assureddelivery/protocol/Ed25519Field"), (1, .class_ 6), (1, u "java/lang/Object"), (0, u "<init>"), (0, u "()V"), (2, u "P"), (0, u "Ljava/math/BigInteger;"), (32, u "FOUR_P"), (0, u "[J"), (86, u "LIMBS"), (0, u "I"), (2, u "BITS"), (1, u "MASK"), (0, u "J"), (10, u "select"), (0, u "([J[JJ)V")] 10

def k2m0 : Method := { name := "<init>", desc := "()V", sig := { parameters := [], returnType := none }, accessFlags := 2, code := none }
def k2c1 : Code := { maxStack := 8, maxLocals := 5, code := prog_23_method_9_code, exceptionTable := #[], attributes := #[] }
def k2m1 : Method := { name := "select", desc := "([J[JJ)V", sig := { parameters := [(.array .long), (.array .long), .long], returnType := none }, accessFlags := 8, code := some k2c1 }
/-- com/example/assured_delivery/assureddelivery/protocol/Ed25519Field -/
def k2 : Class := { plain "com/example/assured_delivery/assureddelivery/protocol/Ed25519Field" (some 0) with
  accessFlags := 32
  interfaces := #[]
  cf := some (fileOf pool2 1 #[] #[{ accessFlags := 2, nameIndex := 7, descriptorIndex := 8, attributes := #[] }, { accessFlags := 8, nameIndex := 151, descriptorIndex := 152, attributes := #[] }] 32 4 #[] #[{ accessFlags := 24, nameIndex := 133, descriptorIndex := 134, attributes := #[] }, { accessFlags := 26, nameIndex := 137, descriptorIndex := 134, attributes := #[] }, { accessFlags := 26, nameIndex := 139, descriptorIndex := 140, attributes := #[] }, { accessFlags := 24, nameIndex := 11, descriptorIndex := 12, attributes := #[] }, { accessFlags := 26, nameIndex := 45, descriptorIndex := 46, attributes := #[] }])
  fields := #[{ name := "LIMBS", type := .int, accessFlags := 24, slot := 0, constantValue := 0 }, { name := "BITS", type := .int, accessFlags := 26, slot := 1, constantValue := 0 }, { name := "MASK", type := .long, accessFlags := 26, slot := 2, constantValue := 0 }, { name := "P", type := (.object "java/math/BigInteger"), accessFlags := 24, slot := 3, constantValue := 0 }, { name := "FOUR_P", type := (.array .long), accessFlags := 26, slot := 4, constantValue := 0 }]
  methods := #[k2m0, k2m1]
  instanceTypes := #[]
  staticTypes := #[.int, .int, .long, (.object "java/math/BigInteger"), (.array .long)]
  resolved := Array.replicate 163 none
  statics := none }

def pool3 : Array CpInfo := pool [(1, u "java/lang/Cloneable"), (0, .class_ 1), (0, u "java/lang/Object"), (0, .class_ 3)] 3

/-- java/lang/Cloneable -/
def k3 : Class := { plain "java/lang/Cloneable" (some 0) with
  accessFlags := 1537
  interfaces := #[]
  cf := some (fileOf pool3 2 #[] #[] 1537 4 #[] #[])
  fields := #[]
  methods := #[]
  instanceTypes := #[]
  staticTypes := #[]
  resolved := Array.replicate 8 none
  statics := none }

def pool4 : Array CpInfo := pool [(1, u "java/io/Serializable"), (0, .class_ 1), (0, u "java/lang/Object"), (0, .class_ 3)] 3

/-- java/io/Serializable -/
def k4 : Class := { plain "java/io/Serializable" (some 0) with
  accessFlags := 1537
  interfaces := #[]
  cf := some (fileOf pool4 2 #[] #[] 1537 4 #[] #[])
  fields := #[]
  methods := #[]
  instanceTypes := #[]
  staticTypes := #[]
  resolved := Array.replicate 8 none
  statics := none }

/-- the primitive byte -/
def k5 : Class := { plain "byte" none with kind := .primitive 'B', accessFlags := 0x411 }
/-- [B -/
def k6 : Class := { plain "[B" (some 0) with kind := .array 5 .byte, interfaces := #[3, 4], accessFlags := 1041 }

/-- the primitive int -/
def k7 : Class := { plain "int" none with kind := .primitive 'I', accessFlags := 0x411 }
/-- [I -/
def k8 : Class := { plain "[I" (some 0) with kind := .array 7 .int, interfaces := #[3, 4], accessFlags := 1041 }

/-- the primitive long -/
def k9 : Class := { plain "long" none with kind := .primitive 'J', accessFlags := 0x411 }
/-- [J -/
def k10 : Class := { plain "[J" (some 0) with kind := .array 9 .long, interfaces := #[3, 4], accessFlags := 1041 }

def heap : Heap := #[]
def classes : Array Class := #[k0, k1, k2, k3, k4, k5, k6, k7, k8, k9, k10]
def interned : List (Array UInt16 × Addr) := []
def slotsUsed : Nat := 0
def theMethod : MethodId := ⟨1, 2⟩
def args0 : Array Value := #[.long 0, .long 1, .long 2, .long 3, .long 4, .int 1]
def aboutOver (below : List Frame) : State where
  vm := { classes := classes, interned := interned.toArray }
  heap := heap
  slotsUsed := slotsUsed
  threads := #[{ frames := .invoking theMethod args0 :: below }]
def below0 : List Frame := [.native { method := ⟨0, 0⟩, args := #[] }]
def about1 : State := aboutOver below0
def p0 : Program := .bare "" "" ""
def e0 : Env := launch0.env 0 0 0
theorem w_frames : about1.frames = Frame.invoking theMethod args0 :: below0 := rfl
set_option maxRecDepth 65536 in
theorem w_args : argsFit about1.vm theMethod args0 = true := by decide +kernel
set_option maxRecDepth 65536 in
theorem w_heap : heapFits about1 = true := by decide +kernel
set_option maxRecDepth 65536 in
theorem w_runnable : about1.curStatus? = some .runnable := by decide +kernel
set_option maxRecDepth 65536 in
theorem w_alone : about1.alone = true := by decide +kernel
set_option maxRecDepth 65536 in
theorem w_named : about1.methodNamed? x = some theMethod := by decide +kernel
set_option maxRecDepth 65536 in
theorem w_hears : about1.hears theMethod below0 = true := by decide +kernel
set_option maxRecDepth 65536 in
theorem w_ripe : about1.ripe theMethod args0 below0 = true := by decide +kernel
theorem w_running : about1.status = .running := rfl
set_option maxRecDepth 65536 in
theorem w_room : about1.hasRoom e0.platform room_1 = true :=
  launch0.hasRoom_least _ room_1 (by decide +kernel) (by decide +kernel) (by decide +kernel) (by decide +kernel) (by decide +kernel) (by decide +kernel)
theorem allAtoms_all (ts : List Jvm.Cond) (a : Array Jvm.Value) (st : Jvm.State) : (allAtoms ts).before a st = ts.all (fun c => c.before a st) := by
  induction ts with
  | nil => rfl
  | cons c t ih =>
    show (Jvm.Cond.and c (allAtoms t)).before a st = _
    rw [Jvm.Cond.before_and, ih, List.all_cons]
def words1 : List Jvm.Cond := Jvm.Cond.code x code maxLocals ret :: tables_1
/-- a 'code' word, met by the world's own term for the bytes: nothing is compared byte by byte -/
theorem code_word {y : MethodName} {bytes : ByteArray} {mx : Nat} {rt : Option FieldType} {a : Array Value} {s : State} {m : MethodId} {meth : Method} {c : Code} (h1 : s.methodNamed? y = some m) (h2 : s.vm.method? m = some meth) (h3 : meth.code = some c) (h4 : c.code = bytes)
    (h5 : (c.maxLocals == mx && c.exceptionTable.isEmpty && decide (c.maxStack ≤ mostOperands) && decide (meth.sig.returnType = rt) && !meth.locks && decide (parseMethodDescriptor y.desc = some meth.sig)) = true) : (Jvm.Cond.code y bytes mx rt).before a s = true := by
  simp only [Bool.and_eq_true, beq_iff_eq, Bool.not_eq_true', decide_eq_true_eq] at h5
  obtain ⟨⟨⟨⟨⟨g1, g2⟩, g3⟩, g4⟩, g5⟩, g6⟩ := h5
  simp [Cond.before, Cond.holds, Cond.value, h1, h2, h3, h4, g1, g2, g3, g4, g5, g6]
def isCode : Jvm.Cond → Bool
  | .code _ _ _ _ => true
  | _ => false
theorem all_split {L : List Jvm.Cond} {P : Jvm.Cond → Bool} (h1 : L.all (fun c => isCode c || P c) = true) (h2 : ∀ c ∈ L.filter isCode, P c = true) : L.all P = true := by
  refine List.all_eq_true.mpr fun c hc => ?_
  have h := List.all_eq_true.mp h1 c hc
  rcases Bool.eq_false_or_eq_true (isCode c) with hi | hi
  · exact h2 c (List.mem_filter.mpr ⟨hc, hi⟩)
  · simpa [hi] using h
set_option maxRecDepth 65536 in
theorem w_c0 : (Jvm.Cond.code x code maxLocals ret).before args0 about1 = true := code_word (m := ⟨1, 2⟩) (meth := k1m2) (c := k1c2) (by decide +kernel) rfl rfl rfl (by decide +kernel)
set_option maxRecDepth 65536 in
theorem w_c1 : (Jvm.Cond.code ({ cls := "com/example/assured_delivery/assureddelivery/protocol/Ed25519Field", name := "select", desc := "([J[JJ)V" } : Jvm.MethodName) prog_23_method_9_code (5 : Nat) (Option.none : Option Jvm.ClassFile.FieldType)).before args0 about1 = true := code_word (m := ⟨2, 1⟩) (meth := k2m1) (c := k2c1) (by decide +kernel) rfl rfl rfl (by decide +kernel)
set_option maxRecDepth 65536 in
theorem w_c2 : (Jvm.Cond.code ({ cls := "com/example/assured_delivery/assureddelivery/protocol/Ed25519FieldSelectPinLaw", name := "same", desc := "([JJJJJJ)Z" } : Jvm.MethodName) method_2_code (11 : Nat) (Option.some Jvm.ClassFile.FieldType.boolean)).before args0 about1 = true := code_word (m := ⟨1, 1⟩) (meth := k1m1) (c := k1c1) (by decide +kernel) rfl rfl rfl (by decide +kernel)
def codes1 : List Jvm.Cond := [Jvm.Cond.code x code maxLocals ret, Jvm.Cond.code ({ cls := "com/example/assured_delivery/assureddelivery/protocol/Ed25519Field", name := "select", desc := "([J[JJ)V" } : Jvm.MethodName) prog_23_method_9_code (5 : Nat) (Option.none : Option Jvm.ClassFile.FieldType), Jvm.Cond.code ({ cls := "com/example/assured_delivery/assureddelivery/protocol/Ed25519FieldSelectPinLaw", name := "same", desc := "([JJJJJJ)Z" } : Jvm.MethodName) method_2_code (11 : Nat) (Option.some Jvm.ClassFile.FieldType.boolean)]
set_option maxRecDepth 65536 in
theorem codes_eq : words1.filter isCode = codes1 := rfl
theorem w_codes : ∀ c ∈ words1.filter isCode, c.before args0 about1 = true := by
  rw [codes_eq]
  intro c hc
  simp only [codes1, List.mem_cons, List.not_mem_nil, or_false] at hc
  rcases hc with rfl | rfl | rfl
  · exact w_c0
  · exact w_c1
  · exact w_c2
set_option maxRecDepth 65536 in
theorem w_t1 : words1.all (fun c => isCode c || c.before args0 about1) = true := by decide +kernel
theorem w_tables : (allAtoms (Jvm.Cond.code x code maxLocals ret :: tables_1)).before args0 about1 = true := by
  rw [allAtoms_all]
  show words1.all (fun c => c.before args0 about1) = true
  refine all_split ?_ w_codes
  rw [w_t1]
set_option maxRecDepth 65536 in
theorem w_case : (Jvm.Cond.and given_1 narrow_1).before args0 about1 = true := by decide +kernel
theorem w_applies : (headSpec (Jvm.Cond.code x code maxLocals ret :: tables_1) room_1).applies x e0.platform about1 = true :=
  (Spec.applies_iff w_frames).mpr ⟨w_running, w_runnable, w_alone, w_named, w_hears, w_ripe, w_room, w_tables⟩
theorem atStart : AtStart classFile x code maxLocals ret World_1 tables_1 room_1 Calls_1 rest_1 Pre_1 launch0 p0 e0 about1 theMethod args0 below0 :=
  ⟨lists_1, trivial, launch0.admits_env _ _ _, launch0.least_env, fairChoices_fair.cas, fairChoices_fair.clock, w_frames, w_args, w_heap, w_applies, trivial, trivial, w_case⟩
end start1
theorem witness_1 : WitnessClaimed_1 := ⟨start1.p0, start1.e0, start1.about1, start1.theMethod, start1.args0, start1.below0, start1.atStart⟩
end Jvm.Pilot.@@N@@
