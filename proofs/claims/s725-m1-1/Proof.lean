import JvmDerived
import JvmDerived.Pilot.@@N@@Statement
import JvmDerived.Pilot.@@N@@Code
set_option linter.unusedVariables false
set_option linter.unusedSimpArgs false
namespace Jvm.Ow
open Sem ClassFile Op Lib Jvm.Stand Jvm.Free Jvm.LawKit Jvm.RoadKit
abbrev jv (x : Int64) : Slot := .val (.long x)
abbrev U0 : Slot := .unset
abbrev S2 : Slot := .second
def ush (x y : Int32) : Int32 := (x.toUInt32 >>> (y &&& 31).toUInt32).toInt32
def ushL (x : Int64) (y : Int32) : Int64 := (x.toUInt64 >>> (y &&& 0x3f).toInt64.toUInt64).toInt64
def On (l : Launch) (Z : State) (n0 : Nat) (own : String) (bytes : ByteArray) (maxL : Nat) (ret : Option FieldType) (R : Room) (p : Program) (e : Env) (s : State) (m : MethodId) (args : Array Value) (below : List Frame) (meth : Method) (c : Code) (T : State) (h : Heap) (k n : Nat) : Prop :=
  ∃ locs, Stand p l e R s m args below meth c T locs k n ∧ Fr n0 locs ∧ T.heap = h ∧ p.tables.exec = Jvm.exec ∧ Z.Warmed39 s.vm ∧ c.code = bytes ∧ c.maxLocals = maxL ∧ s.vm.findClass own = some m.cls ∧ meth.sig.returnType = ret ∧ meth.locks = false ∧ n0 ≤ s.heap.size
def Wp (p : Program) (e : Env) (below : List Frame) (s : State) (n0 ck cs : Nat) (Q : Option Value → Heap → Prop) (U : State) : Prop :=
  ∃ t o, Steps p.tables e below U t ∧ t.status = .running ∧ Ended t below o ∧ ∃ v L, o = .returned v ∧ (Fr n0 L ∧ Q v t.heap) ∧ FrameEnd s o t L ck cs
def Met (l : Launch) (Z : State) (n0 : Nat) (y : MethodName) (bytes : ByteArray) (maxL : Nat) (ret : Option FieldType) (rm : Room) (as : Array Value) (h : Heap) (Q : Option Value → Heap → Prop) : Prop :=
  ∀ ws, MetFree l y (head1 (Cond.code y bytes maxL ret :: ws) rm) (fun a U => a = as ∧ Z.Warmed39 U.vm ∧ U.heap = h) (fun _ _ _ _ _ => True) (fun _ U o U' => ∃ v L, o = .returned v ∧ (Fr n0 L ∧ Q v U'.heap) ∧ FrameEnd U o U' L rm.cells rm.slots)
/-- an array of the component type ty, whose components are vs -/
def AA (Z : State) (h : Heap) (a : Addr) (ty : FieldType) (vs : List Value) : Prop := ∃ c : Cell, Arr Z h a c ty ∧ c.slots = vs.toArray ∧ vs.length < 2147483648
section Kit
variable {l : Launch} {Z : State} {n0 : Nat} {own : String} {bytes : ByteArray} {maxL : Nat} {ret : Option FieldType} {R : Room} {p : Program} {e : Env} {s : State} {m : MethodId} {args : Array Value} {below : List Frame} {meth : Method} {c : Code} {T : State} {h h' : Heap} {k n ck cs : Nat} {Q : Option Value → Heap → Prop} {pc pc' : Nat} {Ls Ls' : Array Slot} {st : List Value} {a0 : Array Value} {a b : Addr} {ty : FieldType} {vs : List Value} {sl : Nat} {v w : Value} {ws : List Addr}
theorem AA.ext (F : AA Z h a ty vs) (E : Ext h h') : AA Z h' a ty vs := by obtain ⟨c, A, r⟩ := F; exact ⟨c, A.ext E, r⟩
theorem AA.other (F : AA Z h b ty vs) (W : Wr h h' a sl v) (q : b ≠ a) : AA Z h' b ty vs := by obtain ⟨c, A, r⟩ := F; exact ⟨c, A.other W q, r⟩
theorem AA.keep (F : AA Z h a ty vs) (K : Keep h h' ws) (q : a ∉ ws) : AA Z h' a ty vs := by obtain ⟨c, A, r⟩ := F; exact ⟨c, ⟨K.2.1 a c A.1 q, A.2⟩, r⟩
theorem AA.set (F : AA Z h a ty vs) (W : Wr h h' a sl v) : AA Z h' a ty (vs.set sl v) := by
  obtain ⟨c, A, r1, r2⟩ := F
  exact ⟨_, A.same W, by simp [Cell.setSlot, r1], by simpa using r2⟩
theorem AA.lt (F : AA Z h a ty vs) : a < h.size := by obtain ⟨c, A, -⟩ := F; exact A.lt
theorem AA.len (F : AA Z h a ty vs) : vs.length < 2147483648 := F.choose_spec.2.2
theorem AA.cast {vs' : List Value} (F : AA Z h a ty vs) (q : vs = vs') : AA Z h a ty vs' := q ▸ F
theorem Fld.cast {C f d : String} (F : Fld Z h a C f d v) (q : v = w) : Fld Z h a C f d w := q ▸ F
theorem AA.new {cA : ClassId} {z : Int32} {i : Nat} (A : Arr Z h a (newA cA ty z) ty) (hz : z.toInt = (i : Int)) : AA Z h a ty (List.replicate i (defaultValue ty)) := by
  have q : z.toNatClampNeg = i := by show z.toInt.toNat = i; omega
  have := z.toInt_lt
  refine ⟨_, A, ?_, ?_⟩
  · simp [newA, q]
  · simp; omega
theorem AA.ne_exa {C : String} {kk : Nat} (F : AA Z h a ty vs) (E : Exa Z h b C) (wi : (Cond.instantiable C kk).before a0 Z = true) : b ≠ a := by obtain ⟨c, A, -⟩ := F; exact ne_arr E wi A
theorem lt_ne {x y z : Nat} (q : x < y) (r : y = z) : x ≠ z := by omega
theorem le_eq {x y z : Nat} (q : x ≤ y) (r : y = z) : x ≤ z := by omega
theorem On.size(A : On l Z n0 own bytes maxL ret R p e s m args below meth c T h k n) : n0 ≤ h.size := by
  obtain ⟨locs, X, N, eT, hx, hZ, hby, hml, hown, hret, hlk, hsz⟩ := A
  have := X.same.2.1
  subst eT
  exact Nat.le_trans hsz this
theorem Wp.goo {U U' : State} (f : ∀ t, Steps p.tables e below U' t → Steps p.tables e below U t) (K : Wp p e below s n0 ck cs Q U') : Wp p e below s n0 ck cs Q U := by
  obtain ⟨t, o, q, r⟩ := K; exact ⟨t, o, f t q, r⟩
theorem Wp.cast {g g' : JFrame} (q : g = g') (K : Wp p e below s n0 ck cs Q (T.setTop g')) : Wp p e below s n0 ck cs Q (T.setTop g) := q ▸ K
theorem Wp.stk {st' : List Value} (q : st = st') (K : Wp p e below s n0 ck cs Q (T.setTop (mkF m pc Ls st'))) : Wp p e below s n0 ck cs Q (T.setTop (mkF m pc Ls st)) := q ▸ K
theorem Wp.mono {Q' : Option Value → Heap → Prop} {U : State} (K : Wp p e below s n0 ck cs Q U) (q : ∀ v h, Q v h → Q' v h) : Wp p e below s n0 ck cs Q' U := by
  obtain ⟨t, o, h1, h2, h3, v, L, h4, ⟨h5, h6⟩, h7⟩ := K; exact ⟨t, o, h1, h2, h3, v, L, h4, ⟨h5, q _ _ h6⟩, h7⟩
theorem met_intro {y : MethodName} {rm : Room} {as : Array Value} (hpl : plainFor y = true) (ho : y.cls = own) (hsz : n0 ≤ h.size)
    (body : ∀ p e s m below meth c T, On l Z n0 own bytes maxL ret rm p e s m as below meth c T h 0 0 → meth.name = y.name → Wp p e below s n0 rm.cells rm.slots Q (T.setTop (entryFrame m as maxL))) : Met l Z n0 y bytes maxL ret rm as h Q := by
  subst ho
  intro ws
  refine MetFree.of_bodySF hpl hisR ?_
  intro p e s m args below meth c s₁ Bd hml0 hP hK
  obtain ⟨rfl, hZ, hh⟩ := hP
  have X0 : Stand p l e rm s m args below meth c s₁ [] 0 0 := Stand.of_body Bd
  have e0 : s₁.heap = h := by rw [← hh, Bd.state]; rfl
  exact body p e s m below meth c s₁ ⟨[], X0, Fr.nil n0, e0, Bd.exec, hZ, Bd.bytes, hml0, findClass_of_methodNamed Bd.named, Bd.returns, Bd.notSynchronized, by rw [hh]; exact hsz⟩ (name_of_methodNamed Bd.named Bd.method).1
theorem Met.mono {y : MethodName} {rm : Room} {as : Array Value} {Q' : Option Value → Heap → Prop} (M : Met l Z n0 y bytes maxL ret rm as h Q) (q : ∀ v h, Q v h → Q' v h) : Met l Z n0 y bytes maxL ret rm as h Q' := by
  intro ws p e ha hc hk s m args below hf happ hP hK
  obtain ⟨n, o, h1, h2, h3, v, L, h4, ⟨h5, h6⟩, h7⟩ := M ws p e ha hc hk s m args below hf happ hP hK
  exact ⟨n, o, h1, h2, h3, v, L, h4, ⟨h5, q _ _ h6⟩, h7⟩
theorem s_iloadN (A : On l Z n0 own bytes maxL ret R p e s m args below meth c T h k n) {i : Fin 4} {z : Int32} (hd : decode bytes pc = .ok (.iload_n i, 1)) (hp : pc + 1 = pc') (hl : Ls[i.val]? = some (.val (.int z))) (K : Wp p e below s n0 ck cs Q (T.setTop (mkF m pc' Ls (.int z :: st)))) : Wp p e below s n0 ck cs Q (T.setTop (mkF m pc Ls st)) := by
  obtain ⟨locs, X, N, eT, hx, hZ, hby, hml, hown, hret, hlk, hsz⟩ := A
  subst hp
  exact K.goo fun t q => XS.iloadN X.here hx rfl (hb hby hd) hl q
theorem s_lloadN (A : On l Z n0 own bytes maxL ret R p e s m args below meth c T h k n) {i : Fin 4} {z : Int64} (hd : decode bytes pc = .ok (.lload_n i, 1)) (hp : pc + 1 = pc') (hl : Ls[i.val]? = some (.val (.long z))) (K : Wp p e below s n0 ck cs Q (T.setTop (mkF m pc' Ls (.long z :: st)))) : Wp p e below s n0 ck cs Q (T.setTop (mkF m pc Ls st)) := by
  obtain ⟨locs, X, N, eT, hx, hZ, hby, hml, hown, hret, hlk, hsz⟩ := A
  subst hp
  exact K.goo fun t q => XS.lloadN X.here hx rfl (hb hby hd) hl q
theorem s_aloadN (A : On l Z n0 own bytes maxL ret R p e s m args below meth c T h k n) {i : Fin 4} (hd : decode bytes pc = .ok (.aload_n i, 1)) (hp : pc + 1 = pc') (hl : Ls[i.val]? = some (.val v)) (hv : v.isRef = true) (K : Wp p e below s n0 ck cs Q (T.setTop (mkF m pc' Ls (v :: st)))) : Wp p e below s n0 ck cs Q (T.setTop (mkF m pc Ls st)) := by
  obtain ⟨locs, X, N, eT, hx, hZ, hby, hml, hown, hret, hlk, hsz⟩ := A
  subst hp
  exact K.goo fun t q => XS.aloadN X.here hx rfl (hb hby hd) hl hv q
theorem s_istoreN (A : On l Z n0 own bytes maxL ret R p e s m args below meth c T h k n) {i : Fin 4} {z : Int32} (hd : decode bytes pc = .ok (.istore_n i, 1)) (hp : pc + 1 = pc') (hl : storeLocals Ls i.val (.int z) = some Ls') (K : Wp p e below s n0 ck cs Q (T.setTop (mkF m pc' Ls' st))) : Wp p e below s n0 ck cs Q (T.setTop (mkF m pc Ls (.int z :: st))) := by
  obtain ⟨locs, X, N, eT, hx, hZ, hby, hml, hown, hret, hlk, hsz⟩ := A
  subst hp
  exact K.goo fun t q => XS.istoreN X.here hx rfl (hb hby hd) rfl hl q
theorem s_lstoreN (A : On l Z n0 own bytes maxL ret R p e s m args below meth c T h k n) {i : Fin 4} {z : Int64} (hd : decode bytes pc = .ok (.lstore_n i, 1)) (hp : pc + 1 = pc') (hl : storeLocals Ls i.val (.long z) = some Ls') (K : Wp p e below s n0 ck cs Q (T.setTop (mkF m pc' Ls' st))) : Wp p e below s n0 ck cs Q (T.setTop (mkF m pc Ls (.long z :: st))) := by
  obtain ⟨locs, X, N, eT, hx, hZ, hby, hml, hown, hret, hlk, hsz⟩ := A
  subst hp
  exact K.goo fun t q => XS.lstoreN X.here hx rfl (hb hby hd) rfl hl q
theorem s_astoreN (A : On l Z n0 own bytes maxL ret R p e s m args below meth c T h k n) {i : Fin 4} (hd : decode bytes pc = .ok (.astore_n i, 1)) (hp : pc + 1 = pc') (hv : v.isRef = true) (hl : storeLocals Ls i.val v = some Ls') (K : Wp p e below s n0 ck cs Q (T.setTop (mkF m pc' Ls' st))) : Wp p e below s n0 ck cs Q (T.setTop (mkF m pc Ls (v :: st))) := by
  obtain ⟨locs, X, N, eT, hx, hZ, hby, hml, hown, hret, hlk, hsz⟩ := A
  subst hp
  exact K.goo fun t q => XS.astoreN X.here hx rfl (hb hby hd) rfl hv hl q
theorem s_iload (A : On l Z n0 own bytes maxL ret R p e s m args below meth c T h k n) {i : Nat} {z : Int32} (hd : decode bytes pc = .ok (.iload i, 2)) (hp : pc + 2 = pc') (hl : Ls[i]? = some (.val (.int z))) (K : Wp p e below s n0 ck cs Q (T.setTop (mkF m pc' Ls (.int z :: st)))) : Wp p e below s n0 ck cs Q (T.setTop (mkF m pc Ls st)) := by
  obtain ⟨locs, X, N, eT, hx, hZ, hby, hml, hown, hret, hlk, hsz⟩ := A
  subst hp
  exact K.goo fun t q => XS.iload X.here hx rfl (hb hby hd) hl q
theorem s_lload (A : On l Z n0 own bytes maxL ret R p e s m args below meth c T h k n) {i : Nat} {z : Int64} (hd : decode bytes pc = .ok (.lload i, 2)) (hp : pc + 2 = pc') (hl : Ls[i]? = some (.val (.long z))) (K : Wp p e below s n0 ck cs Q (T.setTop (mkF m pc' Ls (.long z :: st)))) : Wp p e below s n0 ck cs Q (T.setTop (mkF m pc Ls st)) := by
  obtain ⟨locs, X, N, eT, hx, hZ, hby, hml, hown, hret, hlk, hsz⟩ := A
  subst hp
  exact K.goo fun t q => XS.lload X.here hx rfl (hb hby hd) hl q
theorem s_aload (A : On l Z n0 own bytes maxL ret R p e s m args below meth c T h k n) {i : Nat} (hd : decode bytes pc = .ok (.aload i, 2)) (hp : pc + 2 = pc') (hl : Ls[i]? = some (.val v)) (hv : v.isRef = true) (K : Wp p e below s n0 ck cs Q (T.setTop (mkF m pc' Ls (v :: st)))) : Wp p e below s n0 ck cs Q (T.setTop (mkF m pc Ls st)) := by
  obtain ⟨locs, X, N, eT, hx, hZ, hby, hml, hown, hret, hlk, hsz⟩ := A
  subst hp
  exact K.goo fun t q => XS.aload X.here hx rfl (hb hby hd) hl hv q
theorem s_istore (A : On l Z n0 own bytes maxL ret R p e s m args below meth c T h k n) {i : Nat} {z : Int32} (hd : decode bytes pc = .ok (.istore i, 2)) (hp : pc + 2 = pc') (hl : storeLocals Ls i (.int z) = some Ls') (K : Wp p e below s n0 ck cs Q (T.setTop (mkF m pc' Ls' st))) : Wp p e below s n0 ck cs Q (T.setTop (mkF m pc Ls (.int z :: st))) := by
  obtain ⟨locs, X, N, eT, hx, hZ, hby, hml, hown, hret, hlk, hsz⟩ := A
  subst hp
  exact K.goo fun t q => XS.istore X.here hx rfl (hb hby hd) rfl hl q
theorem s_lstore (A : On l Z n0 own bytes maxL ret R p e s m args below meth c T h k n) {i : Nat} {z : Int64} (hd : decode bytes pc = .ok (.lstore i, 2)) (hp : pc + 2 = pc') (hl : storeLocals Ls i (.long z) = some Ls') (K : Wp p e below s n0 ck cs Q (T.setTop (mkF m pc' Ls' st))) : Wp p e below s n0 ck cs Q (T.setTop (mkF m pc Ls (.long z :: st))) := by
  obtain ⟨locs, X, N, eT, hx, hZ, hby, hml, hown, hret, hlk, hsz⟩ := A
  subst hp
  exact K.goo fun t q => XS.lstore X.here hx rfl (hb hby hd) rfl hl q
theorem s_astore (A : On l Z n0 own bytes maxL ret R p e s m args below meth c T h k n) {i : Nat} (hd : decode bytes pc = .ok (.astore i, 2)) (hp : pc + 2 = pc') (hv : v.isRef = true) (hl : storeLocals Ls i v = some Ls') (K : Wp p e below s n0 ck cs Q (T.setTop (mkF m pc' Ls' st))) : Wp p e below s n0 ck cs Q (T.setTop (mkF m pc Ls (v :: st))) := by
  obtain ⟨locs, X, N, eT, hx, hZ, hby, hml, hown, hret, hlk, hsz⟩ := A
  subst hp
  exact K.goo fun t q => XS.astore X.here hx rfl (hb hby hd) rfl hv hl q
theorem s_iconst (A : On l Z n0 own bytes maxL ret R p e s m args below meth c T h k n) {i : Int} {z : Int32} (hd : decode bytes pc = .ok (.iconst i, 1)) (hp : pc + 1 = pc') (hz : Int32.ofInt i = z) (K : Wp p e below s n0 ck cs Q (T.setTop (mkF m pc' Ls (.int z :: st)))) : Wp p e below s n0 ck cs Q (T.setTop (mkF m pc Ls st)) := by
  obtain ⟨locs, X, N, eT, hx, hZ, hby, hml, hown, hret, hlk, hsz⟩ := A
  subst hp
  subst hz
  exact K.goo fun t q => XS.iconst X.here hx rfl (hb hby hd) q
theorem s_bipush (A : On l Z n0 own bytes maxL ret R p e s m args below meth c T h k n) {i : Int} {z : Int32} (hd : decode bytes pc = .ok (.bipush i, 2)) (hp : pc + 2 = pc') (hz : (Int8.ofInt i).toInt32 = z) (K : Wp p e below s n0 ck cs Q (T.setTop (mkF m pc' Ls (.int z :: st)))) : Wp p e below s n0 ck cs Q (T.setTop (mkF m pc Ls st)) := by
  obtain ⟨locs, X, N, eT, hx, hZ, hby, hml, hown, hret, hlk, hsz⟩ := A
  subst hp
  subst hz
  exact K.goo fun t q => XS.bipush X.here hx rfl (hb hby hd) q
theorem s_sipush (A : On l Z n0 own bytes maxL ret R p e s m args below meth c T h k n) {i : Int} {z : Int32} (hd : decode bytes pc = .ok (.sipush i, 3)) (hp : pc + 3 = pc') (hz : (Int16.ofInt i).toInt32 = z) (K : Wp p e below s n0 ck cs Q (T.setTop (mkF m pc' Ls (.int z :: st)))) : Wp p e below s n0 ck cs Q (T.setTop (mkF m pc Ls st)) := by
  obtain ⟨locs, X, N, eT, hx, hZ, hby, hml, hown, hret, hlk, hsz⟩ := A
  subst hp
  subst hz
  exact K.goo fun t q => XS.sipush X.here hx rfl (hb hby hd) q
theorem s_lconst (A : On l Z n0 own bytes maxL ret R p e s m args below meth c T h k n) {i : Fin 2} {z : Int64} (hd : decode bytes pc = .ok (.lconst i, 1)) (hp : pc + 1 = pc') (hz : Int64.ofNat i = z) (K : Wp p e below s n0 ck cs Q (T.setTop (mkF m pc' Ls (.long z :: st)))) : Wp p e below s n0 ck cs Q (T.setTop (mkF m pc Ls st)) := by
  obtain ⟨locs, X, N, eT, hx, hZ, hby, hml, hown, hret, hlk, hsz⟩ := A
  subst hp
  subst hz
  exact K.goo fun t q => XS.lconst X.here hx rfl (hb hby hd) q
theorem s_aconstNull (A : On l Z n0 own bytes maxL ret R p e s m args below meth c T h k n)  (hd : decode bytes pc = .ok (.aconst_null, 1)) (hp : pc + 1 = pc') (K : Wp p e below s n0 ck cs Q (T.setTop (mkF m pc' Ls (.null :: st)))) : Wp p e below s n0 ck cs Q (T.setTop (mkF m pc Ls st)) := by
  obtain ⟨locs, X, N, eT, hx, hZ, hby, hml, hown, hret, hlk, hsz⟩ := A
  subst hp
  exact K.goo fun t q => XS.aconstNull X.here hx rfl (hb hby hd) q
theorem s_iadd (A : On l Z n0 own bytes maxL ret R p e s m args below meth c T h k n) {x y z : Int32} (hd : decode bytes pc = .ok (.iadd, 1)) (hp : pc + 1 = pc') (hz : x + y = z) (K : Wp p e below s n0 ck cs Q (T.setTop (mkF m pc' Ls (.int z :: st)))) : Wp p e below s n0 ck cs Q (T.setTop (mkF m pc Ls (.int y :: .int x :: st))) := by
  obtain ⟨locs, X, N, eT, hx, hZ, hby, hml, hown, hret, hlk, hsz⟩ := A
  subst hp
  subst hz
  exact K.goo fun t q => XS.iadd X.here hx rfl (hb hby hd) rfl q
theorem s_ladd (A : On l Z n0 own bytes maxL ret R p e s m args below meth c T h k n) {x y z : Int64} (hd : decode bytes pc = .ok (.ladd, 1)) (hp : pc + 1 = pc') (hz : x + y = z) (K : Wp p e below s n0 ck cs Q (T.setTop (mkF m pc' Ls (.long z :: st)))) : Wp p e below s n0 ck cs Q (T.setTop (mkF m pc Ls (.long y :: .long x :: st))) := by
  obtain ⟨locs, X, N, eT, hx, hZ, hby, hml, hown, hret, hlk, hsz⟩ := A
  subst hp
  subst hz
  exact K.goo fun t q => XS.ladd X.here hx rfl (hb hby hd) rfl q
theorem s_isub (A : On l Z n0 own bytes maxL ret R p e s m args below meth c T h k n) {x y z : Int32} (hd : decode bytes pc = .ok (.isub, 1)) (hp : pc + 1 = pc') (hz : x - y = z) (K : Wp p e below s n0 ck cs Q (T.setTop (mkF m pc' Ls (.int z :: st)))) : Wp p e below s n0 ck cs Q (T.setTop (mkF m pc Ls (.int y :: .int x :: st))) := by
  obtain ⟨locs, X, N, eT, hx, hZ, hby, hml, hown, hret, hlk, hsz⟩ := A
  subst hp
  subst hz
  exact K.goo fun t q => XS.isub X.here hx rfl (hb hby hd) rfl q
theorem s_lsub (A : On l Z n0 own bytes maxL ret R p e s m args below meth c T h k n) {x y z : Int64} (hd : decode bytes pc = .ok (.lsub, 1)) (hp : pc + 1 = pc') (hz : x - y = z) (K : Wp p e below s n0 ck cs Q (T.setTop (mkF m pc' Ls (.long z :: st)))) : Wp p e below s n0 ck cs Q (T.setTop (mkF m pc Ls (.long y :: .long x :: st))) := by
  obtain ⟨locs, X, N, eT, hx, hZ, hby, hml, hown, hret, hlk, hsz⟩ := A
  subst hp
  subst hz
  exact K.goo fun t q => XS.lsub X.here hx rfl (hb hby hd) rfl q
theorem s_imul (A : On l Z n0 own bytes maxL ret R p e s m args below meth c T h k n) {x y z : Int32} (hd : decode bytes pc = .ok (.imul, 1)) (hp : pc + 1 = pc') (hz : x * y = z) (K : Wp p e below s n0 ck cs Q (T.setTop (mkF m pc' Ls (.int z :: st)))) : Wp p e below s n0 ck cs Q (T.setTop (mkF m pc Ls (.int y :: .int x :: st))) := by
  obtain ⟨locs, X, N, eT, hx, hZ, hby, hml, hown, hret, hlk, hsz⟩ := A
  subst hp
  subst hz
  exact K.goo fun t q => XS.imul X.here hx rfl (hb hby hd) rfl q
theorem s_lmul (A : On l Z n0 own bytes maxL ret R p e s m args below meth c T h k n) {x y z : Int64} (hd : decode bytes pc = .ok (.lmul, 1)) (hp : pc + 1 = pc') (hz : x * y = z) (K : Wp p e below s n0 ck cs Q (T.setTop (mkF m pc' Ls (.long z :: st)))) : Wp p e below s n0 ck cs Q (T.setTop (mkF m pc Ls (.long y :: .long x :: st))) := by
  obtain ⟨locs, X, N, eT, hx, hZ, hby, hml, hown, hret, hlk, hsz⟩ := A
  subst hp
  subst hz
  exact K.goo fun t q => XS.lmul X.here hx rfl (hb hby hd) rfl q
theorem s_iand (A : On l Z n0 own bytes maxL ret R p e s m args below meth c T h k n) {x y z : Int32} (hd : decode bytes pc = .ok (.iand, 1)) (hp : pc + 1 = pc') (hz : x &&& y = z) (K : Wp p e below s n0 ck cs Q (T.setTop (mkF m pc' Ls (.int z :: st)))) : Wp p e below s n0 ck cs Q (T.setTop (mkF m pc Ls (.int y :: .int x :: st))) := by
  obtain ⟨locs, X, N, eT, hx, hZ, hby, hml, hown, hret, hlk, hsz⟩ := A
  subst hp
  subst hz
  exact K.goo fun t q => XS.iand X.here hx rfl (hb hby hd) rfl q
theorem s_land (A : On l Z n0 own bytes maxL ret R p e s m args below meth c T h k n) {x y z : Int64} (hd : decode bytes pc = .ok (.land, 1)) (hp : pc + 1 = pc') (hz : x &&& y = z) (K : Wp p e below s n0 ck cs Q (T.setTop (mkF m pc' Ls (.long z :: st)))) : Wp p e below s n0 ck cs Q (T.setTop (mkF m pc Ls (.long y :: .long x :: st))) := by
  obtain ⟨locs, X, N, eT, hx, hZ, hby, hml, hown, hret, hlk, hsz⟩ := A
  subst hp
  subst hz
  exact K.goo fun t q => XS.land X.here hx rfl (hb hby hd) rfl q
theorem s_ior (A : On l Z n0 own bytes maxL ret R p e s m args below meth c T h k n) {x y z : Int32} (hd : decode bytes pc = .ok (.ior, 1)) (hp : pc + 1 = pc') (hz : x ||| y = z) (K : Wp p e below s n0 ck cs Q (T.setTop (mkF m pc' Ls (.int z :: st)))) : Wp p e below s n0 ck cs Q (T.setTop (mkF m pc Ls (.int y :: .int x :: st))) := by
  obtain ⟨locs, X, N, eT, hx, hZ, hby, hml, hown, hret, hlk, hsz⟩ := A
  subst hp
  subst hz
  exact K.goo fun t q => XS.ior X.here hx rfl (hb hby hd) rfl q
theorem s_lor (A : On l Z n0 own bytes maxL ret R p e s m args below meth c T h k n) {x y z : Int64} (hd : decode bytes pc = .ok (.lor, 1)) (hp : pc + 1 = pc') (hz : x ||| y = z) (K : Wp p e below s n0 ck cs Q (T.setTop (mkF m pc' Ls (.long z :: st)))) : Wp p e below s n0 ck cs Q (T.setTop (mkF m pc Ls (.long y :: .long x :: st))) := by
  obtain ⟨locs, X, N, eT, hx, hZ, hby, hml, hown, hret, hlk, hsz⟩ := A
  subst hp
  subst hz
  exact K.goo fun t q => XS.lor X.here hx rfl (hb hby hd) rfl q
theorem s_ixor (A : On l Z n0 own bytes maxL ret R p e s m args below meth c T h k n) {x y z : Int32} (hd : decode bytes pc = .ok (.ixor, 1)) (hp : pc + 1 = pc') (hz : x ^^^ y = z) (K : Wp p e below s n0 ck cs Q (T.setTop (mkF m pc' Ls (.int z :: st)))) : Wp p e below s n0 ck cs Q (T.setTop (mkF m pc Ls (.int y :: .int x :: st))) := by
  obtain ⟨locs, X, N, eT, hx, hZ, hby, hml, hown, hret, hlk, hsz⟩ := A
  subst hp
  subst hz
  exact K.goo fun t q => XS.ixor X.here hx rfl (hb hby hd) rfl q
theorem s_lxor (A : On l Z n0 own bytes maxL ret R p e s m args below meth c T h k n) {x y z : Int64} (hd : decode bytes pc = .ok (.lxor, 1)) (hp : pc + 1 = pc') (hz : x ^^^ y = z) (K : Wp p e below s n0 ck cs Q (T.setTop (mkF m pc' Ls (.long z :: st)))) : Wp p e below s n0 ck cs Q (T.setTop (mkF m pc Ls (.long y :: .long x :: st))) := by
  obtain ⟨locs, X, N, eT, hx, hZ, hby, hml, hown, hret, hlk, hsz⟩ := A
  subst hp
  subst hz
  exact K.goo fun t q => XS.lxor X.here hx rfl (hb hby hd) rfl q
theorem s_idiv (A : On l Z n0 own bytes maxL ret R p e s m args below meth c T h k n) {x y z : Int32} (hd : decode bytes pc = .ok (.idiv, 1)) (hp : pc + 1 = pc') (hy : y ≠ 0) (hz : x / y = z) (K : Wp p e below s n0 ck cs Q (T.setTop (mkF m pc' Ls (.int z :: st)))) : Wp p e below s n0 ck cs Q (T.setTop (mkF m pc Ls (.int y :: .int x :: st))) := by
  obtain ⟨locs, X, N, eT, hx, hZ, hby, hml, hown, hret, hlk, hsz⟩ := A
  subst hp
  subst hz
  exact K.goo fun t q => XS.idiv X.here hx rfl (hb hby hd) rfl hy q
theorem s_ldiv (A : On l Z n0 own bytes maxL ret R p e s m args below meth c T h k n) {x y z : Int64} (hd : decode bytes pc = .ok (.ldiv, 1)) (hp : pc + 1 = pc') (hy : y ≠ 0) (hz : x / y = z) (K : Wp p e below s n0 ck cs Q (T.setTop (mkF m pc' Ls (.long z :: st)))) : Wp p e below s n0 ck cs Q (T.setTop (mkF m pc Ls (.long y :: .long x :: st))) := by
  obtain ⟨locs, X, N, eT, hx, hZ, hby, hml, hown, hret, hlk, hsz⟩ := A
  subst hp
  subst hz
  exact K.goo fun t q => XS.ldiv X.here hx rfl (hb hby hd) rfl hy q
theorem s_irem (A : On l Z n0 own bytes maxL ret R p e s m args below meth c T h k n) {x y z : Int32} (hd : decode bytes pc = .ok (.irem, 1)) (hp : pc + 1 = pc') (hy : y ≠ 0) (hz : x % y = z) (K : Wp p e below s n0 ck cs Q (T.setTop (mkF m pc' Ls (.int z :: st)))) : Wp p e below s n0 ck cs Q (T.setTop (mkF m pc Ls (.int y :: .int x :: st))) := by
  obtain ⟨locs, X, N, eT, hx, hZ, hby, hml, hown, hret, hlk, hsz⟩ := A
  subst hp
  subst hz
  exact K.goo fun t q => iremM X hx rfl (hb hby hd) rfl hy q
theorem s_ineg (A : On l Z n0 own bytes maxL ret R p e s m args below meth c T h k n) {x z : Int32} (hd : decode bytes pc = .ok (.ineg, 1)) (hp : pc + 1 = pc') (hz : -x = z) (K : Wp p e below s n0 ck cs Q (T.setTop (mkF m pc' Ls (.int z :: st)))) : Wp p e below s n0 ck cs Q (T.setTop (mkF m pc Ls (.int x :: st))) := by
  obtain ⟨locs, X, N, eT, hx, hZ, hby, hml, hown, hret, hlk, hsz⟩ := A
  subst hp
  subst hz
  exact K.goo fun t q => XS.ineg X.here hx rfl (hb hby hd) rfl q
theorem s_ishl (A : On l Z n0 own bytes maxL ret R p e s m args below meth c T h k n) {x y z : Int32} (hd : decode bytes pc = .ok (.ishl, 1)) (hp : pc + 1 = pc') (hz : x <<< (y &&& 31) = z) (K : Wp p e below s n0 ck cs Q (T.setTop (mkF m pc' Ls (.int z :: st)))) : Wp p e below s n0 ck cs Q (T.setTop (mkF m pc Ls (.int y :: .int x :: st))) := by
  obtain ⟨locs, X, N, eT, hx, hZ, hby, hml, hown, hret, hlk, hsz⟩ := A
  subst hp
  subst hz
  exact K.goo fun t q => XS.ishl X.here hx rfl (hb hby hd) rfl q
theorem s_ishr (A : On l Z n0 own bytes maxL ret R p e s m args below meth c T h k n) {x y z : Int32} (hd : decode bytes pc = .ok (.ishr, 1)) (hp : pc + 1 = pc') (hz : x >>> (y &&& 31) = z) (K : Wp p e below s n0 ck cs Q (T.setTop (mkF m pc' Ls (.int z :: st)))) : Wp p e below s n0 ck cs Q (T.setTop (mkF m pc Ls (.int y :: .int x :: st))) := by
  obtain ⟨locs, X, N, eT, hx, hZ, hby, hml, hown, hret, hlk, hsz⟩ := A
  subst hp
  subst hz
  exact K.goo fun t q => XS.ishr X.here hx rfl (hb hby hd) rfl q
theorem s_iushr (A : On l Z n0 own bytes maxL ret R p e s m args below meth c T h k n) {x y z : Int32} (hd : decode bytes pc = .ok (.iushr, 1)) (hp : pc + 1 = pc') (hz : ush x y = z) (K : Wp p e below s n0 ck cs Q (T.setTop (mkF m pc' Ls (.int z :: st)))) : Wp p e below s n0 ck cs Q (T.setTop (mkF m pc Ls (.int y :: .int x :: st))) := by
  obtain ⟨locs, X, N, eT, hx, hZ, hby, hml, hown, hret, hlk, hsz⟩ := A
  subst hp
  subst hz
  exact K.goo fun t q => XS.iushr X.here hx rfl (hb hby hd) rfl q
theorem s_lshl (A : On l Z n0 own bytes maxL ret R p e s m args below meth c T h k n) {x z : Int64} {y : Int32} (hd : decode bytes pc = .ok (.lshl, 1)) (hp : pc + 1 = pc') (hz : x <<< (y &&& 0x3f).toInt64 = z) (K : Wp p e below s n0 ck cs Q (T.setTop (mkF m pc' Ls (.long z :: st)))) : Wp p e below s n0 ck cs Q (T.setTop (mkF m pc Ls (.int y :: .long x :: st))) := by
  obtain ⟨locs, X, N, eT, hx, hZ, hby, hml, hown, hret, hlk, hsz⟩ := A
  subst hp
  subst hz
  exact K.goo fun t q => XS.lshl X.here hx rfl (hb hby hd) rfl q
theorem s_lshr (A : On l Z n0 own bytes maxL ret R p e s m args below meth c T h k n) {x z : Int64} {y : Int32} (hd : decode bytes pc = .ok (.lshr, 1)) (hp : pc + 1 = pc') (hz : x >>> (y &&& 0x3f).toInt64 = z) (K : Wp p e below s n0 ck cs Q (T.setTop (mkF m pc' Ls (.long z :: st)))) : Wp p e below s n0 ck cs Q (T.setTop (mkF m pc Ls (.int y :: .long x :: st))) := by
  obtain ⟨locs, X, N, eT, hx, hZ, hby, hml, hown, hret, hlk, hsz⟩ := A
  subst hp
  subst hz
  exact K.goo fun t q => XS.lshr X.here hx rfl (hb hby hd) rfl q
theorem s_lushr (A : On l Z n0 own bytes maxL ret R p e s m args below meth c T h k n) {x z : Int64} {y : Int32} (hd : decode bytes pc = .ok (.lushr, 1)) (hp : pc + 1 = pc') (hz : ushL x y = z) (K : Wp p e below s n0 ck cs Q (T.setTop (mkF m pc' Ls (.long z :: st)))) : Wp p e below s n0 ck cs Q (T.setTop (mkF m pc Ls (.int y :: .long x :: st))) := by
  obtain ⟨locs, X, N, eT, hx, hZ, hby, hml, hown, hret, hlk, hsz⟩ := A
  subst hp
  subst hz
  exact K.goo fun t q => XS.lushr X.here hx rfl (hb hby hd) rfl q
theorem s_lcmp (A : On l Z n0 own bytes maxL ret R p e s m args below meth c T h k n) {x y : Int64} (hd : decode bytes pc = .ok (.lcmp, 1)) (hp : pc + 1 = pc') (K : Wp p e below s n0 ck cs Q (T.setTop (mkF m pc' Ls (.int (lcmpW x y) :: st)))) : Wp p e below s n0 ck cs Q (T.setTop (mkF m pc Ls (.long y :: .long x :: st))) := by
  obtain ⟨locs, X, N, eT, hx, hZ, hby, hml, hown, hret, hlk, hsz⟩ := A
  subst hp
  exact K.goo fun t q => XS.lcmp X.here hx rfl (hb hby hd) rfl q
theorem s_i2l (A : On l Z n0 own bytes maxL ret R p e s m args below meth c T h k n) {x : Int32} {z : Int64} (hd : decode bytes pc = .ok (.i2l, 1)) (hp : pc + 1 = pc') (hz : x.toInt64 = z) (K : Wp p e below s n0 ck cs Q (T.setTop (mkF m pc' Ls (.long z :: st)))) : Wp p e below s n0 ck cs Q (T.setTop (mkF m pc Ls (.int x :: st))) := by
  obtain ⟨locs, X, N, eT, hx, hZ, hby, hml, hown, hret, hlk, hsz⟩ := A
  subst hp
  subst hz
  exact K.goo fun t q => XS.i2l X.here hx rfl (hb hby hd) rfl q
theorem s_l2i (A : On l Z n0 own bytes maxL ret R p e s m args below meth c T h k n) {x : Int64} {z : Int32} (hd : decode bytes pc = .ok (.l2i, 1)) (hp : pc + 1 = pc') (hz : x.toInt32 = z) (K : Wp p e below s n0 ck cs Q (T.setTop (mkF m pc' Ls (.int z :: st)))) : Wp p e below s n0 ck cs Q (T.setTop (mkF m pc Ls (.long x :: st))) := by
  obtain ⟨locs, X, N, eT, hx, hZ, hby, hml, hown, hret, hlk, hsz⟩ := A
  subst hp
  subst hz
  exact K.goo fun t q => XS.l2i X.here hx rfl (hb hby hd) rfl q
theorem s_i2b (A : On l Z n0 own bytes maxL ret R p e s m args below meth c T h k n) {x z : Int32} (hd : decode bytes pc = .ok (.i2b, 1)) (hp : pc + 1 = pc') (hz : x.toInt8.toInt32 = z) (K : Wp p e below s n0 ck cs Q (T.setTop (mkF m pc' Ls (.int z :: st)))) : Wp p e below s n0 ck cs Q (T.setTop (mkF m pc Ls (.int x :: st))) := by
  obtain ⟨locs, X, N, eT, hx, hZ, hby, hml, hown, hret, hlk, hsz⟩ := A
  subst hp
  subst hz
  exact K.goo fun t q => XS.i2b X.here hx rfl (hb hby hd) rfl q
theorem s_dup (A : On l Z n0 own bytes maxL ret R p e s m args below meth c T h k n)  (hd : decode bytes pc = .ok (.dup, 1)) (hp : pc + 1 = pc') (hc : v.category = 1) (K : Wp p e below s n0 ck cs Q (T.setTop (mkF m pc' Ls (v :: v :: st)))) : Wp p e below s n0 ck cs Q (T.setTop (mkF m pc Ls (v :: st))) := by
  obtain ⟨locs, X, N, eT, hx, hZ, hby, hml, hown, hret, hlk, hsz⟩ := A
  subst hp
  exact K.goo fun t q => XS.dup X.here hx rfl (hb hby hd) rfl hc q
theorem s_dup2 (A : On l Z n0 own bytes maxL ret R p e s m args below meth c T h k n)  (hd : decode bytes pc = .ok (.dup2, 1)) (hp : pc + 1 = pc') (hc : v.category = 1) (hc' : w.category = 1) (K : Wp p e below s n0 ck cs Q (T.setTop (mkF m pc' Ls (v :: w :: v :: w :: st)))) : Wp p e below s n0 ck cs Q (T.setTop (mkF m pc Ls (v :: w :: st))) := by
  obtain ⟨locs, X, N, eT, hx, hZ, hby, hml, hown, hret, hlk, hsz⟩ := A
  subst hp
  exact K.goo fun t q => XT.dup2 X.here hx rfl (hb hby hd) rfl hc hc' q
theorem s_dup2L (A : On l Z n0 own bytes maxL ret R p e s m args below meth c T h k n) {x : Int64} (hd : decode bytes pc = .ok (.dup2, 1)) (hp : pc + 1 = pc') (K : Wp p e below s n0 ck cs Q (T.setTop (mkF m pc' Ls (.long x :: .long x :: st)))) : Wp p e below s n0 ck cs Q (T.setTop (mkF m pc Ls (.long x :: st))) := by
  obtain ⟨locs, X, N, eT, hx, hZ, hby, hml, hown, hret, hlk, hsz⟩ := A
  subst hp
  exact K.goo fun t q => XT.dup2L X.here hx rfl (hb hby hd) rfl q
theorem s_dupX1 (A : On l Z n0 own bytes maxL ret R p e s m args below meth c T h k n)  (hd : decode bytes pc = .ok (.dup_x1, 1)) (hp : pc + 1 = pc') (hc : v.category = 1) (hc' : w.category = 1) (K : Wp p e below s n0 ck cs Q (T.setTop (mkF m pc' Ls (v :: w :: v :: st)))) : Wp p e below s n0 ck cs Q (T.setTop (mkF m pc Ls (v :: w :: st))) := by
  obtain ⟨locs, X, N, eT, hx, hZ, hby, hml, hown, hret, hlk, hsz⟩ := A
  subst hp
  exact K.goo fun t q => XS.dupX1 X.here hx rfl (hb hby hd) rfl hc hc' q
theorem s_dup2X1L (A : On l Z n0 own bytes maxL ret R p e s m args below meth c T h k n) {x : Int64} (hd : decode bytes pc = .ok (.dup2_x1, 1)) (hp : pc + 1 = pc') (hc' : w.category = 1) (K : Wp p e below s n0 ck cs Q (T.setTop (mkF m pc' Ls (.long x :: w :: .long x :: st)))) : Wp p e below s n0 ck cs Q (T.setTop (mkF m pc Ls (.long x :: w :: st))) := by
  obtain ⟨locs, X, N, eT, hx, hZ, hby, hml, hown, hret, hlk, hsz⟩ := A
  subst hp
  refine K.goo fun t q => ?_
  jvm_step X.here [X.here.top, hx, (hb hby hd), Value.category, hc']
  exact ⟨hc', q⟩
theorem s_pop (A : On l Z n0 own bytes maxL ret R p e s m args below meth c T h k n)  (hd : decode bytes pc = .ok (.pop, 1)) (hp : pc + 1 = pc') (hc : v.category = 1) (K : Wp p e below s n0 ck cs Q (T.setTop (mkF m pc' Ls st))) : Wp p e below s n0 ck cs Q (T.setTop (mkF m pc Ls (v :: st))) := by
  obtain ⟨locs, X, N, eT, hx, hZ, hby, hml, hown, hret, hlk, hsz⟩ := A
  subst hp
  exact K.goo fun t q => XS.pop X.here hx rfl (hb hby hd) rfl hc q
theorem s_pop2L (A : On l Z n0 own bytes maxL ret R p e s m args below meth c T h k n) {x : Int64} (hd : decode bytes pc = .ok (.pop2, 1)) (hp : pc + 1 = pc') (K : Wp p e below s n0 ck cs Q (T.setTop (mkF m pc' Ls st))) : Wp p e below s n0 ck cs Q (T.setTop (mkF m pc Ls (.long x :: st))) := by
  obtain ⟨locs, X, N, eT, hx, hZ, hby, hml, hown, hret, hlk, hsz⟩ := A
  subst hp
  refine K.goo fun t q => ?_
  jvm_step X.here [X.here.top, hx, (hb hby hd), Value.category]
  exact q
theorem s_iinc (A : On l Z n0 own bytes maxL ret R p e s m args below meth c T h k n) {i : Nat} {j : Int} {x z : Int32} (hd : decode bytes pc = .ok (.iinc i j, 3)) (hp : pc + 3 = pc') (hl : Ls[i]? = some (.val (.int x))) (hz : x + Int32.ofInt j = z) (hs : storeLocals Ls i (.int z) = some Ls') (K : Wp p e below s n0 ck cs Q (T.setTop (mkF m pc' Ls' st))) : Wp p e below s n0 ck cs Q (T.setTop (mkF m pc Ls st)) := by
  obtain ⟨locs, X, N, eT, hx, hZ, hby, hml, hown, hret, hlk, hsz⟩ := A
  subst hp
  subst hz
  exact K.goo fun t q => XS.iinc X.here hx rfl (hb hby hd) hl hs q
theorem s_goto (A : On l Z n0 own bytes maxL ret R p e s m args below meth c T h k n)  {o : Int} (hd : decode bytes pc = .ok (.goto o, 3))  (ho : 0 ≤ (pc : Int) + o) (hp : ((pc : Int) + o).toNat = pc') (K : Wp p e below s n0 ck cs Q (T.setTop (mkF m pc' Ls st))) : Wp p e below s n0 ck cs Q (T.setTop (mkF m pc Ls st)) := by
  obtain ⟨locs, X, N, eT, hx, hZ, hby, hml, hown, hret, hlk, hsz⟩ := A
  exact K.goo fun t q => XS.goto X.here hx rfl (pc0 := pc) rfl (hb hby hd) ho hp q
theorem s_ifY (A : On l Z n0 own bytes maxL ret R p e s m args below meth c T h k n) {cd : ClassFile.Cond} {x : Int32} {o : Int} (hd : decode bytes pc = .ok (.ifCond cd o, 3)) (hc : ifCond.holds cd x = true) (ho : 0 ≤ (pc : Int) + o) (hp : ((pc : Int) + o).toNat = pc') (K : Wp p e below s n0 ck cs Q (T.setTop (mkF m pc' Ls st))) : Wp p e below s n0 ck cs Q (T.setTop (mkF m pc Ls (.int x :: st))) := by
  obtain ⟨locs, X, N, eT, hx, hZ, hby, hml, hown, hret, hlk, hsz⟩ := A
  exact K.goo fun t q => XS.ifYes X.here hx rfl (pc0 := pc) rfl (hb hby hd) rfl hc ho hp q
theorem s_icmpY (A : On l Z n0 own bytes maxL ret R p e s m args below meth c T h k n) {cd : ClassFile.Cond} {x y : Int32} {o : Int} (hd : decode bytes pc = .ok (.if_icmp cd o, 3)) (hc : if_icmp.holds cd x y = true) (ho : 0 ≤ (pc : Int) + o) (hp : ((pc : Int) + o).toNat = pc') (K : Wp p e below s n0 ck cs Q (T.setTop (mkF m pc' Ls st))) : Wp p e below s n0 ck cs Q (T.setTop (mkF m pc Ls (.int y :: .int x :: st))) := by
  obtain ⟨locs, X, N, eT, hx, hZ, hby, hml, hown, hret, hlk, hsz⟩ := A
  exact K.goo fun t q => XS.icmpYes X.here hx rfl (pc0 := pc) rfl (hb hby hd) rfl hc ho hp q
theorem s_ifnullY (A : On l Z n0 own bytes maxL ret R p e s m args below meth c T h k n)  {o : Int} (hd : decode bytes pc = .ok (.ifnull o, 3))  (ho : 0 ≤ (pc : Int) + o) (hp : ((pc : Int) + o).toNat = pc') (K : Wp p e below s n0 ck cs Q (T.setTop (mkF m pc' Ls st))) : Wp p e below s n0 ck cs Q (T.setTop (mkF m pc Ls (.null :: st))) := by
  obtain ⟨locs, X, N, eT, hx, hZ, hby, hml, hown, hret, hlk, hsz⟩ := A
  exact K.goo fun t q => XS.ifnullYes X.here hx rfl (pc0 := pc) rfl (hb hby hd) rfl ho hp q
theorem s_ifnonnullY (A : On l Z n0 own bytes maxL ret R p e s m args below meth c T h k n)  {o : Int} (hd : decode bytes pc = .ok (.ifnonnull o, 3))  (ho : 0 ≤ (pc : Int) + o) (hp : ((pc : Int) + o).toNat = pc') (K : Wp p e below s n0 ck cs Q (T.setTop (mkF m pc' Ls st))) : Wp p e below s n0 ck cs Q (T.setTop (mkF m pc Ls (.ref b :: st))) := by
  obtain ⟨locs, X, N, eT, hx, hZ, hby, hml, hown, hret, hlk, hsz⟩ := A
  exact K.goo fun t q => XS.ifnonnullYes X.here hx rfl (pc0 := pc) rfl (hb hby hd) rfl ho hp q
theorem s_acmpY (A : On l Z n0 own bytes maxL ret R p e s m args below meth c T h k n) {cd : ACond} {o : Int} (hd : decode bytes pc = .ok (.if_acmp cd o, 3)) (hv : v.isRef = true) (hw : w.isRef = true) (hc : XT.acmp cd v w = true) (ho : 0 ≤ (pc : Int) + o) (hp : ((pc : Int) + o).toNat = pc') (K : Wp p e below s n0 ck cs Q (T.setTop (mkF m pc' Ls st))) : Wp p e below s n0 ck cs Q (T.setTop (mkF m pc Ls (w :: v :: st))) := by
  obtain ⟨locs, X, N, eT, hx, hZ, hby, hml, hown, hret, hlk, hsz⟩ := A
  exact K.goo fun t q => XT.acmpYes X.here hx rfl (pc0 := pc) rfl (hb hby hd) rfl hv hw hc ho hp q
theorem s_ifN (A : On l Z n0 own bytes maxL ret R p e s m args below meth c T h k n) {cd : ClassFile.Cond} {x : Int32} {o : Int} (hd : decode bytes pc = .ok (.ifCond cd o, 3)) (hp : pc + 3 = pc') (hc : ifCond.holds cd x = false) (K : Wp p e below s n0 ck cs Q (T.setTop (mkF m pc' Ls st))) : Wp p e below s n0 ck cs Q (T.setTop (mkF m pc Ls (.int x :: st))) := by
  obtain ⟨locs, X, N, eT, hx, hZ, hby, hml, hown, hret, hlk, hsz⟩ := A
  subst hp
  exact K.goo fun t q => XS.ifNo X.here hx rfl (hb hby hd) rfl hc q
theorem s_icmpN (A : On l Z n0 own bytes maxL ret R p e s m args below meth c T h k n) {cd : ClassFile.Cond} {x y : Int32} {o : Int} (hd : decode bytes pc = .ok (.if_icmp cd o, 3)) (hp : pc + 3 = pc') (hc : if_icmp.holds cd x y = false) (K : Wp p e below s n0 ck cs Q (T.setTop (mkF m pc' Ls st))) : Wp p e below s n0 ck cs Q (T.setTop (mkF m pc Ls (.int y :: .int x :: st))) := by
  obtain ⟨locs, X, N, eT, hx, hZ, hby, hml, hown, hret, hlk, hsz⟩ := A
  subst hp
  exact K.goo fun t q => XS.icmpNo X.here hx rfl (hb hby hd) rfl hc q
theorem s_ifnullN (A : On l Z n0 own bytes maxL ret R p e s m args below meth c T h k n) {o : Int} (hd : decode bytes pc = .ok (.ifnull o, 3)) (hp : pc + 3 = pc') (K : Wp p e below s n0 ck cs Q (T.setTop (mkF m pc' Ls st))) : Wp p e below s n0 ck cs Q (T.setTop (mkF m pc Ls (.ref b :: st))) := by
  obtain ⟨locs, X, N, eT, hx, hZ, hby, hml, hown, hret, hlk, hsz⟩ := A
  subst hp
  exact K.goo fun t q => XS.ifnullNo X.here hx rfl (hb hby hd) rfl q
theorem s_ifnonnullN (A : On l Z n0 own bytes maxL ret R p e s m args below meth c T h k n) {o : Int} (hd : decode bytes pc = .ok (.ifnonnull o, 3)) (hp : pc + 3 = pc') (K : Wp p e below s n0 ck cs Q (T.setTop (mkF m pc' Ls st))) : Wp p e below s n0 ck cs Q (T.setTop (mkF m pc Ls (.null :: st))) := by
  obtain ⟨locs, X, N, eT, hx, hZ, hby, hml, hown, hret, hlk, hsz⟩ := A
  subst hp
  exact K.goo fun t q => XS.ifnonnullNo X.here hx rfl (hb hby hd) rfl q
theorem s_acmpN (A : On l Z n0 own bytes maxL ret R p e s m args below meth c T h k n) {cd : ACond} {o : Int} (hd : decode bytes pc = .ok (.if_acmp cd o, 3)) (hp : pc + 3 = pc') (hv : v.isRef = true) (hw : w.isRef = true) (hc : XT.acmp cd v w = false) (K : Wp p e below s n0 ck cs Q (T.setTop (mkF m pc' Ls st))) : Wp p e below s n0 ck cs Q (T.setTop (mkF m pc Ls (w :: v :: st))) := by
  obtain ⟨locs, X, N, eT, hx, hZ, hby, hml, hown, hret, hlk, hsz⟩ := A
  subst hp
  exact K.goo fun t q => XT.acmpNo X.here hx rfl (hb hby hd) rfl hv hw hc q
theorem s_ldcInt (A : On l Z n0 own bytes maxL ret R p e s m args below meth c T h k n) {i : Nat} {z : Int32} (hd : decode bytes pc = .ok (.ldc i, 2)) (hp : pc + 2 = pc') (w0 : (Cond.constant own i z).before a0 Z = true) (K : Wp p e below s n0 ck cs Q (T.setTop (mkF m pc' Ls (.int z :: st)))) : Wp p e below s n0 ck cs Q (T.setTop (mkF m pc Ls st)) := by
  obtain ⟨locs, X, N, eT, hx, hZ, hby, hml, hown, hret, hlk, hsz⟩ := A
  subst hp
  exact K.goo fun t q => X.ldcInt hx hown (mvT hZ w0) (g := mkF m pc Ls st) rfl (hb hby hd) t q
theorem s_ldcwInt (A : On l Z n0 own bytes maxL ret R p e s m args below meth c T h k n) {i : Nat} {z : Int32} (hd : decode bytes pc = .ok (.ldc_w i, 3)) (hp : pc + 3 = pc') (w0 : (Cond.constant own i z).before a0 Z = true) (K : Wp p e below s n0 ck cs Q (T.setTop (mkF m pc' Ls (.int z :: st)))) : Wp p e below s n0 ck cs Q (T.setTop (mkF m pc Ls st)) := by
  obtain ⟨locs, X, N, eT, hx, hZ, hby, hml, hown, hret, hlk, hsz⟩ := A
  subst hp
  exact K.goo fun t q => X.ldcwInt hx hown (mvT hZ w0) (g := mkF m pc Ls st) rfl (hb hby hd) t q
theorem s_ldc2Long (A : On l Z n0 own bytes maxL ret R p e s m args below meth c T h k n) {i : Nat} {z : Int64} (hd : decode bytes pc = .ok (.ldc2_w i, 3)) (hp : pc + 3 = pc') (w0 : (Cond.constantLong own i z).before a0 Z = true) (K : Wp p e below s n0 ck cs Q (T.setTop (mkF m pc' Ls (.long z :: st)))) : Wp p e below s n0 ck cs Q (T.setTop (mkF m pc Ls st)) := by
  obtain ⟨locs, X, N, eT, hx, hZ, hby, hml, hown, hret, hlk, hsz⟩ := A
  subst hp
  exact K.goo fun t q => X.ldc2Long hx hown (mvT hZ w0) (g := mkF m pc Ls st) rfl (hb hby hd) t q
theorem idx_ok {j : Int32} {i : Nat} (hj : j.toInt = (i : Int)) : j.toNatClampNeg = i := by show j.toInt.toNat = i; omega
theorem idx_in' {j : Int32} {i : Nat} {N : Nat} (hj : j.toInt = (i : Int)) (hi : i < N) : ¬ (j < 0 ∨ N ≤ j.toNatClampNeg) := by
  rw [idx_ok hj, Int32.lt_iff_toInt_lt, hj]
  have : (0 : Int32).toInt = 0 := by decide
  omega
theorem s_getfield (A : On l Z n0 own bytes maxL ret R p e s m args below meth c T h k n) {index : Nat} {R0 O f d host : String} (w0 : (Cond.fieldLink own index R0 f d).before a0 Z = true ∨ (Cond.fieldLinkNest own index R0 f d host).before a0 Z = true) (via : Via Z R0 O f d) (F : Fld Z h a O f d v) (hd : decode bytes pc = .ok (.getfield index, 3)) (hp : pc + 3 = pc') (K : ∀ T' , On l Z n0 own bytes maxL ret R p e s m args below meth c T' h k n → Wp p e below s n0 ck cs Q (T'.setTop (mkF m pc' Ls (v :: st)))) : Wp p e below s n0 ck cs Q (T.setTop (mkF m pc Ls (.ref a :: st))) := by
  obtain ⟨locs, X, N, eT, hx, hZ, hby, hml, hown, hret, hlk, hsz⟩ := A
  subst hp
  obtain ⟨T', X', e', q⟩ := getF X hx hZ hown w0 via eT F (g := mkF m pc Ls (.ref a :: st)) rfl rfl (hb hby hd)
  exact (K T' ⟨_, X', N, e', hx, hZ, hby, hml, hown, hret, hlk, hsz⟩).goo q
theorem s_getstatic (A : On l Z n0 own bytes maxL ret R p e s m args below meth c T h k n) {index : Nat} {R0 O f d host : String} (w0 : (Cond.fieldLink own index R0 f d).before a0 Z = true ∨ (Cond.fieldLinkNest own index R0 f d host).before a0 Z = true) (via : Via Z R0 O f d) (F : Sta Z h O f d v) (hd : decode bytes pc = .ok (.getstatic index, 3)) (hp : pc + 3 = pc') (K : ∀ T' , On l Z n0 own bytes maxL ret R p e s m args below meth c T' h k n → Wp p e below s n0 ck cs Q (T'.setTop (mkF m pc' Ls (v :: st)))) : Wp p e below s n0 ck cs Q (T.setTop (mkF m pc Ls st)) := by
  obtain ⟨locs, X, N, eT, hx, hZ, hby, hml, hown, hret, hlk, hsz⟩ := A
  subst hp
  obtain ⟨T', X', e', q⟩ := getS2 X hx hZ hown w0 via eT F (g := mkF m pc Ls st) rfl (hb hby hd)
  exact (K T' ⟨_, X', N, e', hx, hZ, hby, hml, hown, hret, hlk, hsz⟩).goo q
theorem s_putfield (A : On l Z n0 own bytes maxL ret R p e s m args below meth c T h k n) {index kk : Nat} {R0 O f d host C : String} (w0 : (Cond.fieldLink own index R0 f d).before a0 Z = true ∨ (Cond.fieldLinkNest own index R0 f d host).before a0 Z = true) (via : Via Z R0 O f d) (F : Fld Z h a O f d w) (E : Exa Z h a C) (L : (Cond.lays C O f d).before a0 Z = true ∨ ((Cond.laysFinal C O f d).before a0 Z = true ∧ own = O ∧ meth.name = "<init>")) (wi : (Cond.instantiable C kk).before a0 Z = true) (hty : parseFieldDescriptor d = some ty) (hnar : narrow ty v = v) (hfit : fits ty v = true) (ha : n0 ≤ a) (hd : decode bytes pc = .ok (.putfield index, 3)) (hp : pc + 3 = pc') (K : ∀ T' h', On l Z n0 own bytes maxL ret R p e s m args below meth c T' h' k n → Wr h h' a (Jvm.RoadKit.slotOf Z O f d) v → Wp p e below s n0 ck cs Q (T'.setTop (mkF m pc' Ls st))) : Wp p e below s n0 ck cs Q (T.setTop (mkF m pc Ls (v :: .ref a :: st))) := by
  obtain ⟨locs, X, N, eT, hx, hZ, hby, hml, hown, hret, hlk, hsz⟩ := A
  subst hp
  obtain ⟨T', h', X', e', W, q⟩ := putF X hx hZ hown w0 via eT F E L wi hty hnar hfit (g := mkF m pc Ls (v :: .ref a :: st)) rfl rfl (hb hby hd)
  exact (K T' h' ⟨_, X', Fr.snoc X' N ha, e', hx, hZ, hby, hml, hown, hret, hlk, hsz⟩ W).goo q
theorem s_putfieldN (A : On l Z n0 own bytes maxL ret R p e s m args below meth c T h k n) {index kk : Nat} {R0 O f d C : String} {v' : Value} (w0 : (Cond.fieldLink own index R0 f d).before a0 Z = true) (via : Via Z R0 O f d) (F : Fld Z h a O f d w) (E : Exa Z h a C) (L : (Cond.lays C O f d).before a0 Z = true ∨ ((Cond.laysFinal C O f d).before a0 Z = true ∧ own = O ∧ meth.name = "<init>")) (wi : (Cond.instantiable C kk).before a0 Z = true) (hty : parseFieldDescriptor d = some ty) (hnar : narrow ty v = v') (hfit : fits ty v' = true) (ha : n0 ≤ a) (hd : decode bytes pc = .ok (.putfield index, 3)) (hp : pc + 3 = pc') (K : ∀ T' h', On l Z n0 own bytes maxL ret R p e s m args below meth c T' h' k n → Wr h h' a (Jvm.RoadKit.slotOf Z O f d) v' → Wp p e below s n0 ck cs Q (T'.setTop (mkF m pc' Ls st))) : Wp p e below s n0 ck cs Q (T.setTop (mkF m pc Ls (v :: .ref a :: st))) := by
  obtain ⟨locs, X, N, eT, hx, hZ, hby, hml, hown, hret, hlk, hsz⟩ := A
  subst hp
  obtain ⟨T', h', X', e', W, q⟩ := putFN X hx hZ hown w0 via eT F E L wi hty hnar hfit (g := mkF m pc Ls (v :: .ref a :: st)) rfl rfl (hb hby hd)
  exact (K T' h' ⟨_, X', Fr.snoc X' N ha, e', hx, hZ, hby, hml, hown, hret, hlk, hsz⟩ W).goo q
theorem s_new (A : On l Z n0 own bytes maxL ret R p e s m args below meth c T h k n) {index ns : Nat} {C : String} (w0 : (Cond.classLink own index C).before a0 Z = true) (wi : (Cond.instantiable C ns).before a0 Z = true) (wz : (Cond.initialized C).before a0 Z = true) (hc : k + 1 ≤ R.cells) (hs : n + ns ≤ R.slots) (hd : decode bytes pc = .ok (.new index, 3)) (hp : pc + 3 = pc') (K : ∀ T' h' b, On l Z n0 own bytes maxL ret R p e s m args below meth c T' h' (k + 1) (n + ns) → h.size = b → n0 ≤ b → Ext h h' → Exa Z h' b C → (∀ {O nm d : String} {ty : FieldType}, Laid Z a0 C O nm d → parseFieldDescriptor d = some ty → Fld Z h' b O nm d (defaultValue ty)) → Wp p e below s n0 ck cs Q (T'.setTop (mkF m pc' Ls (.ref b :: st)))) : Wp p e below s n0 ck cs Q (T.setTop (mkF m pc Ls st)) := by
  obtain ⟨locs, X, N, eT, hx, hZ, hby, hml, hown, hret, hlk, hsz⟩ := A
  subst hp
  obtain ⟨T', h', X', e', E, A', D, -, q⟩ := newO X hx hZ hown w0 wi wz eT (g := mkF m pc Ls st) rfl (hb hby hd) hc hs
  have hz : n0 ≤ h.size := by rw [← eT]; exact Nat.le_trans hsz X.same.2.1
  exact (K T' h' _ ⟨_, X', N, e', hx, hZ, hby, hml, hown, hret, hlk, hsz⟩ rfl hz E A' D).goo q
theorem s_newarray (A : On l Z n0 own bytes maxL ret R p e s m args below meth c T h k n) {aty : ArrayType} {dv : Value} {z : Int32} {i cap : Nat} (hty : newarray.typeOf aty = ty) (hdv : defaultValue ty = dv) (wa : (Cond.arrayClass ty).before a0 Z = true) (hz : z.toInt = (i : Int)) (hcap : i ≤ cap) (hbig : cap * 8 ≤ 536870912) (hc : k + 1 ≤ R.cells) (hs : n + cap ≤ R.slots) (hd : decode bytes pc = .ok (.newarray aty, 2)) (hp : pc + 2 = pc') (K : ∀ T' h' b, On l Z n0 own bytes maxL ret R p e s m args below meth c T' h' (k + 1) (n + cap) → h.size = b → n0 ≤ b → Ext h h' → AA Z h' b ty (List.replicate i dv) → Wp p e below s n0 ck cs Q (T'.setTop (mkF m pc' Ls (.ref b :: st)))) : Wp p e below s n0 ck cs Q (T.setTop (mkF m pc Ls (.int z :: st))) := by
  obtain ⟨locs, X, N, eT, hx, hZ, hby, hml, hown, hret, hlk, hsz⟩ := A
  subst hp
  subst hty hdv
  have z0 : ¬ z < 0 := by rw [Int32.lt_iff_toInt_lt, hz]; have : (0 : Int32).toInt = 0 := by decide
                          omega
  obtain ⟨T', h', cA, X', e', E, A', q⟩ := newP X hx hZ wa eT (g := mkF m pc Ls (.int z :: st)) rfl (hb hby hd) rfl z0 (cap := cap) (by rw [idx_ok hz]; exact hcap) hbig hc hs
  have hz' : n0 ≤ h.size := by rw [← eT]; exact Nat.le_trans hsz X.same.2.1
  exact (K T' h' _ ⟨_, X', N, e', hx, hZ, hby, hml, hown, hret, hlk, hsz⟩ rfl hz' E (AA.new A' hz)).goo q
theorem s_iastore (A : On l Z n0 own bytes maxL ret R p e s m args below meth c T h k n) {x : Int32} {j : Int32} {i : Nat} (V : AA Z h a .int vs) (hj : j.toInt = (i : Int)) (hi : i < vs.length) (ha : n0 ≤ a) (hd : decode bytes pc = .ok (.iastore, 1)) (hp : pc + 1 = pc') (K : ∀ T' h', On l Z n0 own bytes maxL ret R p e s m args below meth c T' h' k n → Wr h h' a i (.int x) → AA Z h' a .int (vs.set i (.int x)) → Wp p e below s n0 ck cs Q (T'.setTop (mkF m pc' Ls st))) : Wp p e below s n0 ck cs Q (T.setTop (mkF m pc Ls (.int x :: .int j :: .ref a :: st))) := by
  obtain ⟨locs, X, N, eT, hx, hZ, hby, hml, hown, hret, hlk, hsz⟩ := A
  subst hp
  have V0 := V
  obtain ⟨cl, Ar, r1, r2⟩ := V0
  obtain ⟨T', h', X', e', W, q⟩ := stI X hx hZ eT Ar (j := j) (idx_in' hj (by rw [r1]; simpa using hi)) (g := mkF m pc Ls (.int x :: .int j :: .ref a :: st)) rfl rfl (hb hby hd)
  have W' := W
  rw [idx_ok hj] at W'
  exact (K T' h' ⟨_, X', Fr.snoc X' N ha, e', hx, hZ, hby, hml, hown, hret, hlk, hsz⟩ W' (V.set W')).goo q
theorem s_lastore (A : On l Z n0 own bytes maxL ret R p e s m args below meth c T h k n) {x : Int64} {j : Int32} {i : Nat} (V : AA Z h a .long vs) (hj : j.toInt = (i : Int)) (hi : i < vs.length) (ha : n0 ≤ a) (hd : decode bytes pc = .ok (.lastore, 1)) (hp : pc + 1 = pc') (K : ∀ T' h', On l Z n0 own bytes maxL ret R p e s m args below meth c T' h' k n → Wr h h' a i (.long x) → AA Z h' a .long (vs.set i (.long x)) → Wp p e below s n0 ck cs Q (T'.setTop (mkF m pc' Ls st))) : Wp p e below s n0 ck cs Q (T.setTop (mkF m pc Ls (.long x :: .int j :: .ref a :: st))) := by
  obtain ⟨locs, X, N, eT, hx, hZ, hby, hml, hown, hret, hlk, hsz⟩ := A
  subst hp
  have V0 := V
  obtain ⟨cl, Ar, r1, r2⟩ := V0
  obtain ⟨T', h', X', e', W, q⟩ := stJ X hx hZ eT Ar (j := j) (idx_in' hj (by rw [r1]; simpa using hi)) (g := mkF m pc Ls (.long x :: .int j :: .ref a :: st)) rfl rfl (hb hby hd)
  have W' := W
  rw [idx_ok hj] at W'
  exact (K T' h' ⟨_, X', Fr.snoc X' N ha, e', hx, hZ, hby, hml, hown, hret, hlk, hsz⟩ W' (V.set W')).goo q
theorem s_bastore (A : On l Z n0 own bytes maxL ret R p e s m args below meth c T h k n) {x : Int32} {j : Int32} {i : Nat} (V : AA Z h a .byte vs) (hj : j.toInt = (i : Int)) (hi : i < vs.length) (ha : n0 ≤ a) (hd : decode bytes pc = .ok (.bastore, 1)) (hp : pc + 1 = pc') (K : ∀ T' h', On l Z n0 own bytes maxL ret R p e s m args below meth c T' h' k n → Wr h h' a i (.int x.toInt8.toInt32) → AA Z h' a .byte (vs.set i (.int x.toInt8.toInt32)) → Wp p e below s n0 ck cs Q (T'.setTop (mkF m pc' Ls st))) : Wp p e below s n0 ck cs Q (T.setTop (mkF m pc Ls (.int x :: .int j :: .ref a :: st))) := by
  obtain ⟨locs, X, N, eT, hx, hZ, hby, hml, hown, hret, hlk, hsz⟩ := A
  subst hp
  have V0 := V
  obtain ⟨cl, Ar, r1, r2⟩ := V0
  obtain ⟨T', h', X', e', W, q⟩ := stB X hx hZ eT Ar (j := j) (idx_in' hj (by rw [r1]; simpa using hi)) (g := mkF m pc Ls (.int x :: .int j :: .ref a :: st)) rfl rfl (hb hby hd)
  have W' := W
  rw [idx_ok hj] at W'
  exact (K T' h' ⟨_, X', Fr.snoc X' N ha, e', hx, hZ, hby, hml, hown, hret, hlk, hsz⟩ W' (V.set W')).goo q
theorem s_iaload (A : On l Z n0 own bytes maxL ret R p e s m args below meth c T h k n) {j : Int32} {i : Nat} (V : AA Z h a .int vs) (hj : j.toInt = (i : Int)) (hv : vs[i]? = some v) (hd : decode bytes pc = .ok (.iaload, 1)) (hp : pc + 1 = pc') (K : Wp p e below s n0 ck cs Q (T.setTop (mkF m pc' Ls (v :: st)))) : Wp p e below s n0 ck cs Q (T.setTop (mkF m pc Ls (.int j :: .ref a :: st))) := by
  obtain ⟨locs, X, N, eT, hx, hZ, hby, hml, hown, hret, hlk, hsz⟩ := A
  subst hp
  obtain ⟨cl, Ar, r1, r2⟩ := V
  have hi : i < vs.length := (List.getElem?_eq_some_iff.mp hv).1
  exact K.goo fun t q => X.iaload hx (j := j) (v := v) (by rw [eT]; exact Ar.1) (State.isArrayOf_alike hZ.alike Ar.2.1) Ar.2.2 (idx_in' hj (by rw [r1]; simpa using hi)) (by rw [idx_ok hj, r1]; simpa using hv) (g := mkF m pc Ls (.int j :: .ref a :: st)) rfl rfl (hb hby hd) t q
theorem s_laload (A : On l Z n0 own bytes maxL ret R p e s m args below meth c T h k n) {j : Int32} {i : Nat} (V : AA Z h a .long vs) (hj : j.toInt = (i : Int)) (hv : vs[i]? = some v) (hd : decode bytes pc = .ok (.laload, 1)) (hp : pc + 1 = pc') (K : Wp p e below s n0 ck cs Q (T.setTop (mkF m pc' Ls (v :: st)))) : Wp p e below s n0 ck cs Q (T.setTop (mkF m pc Ls (.int j :: .ref a :: st))) := by
  obtain ⟨locs, X, N, eT, hx, hZ, hby, hml, hown, hret, hlk, hsz⟩ := A
  subst hp
  obtain ⟨cl, Ar, r1, r2⟩ := V
  have hi : i < vs.length := (List.getElem?_eq_some_iff.mp hv).1
  exact K.goo fun t q => X.laload hx (j := j) (v := v) (by rw [eT]; exact Ar.1) (State.isArrayOf_alike hZ.alike Ar.2.1) Ar.2.2 (idx_in' hj (by rw [r1]; simpa using hi)) (by rw [idx_ok hj, r1]; simpa using hv) (g := mkF m pc Ls (.int j :: .ref a :: st)) rfl rfl (hb hby hd) t q
theorem s_baload (A : On l Z n0 own bytes maxL ret R p e s m args below meth c T h k n) {j : Int32} {i : Nat} (V : AA Z h a .byte vs) (hj : j.toInt = (i : Int)) (hv : vs[i]? = some v) (hd : decode bytes pc = .ok (.baload, 1)) (hp : pc + 1 = pc') (K : Wp p e below s n0 ck cs Q (T.setTop (mkF m pc' Ls (v :: st)))) : Wp p e below s n0 ck cs Q (T.setTop (mkF m pc Ls (.int j :: .ref a :: st))) := by
  obtain ⟨locs, X, N, eT, hx, hZ, hby, hml, hown, hret, hlk, hsz⟩ := A
  subst hp
  obtain ⟨cl, Ar, r1, r2⟩ := V
  have hi : i < vs.length := (List.getElem?_eq_some_iff.mp hv).1
  exact K.goo fun t q => X.baloadBytes hx (j := j) (v := v) (by rw [eT]; exact Ar.1) (State.isArrayOf_alike hZ.alike Ar.2.1) Ar.2.2 (idx_in' hj (by rw [r1]; simpa using hi)) (by rw [idx_ok hj, r1]; simpa using hv) (g := mkF m pc Ls (.int j :: .ref a :: st)) rfl rfl (hb hby hd) t q
theorem s_arraylength (A : On l Z n0 own bytes maxL ret R p e s m args below meth c T h k n) {z : Int32} (V : AA Z h a ty vs) (hz : z.toInt = (vs.length : Int)) (hd : decode bytes pc = .ok (.arraylength, 1)) (hp : pc + 1 = pc') (K : Wp p e below s n0 ck cs Q (T.setTop (mkF m pc' Ls (.int z :: st)))) : Wp p e below s n0 ck cs Q (T.setTop (mkF m pc Ls (.ref a :: st))) := by
  obtain ⟨locs, X, N, eT, hx, hZ, hby, hml, hown, hret, hlk, hsz⟩ := A
  subst hp
  obtain ⟨cl, Ar, r1, r2⟩ := V
  have q0 : cl.slots.size.toInt32 = z := by
    rw [r1]; apply Int32.toInt_inj.mp; rw [len_toInt (by simpa using r2), hz]; simp
  exact K.goo fun t q => X.arraylength hx (by rw [eT]; exact Ar.1) (State.isArrayOf_alike hZ.alike Ar.2.1) (g := mkF m pc Ls (.ref a :: st)) rfl rfl (hb hby hd) t (by rw [q0]; exact q)
theorem s_static (A : On l Z n0 own bytes maxL ret R p e s m args below meth c T h k n) {index : Nat} {y : MethodName} {bytes' : ByteArray} {maxL' : Nat} {ret' : Option FieldType} {rm : Room} {argsL rest : List Value} {Q' : Option Value → Heap → Prop} (M : Met l Z n0 y bytes' maxL' ret' rm argsL.toArray h Q') (wl : (Cond.methodLink own index y).before a0 Z = true) (ws : (Cond.static y).before a0 Z = true) (wz : (Cond.initialized y.cls).before a0 Z = true) (wc : (Cond.code y bytes' maxL' ret').before a0 Z = true) (hy : y.cls ≠ "java/lang/invoke/MethodHandle" ∧ y.cls ≠ "java/lang/invoke/VarHandle") {sig : MethodDescriptor} (hsig : parseMethodDescriptor y.desc = some sig) (hlen : argsL.length = sig.parameters.length) {W : Nat} (hf : rm.frames + 1 ≤ R.frames) (hl : W + (maxL' + 11) + rm.locals ≤ R.locals) (hW : (rest.map fun v => v.category).sum ≤ W) (hc : k + rm.cells ≤ R.cells) (hs : n + rm.slots ≤ R.slots) (hLs : Ls.size = maxL) {stk : List Value} (hst : stk = argsL.reverse ++ rest) (hd : decode bytes pc = .ok (.invokestatic index, 3)) (hp : pc + 3 = pc') (K : ∀ T' h' v, On l Z n0 own bytes maxL ret R p e s m args below meth c T' h' (k + rm.cells) (n + rm.slots) → Q' v h' → Wp p e below s n0 ck cs Q (T'.setTop (mkF m pc' Ls (v.toList ++ rest)))) : Wp p e below s n0 ck cs Q (T.setTop (mkF m pc Ls stk)) := by
  obtain ⟨locs, X, N, eT, hx, hZ, hby, hml, hown, hret, hlk, hsz⟩ := A
  subst hp
  obtain ⟨v, _, ⟨T', L', k', n'⟩, -, X', ⟨Lc, ⟨Nq, hQ⟩, l1, l2, l3⟩, q⟩ := Jvm.LawKit.callS X hx (y := y) hown (mvT hZ wl) (mvT hZ ws) (mvT hZ wz) (mvT hZ wc) hy (backOf (Q := fun v h L => Fr n0 L ∧ Q' v h) (W := W) (M []) hZ wc wz hf hl) (g := mkF m pc Ls stk) rfl (by rw [hml]; exact hLs) (argsL := argsL) (rest := rest) (lenOf hsig hlen) hst (by show 2 * 0 + _ ≤ _; simpa using hW) (hb hby hd) (fun _ _ => ⟨rfl, eT, hc, hs⟩)
  dsimp only [Pt.U, Pt.locs, Pt.cells, Pt.slots] at X' l1 l2 l3 q hQ Nq
  subst l1 l2 l3
  exact (K T' T'.heap v ⟨_, X', Fr.app N Nq, rfl, hx, hZ, hby, hml, hown, hret, hlk, hsz⟩ hQ).goo q
theorem s_virtual (A : On l Z n0 own bytes maxL ret R p e s m args below meth c T h k n) {index : Nat} {y : MethodName} {bytes' : ByteArray} {maxL' : Nat} {ret' : Option FieldType} {rm : Room} {argsL rest : List Value} {Q' : Option Value → Heap → Prop} {C : String} {z : MethodName} (E : Exa Z h b C) (M : Met l Z n0 z bytes' maxL' ret' rm (.ref b :: argsL).toArray h Q') (wl : (Cond.methodLink own index y).before a0 Z = true) (wd : (Cond.declares y).before a0 Z = true) (wn : ∀ (args : Array Value) (s : State), Z.Warmed39 s.vm → NotFace s y) (wsel : (Cond.selects C y z).before a0 Z = true) (wim : (Cond.instanceMethod z).before a0 Z = true) (wz : (Cond.initialized z.cls).before a0 Z = true) (wc : (Cond.code z bytes' maxL' ret').before a0 Z = true) (hy : y.cls ≠ "java/lang/invoke/MethodHandle" ∧ y.cls ≠ "java/lang/invoke/VarHandle") {sig : MethodDescriptor} (hsig : parseMethodDescriptor y.desc = some sig) (hlen : argsL.length = sig.parameters.length) {W : Nat} (hf : rm.frames + 1 ≤ R.frames) (hl : W + (maxL' + 11) + rm.locals ≤ R.locals) (hW : (rest.map fun v => v.category).sum ≤ W) (hc : k + rm.cells ≤ R.cells) (hs : n + rm.slots ≤ R.slots) (hLs : Ls.size = maxL) {stk : List Value} (hst : stk = argsL.reverse ++ .ref b :: rest) (hd : decode bytes pc = .ok (.invokevirtual index, 3)) (hp : pc + 3 = pc') (K : ∀ T' h' v, On l Z n0 own bytes maxL ret R p e s m args below meth c T' h' (k + rm.cells) (n + rm.slots) → Q' v h' → Wp p e below s n0 ck cs Q (T'.setTop (mkF m pc' Ls (v.toList ++ rest)))) : Wp p e below s n0 ck cs Q (T.setTop (mkF m pc Ls stk)) := by
  obtain ⟨locs, X, N, eT, hx, hZ, hby, hml, hown, hret, hlk, hsz⟩ := A
  subst hp
  obtain ⟨cq, kq, qa, qb, qc⟩ := isOf hZ eT E
  obtain ⟨v, _, ⟨T', L', k', n'⟩, -, X', ⟨Lc, ⟨Nq, hQ⟩, l1, l2, l3⟩, q⟩ := X.virtualBack hx (y := y) (z := z) hown (mvT hZ wl) (mvT hZ wd) (wn #[] s hZ) (mvT hZ wsel) (mvT hZ wim) hy (backOf (Q := fun v h L => Fr n0 L ∧ Q' v h) (W := W) (M []) hZ wc wz hf hl) qa qc (g := mkF m pc Ls stk) rfl (by rw [hml]; exact hLs) (Steps.refl _) (argsL := argsL) (rest := rest) (lenOf hsig hlen) hst (by show 2 * 0 + _ ≤ _; simpa using hW) (hb hby hd) (fun _ _ => ⟨rfl, eT, hc, hs⟩)
  dsimp only [Pt.U, Pt.locs, Pt.cells, Pt.slots] at X' l1 l2 l3 q hQ Nq
  subst l1 l2 l3
  exact (K T' T'.heap v ⟨_, X', Fr.app N Nq, rfl, hx, hZ, hby, hml, hown, hret, hlk, hsz⟩ hQ).goo (fun t r => q.trans r)
theorem nf_same {y : MethodName} {C : String} (wsel : (Cond.selects y.cls y y).before a0 Z = true) : ∀ (args : Array Value) (s : State), Z.Warmed39 s.vm → NotFace s y := fun args s hZ => notFace_of_selects (args := #[]) (mvT hZ wsel)
theorem s_special (A : On l Z n0 own bytes maxL ret R p e s m args below meth c T h k n) {index : Nat} {y : MethodName} {bytes' : ByteArray} {maxL' : Nat} {rm : Room} {argsL rest : List Value} {Q' : Option Value → Heap → Prop} (M : Met l Z n0 y bytes' maxL' none rm (.ref b :: argsL).toArray h Q') (hy1 : y.name = "<init>") (wl : (Cond.methodLink own index y).before a0 Z = true) (wim : (Cond.instanceMethod y).before a0 Z = true) (wz : (Cond.initialized y.cls).before a0 Z = true) (wc : (Cond.code y bytes' maxL' none).before a0 Z = true) (hy : y.cls ≠ "java/lang/invoke/MethodHandle" ∧ y.cls ≠ "java/lang/invoke/VarHandle") {sig : MethodDescriptor} (hsig : parseMethodDescriptor y.desc = some sig) (hlen : argsL.length = sig.parameters.length) {W : Nat} (hf : rm.frames + 1 ≤ R.frames) (hl : W + (maxL' + 11) + rm.locals ≤ R.locals) (hW : (rest.map fun v => v.category).sum ≤ W) (hc : k + rm.cells ≤ R.cells) (hs : n + rm.slots ≤ R.slots) (hLs : Ls.size = maxL) {stk : List Value} (hst : stk = argsL.reverse ++ .ref b :: rest) (hd : decode bytes pc = .ok (.invokespecial index, 3)) (hp : pc + 3 = pc') (K : ∀ T' h' v, On l Z n0 own bytes maxL ret R p e s m args below meth c T' h' (k + rm.cells) (n + rm.slots) → Q' v h' → Wp p e below s n0 ck cs Q (T'.setTop (mkF m pc' Ls (v.toList ++ rest)))) : Wp p e below s n0 ck cs Q (T.setTop (mkF m pc Ls stk)) := by
  obtain ⟨locs, X, N, eT, hx, hZ, hby, hml, hown, hret, hlk, hsz⟩ := A
  subst hp
  obtain ⟨v, _, ⟨T', L', k', n'⟩, -, X', ⟨Lc, ⟨Nq, hQ⟩, l1, l2, l3⟩, q⟩ := X.specialBack hx (y := y) hy1 hown (mvT hZ wl) (mvT hZ wim) (mvT hZ wc) hy (backOf (Q := fun v h L => Fr n0 L ∧ Q' v h) (W := W) (M []) hZ wc wz hf hl) (g := mkF m pc Ls stk) rfl (by rw [hml]; exact hLs) (Steps.refl _) (a := b) (argsL := argsL) (rest := rest) (lenOf hsig hlen) hst (by show 2 * 0 + _ ≤ _; simpa using hW) (hb hby hd) (fun _ _ => ⟨rfl, eT, hc, hs⟩)
  dsimp only [Pt.U, Pt.locs, Pt.cells, Pt.slots] at X' l1 l2 l3 q hQ Nq
  subst l1 l2 l3
  exact (K T' T'.heap v ⟨_, X', Fr.app N Nq, rfl, hx, hZ, hby, hml, hown, hret, hlk, hsz⟩ hQ).goo (fun t r => q.trans r)
theorem s_private (A : On l Z n0 own bytes maxL ret R p e s m args below meth c T h k n) {index : Nat} {y : MethodName} {bytes' : ByteArray} {maxL' : Nat} {ret' : Option FieldType} {rm : Room} {argsL rest : List Value} {Q' : Option Value → Heap → Prop} {C : String} (E : Exa Z h b C) (M : Met l Z n0 y bytes' maxL' ret' rm (.ref b :: argsL).toArray h Q') (wl : (Cond.methodLink own index y).before a0 Z = true) (wim : (Cond.instanceMethod y).before a0 Z = true) {kk : Nat} (wi : (Cond.instantiable y.cls kk).before a0 Z = true) (wp : (Cond.privateMethod y).before a0 Z = true) (wz : (Cond.initialized y.cls).before a0 Z = true) (wc : (Cond.code y bytes' maxL' ret').before a0 Z = true) (hy : y.cls ≠ "java/lang/invoke/MethodHandle" ∧ y.cls ≠ "java/lang/invoke/VarHandle") {sig : MethodDescriptor} (hsig : parseMethodDescriptor y.desc = some sig) (hlen : argsL.length = sig.parameters.length) {W : Nat} (hf : rm.frames + 1 ≤ R.frames) (hl : W + (maxL' + 11) + rm.locals ≤ R.locals) (hW : (rest.map fun v => v.category).sum ≤ W) (hc : k + rm.cells ≤ R.cells) (hs : n + rm.slots ≤ R.slots) (hLs : Ls.size = maxL) {stk : List Value} (hst : stk = argsL.reverse ++ .ref b :: rest) (hd : decode bytes pc = .ok (.invokevirtual index, 3)) (hp : pc + 3 = pc') (K : ∀ T' h' v, On l Z n0 own bytes maxL ret R p e s m args below meth c T' h' (k + rm.cells) (n + rm.slots) → Q' v h' → Wp p e below s n0 ck cs Q (T'.setTop (mkF m pc' Ls (v.toList ++ rest)))) : Wp p e below s n0 ck cs Q (T.setTop (mkF m pc Ls stk)) := by
  obtain ⟨locs, X, N, eT, hx, hZ, hby, hml, hown, hret, hlk, hsz⟩ := A
  subst hp
  obtain ⟨cq, q0, q1⟩ := E.cell
  obtain ⟨ci, ki, i1, i2, -, i4, -⟩ := Cond.instantiable_spec (show (Cond.instantiable y.cls kk).before args s = true from mvT hZ wi)
  have i5 : ki.isInterface = false := by simp only [Bool.or_eq_false_iff] at i4; exact i4.1
  have hpriv := Cond.privateMethod_at (mvP hZ wp (args := args))
  have hsel := selects_self_of_private (args := args) i1 i2 i5 hpriv (mvT hZ wim) hy
  obtain ⟨v, _, ⟨T', L', k', n'⟩, -, X', ⟨Lc, ⟨Nq, hQ⟩, l1, l2, l3⟩, q⟩ := X.privateBack hx (y := y) hown (mvT hZ wl) (mvT hZ wim) hsel hpriv (mvT hZ wc) hy (backOf (Q := fun v h L => Fr n0 L ∧ Q' v h) (W := W) (M []) hZ wc wz hf hl) (g := mkF m pc Ls stk) rfl (by rw [hml]; exact hLs) (Steps.refl _) (a := b) (by rw [eT]; exact q0) q1 (argsL := argsL) (rest := rest) (lenOf hsig hlen) hst (by show 2 * 0 + _ ≤ _; simpa using hW) (hb hby hd) (fun _ _ => ⟨rfl, eT, hc, hs⟩)
  dsimp only [Pt.U, Pt.locs, Pt.cells, Pt.slots] at X' l1 l2 l3 q hQ Nq
  subst l1 l2 l3
  exact (K T' T'.heap v ⟨_, X', Fr.app N Nq, rfl, hx, hZ, hby, hml, hown, hret, hlk, hsz⟩ hQ).goo (fun t r => q.trans r)
theorem s_initO (A : On l Z n0 own bytes maxL ret R p e s m args below meth c T h k n) {index : Nat} (w1 : (Cond.methodLink own index Lib.objectInit).before a0 Z = true) (w2 : (Cond.instanceMethod Lib.objectInit).before a0 Z = true) (w3 : (Cond.code Lib.objectInit ⟨#[0xb1]⟩ 1 none).before a0 Z = true) {W : Nat} (hf : 1 ≤ R.frames) (hW : (st.map fun v => v.category).sum ≤ W) (hl : W + 12 ≤ R.locals) (hLs : Ls.size = maxL) (hd : decode bytes pc = .ok (.invokespecial index, 3)) (hp : pc + 3 = pc') (K : ∀ T', On l Z n0 own bytes maxL ret R p e s m args below meth c T' h k n → Wp p e below s n0 ck cs Q (T'.setTop (mkF m pc' Ls st))) : Wp p e below s n0 ck cs Q (T.setTop (mkF m pc Ls (.ref a :: st))) := by
  obtain ⟨locs, X, N, eT, hx, hZ, hby, hml, hown, hret, hlk, hsz⟩ := A
  subst hp
  obtain ⟨T', X', e', q⟩ := initO X hx hZ hown w1 w2 w3 eT (g := mkF m pc Ls (.ref a :: st)) rfl (by rw [hml]; exact hLs) rfl (hb hby hd) hf (W := W) (by show 2 * 0 + _ ≤ _; simpa using hW) hl
  exact (K T' ⟨_, X', N, e', hx, hZ, hby, hml, hown, hret, hlk, hsz⟩).goo q
theorem AA.arv (F : AA Z h a ty vs) (fit : ∀ v ∈ vs, fits ty v = true) (dv : Value) : ∃ (kc : ClassId) (z : Int32), z.toInt = (vs.length : Int) ∧ Arv Z h a kc ty z vs dv := by
  obtain ⟨c, A, r1, r2⟩ := F
  have ez : vs.length.toInt32.toInt = (vs.length : Int) := len_toInt r2
  have es : c.slots.size = vs.length := by rw [r1]; simp
  refine ⟨c.cls, vs.length.toInt32, ez, c, A, rfl, ?_, ?_, ?_, ?_⟩
  · rw [es, idx_ok ez]
  · rw [Int32.lt_iff_toInt_lt, ez]; have : (0 : Int32).toInt = 0 := by decide
    omega
  · intro q hq
    rw [es] at hq
    rw [r1]; simp [List.getD_eq_getElem?_getD, hq]
  · intro q hq
    rw [es] at hq
    have : vs.getD q dv = vs[q] := by simp [List.getD_eq_getElem?_getD, hq]
    rw [this]; exact fit _ (List.getElem_mem hq)
theorem aa_of_arv {kc : ClassId} {z : Int32} {dv : Value} (F : Arv Z h a kc ty z vs dv) (hl : z.toInt = (vs.length : Int)) : AA Z h a ty vs := by
  obtain ⟨c, A, q, S, N, H, G⟩ := F
  rw [idx_ok hl] at S
  refine ⟨c, A, ?_, ?_⟩
  · apply Array.ext
    · simp [S]
    · intro i h1 h2
      have := H i h1
      rw [Array.getElem?_eq_getElem h1] at this
      have h3 : i < vs.length := by simpa using h2
      simpa [List.getD_eq_getElem?_getD, h3] using this
  · have := z.toInt_lt; omega
theorem range_map (vs : List Value) (dv : Value) (i N : Nat) (hb : i + N ≤ vs.length) : (List.range N).map (fun q => vs.getD (i + q) dv) = (vs.drop i).take N := by
  apply List.ext_getElem
  · simp; omega
  · intro q h1 h2
    have h3 : q < N := by simpa using h1
    have h4 : i + q < vs.length := by omega
    simp [List.getD_eq_getElem?_getD, h4]
theorem s_arraycopy (A : On l Z n0 own bytes maxL ret R p e s m args below meth c T h k n) {index : Nat} {vd : List Value} {sp dp nn : Int32} {i j cnt : Nat} (w1 : (Cond.methodLink own index Jvm.Stand.acN).before a0 Z = true) (w2 : (Cond.native Jvm.Stand.acN).before a0 Z = true) (w3 : (Cond.static Jvm.Stand.acN).before a0 Z = true) (w4 : (Cond.initialized "java/lang/System").before a0 Z = true) (V : AA Z h a ty vs) (V' : AA Z h b ty vd) (fit : ∀ v ∈ vs, fits ty v = true) (fit' : ∀ v ∈ vd, fits ty v = true) (hpr : refKind ty = false) (hsp : sp.toInt = (i : Int)) (hdp : dp.toInt = (j : Int)) (hnn : nn.toInt = (cnt : Int)) (h4 : i + cnt ≤ vs.length) (h5 : j + cnt ≤ vd.length) (ge : n0 ≤ b) {W : Nat} (hf : 1 ≤ R.frames) (hW : (st.map fun v => v.category).sum ≤ W) (hlo : W + (nativeFrameWords "java/lang/System" "arraycopy" 5 + 11) ≤ R.locals) (hLs : Ls.size = maxL) (hd : decode bytes pc = .ok (.invokestatic index, 3)) (hp : pc + 3 = pc') (K : ∀ T' h', On l Z n0 own bytes maxL ret R p e s m args below meth c T' h' k n → Keep h h' [b] → AA Z h' b ty (vd.take j ++ (vs.drop i).take cnt ++ vd.drop (j + cnt)) → Wp p e below s n0 ck cs Q (T'.setTop (mkF m pc' Ls st))) : Wp p e below s n0 ck cs Q (T.setTop (mkF m pc Ls (.int nn :: .int dp :: .ref b :: .int sp :: .ref a :: st))) := by
  obtain ⟨locs, X, N, eT, hx, hZ, hby, hml, hown, hret, hlk, hsz⟩ := A
  subst hp
  obtain ⟨k1, z1, ez1, A1⟩ := V.arv fit .null
  obtain ⟨k2, z2, ez2, A2⟩ := V'.arv fit' .null
  have neg : ∀ {x : Int32} {q : Nat}, x.toInt = (q : Int) → ¬ x < 0 := fun {x q} hq => by
    rw [Int32.lt_iff_toInt_lt, hq]; have : (0 : Int32).toInt = 0 := by decide
    omega
  obtain ⟨T', h', L, X', e', N', K', A', q⟩ := cpA X hx hZ hown w1 w2 w3 w4 eT A1 A2 (us := (vs.drop i).take cnt) (sp := sp) (dp := dp) (nn := nn) (Or.inl ⟨rfl, hpr⟩) (neg hsp) (neg hdp) (neg hnn) (by rw [idx_ok hsp, idx_ok hnn, idx_ok ez1]; exact h4) (by rw [idx_ok hdp, idx_ok hnn, idx_ok ez2]; exact h5) (by rw [idx_ok hsp, idx_ok hnn]; exact (range_map vs _ i cnt h4).symm) (by rw [idx_ok hdp, idx_ok hnn]; exact h5) N ge (g := mkF m pc Ls (.int nn :: .int dp :: .ref b :: .int sp :: .ref a :: st)) rfl (by rw [hml]; exact hLs) rfl (hb hby hd) hf (W := W) (by show 2 * 0 + _ ≤ _; simpa using hW) hlo
  rw [idx_ok hdp, idx_ok hnn] at A'
  exact (K T' h' ⟨L, X', N', e', hx, hZ, hby, hml, hown, hret, hlk, hsz⟩ K' (aa_of_arv A' (by rw [ez2]; simp; omega))).goo q
theorem r_void (A : On l Z n0 own bytes maxL ret R p e s m args below meth c T h k n) (hr : ret = none) (hd : decode bytes pc = .ok (.return_, 1)) (hk : k ≤ ck) (hn : n ≤ cs) (q : Q none h) : Wp p e below s n0 ck cs Q (T.setTop (mkF m pc Ls [])) := by
  obtain ⟨locs, X, N, eT, hx, hZ, hby, hml, hown, hret, hlk, hsz⟩ := A
  have hR : meth.sig.returnType = none := hret.trans hr
  obtain ⟨fs, h1, hrun, hended, hW, hsame⟩ := X.leave (v := none) (fun _ => rfl) hlk
  exact ⟨_, _, X.returnOut hx hR (hb hby hd) h1, hrun, hended, _, _, rfl, ⟨N, by show Q none T.heap; rw [eT]; exact q⟩, ⟨_, rfl⟩, hW, hsame.mono hk hn⟩
theorem r_val (A : On l Z n0 own bytes maxL ret R p e s m args below meth c T h k n) {i : Instr} {t : FieldType} (hr : ret = some t) (hn0 : narrow t v = v) (hi : (i = .ireturn ∧ (t = .int ∨ t = .boolean ∨ t = .byte ∨ t = .char ∨ t = .short) ∧ ∃ z, v = .int z) ∨ (i = .lreturn ∧ t = .long ∧ ∃ z, v = .long z) ∨ (i = .dreturn ∧ t = .double ∧ ∃ z, v = .double z) ∨ (i = .freturn ∧ t = .float ∧ ∃ z, v = .float z) ∨ (i = .areturn ∧ t.isReference = true ∧ v.isRef = true)) (hd : decode bytes pc = .ok (i, 1)) (hk : k ≤ ck) (hn : n ≤ cs) (q : Q (some v) h) : Wp p e below s n0 ck cs Q (T.setTop (mkF m pc Ls (v :: st))) := by
  obtain ⟨locs, X, N, eT, hx, hZ, hby, hml, hown, hret, hlk, hsz⟩ := A
  have hR : meth.sig.returnType = some t := hret.trans hr
  obtain ⟨fs, h1, hrun, hended, hW, hsame⟩ := X.leave (v := some v) (fun z => by rw [hR] at z; cases z) hlk
  exact ⟨_, _, retOut X hx hR hn0 hi (hb hby hd) h1, hrun, hended, _, _, rfl, ⟨N, by show Q (some v) T.heap; rw [eT]; exact q⟩, ⟨_, rfl⟩, hW, hsame.mono hk hn⟩
theorem r_int (A : On l Z n0 own bytes maxL ret R p e s m args below meth c T h k n) {z : Int32} (hr : ret = some .int) (hd : decode bytes pc = .ok (.ireturn, 1)) (hk : k ≤ ck) (hn : n ≤ cs) (q : Q (some (.int z)) h) : Wp p e below s n0 ck cs Q (T.setTop (mkF m pc Ls (.int z :: st))) := r_val A hr rfl (Or.inl ⟨rfl, Or.inl rfl, _, rfl⟩) hd hk hn q
theorem r_bool (A : On l Z n0 own bytes maxL ret R p e s m args below meth c T h k n) {z : Int32} (hr : ret = some .boolean) (hz : z = 0 ∨ z = 1) (hd : decode bytes pc = .ok (.ireturn, 1)) (hk : k ≤ ck) (hn : n ≤ cs) (q : Q (some (.int z)) h) : Wp p e below s n0 ck cs Q (T.setTop (mkF m pc Ls (.int z :: st))) := r_val A hr (by rcases hz with rfl | rfl <;> rfl) (Or.inl ⟨rfl, Or.inr (Or.inl rfl), _, rfl⟩) hd hk hn q
theorem r_long (A : On l Z n0 own bytes maxL ret R p e s m args below meth c T h k n) {z : Int64} (hr : ret = some .long) (hd : decode bytes pc = .ok (.lreturn, 1)) (hk : k ≤ ck) (hn : n ≤ cs) (q : Q (some (.long z)) h) : Wp p e below s n0 ck cs Q (T.setTop (mkF m pc Ls (.long z :: st))) := r_val A hr rfl (Or.inr (Or.inl ⟨rfl, rfl, _, rfl⟩)) hd hk hn q
theorem r_ref (A : On l Z n0 own bytes maxL ret R p e s m args below meth c T h k n) {t : FieldType} (hr : ret = some t) (ht : t.isReference = true) (hv : v.isRef = true) (hd : decode bytes pc = .ok (.areturn, 1)) (hk : k ≤ ck) (hn : n ≤ cs) (q : Q (some v) h) : Wp p e below s n0 ck cs Q (T.setTop (mkF m pc Ls (v :: st))) := r_val A hr (by cases t <;> first | rfl | cases ht) (Or.inr (Or.inr (Or.inr (Or.inr ⟨rfl, ht, hv⟩)))) hd hk hn q
end Kit
end Jvm.Ow
namespace Jvm.Pilot.@@N@@
open Jvm Jvm.ClassFile Sem Op Lib Jvm.Free Jvm.Stand Jvm.LawKit Jvm.RoadKit Jvm.Ow Bundle Jvm.Pilot.@@N@@.Jvm.D
theorem d3_0 : decode jdk_65_method_103_code 0 = .ok (.iconst 0, 1) := by decide +kernel
theorem d3_1 : decode jdk_65_method_103_code 1 = .ok (.istore_n 2, 1) := by decide +kernel
theorem d3_2 : decode jdk_65_method_103_code 2 = .ok (.aload_n 0, 1) := by decide +kernel
theorem d3_3 : decode jdk_65_method_103_code 3 = .ok (.arraylength, 1) := by decide +kernel
theorem d3_4 : decode jdk_65_method_103_code 4 = .ok (.istore_n 3, 1) := by decide +kernel
theorem d3_5 : decode jdk_65_method_103_code 5 = .ok (.iload_n 2, 1) := by decide +kernel
theorem d3_6 : decode jdk_65_method_103_code 6 = .ok (.iload_n 3, 1) := by decide +kernel
theorem d3_7 : decode jdk_65_method_103_code 7 = .ok (.if_icmp .ge 13, 3) := by decide +kernel
theorem d3_10 : decode jdk_65_method_103_code 10 = .ok (.aload_n 0, 1) := by decide +kernel
theorem d3_11 : decode jdk_65_method_103_code 11 = .ok (.iload_n 2, 1) := by decide +kernel
theorem d3_12 : decode jdk_65_method_103_code 12 = .ok (.iload_n 1, 1) := by decide +kernel
theorem d3_13 : decode jdk_65_method_103_code 13 = .ok (.iastore, 1) := by decide +kernel
theorem d3_14 : decode jdk_65_method_103_code 14 = .ok (.iinc 2 1, 3) := by decide +kernel
theorem d3_17 : decode jdk_65_method_103_code 17 = .ok (.goto (-12), 3) := by decide +kernel
theorem d3_20 : decode jdk_65_method_103_code 20 = .ok (.return_, 1) := by decide +kernel
abbrev y0_fill : MethodName := ⟨"java/util/Arrays", "fill", "([II)V"⟩
theorem pn_java_util_Arrays : plainName "java/util/Arrays" = true := by first | (simp [plainName, overriddenIn]; done) | decide +kernel
abbrev c0_Arrays : String := "java/util/Arrays"
theorem w0 {Z : State} {a0 : Array Value} (hw : ∀ d ∈ tables_1, d.before a0 Z = true) : (Jvm.Cond.classLink "com/example/kithgraph/kithgraph/cluster/GainQueueClearPinLaw" (7 : Nat) "com/example/kithgraph/kithgraph/cluster/GainQueue").before a0 Z = true := hw _ (List.mem_of_getElem? (i := 0) rfl)
theorem w1 {Z : State} {a0 : Array Value} (hw : ∀ d ∈ tables_1, d.before a0 Z = true) : (Jvm.Cond.instantiable "com/example/kithgraph/kithgraph/cluster/GainQueue" (4 : Nat)).before a0 Z = true := hw _ (List.mem_of_getElem? (i := 1) rfl)
theorem w2 {Z : State} {a0 : Array Value} (hw : ∀ d ∈ tables_1, d.before a0 Z = true) : (Jvm.Cond.initialized "com/example/kithgraph/kithgraph/cluster/GainQueue").before a0 Z = true := hw _ (List.mem_of_getElem? (i := 2) rfl)
theorem w10 {Z : State} {a0 : Array Value} (hw : ∀ d ∈ tables_1, d.before a0 Z = true) : (Jvm.Cond.lays "com/example/kithgraph/kithgraph/cluster/GainQueue" "com/example/kithgraph/kithgraph/cluster/GainQueue" "count" "I").before a0 Z = true := hw _ (List.mem_of_getElem? (i := 10) rfl)
theorem w13 {Z : State} {a0 : Array Value} (hw : ∀ d ∈ tables_1, d.before a0 Z = true) : (Jvm.Cond.laysFinal "com/example/kithgraph/kithgraph/cluster/GainQueue" "com/example/kithgraph/kithgraph/cluster/GainQueue" "heap" "[I").before a0 Z = true := hw _ (List.mem_of_getElem? (i := 13) rfl)
theorem w16 {Z : State} {a0 : Array Value} (hw : ∀ d ∈ tables_1, d.before a0 Z = true) : (Jvm.Cond.laysFinal "com/example/kithgraph/kithgraph/cluster/GainQueue" "com/example/kithgraph/kithgraph/cluster/GainQueue" "keys" "[J").before a0 Z = true := hw _ (List.mem_of_getElem? (i := 16) rfl)
theorem w18 {Z : State} {a0 : Array Value} (hw : ∀ d ∈ tables_1, d.before a0 Z = true) : (Jvm.Cond.laysFinal "com/example/kithgraph/kithgraph/cluster/GainQueue" "com/example/kithgraph/kithgraph/cluster/GainQueue" "places" "[I").before a0 Z = true := hw _ (List.mem_of_getElem? (i := 18) rfl)
theorem w3 {Z : State} {a0 : Array Value} (hw : ∀ d ∈ tables_1, d.before a0 Z = true) : (Jvm.Cond.methodLink "com/example/kithgraph/kithgraph/cluster/GainQueueClearPinLaw" (9 : Nat) ({ cls := "com/example/kithgraph/kithgraph/cluster/GainQueue", name := "<init>", desc := "(I)V" } : Jvm.MethodName)).before a0 Z = true := hw _ (List.mem_of_getElem? (i := 3) rfl)
theorem d1_0 : decode prog_22_method_1_code 0 = .ok (.aload_n 0, 1) := by decide +kernel
theorem d1_1 : decode prog_22_method_1_code 1 = .ok (.invokespecial 1, 3) := by decide +kernel
theorem w6 {Z : State} {a0 : Array Value} (hw : ∀ d ∈ tables_1, d.before a0 Z = true) : (Jvm.Cond.methodLink "com/example/kithgraph/kithgraph/cluster/GainQueue" (1 : Nat) ({ cls := "java/lang/Object", name := "<init>", desc := "()V" } : Jvm.MethodName)).before a0 Z = true := hw _ (List.mem_of_getElem? (i := 6) rfl)
theorem w7 {Z : State} {a0 : Array Value} (hw : ∀ d ∈ tables_1, d.before a0 Z = true) : (Jvm.Cond.instanceMethod ({ cls := "java/lang/Object", name := "<init>", desc := "()V" } : Jvm.MethodName)).before a0 Z = true := hw _ (List.mem_of_getElem? (i := 7) rfl)
theorem w8 {Z : State} {a0 : Array Value} (hw : ∀ d ∈ tables_1, d.before a0 Z = true) : (Jvm.Cond.code ({ cls := "java/lang/Object", name := "<init>", desc := "()V" } : Jvm.MethodName) object_method_1_code (1 : Nat) (Option.none : Option Jvm.ClassFile.FieldType)).before a0 Z = true := hw _ (List.mem_of_getElem? (i := 8) rfl)
theorem d1_4 : decode prog_22_method_1_code 4 = .ok (.aload_n 0, 1) := by decide +kernel
theorem d1_5 : decode prog_22_method_1_code 5 = .ok (.iconst 0, 1) := by decide +kernel
theorem d1_6 : decode prog_22_method_1_code 6 = .ok (.putfield 7, 3) := by decide +kernel
theorem w9 {Z : State} {a0 : Array Value} (hw : ∀ d ∈ tables_1, d.before a0 Z = true) : (Jvm.Cond.fieldLink "com/example/kithgraph/kithgraph/cluster/GainQueue" (7 : Nat) "com/example/kithgraph/kithgraph/cluster/GainQueue" "count" "I").before a0 Z = true := hw _ (List.mem_of_getElem? (i := 9) rfl)
theorem d1_9 : decode prog_22_method_1_code 9 = .ok (.aload_n 0, 1) := by decide +kernel
theorem d1_10 : decode prog_22_method_1_code 10 = .ok (.iload_n 1, 1) := by decide +kernel
theorem d1_11 : decode prog_22_method_1_code 11 = .ok (.newarray .int, 2) := by decide +kernel
theorem w11 {Z : State} {a0 : Array Value} (hw : ∀ d ∈ tables_1, d.before a0 Z = true) : (Jvm.Cond.arrayClass Jvm.ClassFile.FieldType.int).before a0 Z = true := hw _ (List.mem_of_getElem? (i := 11) rfl)
theorem d1_13 : decode prog_22_method_1_code 13 = .ok (.putfield 13, 3) := by decide +kernel
theorem w12 {Z : State} {a0 : Array Value} (hw : ∀ d ∈ tables_1, d.before a0 Z = true) : (Jvm.Cond.fieldLink "com/example/kithgraph/kithgraph/cluster/GainQueue" (13 : Nat) "com/example/kithgraph/kithgraph/cluster/GainQueue" "heap" "[I").before a0 Z = true := hw _ (List.mem_of_getElem? (i := 12) rfl)
theorem sn_GainQueue_heap_count {Z : State} {a0 : Array Value} (hw : ∀ d ∈ tables_1, d.before a0 Z = true) : Jvm.RoadKit.slotOf Z "com/example/kithgraph/kithgraph/cluster/GainQueue" "heap" "[I" ≠ Jvm.RoadKit.slotOf Z "com/example/kithgraph/kithgraph/cluster/GainQueue" "count" "I" := slot_ne (a0 := a0) (C := "com/example/kithgraph/kithgraph/cluster/GainQueue") (Or.inr (w13 hw)) (Or.inl (w10 hw)) (by decide) (t := (.array .int)) (t' := .int) (by decide) (by decide)
theorem d1_16 : decode prog_22_method_1_code 16 = .ok (.aload_n 0, 1) := by decide +kernel
theorem d1_17 : decode prog_22_method_1_code 17 = .ok (.iload_n 1, 1) := by decide +kernel
theorem d1_18 : decode prog_22_method_1_code 18 = .ok (.newarray .long, 2) := by decide +kernel
theorem w14 {Z : State} {a0 : Array Value} (hw : ∀ d ∈ tables_1, d.before a0 Z = true) : (Jvm.Cond.arrayClass Jvm.ClassFile.FieldType.long).before a0 Z = true := hw _ (List.mem_of_getElem? (i := 14) rfl)
theorem d1_20 : decode prog_22_method_1_code 20 = .ok (.putfield 17, 3) := by decide +kernel
theorem w15 {Z : State} {a0 : Array Value} (hw : ∀ d ∈ tables_1, d.before a0 Z = true) : (Jvm.Cond.fieldLink "com/example/kithgraph/kithgraph/cluster/GainQueue" (17 : Nat) "com/example/kithgraph/kithgraph/cluster/GainQueue" "keys" "[J").before a0 Z = true := hw _ (List.mem_of_getElem? (i := 15) rfl)
theorem sn_GainQueue_keys_count {Z : State} {a0 : Array Value} (hw : ∀ d ∈ tables_1, d.before a0 Z = true) : Jvm.RoadKit.slotOf Z "com/example/kithgraph/kithgraph/cluster/GainQueue" "keys" "[J" ≠ Jvm.RoadKit.slotOf Z "com/example/kithgraph/kithgraph/cluster/GainQueue" "count" "I" := slot_ne (a0 := a0) (C := "com/example/kithgraph/kithgraph/cluster/GainQueue") (Or.inr (w16 hw)) (Or.inl (w10 hw)) (by decide) (t := (.array .long)) (t' := .int) (by decide) (by decide)
theorem sn_GainQueue_keys_heap {Z : State} {a0 : Array Value} (hw : ∀ d ∈ tables_1, d.before a0 Z = true) : Jvm.RoadKit.slotOf Z "com/example/kithgraph/kithgraph/cluster/GainQueue" "keys" "[J" ≠ Jvm.RoadKit.slotOf Z "com/example/kithgraph/kithgraph/cluster/GainQueue" "heap" "[I" := slot_ne (a0 := a0) (C := "com/example/kithgraph/kithgraph/cluster/GainQueue") (Or.inr (w16 hw)) (Or.inr (w13 hw)) (by decide) (t := (.array .long)) (t' := (.array .int)) (by decide) (by decide)
theorem d1_23 : decode prog_22_method_1_code 23 = .ok (.aload_n 0, 1) := by decide +kernel
theorem d1_24 : decode prog_22_method_1_code 24 = .ok (.iload_n 1, 1) := by decide +kernel
theorem d1_25 : decode prog_22_method_1_code 25 = .ok (.newarray .int, 2) := by decide +kernel
theorem d1_27 : decode prog_22_method_1_code 27 = .ok (.putfield 21, 3) := by decide +kernel
theorem w17 {Z : State} {a0 : Array Value} (hw : ∀ d ∈ tables_1, d.before a0 Z = true) : (Jvm.Cond.fieldLink "com/example/kithgraph/kithgraph/cluster/GainQueue" (21 : Nat) "com/example/kithgraph/kithgraph/cluster/GainQueue" "places" "[I").before a0 Z = true := hw _ (List.mem_of_getElem? (i := 17) rfl)
theorem sn_GainQueue_places_count {Z : State} {a0 : Array Value} (hw : ∀ d ∈ tables_1, d.before a0 Z = true) : Jvm.RoadKit.slotOf Z "com/example/kithgraph/kithgraph/cluster/GainQueue" "places" "[I" ≠ Jvm.RoadKit.slotOf Z "com/example/kithgraph/kithgraph/cluster/GainQueue" "count" "I" := slot_ne (a0 := a0) (C := "com/example/kithgraph/kithgraph/cluster/GainQueue") (Or.inr (w18 hw)) (Or.inl (w10 hw)) (by decide) (t := (.array .int)) (t' := .int) (by decide) (by decide)
theorem sn_GainQueue_places_heap {Z : State} {a0 : Array Value} (hw : ∀ d ∈ tables_1, d.before a0 Z = true) : Jvm.RoadKit.slotOf Z "com/example/kithgraph/kithgraph/cluster/GainQueue" "places" "[I" ≠ Jvm.RoadKit.slotOf Z "com/example/kithgraph/kithgraph/cluster/GainQueue" "heap" "[I" := slot_ne (a0 := a0) (C := "com/example/kithgraph/kithgraph/cluster/GainQueue") (Or.inr (w18 hw)) (Or.inr (w13 hw)) (by decide) (t := (.array .int)) (t' := (.array .int)) (by decide) (by decide)
theorem sn_GainQueue_places_keys {Z : State} {a0 : Array Value} (hw : ∀ d ∈ tables_1, d.before a0 Z = true) : Jvm.RoadKit.slotOf Z "com/example/kithgraph/kithgraph/cluster/GainQueue" "places" "[I" ≠ Jvm.RoadKit.slotOf Z "com/example/kithgraph/kithgraph/cluster/GainQueue" "keys" "[J" := slot_ne (a0 := a0) (C := "com/example/kithgraph/kithgraph/cluster/GainQueue") (Or.inr (w18 hw)) (Or.inr (w16 hw)) (by decide) (t := (.array .int)) (t' := (.array .long)) (by decide) (by decide)
theorem d1_30 : decode prog_22_method_1_code 30 = .ok (.aload_n 0, 1) := by decide +kernel
theorem d1_31 : decode prog_22_method_1_code 31 = .ok (.getfield 21, 3) := by decide +kernel
theorem d1_34 : decode prog_22_method_1_code 34 = .ok (.iconst (-1), 1) := by decide +kernel
theorem d1_35 : decode prog_22_method_1_code 35 = .ok (.invokestatic 24, 3) := by decide +kernel
theorem w19 {Z : State} {a0 : Array Value} (hw : ∀ d ∈ tables_1, d.before a0 Z = true) : (Jvm.Cond.methodLink "com/example/kithgraph/kithgraph/cluster/GainQueue" (24 : Nat) ({ cls := "java/util/Arrays", name := "fill", desc := "([II)V" } : Jvm.MethodName)).before a0 Z = true := hw _ (List.mem_of_getElem? (i := 19) rfl)
theorem pd___II_V : parseMethodDescriptor "([II)V" = some ⟨[(.array .int), .int], none⟩ := by decide +kernel
theorem w21 {Z : State} {a0 : Array Value} (hw : ∀ d ∈ tables_1, d.before a0 Z = true) : (Jvm.Cond.initialized "java/util/Arrays").before a0 Z = true := hw _ (List.mem_of_getElem? (i := 21) rfl)
theorem w22 {Z : State} {a0 : Array Value} (hw : ∀ d ∈ tables_1, d.before a0 Z = true) : (Jvm.Cond.code ({ cls := "java/util/Arrays", name := "fill", desc := "([II)V" } : Jvm.MethodName) jdk_65_method_103_code (4 : Nat) (Option.none : Option Jvm.ClassFile.FieldType)).before a0 Z = true := hw _ (List.mem_of_getElem? (i := 22) rfl)
theorem w20 {Z : State} {a0 : Array Value} (hw : ∀ d ∈ tables_1, d.before a0 Z = true) : (Jvm.Cond.static ({ cls := "java/util/Arrays", name := "fill", desc := "([II)V" } : Jvm.MethodName)).before a0 Z = true := hw _ (List.mem_of_getElem? (i := 20) rfl)
theorem d1_38 : decode prog_22_method_1_code 38 = .ok (.return_, 1) := by decide +kernel
theorem sn_GainQueue_count_heap {Z : State} {a0 : Array Value} (hw : ∀ d ∈ tables_1, d.before a0 Z = true) : Jvm.RoadKit.slotOf Z "com/example/kithgraph/kithgraph/cluster/GainQueue" "count" "I" ≠ Jvm.RoadKit.slotOf Z "com/example/kithgraph/kithgraph/cluster/GainQueue" "heap" "[I" := slot_ne (a0 := a0) (C := "com/example/kithgraph/kithgraph/cluster/GainQueue") (Or.inl (w10 hw)) (Or.inr (w13 hw)) (by decide) (t := .int) (t' := (.array .int)) (by decide) (by decide)
theorem sn_GainQueue_count_keys {Z : State} {a0 : Array Value} (hw : ∀ d ∈ tables_1, d.before a0 Z = true) : Jvm.RoadKit.slotOf Z "com/example/kithgraph/kithgraph/cluster/GainQueue" "count" "I" ≠ Jvm.RoadKit.slotOf Z "com/example/kithgraph/kithgraph/cluster/GainQueue" "keys" "[J" := slot_ne (a0 := a0) (C := "com/example/kithgraph/kithgraph/cluster/GainQueue") (Or.inl (w10 hw)) (Or.inr (w16 hw)) (by decide) (t := .int) (t' := (.array .long)) (by decide) (by decide)
theorem sn_GainQueue_count_places {Z : State} {a0 : Array Value} (hw : ∀ d ∈ tables_1, d.before a0 Z = true) : Jvm.RoadKit.slotOf Z "com/example/kithgraph/kithgraph/cluster/GainQueue" "count" "I" ≠ Jvm.RoadKit.slotOf Z "com/example/kithgraph/kithgraph/cluster/GainQueue" "places" "[I" := slot_ne (a0 := a0) (C := "com/example/kithgraph/kithgraph/cluster/GainQueue") (Or.inl (w10 hw)) (Or.inr (w18 hw)) (by decide) (t := .int) (t' := (.array .int)) (by decide) (by decide)
theorem sn_GainQueue_heap_keys {Z : State} {a0 : Array Value} (hw : ∀ d ∈ tables_1, d.before a0 Z = true) : Jvm.RoadKit.slotOf Z "com/example/kithgraph/kithgraph/cluster/GainQueue" "heap" "[I" ≠ Jvm.RoadKit.slotOf Z "com/example/kithgraph/kithgraph/cluster/GainQueue" "keys" "[J" := slot_ne (a0 := a0) (C := "com/example/kithgraph/kithgraph/cluster/GainQueue") (Or.inr (w13 hw)) (Or.inr (w16 hw)) (by decide) (t := (.array .int)) (t' := (.array .long)) (by decide) (by decide)
theorem sn_GainQueue_heap_places {Z : State} {a0 : Array Value} (hw : ∀ d ∈ tables_1, d.before a0 Z = true) : Jvm.RoadKit.slotOf Z "com/example/kithgraph/kithgraph/cluster/GainQueue" "heap" "[I" ≠ Jvm.RoadKit.slotOf Z "com/example/kithgraph/kithgraph/cluster/GainQueue" "places" "[I" := slot_ne (a0 := a0) (C := "com/example/kithgraph/kithgraph/cluster/GainQueue") (Or.inr (w13 hw)) (Or.inr (w18 hw)) (by decide) (t := (.array .int)) (t' := (.array .int)) (by decide) (by decide)
theorem sn_GainQueue_keys_places {Z : State} {a0 : Array Value} (hw : ∀ d ∈ tables_1, d.before a0 Z = true) : Jvm.RoadKit.slotOf Z "com/example/kithgraph/kithgraph/cluster/GainQueue" "keys" "[J" ≠ Jvm.RoadKit.slotOf Z "com/example/kithgraph/kithgraph/cluster/GainQueue" "places" "[I" := slot_ne (a0 := a0) (C := "com/example/kithgraph/kithgraph/cluster/GainQueue") (Or.inr (w16 hw)) (Or.inr (w18 hw)) (by decide) (t := (.array .long)) (t' := (.array .int)) (by decide) (by decide)
abbrev y1_init : MethodName := ⟨"com/example/kithgraph/kithgraph/cluster/GainQueue", "<init>", "(I)V"⟩
theorem pn_com_example_kithgraph_kithgraph_cluster_GainQueue : plainName "com/example/kithgraph/kithgraph/cluster/GainQueue" = true := by first | (simp [plainName, overriddenIn]; done) | decide +kernel
abbrev c1_GainQueue : String := "com/example/kithgraph/kithgraph/cluster/GainQueue"
theorem pd__I_V : parseMethodDescriptor "(I)V" = some ⟨[.int], none⟩ := by decide +kernel
theorem w5 {Z : State} {a0 : Array Value} (hw : ∀ d ∈ tables_1, d.before a0 Z = true) : (Jvm.Cond.code ({ cls := "com/example/kithgraph/kithgraph/cluster/GainQueue", name := "<init>", desc := "(I)V" } : Jvm.MethodName) prog_22_method_1_code (2 : Nat) (Option.none : Option Jvm.ClassFile.FieldType)).before a0 Z = true := hw _ (List.mem_of_getElem? (i := 5) rfl)
theorem w4 {Z : State} {a0 : Array Value} (hw : ∀ d ∈ tables_1, d.before a0 Z = true) : (Jvm.Cond.instanceMethod ({ cls := "com/example/kithgraph/kithgraph/cluster/GainQueue", name := "<init>", desc := "(I)V" } : Jvm.MethodName)).before a0 Z = true := hw _ (List.mem_of_getElem? (i := 4) rfl)
theorem w23 {Z : State} {a0 : Array Value} (hw : ∀ d ∈ tables_1, d.before a0 Z = true) : (Jvm.Cond.methodLink "com/example/kithgraph/kithgraph/cluster/GainQueueClearPinLaw" (16 : Nat) ({ cls := "com/example/kithgraph/kithgraph/cluster/GainQueue", name := "clear", desc := "()V" } : Jvm.MethodName)).before a0 Z = true := hw _ (List.mem_of_getElem? (i := 23) rfl)
theorem d4_0 : decode prog_22_method_8_code 0 = .ok (.iconst 0, 1) := by decide +kernel
theorem d4_1 : decode prog_22_method_8_code 1 = .ok (.istore_n 1, 1) := by decide +kernel
theorem d4_2 : decode prog_22_method_8_code 2 = .ok (.iload_n 1, 1) := by decide +kernel
theorem d4_3 : decode prog_22_method_8_code 3 = .ok (.aload_n 0, 1) := by decide +kernel
theorem d4_4 : decode prog_22_method_8_code 4 = .ok (.getfield 7, 3) := by decide +kernel
theorem d4_7 : decode prog_22_method_8_code 7 = .ok (.if_icmp .ge 21, 3) := by decide +kernel
theorem d4_28 : decode prog_22_method_8_code 28 = .ok (.aload_n 0, 1) := by decide +kernel
theorem d4_29 : decode prog_22_method_8_code 29 = .ok (.iconst 0, 1) := by decide +kernel
theorem d4_30 : decode prog_22_method_8_code 30 = .ok (.putfield 7, 3) := by decide +kernel
theorem d4_33 : decode prog_22_method_8_code 33 = .ok (.return_, 1) := by decide +kernel
abbrev y2_clear : MethodName := ⟨"com/example/kithgraph/kithgraph/cluster/GainQueue", "clear", "()V"⟩
theorem pd___V : parseMethodDescriptor "()V" = some ⟨[], none⟩ := by decide +kernel
theorem w27 {Z : State} {a0 : Array Value} (hw : ∀ d ∈ tables_1, d.before a0 Z = true) : (Jvm.Cond.code ({ cls := "com/example/kithgraph/kithgraph/cluster/GainQueue", name := "clear", desc := "()V" } : Jvm.MethodName) prog_22_method_8_code (2 : Nat) (Option.none : Option Jvm.ClassFile.FieldType)).before a0 Z = true := hw _ (List.mem_of_getElem? (i := 27) rfl)
theorem w26 {Z : State} {a0 : Array Value} (hw : ∀ d ∈ tables_1, d.before a0 Z = true) : (Jvm.Cond.selects "com/example/kithgraph/kithgraph/cluster/GainQueue" ({ cls := "com/example/kithgraph/kithgraph/cluster/GainQueue", name := "clear", desc := "()V" } : Jvm.MethodName) ({ cls := "com/example/kithgraph/kithgraph/cluster/GainQueue", name := "clear", desc := "()V" } : Jvm.MethodName)).before a0 Z = true := hw _ (List.mem_of_getElem? (i := 26) rfl)
theorem w24 {Z : State} {a0 : Array Value} (hw : ∀ d ∈ tables_1, d.before a0 Z = true) : (Jvm.Cond.declares ({ cls := "com/example/kithgraph/kithgraph/cluster/GainQueue", name := "clear", desc := "()V" } : Jvm.MethodName)).before a0 Z = true := hw _ (List.mem_of_getElem? (i := 24) rfl)
theorem w25 {Z : State} {a0 : Array Value} (hw : ∀ d ∈ tables_1, d.before a0 Z = true) : (Jvm.Cond.instanceMethod ({ cls := "com/example/kithgraph/kithgraph/cluster/GainQueue", name := "clear", desc := "()V" } : Jvm.MethodName)).before a0 Z = true := hw _ (List.mem_of_getElem? (i := 25) rfl)
theorem w28 {Z : State} {a0 : Array Value} (hw : ∀ d ∈ tables_1, d.before a0 Z = true) : (Jvm.Cond.methodLink "com/example/kithgraph/kithgraph/cluster/GainQueueClearPinLaw" (19 : Nat) ({ cls := "com/example/kithgraph/kithgraph/cluster/GainQueue", name := "isEmpty", desc := "()Z" } : Jvm.MethodName)).before a0 Z = true := hw _ (List.mem_of_getElem? (i := 28) rfl)
theorem d5_0 : decode prog_22_method_2_code 0 = .ok (.aload_n 0, 1) := by decide +kernel
theorem d5_1 : decode prog_22_method_2_code 1 = .ok (.getfield 7, 3) := by decide +kernel
theorem d5_4 : decode prog_22_method_2_code 4 = .ok (.ifCond .ne 7, 3) := by decide +kernel
theorem d5_7 : decode prog_22_method_2_code 7 = .ok (.iconst 1, 1) := by decide +kernel
theorem d5_8 : decode prog_22_method_2_code 8 = .ok (.goto 4, 3) := by decide +kernel
theorem d5_12 : decode prog_22_method_2_code 12 = .ok (.ireturn, 1) := by decide +kernel
abbrev y3_isEmpty : MethodName := ⟨"com/example/kithgraph/kithgraph/cluster/GainQueue", "isEmpty", "()Z"⟩
theorem pd___Z : parseMethodDescriptor "()Z" = some ⟨[], some .boolean⟩ := by decide +kernel
theorem w32 {Z : State} {a0 : Array Value} (hw : ∀ d ∈ tables_1, d.before a0 Z = true) : (Jvm.Cond.code ({ cls := "com/example/kithgraph/kithgraph/cluster/GainQueue", name := "isEmpty", desc := "()Z" } : Jvm.MethodName) prog_22_method_2_code (1 : Nat) (Option.some Jvm.ClassFile.FieldType.boolean)).before a0 Z = true := hw _ (List.mem_of_getElem? (i := 32) rfl)
theorem w31 {Z : State} {a0 : Array Value} (hw : ∀ d ∈ tables_1, d.before a0 Z = true) : (Jvm.Cond.selects "com/example/kithgraph/kithgraph/cluster/GainQueue" ({ cls := "com/example/kithgraph/kithgraph/cluster/GainQueue", name := "isEmpty", desc := "()Z" } : Jvm.MethodName) ({ cls := "com/example/kithgraph/kithgraph/cluster/GainQueue", name := "isEmpty", desc := "()Z" } : Jvm.MethodName)).before a0 Z = true := hw _ (List.mem_of_getElem? (i := 31) rfl)
theorem w29 {Z : State} {a0 : Array Value} (hw : ∀ d ∈ tables_1, d.before a0 Z = true) : (Jvm.Cond.declares ({ cls := "com/example/kithgraph/kithgraph/cluster/GainQueue", name := "isEmpty", desc := "()Z" } : Jvm.MethodName)).before a0 Z = true := hw _ (List.mem_of_getElem? (i := 29) rfl)
theorem w30 {Z : State} {a0 : Array Value} (hw : ∀ d ∈ tables_1, d.before a0 Z = true) : (Jvm.Cond.instanceMethod ({ cls := "com/example/kithgraph/kithgraph/cluster/GainQueue", name := "isEmpty", desc := "()Z" } : Jvm.MethodName)).before a0 Z = true := hw _ (List.mem_of_getElem? (i := 30) rfl)
theorem w33 {Z : State} {a0 : Array Value} (hw : ∀ d ∈ tables_1, d.before a0 Z = true) : (Jvm.Cond.methodLink "com/example/kithgraph/kithgraph/cluster/GainQueueClearPinLaw" (23 : Nat) ({ cls := "com/example/kithgraph/kithgraph/cluster/GainQueue", name := "contains", desc := "(I)Z" } : Jvm.MethodName)).before a0 Z = true := hw _ (List.mem_of_getElem? (i := 33) rfl)
theorem d6_0 : decode prog_22_method_3_code 0 = .ok (.aload_n 0, 1) := by decide +kernel
theorem d6_1 : decode prog_22_method_3_code 1 = .ok (.getfield 21, 3) := by decide +kernel
theorem d6_4 : decode prog_22_method_3_code 4 = .ok (.iload_n 1, 1) := by decide +kernel
theorem d6_5 : decode prog_22_method_3_code 5 = .ok (.iaload, 1) := by decide +kernel
theorem d6_6 : decode prog_22_method_3_code 6 = .ok (.iconst (-1), 1) := by decide +kernel
theorem d6_7 : decode prog_22_method_3_code 7 = .ok (.if_icmp .eq 7, 3) := by decide +kernel
theorem d6_14 : decode prog_22_method_3_code 14 = .ok (.iconst 0, 1) := by decide +kernel
theorem d6_15 : decode prog_22_method_3_code 15 = .ok (.ireturn, 1) := by decide +kernel
abbrev y4_contains : MethodName := ⟨"com/example/kithgraph/kithgraph/cluster/GainQueue", "contains", "(I)Z"⟩
theorem pd__I_Z : parseMethodDescriptor "(I)Z" = some ⟨[.int], some .boolean⟩ := by decide +kernel
theorem w37 {Z : State} {a0 : Array Value} (hw : ∀ d ∈ tables_1, d.before a0 Z = true) : (Jvm.Cond.code ({ cls := "com/example/kithgraph/kithgraph/cluster/GainQueue", name := "contains", desc := "(I)Z" } : Jvm.MethodName) prog_22_method_3_code (2 : Nat) (Option.some Jvm.ClassFile.FieldType.boolean)).before a0 Z = true := hw _ (List.mem_of_getElem? (i := 37) rfl)
theorem w36 {Z : State} {a0 : Array Value} (hw : ∀ d ∈ tables_1, d.before a0 Z = true) : (Jvm.Cond.selects "com/example/kithgraph/kithgraph/cluster/GainQueue" ({ cls := "com/example/kithgraph/kithgraph/cluster/GainQueue", name := "contains", desc := "(I)Z" } : Jvm.MethodName) ({ cls := "com/example/kithgraph/kithgraph/cluster/GainQueue", name := "contains", desc := "(I)Z" } : Jvm.MethodName)).before a0 Z = true := hw _ (List.mem_of_getElem? (i := 36) rfl)
theorem w34 {Z : State} {a0 : Array Value} (hw : ∀ d ∈ tables_1, d.before a0 Z = true) : (Jvm.Cond.declares ({ cls := "com/example/kithgraph/kithgraph/cluster/GainQueue", name := "contains", desc := "(I)Z" } : Jvm.MethodName)).before a0 Z = true := hw _ (List.mem_of_getElem? (i := 34) rfl)
theorem w35 {Z : State} {a0 : Array Value} (hw : ∀ d ∈ tables_1, d.before a0 Z = true) : (Jvm.Cond.instanceMethod ({ cls := "com/example/kithgraph/kithgraph/cluster/GainQueue", name := "contains", desc := "(I)Z" } : Jvm.MethodName)).before a0 Z = true := hw _ (List.mem_of_getElem? (i := 35) rfl)
theorem w38 {Z : State} {a0 : Array Value} (hw : ∀ d ∈ tables_1, d.before a0 Z = true) : (Jvm.Cond.constant "com/example/kithgraph/kithgraph/cluster/GainQueueClearPinLaw" (27 : Nat) (2147483647 : Int32)).before a0 Z = true := hw _ (List.mem_of_getElem? (i := 38) rfl)
theorem w39 {Z : State} {a0 : Array Value} (hw : ∀ d ∈ tables_1, d.before a0 Z = true) : (Jvm.Cond.methodLink "com/example/kithgraph/kithgraph/cluster/GainQueueClearPinLaw" (12 : Nat) ({ cls := "com/example/kithgraph/kithgraph/cluster/GainQueue", name := "put", desc := "(IJ)V" } : Jvm.MethodName)).before a0 Z = true := hw _ (List.mem_of_getElem? (i := 39) rfl)
theorem d7_0 : decode prog_22_method_4_code 0 = .ok (.aload_n 0, 1) := by decide +kernel
theorem d7_1 : decode prog_22_method_4_code 1 = .ok (.iload_n 1, 1) := by decide +kernel
theorem d7_2 : decode prog_22_method_4_code 2 = .ok (.invokevirtual 30, 3) := by decide +kernel
theorem w44 {Z : State} {a0 : Array Value} (hw : ∀ d ∈ tables_1, d.before a0 Z = true) : (Jvm.Cond.methodLink "com/example/kithgraph/kithgraph/cluster/GainQueue" (30 : Nat) ({ cls := "com/example/kithgraph/kithgraph/cluster/GainQueue", name := "contains", desc := "(I)Z" } : Jvm.MethodName)).before a0 Z = true := hw _ (List.mem_of_getElem? (i := 44) rfl)
theorem d7_5 : decode prog_22_method_4_code 5 = .ok (.ifCond .eq 51, 3) := by decide +kernel
theorem d7_56 : decode prog_22_method_4_code 56 = .ok (.aload_n 0, 1) := by decide +kernel
theorem d7_57 : decode prog_22_method_4_code 57 = .ok (.getfield 17, 3) := by decide +kernel
theorem d7_60 : decode prog_22_method_4_code 60 = .ok (.iload_n 1, 1) := by decide +kernel
theorem d7_61 : decode prog_22_method_4_code 61 = .ok (.lload_n 2, 1) := by decide +kernel
theorem d7_62 : decode prog_22_method_4_code 62 = .ok (.lastore, 1) := by decide +kernel
theorem d7_63 : decode prog_22_method_4_code 63 = .ok (.aload_n 0, 1) := by decide +kernel
theorem d7_64 : decode prog_22_method_4_code 64 = .ok (.getfield 13, 3) := by decide +kernel
theorem d7_67 : decode prog_22_method_4_code 67 = .ok (.aload_n 0, 1) := by decide +kernel
theorem d7_68 : decode prog_22_method_4_code 68 = .ok (.getfield 7, 3) := by decide +kernel
theorem d7_71 : decode prog_22_method_4_code 71 = .ok (.iload_n 1, 1) := by decide +kernel
theorem d7_72 : decode prog_22_method_4_code 72 = .ok (.iastore, 1) := by decide +kernel
theorem d7_73 : decode prog_22_method_4_code 73 = .ok (.aload_n 0, 1) := by decide +kernel
theorem d7_74 : decode prog_22_method_4_code 74 = .ok (.getfield 21, 3) := by decide +kernel
theorem d7_77 : decode prog_22_method_4_code 77 = .ok (.iload_n 1, 1) := by decide +kernel
theorem d7_78 : decode prog_22_method_4_code 78 = .ok (.aload_n 0, 1) := by decide +kernel
theorem d7_79 : decode prog_22_method_4_code 79 = .ok (.getfield 7, 3) := by decide +kernel
theorem d7_82 : decode prog_22_method_4_code 82 = .ok (.iastore, 1) := by decide +kernel
theorem d7_83 : decode prog_22_method_4_code 83 = .ok (.aload_n 0, 1) := by decide +kernel
theorem d7_84 : decode prog_22_method_4_code 84 = .ok (.dup, 1) := by decide +kernel
theorem d7_85 : decode prog_22_method_4_code 85 = .ok (.getfield 7, 3) := by decide +kernel
theorem d7_88 : decode prog_22_method_4_code 88 = .ok (.iconst 1, 1) := by decide +kernel
theorem d7_89 : decode prog_22_method_4_code 89 = .ok (.iadd, 1) := by decide +kernel
theorem d7_90 : decode prog_22_method_4_code 90 = .ok (.putfield 7, 3) := by decide +kernel
theorem d7_93 : decode prog_22_method_4_code 93 = .ok (.aload_n 0, 1) := by decide +kernel
theorem d7_94 : decode prog_22_method_4_code 94 = .ok (.aload_n 0, 1) := by decide +kernel
theorem d7_95 : decode prog_22_method_4_code 95 = .ok (.getfield 7, 3) := by decide +kernel
theorem d7_98 : decode prog_22_method_4_code 98 = .ok (.iconst 1, 1) := by decide +kernel
theorem d7_99 : decode prog_22_method_4_code 99 = .ok (.isub, 1) := by decide +kernel
theorem d7_100 : decode prog_22_method_4_code 100 = .ok (.invokevirtual 34, 3) := by decide +kernel
theorem w45 {Z : State} {a0 : Array Value} (hw : ∀ d ∈ tables_1, d.before a0 Z = true) : (Jvm.Cond.methodLink "com/example/kithgraph/kithgraph/cluster/GainQueue" (34 : Nat) ({ cls := "com/example/kithgraph/kithgraph/cluster/GainQueue", name := "up", desc := "(I)V" } : Jvm.MethodName)).before a0 Z = true := hw _ (List.mem_of_getElem? (i := 45) rfl)
theorem d8_0 : decode prog_22_method_9_code 0 = .ok (.aload_n 0, 1) := by decide +kernel
theorem d8_1 : decode prog_22_method_9_code 1 = .ok (.getfield 13, 3) := by decide +kernel
theorem d8_4 : decode prog_22_method_9_code 4 = .ok (.iload_n 1, 1) := by decide +kernel
theorem d8_5 : decode prog_22_method_9_code 5 = .ok (.iaload, 1) := by decide +kernel
theorem d8_6 : decode prog_22_method_9_code 6 = .ok (.istore_n 2, 1) := by decide +kernel
theorem d8_7 : decode prog_22_method_9_code 7 = .ok (.iload_n 1, 1) := by decide +kernel
theorem d8_8 : decode prog_22_method_9_code 8 = .ok (.ifCond .le 42, 3) := by decide +kernel
theorem d8_50 : decode prog_22_method_9_code 50 = .ok (.aload_n 0, 1) := by decide +kernel
theorem d8_51 : decode prog_22_method_9_code 51 = .ok (.iload_n 1, 1) := by decide +kernel
theorem d8_52 : decode prog_22_method_9_code 52 = .ok (.iload_n 2, 1) := by decide +kernel
theorem d8_53 : decode prog_22_method_9_code 53 = .ok (.invokevirtual 48, 3) := by decide +kernel
theorem w49 {Z : State} {a0 : Array Value} (hw : ∀ d ∈ tables_1, d.before a0 Z = true) : (Jvm.Cond.methodLink "com/example/kithgraph/kithgraph/cluster/GainQueue" (48 : Nat) ({ cls := "com/example/kithgraph/kithgraph/cluster/GainQueue", name := "set", desc := "(II)V" } : Jvm.MethodName)).before a0 Z = true := hw _ (List.mem_of_getElem? (i := 49) rfl)
theorem d9_0 : decode prog_22_method_11_code 0 = .ok (.aload_n 0, 1) := by decide +kernel
theorem d9_1 : decode prog_22_method_11_code 1 = .ok (.getfield 13, 3) := by decide +kernel
theorem d9_4 : decode prog_22_method_11_code 4 = .ok (.iload_n 1, 1) := by decide +kernel
theorem d9_5 : decode prog_22_method_11_code 5 = .ok (.iload_n 2, 1) := by decide +kernel
theorem d9_6 : decode prog_22_method_11_code 6 = .ok (.iastore, 1) := by decide +kernel
theorem d9_7 : decode prog_22_method_11_code 7 = .ok (.aload_n 0, 1) := by decide +kernel
theorem d9_8 : decode prog_22_method_11_code 8 = .ok (.getfield 21, 3) := by decide +kernel
theorem d9_11 : decode prog_22_method_11_code 11 = .ok (.iload_n 2, 1) := by decide +kernel
theorem d9_12 : decode prog_22_method_11_code 12 = .ok (.iload_n 1, 1) := by decide +kernel
theorem d9_13 : decode prog_22_method_11_code 13 = .ok (.iastore, 1) := by decide +kernel
theorem d9_14 : decode prog_22_method_11_code 14 = .ok (.return_, 1) := by decide +kernel
abbrev y5_set : MethodName := ⟨"com/example/kithgraph/kithgraph/cluster/GainQueue", "set", "(II)V"⟩
theorem pd__II_V : parseMethodDescriptor "(II)V" = some ⟨[.int, .int], none⟩ := by decide +kernel
theorem w52 {Z : State} {a0 : Array Value} (hw : ∀ d ∈ tables_1, d.before a0 Z = true) : (Jvm.Cond.code ({ cls := "com/example/kithgraph/kithgraph/cluster/GainQueue", name := "set", desc := "(II)V" } : Jvm.MethodName) prog_22_method_11_code (3 : Nat) (Option.none : Option Jvm.ClassFile.FieldType)).before a0 Z = true := hw _ (List.mem_of_getElem? (i := 52) rfl)
theorem w50 {Z : State} {a0 : Array Value} (hw : ∀ d ∈ tables_1, d.before a0 Z = true) : (Jvm.Cond.instanceMethod ({ cls := "com/example/kithgraph/kithgraph/cluster/GainQueue", name := "set", desc := "(II)V" } : Jvm.MethodName)).before a0 Z = true := hw _ (List.mem_of_getElem? (i := 50) rfl)
theorem w51 {Z : State} {a0 : Array Value} (hw : ∀ d ∈ tables_1, d.before a0 Z = true) : (Jvm.Cond.privateMethod ({ cls := "com/example/kithgraph/kithgraph/cluster/GainQueue", name := "set", desc := "(II)V" } : Jvm.MethodName)).before a0 Z = true := hw _ (List.mem_of_getElem? (i := 51) rfl)
theorem d8_56 : decode prog_22_method_9_code 56 = .ok (.return_, 1) := by decide +kernel
abbrev y6_up : MethodName := ⟨"com/example/kithgraph/kithgraph/cluster/GainQueue", "up", "(I)V"⟩
theorem w48 {Z : State} {a0 : Array Value} (hw : ∀ d ∈ tables_1, d.before a0 Z = true) : (Jvm.Cond.code ({ cls := "com/example/kithgraph/kithgraph/cluster/GainQueue", name := "up", desc := "(I)V" } : Jvm.MethodName) prog_22_method_9_code (4 : Nat) (Option.none : Option Jvm.ClassFile.FieldType)).before a0 Z = true := hw _ (List.mem_of_getElem? (i := 48) rfl)
theorem w46 {Z : State} {a0 : Array Value} (hw : ∀ d ∈ tables_1, d.before a0 Z = true) : (Jvm.Cond.instanceMethod ({ cls := "com/example/kithgraph/kithgraph/cluster/GainQueue", name := "up", desc := "(I)V" } : Jvm.MethodName)).before a0 Z = true := hw _ (List.mem_of_getElem? (i := 46) rfl)
theorem w47 {Z : State} {a0 : Array Value} (hw : ∀ d ∈ tables_1, d.before a0 Z = true) : (Jvm.Cond.privateMethod ({ cls := "com/example/kithgraph/kithgraph/cluster/GainQueue", name := "up", desc := "(I)V" } : Jvm.MethodName)).before a0 Z = true := hw _ (List.mem_of_getElem? (i := 47) rfl)
theorem d7_103 : decode prog_22_method_4_code 103 = .ok (.return_, 1) := by decide +kernel
abbrev y7_put : MethodName := ⟨"com/example/kithgraph/kithgraph/cluster/GainQueue", "put", "(IJ)V"⟩
theorem pd__IJ_V : parseMethodDescriptor "(IJ)V" = some ⟨[.int, .long], none⟩ := by decide +kernel
theorem w43 {Z : State} {a0 : Array Value} (hw : ∀ d ∈ tables_1, d.before a0 Z = true) : (Jvm.Cond.code ({ cls := "com/example/kithgraph/kithgraph/cluster/GainQueue", name := "put", desc := "(IJ)V" } : Jvm.MethodName) prog_22_method_4_code (6 : Nat) (Option.none : Option Jvm.ClassFile.FieldType)).before a0 Z = true := hw _ (List.mem_of_getElem? (i := 43) rfl)
theorem w42 {Z : State} {a0 : Array Value} (hw : ∀ d ∈ tables_1, d.before a0 Z = true) : (Jvm.Cond.selects "com/example/kithgraph/kithgraph/cluster/GainQueue" ({ cls := "com/example/kithgraph/kithgraph/cluster/GainQueue", name := "put", desc := "(IJ)V" } : Jvm.MethodName) ({ cls := "com/example/kithgraph/kithgraph/cluster/GainQueue", name := "put", desc := "(IJ)V" } : Jvm.MethodName)).before a0 Z = true := hw _ (List.mem_of_getElem? (i := 42) rfl)
theorem w40 {Z : State} {a0 : Array Value} (hw : ∀ d ∈ tables_1, d.before a0 Z = true) : (Jvm.Cond.declares ({ cls := "com/example/kithgraph/kithgraph/cluster/GainQueue", name := "put", desc := "(IJ)V" } : Jvm.MethodName)).before a0 Z = true := hw _ (List.mem_of_getElem? (i := 40) rfl)
theorem w41 {Z : State} {a0 : Array Value} (hw : ∀ d ∈ tables_1, d.before a0 Z = true) : (Jvm.Cond.instanceMethod ({ cls := "com/example/kithgraph/kithgraph/cluster/GainQueue", name := "put", desc := "(IJ)V" } : Jvm.MethodName)).before a0 Z = true := hw _ (List.mem_of_getElem? (i := 41) rfl)
theorem w53 {Z : State} {a0 : Array Value} (hw : ∀ d ∈ tables_1, d.before a0 Z = true) : (Jvm.Cond.methodLink "com/example/kithgraph/kithgraph/cluster/GainQueueClearPinLaw" (28 : Nat) ({ cls := "com/example/kithgraph/kithgraph/cluster/GainQueue", name := "poll", desc := "()I" } : Jvm.MethodName)).before a0 Z = true := hw _ (List.mem_of_getElem? (i := 53) rfl)
theorem d10_0 : decode prog_22_method_6_code 0 = .ok (.aload_n 0, 1) := by decide +kernel
theorem d10_1 : decode prog_22_method_6_code 1 = .ok (.getfield 13, 3) := by decide +kernel
theorem d10_4 : decode prog_22_method_6_code 4 = .ok (.iconst 0, 1) := by decide +kernel
theorem d10_5 : decode prog_22_method_6_code 5 = .ok (.iaload, 1) := by decide +kernel
theorem d10_6 : decode prog_22_method_6_code 6 = .ok (.istore_n 1, 1) := by decide +kernel
theorem d10_7 : decode prog_22_method_6_code 7 = .ok (.aload_n 0, 1) := by decide +kernel
theorem d10_8 : decode prog_22_method_6_code 8 = .ok (.iload_n 1, 1) := by decide +kernel
theorem d10_9 : decode prog_22_method_6_code 9 = .ok (.invokevirtual 41, 3) := by decide +kernel
theorem w58 {Z : State} {a0 : Array Value} (hw : ∀ d ∈ tables_1, d.before a0 Z = true) : (Jvm.Cond.methodLink "com/example/kithgraph/kithgraph/cluster/GainQueue" (41 : Nat) ({ cls := "com/example/kithgraph/kithgraph/cluster/GainQueue", name := "remove", desc := "(I)V" } : Jvm.MethodName)).before a0 Z = true := hw _ (List.mem_of_getElem? (i := 58) rfl)
theorem d11_0 : decode prog_22_method_7_code 0 = .ok (.aload_n 0, 1) := by decide +kernel
theorem d11_1 : decode prog_22_method_7_code 1 = .ok (.getfield 21, 3) := by decide +kernel
theorem d11_4 : decode prog_22_method_7_code 4 = .ok (.iload_n 1, 1) := by decide +kernel
theorem d11_5 : decode prog_22_method_7_code 5 = .ok (.iaload, 1) := by decide +kernel
theorem d11_6 : decode prog_22_method_7_code 6 = .ok (.istore_n 2, 1) := by decide +kernel
theorem d11_7 : decode prog_22_method_7_code 7 = .ok (.iload_n 2, 1) := by decide +kernel
theorem d11_8 : decode prog_22_method_7_code 8 = .ok (.iconst (-1), 1) := by decide +kernel
theorem d11_9 : decode prog_22_method_7_code 9 = .ok (.if_icmp .ne 4, 3) := by decide +kernel
theorem d11_13 : decode prog_22_method_7_code 13 = .ok (.aload_n 0, 1) := by decide +kernel
theorem d11_14 : decode prog_22_method_7_code 14 = .ok (.dup, 1) := by decide +kernel
theorem d11_15 : decode prog_22_method_7_code 15 = .ok (.getfield 7, 3) := by decide +kernel
theorem d11_18 : decode prog_22_method_7_code 18 = .ok (.iconst 1, 1) := by decide +kernel
theorem d11_19 : decode prog_22_method_7_code 19 = .ok (.isub, 1) := by decide +kernel
theorem d11_20 : decode prog_22_method_7_code 20 = .ok (.putfield 7, 3) := by decide +kernel
theorem d11_23 : decode prog_22_method_7_code 23 = .ok (.aload_n 0, 1) := by decide +kernel
theorem d11_24 : decode prog_22_method_7_code 24 = .ok (.getfield 21, 3) := by decide +kernel
theorem d11_27 : decode prog_22_method_7_code 27 = .ok (.iload_n 1, 1) := by decide +kernel
theorem d11_28 : decode prog_22_method_7_code 28 = .ok (.iconst (-1), 1) := by decide +kernel
theorem d11_29 : decode prog_22_method_7_code 29 = .ok (.iastore, 1) := by decide +kernel
theorem d11_30 : decode prog_22_method_7_code 30 = .ok (.iload_n 2, 1) := by decide +kernel
theorem d11_31 : decode prog_22_method_7_code 31 = .ok (.aload_n 0, 1) := by decide +kernel
theorem d11_32 : decode prog_22_method_7_code 32 = .ok (.getfield 7, 3) := by decide +kernel
theorem d11_35 : decode prog_22_method_7_code 35 = .ok (.if_icmp .ge 42, 3) := by decide +kernel
theorem d11_77 : decode prog_22_method_7_code 77 = .ok (.return_, 1) := by decide +kernel
abbrev y8_remove : MethodName := ⟨"com/example/kithgraph/kithgraph/cluster/GainQueue", "remove", "(I)V"⟩
theorem w62 {Z : State} {a0 : Array Value} (hw : ∀ d ∈ tables_1, d.before a0 Z = true) : (Jvm.Cond.code ({ cls := "com/example/kithgraph/kithgraph/cluster/GainQueue", name := "remove", desc := "(I)V" } : Jvm.MethodName) prog_22_method_7_code (4 : Nat) (Option.none : Option Jvm.ClassFile.FieldType)).before a0 Z = true := hw _ (List.mem_of_getElem? (i := 62) rfl)
theorem w61 {Z : State} {a0 : Array Value} (hw : ∀ d ∈ tables_1, d.before a0 Z = true) : (Jvm.Cond.selects "com/example/kithgraph/kithgraph/cluster/GainQueue" ({ cls := "com/example/kithgraph/kithgraph/cluster/GainQueue", name := "remove", desc := "(I)V" } : Jvm.MethodName) ({ cls := "com/example/kithgraph/kithgraph/cluster/GainQueue", name := "remove", desc := "(I)V" } : Jvm.MethodName)).before a0 Z = true := hw _ (List.mem_of_getElem? (i := 61) rfl)
theorem w59 {Z : State} {a0 : Array Value} (hw : ∀ d ∈ tables_1, d.before a0 Z = true) : (Jvm.Cond.declares ({ cls := "com/example/kithgraph/kithgraph/cluster/GainQueue", name := "remove", desc := "(I)V" } : Jvm.MethodName)).before a0 Z = true := hw _ (List.mem_of_getElem? (i := 59) rfl)
theorem w60 {Z : State} {a0 : Array Value} (hw : ∀ d ∈ tables_1, d.before a0 Z = true) : (Jvm.Cond.instanceMethod ({ cls := "com/example/kithgraph/kithgraph/cluster/GainQueue", name := "remove", desc := "(I)V" } : Jvm.MethodName)).before a0 Z = true := hw _ (List.mem_of_getElem? (i := 60) rfl)
theorem d10_12 : decode prog_22_method_6_code 12 = .ok (.iload_n 1, 1) := by decide +kernel
theorem d10_13 : decode prog_22_method_6_code 13 = .ok (.ireturn, 1) := by decide +kernel
abbrev y9_poll : MethodName := ⟨"com/example/kithgraph/kithgraph/cluster/GainQueue", "poll", "()I"⟩
theorem pd___I : parseMethodDescriptor "()I" = some ⟨[], some .int⟩ := by decide +kernel
theorem w57 {Z : State} {a0 : Array Value} (hw : ∀ d ∈ tables_1, d.before a0 Z = true) : (Jvm.Cond.code ({ cls := "com/example/kithgraph/kithgraph/cluster/GainQueue", name := "poll", desc := "()I" } : Jvm.MethodName) prog_22_method_6_code (2 : Nat) (Option.some Jvm.ClassFile.FieldType.int)).before a0 Z = true := hw _ (List.mem_of_getElem? (i := 57) rfl)
theorem w56 {Z : State} {a0 : Array Value} (hw : ∀ d ∈ tables_1, d.before a0 Z = true) : (Jvm.Cond.selects "com/example/kithgraph/kithgraph/cluster/GainQueue" ({ cls := "com/example/kithgraph/kithgraph/cluster/GainQueue", name := "poll", desc := "()I" } : Jvm.MethodName) ({ cls := "com/example/kithgraph/kithgraph/cluster/GainQueue", name := "poll", desc := "()I" } : Jvm.MethodName)).before a0 Z = true := hw _ (List.mem_of_getElem? (i := 56) rfl)
theorem w54 {Z : State} {a0 : Array Value} (hw : ∀ d ∈ tables_1, d.before a0 Z = true) : (Jvm.Cond.declares ({ cls := "com/example/kithgraph/kithgraph/cluster/GainQueue", name := "poll", desc := "()I" } : Jvm.MethodName)).before a0 Z = true := hw _ (List.mem_of_getElem? (i := 54) rfl)
theorem w55 {Z : State} {a0 : Array Value} (hw : ∀ d ∈ tables_1, d.before a0 Z = true) : (Jvm.Cond.instanceMethod ({ cls := "com/example/kithgraph/kithgraph/cluster/GainQueue", name := "poll", desc := "()I" } : Jvm.MethodName)).before a0 Z = true := hw _ (List.mem_of_getElem? (i := 55) rfl)
theorem d4_10 : decode prog_22_method_8_code 10 = .ok (.aload_n 0, 1) := by decide +kernel
theorem d4_11 : decode prog_22_method_8_code 11 = .ok (.getfield 21, 3) := by decide +kernel
theorem d4_14 : decode prog_22_method_8_code 14 = .ok (.aload_n 0, 1) := by decide +kernel
theorem d4_15 : decode prog_22_method_8_code 15 = .ok (.getfield 13, 3) := by decide +kernel
theorem d4_18 : decode prog_22_method_8_code 18 = .ok (.iload_n 1, 1) := by decide +kernel
theorem d4_19 : decode prog_22_method_8_code 19 = .ok (.iaload, 1) := by decide +kernel
theorem d4_20 : decode prog_22_method_8_code 20 = .ok (.iconst (-1), 1) := by decide +kernel
theorem d4_21 : decode prog_22_method_8_code 21 = .ok (.iastore, 1) := by decide +kernel
theorem d4_22 : decode prog_22_method_8_code 22 = .ok (.iinc 1 1, 3) := by decide +kernel
theorem d4_25 : decode prog_22_method_8_code 25 = .ok (.goto (-23), 3) := by decide +kernel
theorem d8_11 : decode prog_22_method_9_code 11 = .ok (.iload_n 1, 1) := by decide +kernel
theorem d8_12 : decode prog_22_method_9_code 12 = .ok (.iconst 1, 1) := by decide +kernel
theorem d8_13 : decode prog_22_method_9_code 13 = .ok (.isub, 1) := by decide +kernel
theorem d8_14 : decode prog_22_method_9_code 14 = .ok (.iconst 2, 1) := by decide +kernel
theorem d8_15 : decode prog_22_method_9_code 15 = .ok (.idiv, 1) := by decide +kernel
theorem d8_16 : decode prog_22_method_9_code 16 = .ok (.istore_n 3, 1) := by decide +kernel
theorem d8_17 : decode prog_22_method_9_code 17 = .ok (.aload_n 0, 1) := by decide +kernel
theorem d8_18 : decode prog_22_method_9_code 18 = .ok (.iload_n 2, 1) := by decide +kernel
theorem d8_19 : decode prog_22_method_9_code 19 = .ok (.aload_n 0, 1) := by decide +kernel
theorem d8_20 : decode prog_22_method_9_code 20 = .ok (.getfield 13, 3) := by decide +kernel
theorem d8_23 : decode prog_22_method_9_code 23 = .ok (.iload_n 3, 1) := by decide +kernel
theorem d8_24 : decode prog_22_method_9_code 24 = .ok (.iaload, 1) := by decide +kernel
theorem d8_25 : decode prog_22_method_9_code 25 = .ok (.invokevirtual 44, 3) := by decide +kernel
theorem w63 {Z : State} {a0 : Array Value} (hw : ∀ d ∈ tables_1, d.before a0 Z = true) : (Jvm.Cond.methodLink "com/example/kithgraph/kithgraph/cluster/GainQueue" (44 : Nat) ({ cls := "com/example/kithgraph/kithgraph/cluster/GainQueue", name := "before", desc := "(II)Z" } : Jvm.MethodName)).before a0 Z = true := hw _ (List.mem_of_getElem? (i := 63) rfl)
theorem d12_0 : decode prog_22_method_12_code 0 = .ok (.aload_n 0, 1) := by decide +kernel
theorem d12_1 : decode prog_22_method_12_code 1 = .ok (.getfield 17, 3) := by decide +kernel
theorem d12_4 : decode prog_22_method_12_code 4 = .ok (.iload_n 1, 1) := by decide +kernel
theorem d12_5 : decode prog_22_method_12_code 5 = .ok (.laload, 1) := by decide +kernel
theorem d12_6 : decode prog_22_method_12_code 6 = .ok (.lstore_n 3, 1) := by decide +kernel
theorem d12_7 : decode prog_22_method_12_code 7 = .ok (.aload_n 0, 1) := by decide +kernel
theorem d12_8 : decode prog_22_method_12_code 8 = .ok (.getfield 17, 3) := by decide +kernel
theorem d12_11 : decode prog_22_method_12_code 11 = .ok (.iload_n 2, 1) := by decide +kernel
theorem d12_12 : decode prog_22_method_12_code 12 = .ok (.laload, 1) := by decide +kernel
theorem d12_13 : decode prog_22_method_12_code 13 = .ok (.lstore 5, 2) := by decide +kernel
theorem d12_15 : decode prog_22_method_12_code 15 = .ok (.lload_n 3, 1) := by decide +kernel
theorem d12_16 : decode prog_22_method_12_code 16 = .ok (.lload 5, 2) := by decide +kernel
theorem d12_18 : decode prog_22_method_12_code 18 = .ok (.lcmp, 1) := by decide +kernel
theorem d12_19 : decode prog_22_method_12_code 19 = .ok (.ifCond .gt 15, 3) := by decide +kernel
theorem d12_34 : decode prog_22_method_12_code 34 = .ok (.iconst 1, 1) := by decide +kernel
theorem d12_35 : decode prog_22_method_12_code 35 = .ok (.goto 4, 3) := by decide +kernel
theorem d12_39 : decode prog_22_method_12_code 39 = .ok (.ireturn, 1) := by decide +kernel
abbrev y10_before : MethodName := ⟨"com/example/kithgraph/kithgraph/cluster/GainQueue", "before", "(II)Z"⟩
theorem pd__II_Z : parseMethodDescriptor "(II)Z" = some ⟨[.int, .int], some .boolean⟩ := by decide +kernel
theorem w66 {Z : State} {a0 : Array Value} (hw : ∀ d ∈ tables_1, d.before a0 Z = true) : (Jvm.Cond.code ({ cls := "com/example/kithgraph/kithgraph/cluster/GainQueue", name := "before", desc := "(II)Z" } : Jvm.MethodName) prog_22_method_12_code (7 : Nat) (Option.some Jvm.ClassFile.FieldType.boolean)).before a0 Z = true := hw _ (List.mem_of_getElem? (i := 66) rfl)
theorem w64 {Z : State} {a0 : Array Value} (hw : ∀ d ∈ tables_1, d.before a0 Z = true) : (Jvm.Cond.instanceMethod ({ cls := "com/example/kithgraph/kithgraph/cluster/GainQueue", name := "before", desc := "(II)Z" } : Jvm.MethodName)).before a0 Z = true := hw _ (List.mem_of_getElem? (i := 64) rfl)
theorem w65 {Z : State} {a0 : Array Value} (hw : ∀ d ∈ tables_1, d.before a0 Z = true) : (Jvm.Cond.privateMethod ({ cls := "com/example/kithgraph/kithgraph/cluster/GainQueue", name := "before", desc := "(II)Z" } : Jvm.MethodName)).before a0 Z = true := hw _ (List.mem_of_getElem? (i := 65) rfl)
theorem d8_28 : decode prog_22_method_9_code 28 = .ok (.ifCond .ne 6, 3) := by decide +kernel
theorem d8_34 : decode prog_22_method_9_code 34 = .ok (.aload_n 0, 1) := by decide +kernel
theorem d8_35 : decode prog_22_method_9_code 35 = .ok (.iload_n 1, 1) := by decide +kernel
theorem d8_36 : decode prog_22_method_9_code 36 = .ok (.aload_n 0, 1) := by decide +kernel
theorem d8_37 : decode prog_22_method_9_code 37 = .ok (.getfield 13, 3) := by decide +kernel
theorem d8_40 : decode prog_22_method_9_code 40 = .ok (.iload_n 3, 1) := by decide +kernel
theorem d8_41 : decode prog_22_method_9_code 41 = .ok (.iaload, 1) := by decide +kernel
theorem d8_42 : decode prog_22_method_9_code 42 = .ok (.invokevirtual 48, 3) := by decide +kernel
theorem d8_45 : decode prog_22_method_9_code 45 = .ok (.iload_n 3, 1) := by decide +kernel
theorem d8_46 : decode prog_22_method_9_code 46 = .ok (.istore_n 1, 1) := by decide +kernel
theorem d8_47 : decode prog_22_method_9_code 47 = .ok (.goto (-40), 3) := by decide +kernel
theorem d12_22 : decode prog_22_method_12_code 22 = .ok (.lload_n 3, 1) := by decide +kernel
theorem d12_23 : decode prog_22_method_12_code 23 = .ok (.lload 5, 2) := by decide +kernel
theorem d12_25 : decode prog_22_method_12_code 25 = .ok (.lcmp, 1) := by decide +kernel
theorem d12_26 : decode prog_22_method_12_code 26 = .ok (.ifCond .ne 12, 3) := by decide +kernel
theorem d12_29 : decode prog_22_method_12_code 29 = .ok (.iload_n 1, 1) := by decide +kernel
theorem d12_30 : decode prog_22_method_12_code 30 = .ok (.iload_n 2, 1) := by decide +kernel
theorem d12_31 : decode prog_22_method_12_code 31 = .ok (.if_icmp .ge 7, 3) := by decide +kernel
theorem d12_38 : decode prog_22_method_12_code 38 = .ok (.iconst 0, 1) := by decide +kernel
theorem d8_31 : decode prog_22_method_9_code 31 = .ok (.goto 19, 3) := by decide +kernel
theorem pn_com_example_kithgraph_kithgraph_cluster_GainQueueClearPinLaw : plainName "com/example/kithgraph/kithgraph/cluster/GainQueueClearPinLaw" = true := by first | (simp [plainName, overriddenIn]; done) | decide +kernel
abbrev c2_GainQueueClearPinLaw : String := "com/example/kithgraph/kithgraph/cluster/GainQueueClearPinLaw"
def GQ (Z : State) (n0 : Nat) (h : Heap) (a : Addr) (r_heap r_keys r_places : Addr) (v_count : Int32) (l_heap : List Value) (l_keys : List Value) (l_places : List Value) : Prop :=
  Exa Z h a "com/example/kithgraph/kithgraph/cluster/GainQueue" ∧ Fld Z h a "com/example/kithgraph/kithgraph/cluster/GainQueue" "count" "I" (.int v_count) ∧ Fld Z h a "com/example/kithgraph/kithgraph/cluster/GainQueue" "heap" "[I" (.ref r_heap) ∧ Fld Z h a "com/example/kithgraph/kithgraph/cluster/GainQueue" "keys" "[J" (.ref r_keys) ∧ Fld Z h a "com/example/kithgraph/kithgraph/cluster/GainQueue" "places" "[I" (.ref r_places) ∧ AA Z h r_heap .int l_heap ∧ AA Z h r_keys .long l_keys ∧ AA Z h r_places .int l_places ∧ a ≠ r_heap ∧ a ≠ r_keys ∧ a ≠ r_places ∧ r_heap ≠ r_keys ∧ r_heap ≠ r_places ∧ r_keys ≠ r_places ∧ n0 ≤ a ∧ n0 ≤ r_heap ∧ n0 ≤ r_keys ∧ n0 ≤ r_places
set_option maxRecDepth 65536 in
set_option maxHeartbeats 40000000 in
theorem fil (l : Launch) (Z : State) (a0 : Array Value) (hw : ∀ d ∈ tables_1, d.before a0 Z = true) (n0 : Nat) (h0 : Heap) (Z0 : n0 ≤ h0.size) (r : Addr) (V : AA Z h0 r .int [.int (0 : Int32), .int (0 : Int32), .int (0 : Int32)]) (g : n0 ≤ r) :
    Met l Z n0 y0_fill jdk_65_method_103_code 4 (Option.none : Option Jvm.ClassFile.FieldType) ({ frames := 0, cells := 0, slots := 0, locals := 0 } : Room) #[(.ref r), (.int (-1 : Int32))] h0 (fun v h => v = none ∧ Keep h0 h [r] ∧ AA Z h r .int [.int (-1 : Int32), .int (-1 : Int32), .int (-1 : Int32)]) := by
  refine met_intro (own := c0_Arrays) (plainFor_of_name pn_java_util_Arrays) rfl Z0 ?_
  intro p e s m below meth c T A hnm
  refine Wp.cast (g' := mkF m 0 #[rv r, iv (-1), U0, U0] []) (by first | (simp [entryFrame, mkF, argsToLocals, Value.category, maxLocals, jv, S2, U0, iv, rv]; done) | rfl) ?_
  refine s_iconst (pc' := 1) (z := (0 : Int32)) A d3_0 rfl (by decide) ?_
  refine s_istoreN (pc' := 2) (Ls' := #[rv r, iv (-1), iv 0, U0]) A d3_1 rfl rfl ?_
  refine s_aloadN (pc' := 3) A d3_2 rfl rfl rfl ?_
  refine s_arraylength (pc' := 4) (z := (3 : Int32)) A V (by show _ = ((3 : Nat) : Int); decide) d3_3 rfl ?_
  refine s_istoreN (pc' := 5) (Ls' := #[rv r, iv (-1), iv 0, iv 3]) A d3_4 rfl rfl ?_
  refine s_iloadN (pc' := 6) A d3_5 rfl rfl ?_
  refine s_iloadN (pc' := 7) A d3_6 rfl rfl ?_
  refine s_icmpN (pc' := 10) A d3_7 rfl (by decide) ?_
  refine s_aloadN (pc' := 11) A d3_10 rfl rfl rfl ?_
  refine s_iloadN (pc' := 12) A d3_11 rfl rfl ?_
  refine s_iloadN (pc' := 13) A d3_12 rfl rfl ?_
  refine s_iastore (pc' := 14) (i := 0) A V (by decide) (Nat.le_of_ble_eq_true rfl) g d3_13 rfl fun T h1 A W2 V3 => ?_
  have V3 : AA Z h1 r .int [.int (-1 : Int32), .int (0 : Int32), .int (0 : Int32)] := V3
  refine s_iinc (pc' := 17) (z := (1 : Int32)) (Ls' := #[rv r, iv (-1), iv 1, iv 3]) A d3_14 rfl rfl (by decide) rfl ?_
  refine s_goto (pc' := 5) A d3_17 (by decide) (by decide) ?_
  refine s_iloadN (pc' := 6) A d3_5 rfl rfl ?_
  refine s_iloadN (pc' := 7) A d3_6 rfl rfl ?_
  refine s_icmpN (pc' := 10) A d3_7 rfl (by decide) ?_
  refine s_aloadN (pc' := 11) A d3_10 rfl rfl rfl ?_
  refine s_iloadN (pc' := 12) A d3_11 rfl rfl ?_
  refine s_iloadN (pc' := 13) A d3_12 rfl rfl ?_
  refine s_iastore (pc' := 14) (i := 1) A V3 (by decide) (Nat.le_of_ble_eq_true rfl) g d3_13 rfl fun T h4 A W5 V6 => ?_
  have V6 : AA Z h4 r .int [.int (-1 : Int32), .int (-1 : Int32), .int (0 : Int32)] := V6
  refine s_iinc (pc' := 17) (z := (2 : Int32)) (Ls' := #[rv r, iv (-1), iv 2, iv 3]) A d3_14 rfl rfl (by decide) rfl ?_
  refine s_goto (pc' := 5) A d3_17 (by decide) (by decide) ?_
  refine s_iloadN (pc' := 6) A d3_5 rfl rfl ?_
  refine s_iloadN (pc' := 7) A d3_6 rfl rfl ?_
  refine s_icmpN (pc' := 10) A d3_7 rfl (by decide) ?_
  refine s_aloadN (pc' := 11) A d3_10 rfl rfl rfl ?_
  refine s_iloadN (pc' := 12) A d3_11 rfl rfl ?_
  refine s_iloadN (pc' := 13) A d3_12 rfl rfl ?_
  refine s_iastore (pc' := 14) (i := 2) A V6 (by decide) (Nat.le_of_ble_eq_true rfl) g d3_13 rfl fun T h7 A W8 V9 => ?_
  have V9 : AA Z h7 r .int [.int (-1 : Int32), .int (-1 : Int32), .int (-1 : Int32)] := V9
  refine s_iinc (pc' := 17) (z := (3 : Int32)) (Ls' := #[rv r, iv (-1), iv 3, iv 3]) A d3_14 rfl rfl (by decide) rfl ?_
  refine s_goto (pc' := 5) A d3_17 (by decide) (by decide) ?_
  refine s_iloadN (pc' := 6) A d3_5 rfl rfl ?_
  refine s_iloadN (pc' := 7) A d3_6 rfl rfl ?_
  refine s_icmpY (pc' := 20) A d3_7 (by decide) (by decide) (by decide) ?_
  have K10 := ((((Keep.refl h0 [r]).wr W2 (Or.inl (List.mem_of_getElem? (i := 0) rfl))).wr W5 (Or.inl (List.mem_of_getElem? (i := 0) rfl))).wr W8 (Or.inl (List.mem_of_getElem? (i := 0) rfl)))
  exact r_void A rfl d3_20 (by decide) (by decide) (⟨rfl, K10, V9⟩)
theorem own_p (x : Int32) : ((x &&& (2147483647 : Int32)) % (3 : Int32)) = 0 ∨ ((x &&& (2147483647 : Int32)) % (3 : Int32)) = 1 ∨ ((x &&& (2147483647 : Int32)) % (3 : Int32)) = 2 := by
  have _ := rng32 x
  have _ : (2147483647 : Int32).toInt = 2147483647 := (by decide)
  have _ := rng32 (x &&& (2147483647 : Int32))
  have _ : (x &&& (2147483647 : Int32)).toInt = x.toInt % 2147483648 := c_mask x (2147483647 : Int32) 31 (by decide) (by decide)
  have _ : (3 : Int32).toInt = 3 := (by decide)
  have _ := rng32 ((x &&& (2147483647 : Int32)) % (3 : Int32))
  have _ := c_irem (x &&& (2147483647 : Int32)) (3 : Int32) 3 (by decide)
  have q : ((x &&& (2147483647 : Int32)) % (3 : Int32)).toInt = 0 ∨ ((x &&& (2147483647 : Int32)) % (3 : Int32)).toInt = 1 ∨ ((x &&& (2147483647 : Int32)) % (3 : Int32)).toInt = 2 := by omega
  rcases q with q | q | q
  · exact Or.inl (Int32.toInt_inj.mp (q.trans (by decide)))
  · exact Or.inr (Or.inl (Int32.toInt_inj.mp (q.trans (by decide))))
  · exact Or.inr (Or.inr (Int32.toInt_inj.mp (q.trans (by decide))))
set_option maxRecDepth 65536 in
set_option maxHeartbeats 40000000 in
theorem gq_new1 (l : Launch) (Z : State) (a0 : Array Value) (hw : ∀ d ∈ tables_1, d.before a0 Z = true) (n0 : Nat) (h0 : Heap) (Z0 : n0 ≤ h0.size) (a : Addr) (E : Exa Z h0 a "com/example/kithgraph/kithgraph/cluster/GainQueue") (F_count : Fld Z h0 a "com/example/kithgraph/kithgraph/cluster/GainQueue" "count" "I" (.int (0 : Int32))) (F_heap : Fld Z h0 a "com/example/kithgraph/kithgraph/cluster/GainQueue" "heap" "[I" .null) (F_keys : Fld Z h0 a "com/example/kithgraph/kithgraph/cluster/GainQueue" "keys" "[J" .null) (F_places : Fld Z h0 a "com/example/kithgraph/kithgraph/cluster/GainQueue" "places" "[I" .null) (ga : n0 ≤ a) :
    Met l Z n0 y1_init prog_22_method_1_code 2 (Option.none : Option Jvm.ClassFile.FieldType) ({ frames := 1, cells := 3, slots := 9, locals := 15 } : Room) #[(.ref a), (.int (3 : Int32))] h0 (fun v h => v = none ∧ Keep h0 h [a] ∧ ∃ r_heap r_keys r_places, GQ Z n0 h a r_heap r_keys r_places (0 : Int32) [.int (0 : Int32), .int (0 : Int32), .int (0 : Int32)] [.long (0 : Int64), .long (0 : Int64), .long (0 : Int64)] [.int (-1 : Int32), .int (-1 : Int32), .int (-1 : Int32)] ∧ h0.size ≤ r_heap ∧ h0.size ≤ r_keys ∧ h0.size ≤ r_places) := by
  refine met_intro (own := c1_GainQueue) (plainFor_of_name pn_com_example_kithgraph_kithgraph_cluster_GainQueue) rfl Z0 ?_
  intro p e s m below meth c T A hnm
  refine Wp.cast (g' := mkF m 0 #[rv a, iv 3] []) (by first | (simp [entryFrame, mkF, argsToLocals, Value.category, maxLocals, jv, S2, U0, iv, rv]; done) | rfl) ?_
  refine s_aloadN (pc' := 1) A d1_0 rfl rfl rfl ?_
  refine s_initO (pc' := 4) (W := 0) A (w6 hw) (w7 hw) (w8 hw) (by decide) (Nat.le_of_eq rfl) (by decide) rfl d1_1 rfl fun T A => ?_
  refine s_aloadN (pc' := 5) A d1_4 rfl rfl rfl ?_
  refine s_iconst (pc' := 6) (z := (0 : Int32)) A d1_5 rfl (by decide) ?_
  refine s_putfield (pc' := 9) (host := "") A (Or.inl (w9 hw)) Via.refl F_count E (Or.inl (w10 hw)) (w1 hw) (ty := .int) (by decide) rfl rfl ga d1_6 rfl fun T h1 A W2 => ?_
  have F3 := F_count.same W2
  refine s_aloadN (pc' := 10) A d1_9 rfl rfl rfl ?_
  refine s_iloadN (pc' := 11) A d1_10 rfl rfl ?_
  have E10 := (E.wr W2)
  refine s_newarray (pc' := 13) (aty := .int) (ty := .int) (dv := (.int (0 : Int32))) (i := 3) (cap := 3) A rfl rfl (w11 hw) (by decide) (by decide) (by decide) (by decide) (by decide) d1_11 rfl fun T h4 b5 A g6 ge7 X8 V9 => ?_
  have ne11 : a ≠ b5 := lt_ne E10.lt g6
  have K13 := ((Keep.refl h0 [a]).wr W2 (Or.inl (List.mem_of_getElem? (i := 0) rfl)))
  have bo12 : h0.size ≤ b5 := le_eq K13.1 g6
  have V9 : AA Z h4 b5 .int [.int (0 : Int32), .int (0 : Int32), .int (0 : Int32)] := V9
  have F14 := ((F_heap.other W2 (Or.inr (sn_GainQueue_heap_count hw))).ext X8)
  have E15 := (E10.ext X8)
  refine s_putfield (pc' := 16) (host := "") A (Or.inl (w12 hw)) Via.refl F14 E15 (Or.inr ⟨(w13 hw), rfl, hnm⟩) (w1 hw) (ty := (.array .int)) (by decide) rfl rfl ga d1_13 rfl fun T h16 A W17 => ?_
  have F18 := F14.same W17
  refine s_aloadN (pc' := 17) A d1_16 rfl rfl rfl ?_
  refine s_iloadN (pc' := 18) A d1_17 rfl rfl ?_
  have E25 := (E15.wr W17)
  have V26 := (V9.other W17 (Ne.symm ne11))
  refine s_newarray (pc' := 20) (aty := .long) (ty := .long) (dv := (.long (0 : Int64))) (i := 3) (cap := 3) A rfl rfl (w14 hw) (by decide) (by decide) (by decide) (by decide) (by decide) d1_18 rfl fun T h19 b20 A g21 ge22 X23 V24 => ?_
  have ne27 : a ≠ b20 := lt_ne E25.lt g21
  have ne28 : b5 ≠ b20 := lt_ne V26.lt g21
  have K30 := ((K13.ext X8).wr W17 (Or.inl (List.mem_of_getElem? (i := 0) rfl)))
  have bo29 : h0.size ≤ b20 := le_eq K30.1 g21
  have V24 : AA Z h19 b20 .long [.long (0 : Int64), .long (0 : Int64), .long (0 : Int64)] := V24
  have F31 := ((((F_keys.other W2 (Or.inr (sn_GainQueue_keys_count hw))).ext X8).other W17 (Or.inr (sn_GainQueue_keys_heap hw))).ext X23)
  have E32 := (E25.ext X23)
  refine s_putfield (pc' := 23) (host := "") A (Or.inl (w15 hw)) Via.refl F31 E32 (Or.inr ⟨(w16 hw), rfl, hnm⟩) (w1 hw) (ty := (.array .long)) (by decide) rfl rfl ga d1_20 rfl fun T h33 A W34 => ?_
  have F35 := F31.same W34
  refine s_aloadN (pc' := 24) A d1_23 rfl rfl rfl ?_
  refine s_iloadN (pc' := 25) A d1_24 rfl rfl ?_
  have E42 := (E32.wr W34)
  have V43 := ((V26.ext X23).other W34 (Ne.symm ne11))
  have V44 := (V24.other W34 (Ne.symm ne27))
  refine s_newarray (pc' := 27) (aty := .int) (ty := .int) (dv := (.int (0 : Int32))) (i := 3) (cap := 3) A rfl rfl (w11 hw) (by decide) (by decide) (by decide) (by decide) (by decide) d1_25 rfl fun T h36 b37 A g38 ge39 X40 V41 => ?_
  have ne45 : a ≠ b37 := lt_ne E42.lt g38
  have ne46 : b5 ≠ b37 := lt_ne V43.lt g38
  have ne47 : b20 ≠ b37 := lt_ne V44.lt g38
  have K49 := ((K30.ext X23).wr W34 (Or.inl (List.mem_of_getElem? (i := 0) rfl)))
  have bo48 : h0.size ≤ b37 := le_eq K49.1 g38
  have V41 : AA Z h36 b37 .int [.int (0 : Int32), .int (0 : Int32), .int (0 : Int32)] := V41
  have F50 := ((((((F_places.other W2 (Or.inr (sn_GainQueue_places_count hw))).ext X8).other W17 (Or.inr (sn_GainQueue_places_heap hw))).ext X23).other W34 (Or.inr (sn_GainQueue_places_keys hw))).ext X40)
  have E51 := (E42.ext X40)
  refine s_putfield (pc' := 30) (host := "") A (Or.inl (w17 hw)) Via.refl F50 E51 (Or.inr ⟨(w18 hw), rfl, hnm⟩) (w1 hw) (ty := (.array .int)) (by decide) rfl rfl ga d1_27 rfl fun T h52 A W53 => ?_
  have F54 := F50.same W53
  refine s_aloadN (pc' := 31) A d1_30 rfl rfl rfl ?_
  refine s_getfield (pc' := 34) (host := "") A (Or.inl (w17 hw)) Via.refl F54 d1_31 rfl fun T A => ?_
  refine s_iconst (pc' := 35) (z := (-1 : Int32)) A d1_34 rfl (by decide) ?_
  have V55 := (V41.other W53 (Ne.symm ne45))
  refine s_static (pc' := 38) (y := y0_fill) (argsL := [(.ref b37), (.int (-1 : Int32))]) (rest := []) A (fil l Z a0 hw n0 h52 A.size b37 V55 ge39) (w19 hw) (w20 hw) (w21 hw) (w22 hw) (by decide) pd___II_V rfl (W := 0) (by decide) (by decide) (Nat.le_of_eq rfl) (by decide) (by decide) rfl rfl d1_35 rfl fun T h58 v59 A Q60 => ?_
  obtain ⟨rfl, K56, V57⟩ := Q60
  refine Wp.stk (st' := []) rfl ?_
  have K61 := (((K49.ext X40).wr W53 (Or.inl (List.mem_of_getElem? (i := 0) rfl))).trans K56 (allS (Or.inr bo48) all0))
  have E62 := ((E51.wr W53).keep K56)
  have F63 := (((((((F3.ext X8).other W17 (Or.inr (sn_GainQueue_count_heap hw))).ext X23).other W34 (Or.inr (sn_GainQueue_count_keys hw))).ext X40).other W53 (Or.inr (sn_GainQueue_count_places hw))).keep K56 (ninS ne45 nin0))
  have F64 := (((((F18.ext X23).other W34 (Or.inr (sn_GainQueue_heap_keys hw))).ext X40).other W53 (Or.inr (sn_GainQueue_heap_places hw))).keep K56 (ninS ne45 nin0))
  have F65 := (((F35.ext X40).other W53 (Or.inr (sn_GainQueue_keys_places hw))).keep K56 (ninS ne45 nin0))
  have F66 := (F54.keep K56 (ninS ne45 nin0))
  have V67 := (((V43.ext X40).other W53 (Ne.symm ne11)).keep K56 (ninS ne46 nin0))
  have V68 := (((V44.ext X40).other W53 (Ne.symm ne27)).keep K56 (ninS ne47 nin0))
  exact r_void A rfl d1_38 (by decide) (by decide) (⟨rfl, K61, b5, b20, b37, ⟨E62, F63, F64, F65, F66, V67, V68, V57, ne11, ne27, ne45, ne28, ne46, ne47, ga, ge7, ge22, ge39⟩, bo12, bo29, bo48⟩)
set_option maxRecDepth 65536 in
set_option maxHeartbeats 40000000 in
theorem gq_clear2 (l : Launch) (Z : State) (a0 : Array Value) (hw : ∀ d ∈ tables_1, d.before a0 Z = true) (n0 : Nat) (h0 : Heap) (Z0 : n0 ≤ h0.size) (a r_heap r_keys r_places : Addr)  (l_keys : List Value) (H : GQ Z n0 h0 a r_heap r_keys r_places (0 : Int32) [.int (0 : Int32), .int (0 : Int32), .int (0 : Int32)] l_keys [.int (-1 : Int32), .int (-1 : Int32), .int (-1 : Int32)]) :
    Met l Z n0 y2_clear prog_22_method_8_code 2 (Option.none : Option Jvm.ClassFile.FieldType) ({ frames := 0, cells := 0, slots := 0, locals := 0 } : Room) #[(.ref a)] h0 (fun v h => v = none ∧ Keep h0 h [a, r_heap, r_keys, r_places] ∧ GQ Z n0 h a r_heap r_keys r_places (0 : Int32) [.int (0 : Int32), .int (0 : Int32), .int (0 : Int32)] l_keys [.int (-1 : Int32), .int (-1 : Int32), .int (-1 : Int32)]) := by
  refine met_intro (own := c1_GainQueue) (plainFor_of_name pn_com_example_kithgraph_kithgraph_cluster_GainQueue) rfl Z0 ?_
  intro p e s m below meth c T A hnm
  refine Wp.cast (g' := mkF m 0 #[rv a, U0] []) (by first | (simp [entryFrame, mkF, argsToLocals, Value.category, maxLocals, jv, S2, U0, iv, rv]; done) | rfl) ?_
  obtain ⟨E1, F2, F3, F4, F5, V6, V7, V8, ne9, ne10, ne11, ne12, ne13, ne14, ge15, ge16, ge17, ge18⟩ := H
  refine s_iconst (pc' := 1) (z := (0 : Int32)) A d4_0 rfl (by decide) ?_
  refine s_istoreN (pc' := 2) (Ls' := #[rv a, iv 0]) A d4_1 rfl rfl ?_
  refine s_iloadN (pc' := 3) A d4_2 rfl rfl ?_
  refine s_aloadN (pc' := 4) A d4_3 rfl rfl rfl ?_
  refine s_getfield (pc' := 7) (host := "") A (Or.inl (w9 hw)) Via.refl F2 d4_4 rfl fun T A => ?_
  refine s_icmpY (pc' := 28) A d4_7 (by decide) (by decide) (by decide) ?_
  refine s_aloadN (pc' := 29) A d4_28 rfl rfl rfl ?_
  refine s_iconst (pc' := 30) (z := (0 : Int32)) A d4_29 rfl (by decide) ?_
  refine s_putfield (pc' := 33) (host := "") A (Or.inl (w9 hw)) Via.refl F2 E1 (Or.inl (w10 hw)) (w1 hw) (ty := .int) (by decide) rfl rfl ge15 d4_30 rfl fun T h19 A W20 => ?_
  have F21 := F2.same W20
  have K22 := ((Keep.refl h0 [a, r_heap, r_keys, r_places]).wr W20 (Or.inl (List.mem_of_getElem? (i := 0) rfl)))
  have E23 := (E1.wr W20)
  have F24 := (F3.other W20 (Or.inr (sn_GainQueue_heap_count hw)))
  have F25 := (F4.other W20 (Or.inr (sn_GainQueue_keys_count hw)))
  have F26 := (F5.other W20 (Or.inr (sn_GainQueue_places_count hw)))
  have V27 := (V6.other W20 (Ne.symm ne9))
  have V28 := (V7.other W20 (Ne.symm ne10))
  have V29 := (V8.other W20 (Ne.symm ne11))
  exact r_void A rfl d4_33 (by decide) (by decide) (⟨rfl, K22, ⟨E23, F21, F24, F25, F26, V27, V28, V29, ne9, ne10, ne11, ne12, ne13, ne14, ge15, ge16, ge17, ge18⟩⟩)
set_option maxRecDepth 65536 in
set_option maxHeartbeats 40000000 in
theorem gq_isEmpty3 (l : Launch) (Z : State) (a0 : Array Value) (hw : ∀ d ∈ tables_1, d.before a0 Z = true) (n0 : Nat) (h0 : Heap) (Z0 : n0 ≤ h0.size) (a r_heap r_keys r_places : Addr)  (l_heap : List Value) (l_keys : List Value) (l_places : List Value) (H : GQ Z n0 h0 a r_heap r_keys r_places (0 : Int32) l_heap l_keys l_places) :
    Met l Z n0 y3_isEmpty prog_22_method_2_code 1 (Option.some Jvm.ClassFile.FieldType.boolean) ({ frames := 0, cells := 0, slots := 0, locals := 0 } : Room) #[(.ref a)] h0 (fun v h => v = some (.int (1 : Int32)) ∧ Keep h0 h [a, r_heap, r_keys, r_places] ∧ GQ Z n0 h a r_heap r_keys r_places (0 : Int32) l_heap l_keys l_places) := by
  refine met_intro (own := c1_GainQueue) (plainFor_of_name pn_com_example_kithgraph_kithgraph_cluster_GainQueue) rfl Z0 ?_
  intro p e s m below meth c T A hnm
  refine Wp.cast (g' := mkF m 0 #[rv a] []) (by first | (simp [entryFrame, mkF, argsToLocals, Value.category, maxLocals, jv, S2, U0, iv, rv]; done) | rfl) ?_
  obtain ⟨E1, F2, F3, F4, F5, V6, V7, V8, ne9, ne10, ne11, ne12, ne13, ne14, ge15, ge16, ge17, ge18⟩ := H
  refine s_aloadN (pc' := 1) A d5_0 rfl rfl rfl ?_
  refine s_getfield (pc' := 4) (host := "") A (Or.inl (w9 hw)) Via.refl F2 d5_1 rfl fun T A => ?_
  refine s_ifN (pc' := 7) A d5_4 rfl (by decide) ?_
  refine s_iconst (pc' := 8) (z := (1 : Int32)) A d5_7 rfl (by decide) ?_
  refine s_goto (pc' := 12) A d5_8 (by decide) (by decide) ?_
  exact r_bool A rfl (by decide) d5_12 (by decide) (by decide) (⟨rfl, (Keep.refl h0 [a, r_heap, r_keys, r_places]), ⟨E1, F2, F3, F4, F5, V6, V7, V8, ne9, ne10, ne11, ne12, ne13, ne14, ge15, ge16, ge17, ge18⟩⟩)
set_option maxRecDepth 65536 in
set_option maxHeartbeats 40000000 in
theorem gq_contains4 (l : Launch) (Z : State) (a0 : Array Value) (hw : ∀ d ∈ tables_1, d.before a0 Z = true) (n0 : Nat) (h0 : Heap) (Z0 : n0 ≤ h0.size) (a r_heap r_keys r_places : Addr)  (l_heap : List Value) (l_keys : List Value) (H : GQ Z n0 h0 a r_heap r_keys r_places (0 : Int32) l_heap l_keys [.int (-1 : Int32), .int (-1 : Int32), .int (-1 : Int32)]) :
    Met l Z n0 y4_contains prog_22_method_3_code 2 (Option.some Jvm.ClassFile.FieldType.boolean) ({ frames := 0, cells := 0, slots := 0, locals := 0 } : Room) #[(.ref a), (.int (0 : Int32))] h0 (fun v h => v = some (.int (0 : Int32)) ∧ Keep h0 h [a, r_heap, r_keys, r_places] ∧ GQ Z n0 h a r_heap r_keys r_places (0 : Int32) l_heap l_keys [.int (-1 : Int32), .int (-1 : Int32), .int (-1 : Int32)]) := by
  refine met_intro (own := c1_GainQueue) (plainFor_of_name pn_com_example_kithgraph_kithgraph_cluster_GainQueue) rfl Z0 ?_
  intro p e s m below meth c T A hnm
  refine Wp.cast (g' := mkF m 0 #[rv a, iv 0] []) (by first | (simp [entryFrame, mkF, argsToLocals, Value.category, maxLocals, jv, S2, U0, iv, rv]; done) | rfl) ?_
  obtain ⟨E1, F2, F3, F4, F5, V6, V7, V8, ne9, ne10, ne11, ne12, ne13, ne14, ge15, ge16, ge17, ge18⟩ := H
  refine s_aloadN (pc' := 1) A d6_0 rfl rfl rfl ?_
  refine s_getfield (pc' := 4) (host := "") A (Or.inl (w17 hw)) Via.refl F5 d6_1 rfl fun T A => ?_
  refine s_iloadN (pc' := 5) A d6_4 rfl rfl ?_
  refine s_iaload (pc' := 6) (i := 0) (v := (.int (-1 : Int32))) A V8 (by decide) rfl d6_5 rfl ?_
  refine s_iconst (pc' := 7) (z := (-1 : Int32)) A d6_6 rfl (by decide) ?_
  refine s_icmpY (pc' := 14) A d6_7 (by decide) (by decide) (by decide) ?_
  refine s_iconst (pc' := 15) (z := (0 : Int32)) A d6_14 rfl (by decide) ?_
  exact r_bool A rfl (by decide) d6_15 (by decide) (by decide) (⟨rfl, (Keep.refl h0 [a, r_heap, r_keys, r_places]), ⟨E1, F2, F3, F4, F5, V6, V7, V8, ne9, ne10, ne11, ne12, ne13, ne14, ge15, ge16, ge17, ge18⟩⟩)
set_option maxRecDepth 65536 in
set_option maxHeartbeats 40000000 in
theorem gq_contains5 (l : Launch) (Z : State) (a0 : Array Value) (hw : ∀ d ∈ tables_1, d.before a0 Z = true) (n0 : Nat) (h0 : Heap) (Z0 : n0 ≤ h0.size) (a r_heap r_keys r_places : Addr)  (l_heap : List Value) (l_keys : List Value) (H : GQ Z n0 h0 a r_heap r_keys r_places (0 : Int32) l_heap l_keys [.int (-1 : Int32), .int (-1 : Int32), .int (-1 : Int32)]) :
    Met l Z n0 y4_contains prog_22_method_3_code 2 (Option.some Jvm.ClassFile.FieldType.boolean) ({ frames := 0, cells := 0, slots := 0, locals := 0 } : Room) #[(.ref a), (.int (1 : Int32))] h0 (fun v h => v = some (.int (0 : Int32)) ∧ Keep h0 h [a, r_heap, r_keys, r_places] ∧ GQ Z n0 h a r_heap r_keys r_places (0 : Int32) l_heap l_keys [.int (-1 : Int32), .int (-1 : Int32), .int (-1 : Int32)]) := by
  refine met_intro (own := c1_GainQueue) (plainFor_of_name pn_com_example_kithgraph_kithgraph_cluster_GainQueue) rfl Z0 ?_
  intro p e s m below meth c T A hnm
  refine Wp.cast (g' := mkF m 0 #[rv a, iv 1] []) (by first | (simp [entryFrame, mkF, argsToLocals, Value.category, maxLocals, jv, S2, U0, iv, rv]; done) | rfl) ?_
  obtain ⟨E1, F2, F3, F4, F5, V6, V7, V8, ne9, ne10, ne11, ne12, ne13, ne14, ge15, ge16, ge17, ge18⟩ := H
  refine s_aloadN (pc' := 1) A d6_0 rfl rfl rfl ?_
  refine s_getfield (pc' := 4) (host := "") A (Or.inl (w17 hw)) Via.refl F5 d6_1 rfl fun T A => ?_
  refine s_iloadN (pc' := 5) A d6_4 rfl rfl ?_
  refine s_iaload (pc' := 6) (i := 1) (v := (.int (-1 : Int32))) A V8 (by decide) rfl d6_5 rfl ?_
  refine s_iconst (pc' := 7) (z := (-1 : Int32)) A d6_6 rfl (by decide) ?_
  refine s_icmpY (pc' := 14) A d6_7 (by decide) (by decide) (by decide) ?_
  refine s_iconst (pc' := 15) (z := (0 : Int32)) A d6_14 rfl (by decide) ?_
  exact r_bool A rfl (by decide) d6_15 (by decide) (by decide) (⟨rfl, (Keep.refl h0 [a, r_heap, r_keys, r_places]), ⟨E1, F2, F3, F4, F5, V6, V7, V8, ne9, ne10, ne11, ne12, ne13, ne14, ge15, ge16, ge17, ge18⟩⟩)
set_option maxRecDepth 65536 in
set_option maxHeartbeats 40000000 in
theorem gq_contains6 (l : Launch) (Z : State) (a0 : Array Value) (hw : ∀ d ∈ tables_1, d.before a0 Z = true) (n0 : Nat) (h0 : Heap) (Z0 : n0 ≤ h0.size) (a r_heap r_keys r_places : Addr)  (l_heap : List Value) (l_keys : List Value) (H : GQ Z n0 h0 a r_heap r_keys r_places (0 : Int32) l_heap l_keys [.int (-1 : Int32), .int (-1 : Int32), .int (-1 : Int32)]) :
    Met l Z n0 y4_contains prog_22_method_3_code 2 (Option.some Jvm.ClassFile.FieldType.boolean) ({ frames := 0, cells := 0, slots := 0, locals := 0 } : Room) #[(.ref a), (.int (2 : Int32))] h0 (fun v h => v = some (.int (0 : Int32)) ∧ Keep h0 h [a, r_heap, r_keys, r_places] ∧ GQ Z n0 h a r_heap r_keys r_places (0 : Int32) l_heap l_keys [.int (-1 : Int32), .int (-1 : Int32), .int (-1 : Int32)]) := by
  refine met_intro (own := c1_GainQueue) (plainFor_of_name pn_com_example_kithgraph_kithgraph_cluster_GainQueue) rfl Z0 ?_
  intro p e s m below meth c T A hnm
  refine Wp.cast (g' := mkF m 0 #[rv a, iv 2] []) (by first | (simp [entryFrame, mkF, argsToLocals, Value.category, maxLocals, jv, S2, U0, iv, rv]; done) | rfl) ?_
  obtain ⟨E1, F2, F3, F4, F5, V6, V7, V8, ne9, ne10, ne11, ne12, ne13, ne14, ge15, ge16, ge17, ge18⟩ := H
  refine s_aloadN (pc' := 1) A d6_0 rfl rfl rfl ?_
  refine s_getfield (pc' := 4) (host := "") A (Or.inl (w17 hw)) Via.refl F5 d6_1 rfl fun T A => ?_
  refine s_iloadN (pc' := 5) A d6_4 rfl rfl ?_
  refine s_iaload (pc' := 6) (i := 2) (v := (.int (-1 : Int32))) A V8 (by decide) rfl d6_5 rfl ?_
  refine s_iconst (pc' := 7) (z := (-1 : Int32)) A d6_6 rfl (by decide) ?_
  refine s_icmpY (pc' := 14) A d6_7 (by decide) (by decide) (by decide) ?_
  refine s_iconst (pc' := 15) (z := (0 : Int32)) A d6_14 rfl (by decide) ?_
  exact r_bool A rfl (by decide) d6_15 (by decide) (by decide) (⟨rfl, (Keep.refl h0 [a, r_heap, r_keys, r_places]), ⟨E1, F2, F3, F4, F5, V6, V7, V8, ne9, ne10, ne11, ne12, ne13, ne14, ge15, ge16, ge17, ge18⟩⟩)
set_option maxRecDepth 65536 in
set_option maxHeartbeats 40000000 in
theorem gq_set9 (l : Launch) (Z : State) (a0 : Array Value) (hw : ∀ d ∈ tables_1, d.before a0 Z = true) (n0 : Nat) (h0 : Heap) (Z0 : n0 ≤ h0.size) (a r_heap r_keys r_places : Addr) (x0 : Int32) (x1 : Int32) (l_keys : List Value) (H : GQ Z n0 h0 a r_heap r_keys r_places (1 : Int32) [.int (0 : Int32), .int x0, .int x1] l_keys [.int (0 : Int32), .int (-1 : Int32), .int (-1 : Int32)]) :
    Met l Z n0 y5_set prog_22_method_11_code 3 (Option.none : Option Jvm.ClassFile.FieldType) ({ frames := 0, cells := 0, slots := 0, locals := 0 } : Room) #[(.ref a), (.int (0 : Int32)), (.int (0 : Int32))] h0 (fun v h => v = none ∧ Keep h0 h [a, r_heap, r_keys, r_places] ∧ GQ Z n0 h a r_heap r_keys r_places (1 : Int32) [.int (0 : Int32), .int x0, .int x1] l_keys [.int (0 : Int32), .int (-1 : Int32), .int (-1 : Int32)]) := by
  refine met_intro (own := c1_GainQueue) (plainFor_of_name pn_com_example_kithgraph_kithgraph_cluster_GainQueue) rfl Z0 ?_
  intro p e s m below meth c T A hnm
  refine Wp.cast (g' := mkF m 0 #[rv a, iv 0, iv 0] []) (by first | (simp [entryFrame, mkF, argsToLocals, Value.category, maxLocals, jv, S2, U0, iv, rv]; done) | rfl) ?_
  obtain ⟨E1, F2, F3, F4, F5, V6, V7, V8, ne9, ne10, ne11, ne12, ne13, ne14, ge15, ge16, ge17, ge18⟩ := H
  refine s_aloadN (pc' := 1) A d9_0 rfl rfl rfl ?_
  refine s_getfield (pc' := 4) (host := "") A (Or.inl (w12 hw)) Via.refl F3 d9_1 rfl fun T A => ?_
  refine s_iloadN (pc' := 5) A d9_4 rfl rfl ?_
  refine s_iloadN (pc' := 6) A d9_5 rfl rfl ?_
  refine s_iastore (pc' := 7) (i := 0) A V6 (by decide) (Nat.le_of_ble_eq_true rfl) ge16 d9_6 rfl fun T h19 A W20 V21 => ?_
  have V21 : AA Z h19 r_heap .int [.int (0 : Int32), .int x0, .int x1] := V21
  refine s_aloadN (pc' := 8) A d9_7 rfl rfl rfl ?_
  have F22 := (F5.other W20 (Or.inl ne9))
  refine s_getfield (pc' := 11) (host := "") A (Or.inl (w17 hw)) Via.refl F22 d9_8 rfl fun T A => ?_
  refine s_iloadN (pc' := 12) A d9_11 rfl rfl ?_
  refine s_iloadN (pc' := 13) A d9_12 rfl rfl ?_
  have V23 := (V8.other W20 (Ne.symm ne13))
  refine s_iastore (pc' := 14) (i := 0) A V23 (by decide) (Nat.le_of_ble_eq_true rfl) ge18 d9_13 rfl fun T h24 A W25 V26 => ?_
  have V26 : AA Z h24 r_places .int [.int (0 : Int32), .int (-1 : Int32), .int (-1 : Int32)] := V26
  have K27 := (((Keep.refl h0 [a, r_heap, r_keys, r_places]).wr W20 (Or.inl (List.mem_of_getElem? (i := 1) rfl))).wr W25 (Or.inl (List.mem_of_getElem? (i := 3) rfl)))
  have E28 := ((E1.wr W20).wr W25)
  have F29 := ((F2.other W20 (Or.inl ne9)).other W25 (Or.inl ne11))
  have F30 := ((F3.other W20 (Or.inl ne9)).other W25 (Or.inl ne11))
  have F31 := ((F4.other W20 (Or.inl ne9)).other W25 (Or.inl ne11))
  have F32 := (F22.other W25 (Or.inl ne11))
  have V33 := (V21.other W25 ne13)
  have V34 := ((V7.other W20 (Ne.symm ne12)).other W25 ne14)
  exact r_void A rfl d9_14 (by decide) (by decide) (⟨rfl, K27, ⟨E28, F29, F30, F31, F32, V33, V34, V26, ne9, ne10, ne11, ne12, ne13, ne14, ge15, ge16, ge17, ge18⟩⟩)
set_option maxRecDepth 65536 in
set_option maxHeartbeats 40000000 in
theorem gq_up8 (l : Launch) (Z : State) (a0 : Array Value) (hw : ∀ d ∈ tables_1, d.before a0 Z = true) (n0 : Nat) (h0 : Heap) (Z0 : n0 ≤ h0.size) (a r_heap r_keys r_places : Addr) (x0 : Int32) (x1 : Int32) (l_keys : List Value) (H : GQ Z n0 h0 a r_heap r_keys r_places (1 : Int32) [.int (0 : Int32), .int x0, .int x1] l_keys [.int (0 : Int32), .int (-1 : Int32), .int (-1 : Int32)]) :
    Met l Z n0 y6_up prog_22_method_9_code 4 (Option.none : Option Jvm.ClassFile.FieldType) ({ frames := 1, cells := 0, slots := 0, locals := 14 } : Room) #[(.ref a), (.int (0 : Int32))] h0 (fun v h => v = none ∧ Keep h0 h [a, r_heap, r_keys, r_places] ∧ GQ Z n0 h a r_heap r_keys r_places (1 : Int32) [.int (0 : Int32), .int x0, .int x1] l_keys [.int (0 : Int32), .int (-1 : Int32), .int (-1 : Int32)]) := by
  refine met_intro (own := c1_GainQueue) (plainFor_of_name pn_com_example_kithgraph_kithgraph_cluster_GainQueue) rfl Z0 ?_
  intro p e s m below meth c T A hnm
  refine Wp.cast (g' := mkF m 0 #[rv a, iv 0, U0, U0] []) (by first | (simp [entryFrame, mkF, argsToLocals, Value.category, maxLocals, jv, S2, U0, iv, rv]; done) | rfl) ?_
  obtain ⟨E1, F2, F3, F4, F5, V6, V7, V8, ne9, ne10, ne11, ne12, ne13, ne14, ge15, ge16, ge17, ge18⟩ := H
  refine s_aloadN (pc' := 1) A d8_0 rfl rfl rfl ?_
  refine s_getfield (pc' := 4) (host := "") A (Or.inl (w12 hw)) Via.refl F3 d8_1 rfl fun T A => ?_
  refine s_iloadN (pc' := 5) A d8_4 rfl rfl ?_
  refine s_iaload (pc' := 6) (i := 0) (v := (.int (0 : Int32))) A V6 (by decide) rfl d8_5 rfl ?_
  refine s_istoreN (pc' := 7) (Ls' := #[rv a, iv 0, iv 0, U0]) A d8_6 rfl rfl ?_
  refine s_iloadN (pc' := 8) A d8_7 rfl rfl ?_
  refine s_ifY (pc' := 50) A d8_8 (by decide) (by decide) (by decide) ?_
  refine s_aloadN (pc' := 51) A d8_50 rfl rfl rfl ?_
  refine s_iloadN (pc' := 52) A d8_51 rfl rfl ?_
  refine s_iloadN (pc' := 53) A d8_52 rfl rfl ?_
  refine s_private (pc' := 56) (y := y5_set) (argsL := [(.int (0 : Int32)), (.int (0 : Int32))]) (rest := []) A E1 (gq_set9 l Z a0 hw n0 h0 A.size a r_heap r_keys r_places x0 x1 l_keys ⟨E1, F2, F3, F4, F5, V6, V7, V8, ne9, ne10, ne11, ne12, ne13, ne14, ge15, ge16, ge17, ge18⟩) (w49 hw) (w50 hw) (w1 hw) (w51 hw) (w2 hw) (w52 hw) (by decide) pd__II_V rfl (W := 0) (by decide) (by decide) (Nat.le_of_eq rfl) (by decide) (by decide) rfl rfl d8_53 rfl fun T h21 v22 A Q23 => ?_
  obtain ⟨rfl, K19, H20⟩ := Q23
  obtain ⟨E24, F25, F26, F27, F28, V29, V30, V31, ne32, ne33, ne34, ne35, ne36, ne37, ge38, ge39, ge40, ge41⟩ := H20
  refine Wp.stk (st' := []) rfl ?_
  have K42 := ((Keep.refl h0 [a, r_heap, r_keys, r_places]).trans K19 (allS (Or.inl (List.mem_of_getElem? (i := 0) rfl)) (allS (Or.inl (List.mem_of_getElem? (i := 1) rfl)) (allS (Or.inl (List.mem_of_getElem? (i := 2) rfl)) (allS (Or.inl (List.mem_of_getElem? (i := 3) rfl)) all0)))))
  exact r_void A rfl d8_56 (by decide) (by decide) (⟨rfl, K42, ⟨E24, F25, F26, F27, F28, V29, V30, V31, ne32, ne33, ne34, ne35, ne36, ne37, ge38, ge39, ge40, ge41⟩⟩)
set_option maxRecDepth 65536 in
set_option maxHeartbeats 40000000 in
theorem gq_put7 (l : Launch) (Z : State) (a0 : Array Value) (hw : ∀ d ∈ tables_1, d.before a0 Z = true) (n0 : Nat) (h0 : Heap) (Z0 : n0 ≤ h0.size) (a r_heap r_keys r_places : Addr) (x0 : Int32) (x1 : Int32) (x2 : Int32) (x3 : Int64) (x4 : Int64) (x5 : Int64) (x6 : Int64) (H : GQ Z n0 h0 a r_heap r_keys r_places (0 : Int32) [.int x0, .int x1, .int x2] [.long x3, .long x4, .long x5] [.int (-1 : Int32), .int (-1 : Int32), .int (-1 : Int32)]) :
    Met l Z n0 y7_put prog_22_method_4_code 6 (Option.none : Option Jvm.ClassFile.FieldType) ({ frames := 2, cells := 0, slots := 0, locals := 29 } : Room) #[(.ref a), (.int (0 : Int32)), (.long x6)] h0 (fun v h => v = none ∧ Keep h0 h [a, r_heap, r_keys, r_places] ∧ GQ Z n0 h a r_heap r_keys r_places (1 : Int32) [.int (0 : Int32), .int x1, .int x2] [.long x6, .long x4, .long x5] [.int (0 : Int32), .int (-1 : Int32), .int (-1 : Int32)]) := by
  refine met_intro (own := c1_GainQueue) (plainFor_of_name pn_com_example_kithgraph_kithgraph_cluster_GainQueue) rfl Z0 ?_
  intro p e s m below meth c T A hnm
  refine Wp.cast (g' := mkF m 0 #[rv a, iv 0, jv x6, S2, U0, U0] []) (by first | (simp [entryFrame, mkF, argsToLocals, Value.category, maxLocals, jv, S2, U0, iv, rv]; done) | rfl) ?_
  obtain ⟨E1, F2, F3, F4, F5, V6, V7, V8, ne9, ne10, ne11, ne12, ne13, ne14, ge15, ge16, ge17, ge18⟩ := H
  refine s_aloadN (pc' := 1) A d7_0 rfl rfl rfl ?_
  refine s_iloadN (pc' := 2) A d7_1 rfl rfl ?_
  refine s_virtual (pc' := 5) (y := y4_contains) (argsL := [(.int (0 : Int32))]) (rest := []) (z := y4_contains) A E1 (gq_contains4 l Z a0 hw n0 h0 A.size a r_heap r_keys r_places [.int x0, .int x1, .int x2] [.long x3, .long x4, .long x5] ⟨E1, F2, F3, F4, F5, V6, V7, V8, ne9, ne10, ne11, ne12, ne13, ne14, ge15, ge16, ge17, ge18⟩) (w44 hw) (w34 hw) (nf_same (C := "") (w36 hw)) (w36 hw) (w35 hw) (w2 hw) (w37 hw) (by decide) pd__I_Z rfl (W := 0) (by decide) (by decide) (Nat.le_of_eq rfl) (by decide) (by decide) rfl rfl d7_2 rfl fun T h21 v22 A Q23 => ?_
  obtain ⟨rfl, K19, H20⟩ := Q23
  obtain ⟨E24, F25, F26, F27, F28, V29, V30, V31, ne32, ne33, ne34, ne35, ne36, ne37, ge38, ge39, ge40, ge41⟩ := H20
  refine Wp.stk (st' := [(.int (0 : Int32))]) rfl ?_
  refine s_ifY (pc' := 56) A d7_5 (by decide) (by decide) (by decide) ?_
  refine s_aloadN (pc' := 57) A d7_56 rfl rfl rfl ?_
  refine s_getfield (pc' := 60) (host := "") A (Or.inl (w15 hw)) Via.refl F27 d7_57 rfl fun T A => ?_
  refine s_iloadN (pc' := 61) A d7_60 rfl rfl ?_
  refine s_lloadN (pc' := 62) A d7_61 rfl rfl ?_
  refine s_lastore (pc' := 63) (i := 0) A V30 (by decide) (Nat.le_of_ble_eq_true rfl) ge40 d7_62 rfl fun T h42 A W43 V44 => ?_
  have V44 : AA Z h42 r_keys .long [.long x6, .long x4, .long x5] := V44
  refine s_aloadN (pc' := 64) A d7_63 rfl rfl rfl ?_
  have F45 := (F26.other W43 (Or.inl ne33))
  refine s_getfield (pc' := 67) (host := "") A (Or.inl (w12 hw)) Via.refl F45 d7_64 rfl fun T A => ?_
  refine s_aloadN (pc' := 68) A d7_67 rfl rfl rfl ?_
  have F46 := (F25.other W43 (Or.inl ne33))
  refine s_getfield (pc' := 71) (host := "") A (Or.inl (w9 hw)) Via.refl F46 d7_68 rfl fun T A => ?_
  refine s_iloadN (pc' := 72) A d7_71 rfl rfl ?_
  have V47 := (V29.other W43 ne35)
  refine s_iastore (pc' := 73) (i := 0) A V47 (by decide) (Nat.le_of_ble_eq_true rfl) ge39 d7_72 rfl fun T h48 A W49 V50 => ?_
  have V50 : AA Z h48 r_heap .int [.int (0 : Int32), .int x1, .int x2] := V50
  refine s_aloadN (pc' := 74) A d7_73 rfl rfl rfl ?_
  have F51 := ((F28.other W43 (Or.inl ne33)).other W49 (Or.inl ne32))
  refine s_getfield (pc' := 77) (host := "") A (Or.inl (w17 hw)) Via.refl F51 d7_74 rfl fun T A => ?_
  refine s_iloadN (pc' := 78) A d7_77 rfl rfl ?_
  refine s_aloadN (pc' := 79) A d7_78 rfl rfl rfl ?_
  have F52 := (F46.other W49 (Or.inl ne32))
  refine s_getfield (pc' := 82) (host := "") A (Or.inl (w9 hw)) Via.refl F52 d7_79 rfl fun T A => ?_
  have V53 := ((V31.other W43 (Ne.symm ne37)).other W49 (Ne.symm ne36))
  refine s_iastore (pc' := 83) (i := 0) A V53 (by decide) (Nat.le_of_ble_eq_true rfl) ge41 d7_82 rfl fun T h54 A W55 V56 => ?_
  have V56 : AA Z h54 r_places .int [.int (0 : Int32), .int (-1 : Int32), .int (-1 : Int32)] := V56
  refine s_aloadN (pc' := 84) A d7_83 rfl rfl rfl ?_
  refine s_dup (pc' := 85) A d7_84 rfl rfl ?_
  have F57 := (F52.other W55 (Or.inl ne34))
  refine s_getfield (pc' := 88) (host := "") A (Or.inl (w9 hw)) Via.refl F57 d7_85 rfl fun T A => ?_
  refine s_iconst (pc' := 89) (z := (1 : Int32)) A d7_88 rfl (by decide) ?_
  refine s_iadd (pc' := 90) (z := (1 : Int32)) A d7_89 rfl (by decide) ?_
  have E58 := (((E24.wr W43).wr W49).wr W55)
  refine s_putfield (pc' := 93) (host := "") A (Or.inl (w9 hw)) Via.refl F57 E58 (Or.inl (w10 hw)) (w1 hw) (ty := .int) (by decide) rfl rfl ge38 d7_90 rfl fun T h59 A W60 => ?_
  have F61 := F57.same W60
  refine s_aloadN (pc' := 94) A d7_93 rfl rfl rfl ?_
  refine s_aloadN (pc' := 95) A d7_94 rfl rfl rfl ?_
  refine s_getfield (pc' := 98) (host := "") A (Or.inl (w9 hw)) Via.refl F61 d7_95 rfl fun T A => ?_
  refine s_iconst (pc' := 99) (z := (1 : Int32)) A d7_98 rfl (by decide) ?_
  refine s_isub (pc' := 100) (z := (0 : Int32)) A d7_99 rfl (by decide) ?_
  have E62 := (E58.wr W60)
  have F63 := (((F45.other W49 (Or.inl ne32)).other W55 (Or.inl ne34)).other W60 (Or.inr (sn_GainQueue_heap_count hw)))
  have F64 := ((((F27.other W43 (Or.inl ne33)).other W49 (Or.inl ne32)).other W55 (Or.inl ne34)).other W60 (Or.inr (sn_GainQueue_keys_count hw)))
  have F65 := ((F51.other W55 (Or.inl ne34)).other W60 (Or.inr (sn_GainQueue_places_count hw)))
  have V66 := ((V50.other W55 ne36).other W60 (Ne.symm ne32))
  have V67 := (((V44.other W49 (Ne.symm ne35)).other W55 ne37).other W60 (Ne.symm ne33))
  have V68 := (V56.other W60 (Ne.symm ne34))
  refine s_private (pc' := 103) (y := y6_up) (argsL := [(.int (0 : Int32))]) (rest := []) A E62 (gq_up8 l Z a0 hw n0 h59 A.size a r_heap r_keys r_places x1 x2 [.long x6, .long x4, .long x5] ⟨E62, F61, F63, F64, F65, V66, V67, V68, ne32, ne33, ne34, ne35, ne36, ne37, ge38, ge39, ge40, ge41⟩) (w45 hw) (w46 hw) (w1 hw) (w47 hw) (w2 hw) (w48 hw) (by decide) pd__I_V rfl (W := 0) (by decide) (by decide) (Nat.le_of_eq rfl) (by decide) (by decide) rfl rfl d7_100 rfl fun T h71 v72 A Q73 => ?_
  obtain ⟨rfl, K69, H70⟩ := Q73
  obtain ⟨E74, F75, F76, F77, F78, V79, V80, V81, ne82, ne83, ne84, ne85, ne86, ne87, ge88, ge89, ge90, ge91⟩ := H70
  refine Wp.stk (st' := []) rfl ?_
  have K92 := (((((((Keep.refl h0 [a, r_heap, r_keys, r_places]).trans K19 (allS (Or.inl (List.mem_of_getElem? (i := 0) rfl)) (allS (Or.inl (List.mem_of_getElem? (i := 1) rfl)) (allS (Or.inl (List.mem_of_getElem? (i := 2) rfl)) (allS (Or.inl (List.mem_of_getElem? (i := 3) rfl)) all0))))).wr W43 (Or.inl (List.mem_of_getElem? (i := 2) rfl))).wr W49 (Or.inl (List.mem_of_getElem? (i := 1) rfl))).wr W55 (Or.inl (List.mem_of_getElem? (i := 3) rfl))).wr W60 (Or.inl (List.mem_of_getElem? (i := 0) rfl))).trans K69 (allS (Or.inl (List.mem_of_getElem? (i := 0) rfl)) (allS (Or.inl (List.mem_of_getElem? (i := 1) rfl)) (allS (Or.inl (List.mem_of_getElem? (i := 2) rfl)) (allS (Or.inl (List.mem_of_getElem? (i := 3) rfl)) all0)))))
  exact r_void A rfl d7_103 (by decide) (by decide) (⟨rfl, K92, ⟨E74, F75, F76, F77, F78, V79, V80, V81, ne82, ne83, ne84, ne85, ne86, ne87, ge88, ge89, ge90, ge91⟩⟩)
set_option maxRecDepth 65536 in
set_option maxHeartbeats 40000000 in
theorem gq_remove11 (l : Launch) (Z : State) (a0 : Array Value) (hw : ∀ d ∈ tables_1, d.before a0 Z = true) (n0 : Nat) (h0 : Heap) (Z0 : n0 ≤ h0.size) (a r_heap r_keys r_places : Addr) (x0 : Int32) (x1 : Int32) (l_keys : List Value) (H : GQ Z n0 h0 a r_heap r_keys r_places (1 : Int32) [.int (0 : Int32), .int x0, .int x1] l_keys [.int (0 : Int32), .int (-1 : Int32), .int (-1 : Int32)]) :
    Met l Z n0 y8_remove prog_22_method_7_code 4 (Option.none : Option Jvm.ClassFile.FieldType) ({ frames := 0, cells := 0, slots := 0, locals := 0 } : Room) #[(.ref a), (.int (0 : Int32))] h0 (fun v h => v = none ∧ Keep h0 h [a, r_heap, r_keys, r_places] ∧ GQ Z n0 h a r_heap r_keys r_places (0 : Int32) [.int (0 : Int32), .int x0, .int x1] l_keys [.int (-1 : Int32), .int (-1 : Int32), .int (-1 : Int32)]) := by
  refine met_intro (own := c1_GainQueue) (plainFor_of_name pn_com_example_kithgraph_kithgraph_cluster_GainQueue) rfl Z0 ?_
  intro p e s m below meth c T A hnm
  refine Wp.cast (g' := mkF m 0 #[rv a, iv 0, U0, U0] []) (by first | (simp [entryFrame, mkF, argsToLocals, Value.category, maxLocals, jv, S2, U0, iv, rv]; done) | rfl) ?_
  obtain ⟨E1, F2, F3, F4, F5, V6, V7, V8, ne9, ne10, ne11, ne12, ne13, ne14, ge15, ge16, ge17, ge18⟩ := H
  refine s_aloadN (pc' := 1) A d11_0 rfl rfl rfl ?_
  refine s_getfield (pc' := 4) (host := "") A (Or.inl (w17 hw)) Via.refl F5 d11_1 rfl fun T A => ?_
  refine s_iloadN (pc' := 5) A d11_4 rfl rfl ?_
  refine s_iaload (pc' := 6) (i := 0) (v := (.int (0 : Int32))) A V8 (by decide) rfl d11_5 rfl ?_
  refine s_istoreN (pc' := 7) (Ls' := #[rv a, iv 0, iv 0, U0]) A d11_6 rfl rfl ?_
  refine s_iloadN (pc' := 8) A d11_7 rfl rfl ?_
  refine s_iconst (pc' := 9) (z := (-1 : Int32)) A d11_8 rfl (by decide) ?_
  refine s_icmpY (pc' := 13) A d11_9 (by decide) (by decide) (by decide) ?_
  refine s_aloadN (pc' := 14) A d11_13 rfl rfl rfl ?_
  refine s_dup (pc' := 15) A d11_14 rfl rfl ?_
  refine s_getfield (pc' := 18) (host := "") A (Or.inl (w9 hw)) Via.refl F2 d11_15 rfl fun T A => ?_
  refine s_iconst (pc' := 19) (z := (1 : Int32)) A d11_18 rfl (by decide) ?_
  refine s_isub (pc' := 20) (z := (0 : Int32)) A d11_19 rfl (by decide) ?_
  refine s_putfield (pc' := 23) (host := "") A (Or.inl (w9 hw)) Via.refl F2 E1 (Or.inl (w10 hw)) (w1 hw) (ty := .int) (by decide) rfl rfl ge15 d11_20 rfl fun T h19 A W20 => ?_
  have F21 := F2.same W20
  refine s_aloadN (pc' := 24) A d11_23 rfl rfl rfl ?_
  have F22 := (F5.other W20 (Or.inr (sn_GainQueue_places_count hw)))
  refine s_getfield (pc' := 27) (host := "") A (Or.inl (w17 hw)) Via.refl F22 d11_24 rfl fun T A => ?_
  refine s_iloadN (pc' := 28) A d11_27 rfl rfl ?_
  refine s_iconst (pc' := 29) (z := (-1 : Int32)) A d11_28 rfl (by decide) ?_
  have V23 := (V8.other W20 (Ne.symm ne11))
  refine s_iastore (pc' := 30) (i := 0) A V23 (by decide) (Nat.le_of_ble_eq_true rfl) ge18 d11_29 rfl fun T h24 A W25 V26 => ?_
  have V26 : AA Z h24 r_places .int [.int (-1 : Int32), .int (-1 : Int32), .int (-1 : Int32)] := V26
  refine s_iloadN (pc' := 31) A d11_30 rfl rfl ?_
  refine s_aloadN (pc' := 32) A d11_31 rfl rfl rfl ?_
  have F27 := (F21.other W25 (Or.inl ne11))
  refine s_getfield (pc' := 35) (host := "") A (Or.inl (w9 hw)) Via.refl F27 d11_32 rfl fun T A => ?_
  refine s_icmpY (pc' := 77) A d11_35 (by decide) (by decide) (by decide) ?_
  have K28 := (((Keep.refl h0 [a, r_heap, r_keys, r_places]).wr W20 (Or.inl (List.mem_of_getElem? (i := 0) rfl))).wr W25 (Or.inl (List.mem_of_getElem? (i := 3) rfl)))
  have E29 := ((E1.wr W20).wr W25)
  have F30 := ((F3.other W20 (Or.inr (sn_GainQueue_heap_count hw))).other W25 (Or.inl ne11))
  have F31 := ((F4.other W20 (Or.inr (sn_GainQueue_keys_count hw))).other W25 (Or.inl ne11))
  have F32 := (F22.other W25 (Or.inl ne11))
  have V33 := ((V6.other W20 (Ne.symm ne9)).other W25 ne13)
  have V34 := ((V7.other W20 (Ne.symm ne10)).other W25 ne14)
  exact r_void A rfl d11_77 (by decide) (by decide) (⟨rfl, K28, ⟨E29, F27, F30, F31, F32, V33, V34, V26, ne9, ne10, ne11, ne12, ne13, ne14, ge15, ge16, ge17, ge18⟩⟩)
set_option maxRecDepth 65536 in
set_option maxHeartbeats 40000000 in
theorem gq_poll10 (l : Launch) (Z : State) (a0 : Array Value) (hw : ∀ d ∈ tables_1, d.before a0 Z = true) (n0 : Nat) (h0 : Heap) (Z0 : n0 ≤ h0.size) (a r_heap r_keys r_places : Addr) (x0 : Int32) (x1 : Int32) (l_keys : List Value) (H : GQ Z n0 h0 a r_heap r_keys r_places (1 : Int32) [.int (0 : Int32), .int x0, .int x1] l_keys [.int (0 : Int32), .int (-1 : Int32), .int (-1 : Int32)]) :
    Met l Z n0 y9_poll prog_22_method_6_code 2 (Option.some Jvm.ClassFile.FieldType.int) ({ frames := 1, cells := 0, slots := 0, locals := 15 } : Room) #[(.ref a)] h0 (fun v h => v = some (.int (0 : Int32)) ∧ Keep h0 h [a, r_heap, r_keys, r_places] ∧ GQ Z n0 h a r_heap r_keys r_places (0 : Int32) [.int (0 : Int32), .int x0, .int x1] l_keys [.int (-1 : Int32), .int (-1 : Int32), .int (-1 : Int32)]) := by
  refine met_intro (own := c1_GainQueue) (plainFor_of_name pn_com_example_kithgraph_kithgraph_cluster_GainQueue) rfl Z0 ?_
  intro p e s m below meth c T A hnm
  refine Wp.cast (g' := mkF m 0 #[rv a, U0] []) (by first | (simp [entryFrame, mkF, argsToLocals, Value.category, maxLocals, jv, S2, U0, iv, rv]; done) | rfl) ?_
  obtain ⟨E1, F2, F3, F4, F5, V6, V7, V8, ne9, ne10, ne11, ne12, ne13, ne14, ge15, ge16, ge17, ge18⟩ := H
  refine s_aloadN (pc' := 1) A d10_0 rfl rfl rfl ?_
  refine s_getfield (pc' := 4) (host := "") A (Or.inl (w12 hw)) Via.refl F3 d10_1 rfl fun T A => ?_
  refine s_iconst (pc' := 5) (z := (0 : Int32)) A d10_4 rfl (by decide) ?_
  refine s_iaload (pc' := 6) (i := 0) (v := (.int (0 : Int32))) A V6 (by decide) rfl d10_5 rfl ?_
  refine s_istoreN (pc' := 7) (Ls' := #[rv a, iv 0]) A d10_6 rfl rfl ?_
  refine s_aloadN (pc' := 8) A d10_7 rfl rfl rfl ?_
  refine s_iloadN (pc' := 9) A d10_8 rfl rfl ?_
  refine s_virtual (pc' := 12) (y := y8_remove) (argsL := [(.int (0 : Int32))]) (rest := []) (z := y8_remove) A E1 (gq_remove11 l Z a0 hw n0 h0 A.size a r_heap r_keys r_places x0 x1 l_keys ⟨E1, F2, F3, F4, F5, V6, V7, V8, ne9, ne10, ne11, ne12, ne13, ne14, ge15, ge16, ge17, ge18⟩) (w58 hw) (w59 hw) (nf_same (C := "") (w61 hw)) (w61 hw) (w60 hw) (w2 hw) (w62 hw) (by decide) pd__I_V rfl (W := 0) (by decide) (by decide) (Nat.le_of_eq rfl) (by decide) (by decide) rfl rfl d10_9 rfl fun T h21 v22 A Q23 => ?_
  obtain ⟨rfl, K19, H20⟩ := Q23
  obtain ⟨E24, F25, F26, F27, F28, V29, V30, V31, ne32, ne33, ne34, ne35, ne36, ne37, ge38, ge39, ge40, ge41⟩ := H20
  refine Wp.stk (st' := []) rfl ?_
  refine s_iloadN (pc' := 13) A d10_12 rfl rfl ?_
  have K42 := ((Keep.refl h0 [a, r_heap, r_keys, r_places]).trans K19 (allS (Or.inl (List.mem_of_getElem? (i := 0) rfl)) (allS (Or.inl (List.mem_of_getElem? (i := 1) rfl)) (allS (Or.inl (List.mem_of_getElem? (i := 2) rfl)) (allS (Or.inl (List.mem_of_getElem? (i := 3) rfl)) all0)))))
  exact r_int A rfl d10_13 (by decide) (by decide) (⟨rfl, K42, ⟨E24, F25, F26, F27, F28, V29, V30, V31, ne32, ne33, ne34, ne35, ne36, ne37, ge38, ge39, ge40, ge41⟩⟩)
set_option maxRecDepth 65536 in
set_option maxHeartbeats 40000000 in
theorem gq_set14 (l : Launch) (Z : State) (a0 : Array Value) (hw : ∀ d ∈ tables_1, d.before a0 Z = true) (n0 : Nat) (h0 : Heap) (Z0 : n0 ≤ h0.size) (a r_heap r_keys r_places : Addr) (x0 : Int32) (x1 : Int32) (l_keys : List Value) (H : GQ Z n0 h0 a r_heap r_keys r_places (1 : Int32) [.int (1 : Int32), .int x0, .int x1] l_keys [.int (-1 : Int32), .int (0 : Int32), .int (-1 : Int32)]) :
    Met l Z n0 y5_set prog_22_method_11_code 3 (Option.none : Option Jvm.ClassFile.FieldType) ({ frames := 0, cells := 0, slots := 0, locals := 0 } : Room) #[(.ref a), (.int (0 : Int32)), (.int (1 : Int32))] h0 (fun v h => v = none ∧ Keep h0 h [a, r_heap, r_keys, r_places] ∧ GQ Z n0 h a r_heap r_keys r_places (1 : Int32) [.int (1 : Int32), .int x0, .int x1] l_keys [.int (-1 : Int32), .int (0 : Int32), .int (-1 : Int32)]) := by
  refine met_intro (own := c1_GainQueue) (plainFor_of_name pn_com_example_kithgraph_kithgraph_cluster_GainQueue) rfl Z0 ?_
  intro p e s m below meth c T A hnm
  refine Wp.cast (g' := mkF m 0 #[rv a, iv 0, iv 1] []) (by first | (simp [entryFrame, mkF, argsToLocals, Value.category, maxLocals, jv, S2, U0, iv, rv]; done) | rfl) ?_
  obtain ⟨E1, F2, F3, F4, F5, V6, V7, V8, ne9, ne10, ne11, ne12, ne13, ne14, ge15, ge16, ge17, ge18⟩ := H
  refine s_aloadN (pc' := 1) A d9_0 rfl rfl rfl ?_
  refine s_getfield (pc' := 4) (host := "") A (Or.inl (w12 hw)) Via.refl F3 d9_1 rfl fun T A => ?_
  refine s_iloadN (pc' := 5) A d9_4 rfl rfl ?_
  refine s_iloadN (pc' := 6) A d9_5 rfl rfl ?_
  refine s_iastore (pc' := 7) (i := 0) A V6 (by decide) (Nat.le_of_ble_eq_true rfl) ge16 d9_6 rfl fun T h19 A W20 V21 => ?_
  have V21 : AA Z h19 r_heap .int [.int (1 : Int32), .int x0, .int x1] := V21
  refine s_aloadN (pc' := 8) A d9_7 rfl rfl rfl ?_
  have F22 := (F5.other W20 (Or.inl ne9))
  refine s_getfield (pc' := 11) (host := "") A (Or.inl (w17 hw)) Via.refl F22 d9_8 rfl fun T A => ?_
  refine s_iloadN (pc' := 12) A d9_11 rfl rfl ?_
  refine s_iloadN (pc' := 13) A d9_12 rfl rfl ?_
  have V23 := (V8.other W20 (Ne.symm ne13))
  refine s_iastore (pc' := 14) (i := 1) A V23 (by decide) (Nat.le_of_ble_eq_true rfl) ge18 d9_13 rfl fun T h24 A W25 V26 => ?_
  have V26 : AA Z h24 r_places .int [.int (-1 : Int32), .int (0 : Int32), .int (-1 : Int32)] := V26
  have K27 := (((Keep.refl h0 [a, r_heap, r_keys, r_places]).wr W20 (Or.inl (List.mem_of_getElem? (i := 1) rfl))).wr W25 (Or.inl (List.mem_of_getElem? (i := 3) rfl)))
  have E28 := ((E1.wr W20).wr W25)
  have F29 := ((F2.other W20 (Or.inl ne9)).other W25 (Or.inl ne11))
  have F30 := ((F3.other W20 (Or.inl ne9)).other W25 (Or.inl ne11))
  have F31 := ((F4.other W20 (Or.inl ne9)).other W25 (Or.inl ne11))
  have F32 := (F22.other W25 (Or.inl ne11))
  have V33 := (V21.other W25 ne13)
  have V34 := ((V7.other W20 (Ne.symm ne12)).other W25 ne14)
  exact r_void A rfl d9_14 (by decide) (by decide) (⟨rfl, K27, ⟨E28, F29, F30, F31, F32, V33, V34, V26, ne9, ne10, ne11, ne12, ne13, ne14, ge15, ge16, ge17, ge18⟩⟩)
set_option maxRecDepth 65536 in
set_option maxHeartbeats 40000000 in
theorem gq_up13 (l : Launch) (Z : State) (a0 : Array Value) (hw : ∀ d ∈ tables_1, d.before a0 Z = true) (n0 : Nat) (h0 : Heap) (Z0 : n0 ≤ h0.size) (a r_heap r_keys r_places : Addr) (x0 : Int32) (x1 : Int32) (l_keys : List Value) (H : GQ Z n0 h0 a r_heap r_keys r_places (1 : Int32) [.int (1 : Int32), .int x0, .int x1] l_keys [.int (-1 : Int32), .int (0 : Int32), .int (-1 : Int32)]) :
    Met l Z n0 y6_up prog_22_method_9_code 4 (Option.none : Option Jvm.ClassFile.FieldType) ({ frames := 1, cells := 0, slots := 0, locals := 14 } : Room) #[(.ref a), (.int (0 : Int32))] h0 (fun v h => v = none ∧ Keep h0 h [a, r_heap, r_keys, r_places] ∧ GQ Z n0 h a r_heap r_keys r_places (1 : Int32) [.int (1 : Int32), .int x0, .int x1] l_keys [.int (-1 : Int32), .int (0 : Int32), .int (-1 : Int32)]) := by
  refine met_intro (own := c1_GainQueue) (plainFor_of_name pn_com_example_kithgraph_kithgraph_cluster_GainQueue) rfl Z0 ?_
  intro p e s m below meth c T A hnm
  refine Wp.cast (g' := mkF m 0 #[rv a, iv 0, U0, U0] []) (by first | (simp [entryFrame, mkF, argsToLocals, Value.category, maxLocals, jv, S2, U0, iv, rv]; done) | rfl) ?_
  obtain ⟨E1, F2, F3, F4, F5, V6, V7, V8, ne9, ne10, ne11, ne12, ne13, ne14, ge15, ge16, ge17, ge18⟩ := H
  refine s_aloadN (pc' := 1) A d8_0 rfl rfl rfl ?_
  refine s_getfield (pc' := 4) (host := "") A (Or.inl (w12 hw)) Via.refl F3 d8_1 rfl fun T A => ?_
  refine s_iloadN (pc' := 5) A d8_4 rfl rfl ?_
  refine s_iaload (pc' := 6) (i := 0) (v := (.int (1 : Int32))) A V6 (by decide) rfl d8_5 rfl ?_
  refine s_istoreN (pc' := 7) (Ls' := #[rv a, iv 0, iv 1, U0]) A d8_6 rfl rfl ?_
  refine s_iloadN (pc' := 8) A d8_7 rfl rfl ?_
  refine s_ifY (pc' := 50) A d8_8 (by decide) (by decide) (by decide) ?_
  refine s_aloadN (pc' := 51) A d8_50 rfl rfl rfl ?_
  refine s_iloadN (pc' := 52) A d8_51 rfl rfl ?_
  refine s_iloadN (pc' := 53) A d8_52 rfl rfl ?_
  refine s_private (pc' := 56) (y := y5_set) (argsL := [(.int (0 : Int32)), (.int (1 : Int32))]) (rest := []) A E1 (gq_set14 l Z a0 hw n0 h0 A.size a r_heap r_keys r_places x0 x1 l_keys ⟨E1, F2, F3, F4, F5, V6, V7, V8, ne9, ne10, ne11, ne12, ne13, ne14, ge15, ge16, ge17, ge18⟩) (w49 hw) (w50 hw) (w1 hw) (w51 hw) (w2 hw) (w52 hw) (by decide) pd__II_V rfl (W := 0) (by decide) (by decide) (Nat.le_of_eq rfl) (by decide) (by decide) rfl rfl d8_53 rfl fun T h21 v22 A Q23 => ?_
  obtain ⟨rfl, K19, H20⟩ := Q23
  obtain ⟨E24, F25, F26, F27, F28, V29, V30, V31, ne32, ne33, ne34, ne35, ne36, ne37, ge38, ge39, ge40, ge41⟩ := H20
  refine Wp.stk (st' := []) rfl ?_
  have K42 := ((Keep.refl h0 [a, r_heap, r_keys, r_places]).trans K19 (allS (Or.inl (List.mem_of_getElem? (i := 0) rfl)) (allS (Or.inl (List.mem_of_getElem? (i := 1) rfl)) (allS (Or.inl (List.mem_of_getElem? (i := 2) rfl)) (allS (Or.inl (List.mem_of_getElem? (i := 3) rfl)) all0)))))
  exact r_void A rfl d8_56 (by decide) (by decide) (⟨rfl, K42, ⟨E24, F25, F26, F27, F28, V29, V30, V31, ne32, ne33, ne34, ne35, ne36, ne37, ge38, ge39, ge40, ge41⟩⟩)
set_option maxRecDepth 65536 in
set_option maxHeartbeats 40000000 in
theorem gq_put12 (l : Launch) (Z : State) (a0 : Array Value) (hw : ∀ d ∈ tables_1, d.before a0 Z = true) (n0 : Nat) (h0 : Heap) (Z0 : n0 ≤ h0.size) (a r_heap r_keys r_places : Addr) (x0 : Int32) (x1 : Int32) (x2 : Int32) (x3 : Int64) (x4 : Int64) (x5 : Int64) (x6 : Int64) (H : GQ Z n0 h0 a r_heap r_keys r_places (0 : Int32) [.int x0, .int x1, .int x2] [.long x3, .long x4, .long x5] [.int (-1 : Int32), .int (-1 : Int32), .int (-1 : Int32)]) :
    Met l Z n0 y7_put prog_22_method_4_code 6 (Option.none : Option Jvm.ClassFile.FieldType) ({ frames := 2, cells := 0, slots := 0, locals := 29 } : Room) #[(.ref a), (.int (1 : Int32)), (.long x6)] h0 (fun v h => v = none ∧ Keep h0 h [a, r_heap, r_keys, r_places] ∧ GQ Z n0 h a r_heap r_keys r_places (1 : Int32) [.int (1 : Int32), .int x1, .int x2] [.long x3, .long x6, .long x5] [.int (-1 : Int32), .int (0 : Int32), .int (-1 : Int32)]) := by
  refine met_intro (own := c1_GainQueue) (plainFor_of_name pn_com_example_kithgraph_kithgraph_cluster_GainQueue) rfl Z0 ?_
  intro p e s m below meth c T A hnm
  refine Wp.cast (g' := mkF m 0 #[rv a, iv 1, jv x6, S2, U0, U0] []) (by first | (simp [entryFrame, mkF, argsToLocals, Value.category, maxLocals, jv, S2, U0, iv, rv]; done) | rfl) ?_
  obtain ⟨E1, F2, F3, F4, F5, V6, V7, V8, ne9, ne10, ne11, ne12, ne13, ne14, ge15, ge16, ge17, ge18⟩ := H
  refine s_aloadN (pc' := 1) A d7_0 rfl rfl rfl ?_
  refine s_iloadN (pc' := 2) A d7_1 rfl rfl ?_
  refine s_virtual (pc' := 5) (y := y4_contains) (argsL := [(.int (1 : Int32))]) (rest := []) (z := y4_contains) A E1 (gq_contains5 l Z a0 hw n0 h0 A.size a r_heap r_keys r_places [.int x0, .int x1, .int x2] [.long x3, .long x4, .long x5] ⟨E1, F2, F3, F4, F5, V6, V7, V8, ne9, ne10, ne11, ne12, ne13, ne14, ge15, ge16, ge17, ge18⟩) (w44 hw) (w34 hw) (nf_same (C := "") (w36 hw)) (w36 hw) (w35 hw) (w2 hw) (w37 hw) (by decide) pd__I_Z rfl (W := 0) (by decide) (by decide) (Nat.le_of_eq rfl) (by decide) (by decide) rfl rfl d7_2 rfl fun T h21 v22 A Q23 => ?_
  obtain ⟨rfl, K19, H20⟩ := Q23
  obtain ⟨E24, F25, F26, F27, F28, V29, V30, V31, ne32, ne33, ne34, ne35, ne36, ne37, ge38, ge39, ge40, ge41⟩ := H20
  refine Wp.stk (st' := [(.int (0 : Int32))]) rfl ?_
  refine s_ifY (pc' := 56) A d7_5 (by decide) (by decide) (by decide) ?_
  refine s_aloadN (pc' := 57) A d7_56 rfl rfl rfl ?_
  refine s_getfield (pc' := 60) (host := "") A (Or.inl (w15 hw)) Via.refl F27 d7_57 rfl fun T A => ?_
  refine s_iloadN (pc' := 61) A d7_60 rfl rfl ?_
  refine s_lloadN (pc' := 62) A d7_61 rfl rfl ?_
  refine s_lastore (pc' := 63) (i := 1) A V30 (by decide) (Nat.le_of_ble_eq_true rfl) ge40 d7_62 rfl fun T h42 A W43 V44 => ?_
  have V44 : AA Z h42 r_keys .long [.long x3, .long x6, .long x5] := V44
  refine s_aloadN (pc' := 64) A d7_63 rfl rfl rfl ?_
  have F45 := (F26.other W43 (Or.inl ne33))
  refine s_getfield (pc' := 67) (host := "") A (Or.inl (w12 hw)) Via.refl F45 d7_64 rfl fun T A => ?_
  refine s_aloadN (pc' := 68) A d7_67 rfl rfl rfl ?_
  have F46 := (F25.other W43 (Or.inl ne33))
  refine s_getfield (pc' := 71) (host := "") A (Or.inl (w9 hw)) Via.refl F46 d7_68 rfl fun T A => ?_
  refine s_iloadN (pc' := 72) A d7_71 rfl rfl ?_
  have V47 := (V29.other W43 ne35)
  refine s_iastore (pc' := 73) (i := 0) A V47 (by decide) (Nat.le_of_ble_eq_true rfl) ge39 d7_72 rfl fun T h48 A W49 V50 => ?_
  have V50 : AA Z h48 r_heap .int [.int (1 : Int32), .int x1, .int x2] := V50
  refine s_aloadN (pc' := 74) A d7_73 rfl rfl rfl ?_
  have F51 := ((F28.other W43 (Or.inl ne33)).other W49 (Or.inl ne32))
  refine s_getfield (pc' := 77) (host := "") A (Or.inl (w17 hw)) Via.refl F51 d7_74 rfl fun T A => ?_
  refine s_iloadN (pc' := 78) A d7_77 rfl rfl ?_
  refine s_aloadN (pc' := 79) A d7_78 rfl rfl rfl ?_
  have F52 := (F46.other W49 (Or.inl ne32))
  refine s_getfield (pc' := 82) (host := "") A (Or.inl (w9 hw)) Via.refl F52 d7_79 rfl fun T A => ?_
  have V53 := ((V31.other W43 (Ne.symm ne37)).other W49 (Ne.symm ne36))
  refine s_iastore (pc' := 83) (i := 1) A V53 (by decide) (Nat.le_of_ble_eq_true rfl) ge41 d7_82 rfl fun T h54 A W55 V56 => ?_
  have V56 : AA Z h54 r_places .int [.int (-1 : Int32), .int (0 : Int32), .int (-1 : Int32)] := V56
  refine s_aloadN (pc' := 84) A d7_83 rfl rfl rfl ?_
  refine s_dup (pc' := 85) A d7_84 rfl rfl ?_
  have F57 := (F52.other W55 (Or.inl ne34))
  refine s_getfield (pc' := 88) (host := "") A (Or.inl (w9 hw)) Via.refl F57 d7_85 rfl fun T A => ?_
  refine s_iconst (pc' := 89) (z := (1 : Int32)) A d7_88 rfl (by decide) ?_
  refine s_iadd (pc' := 90) (z := (1 : Int32)) A d7_89 rfl (by decide) ?_
  have E58 := (((E24.wr W43).wr W49).wr W55)
  refine s_putfield (pc' := 93) (host := "") A (Or.inl (w9 hw)) Via.refl F57 E58 (Or.inl (w10 hw)) (w1 hw) (ty := .int) (by decide) rfl rfl ge38 d7_90 rfl fun T h59 A W60 => ?_
  have F61 := F57.same W60
  refine s_aloadN (pc' := 94) A d7_93 rfl rfl rfl ?_
  refine s_aloadN (pc' := 95) A d7_94 rfl rfl rfl ?_
  refine s_getfield (pc' := 98) (host := "") A (Or.inl (w9 hw)) Via.refl F61 d7_95 rfl fun T A => ?_
  refine s_iconst (pc' := 99) (z := (1 : Int32)) A d7_98 rfl (by decide) ?_
  refine s_isub (pc' := 100) (z := (0 : Int32)) A d7_99 rfl (by decide) ?_
  have E62 := (E58.wr W60)
  have F63 := (((F45.other W49 (Or.inl ne32)).other W55 (Or.inl ne34)).other W60 (Or.inr (sn_GainQueue_heap_count hw)))
  have F64 := ((((F27.other W43 (Or.inl ne33)).other W49 (Or.inl ne32)).other W55 (Or.inl ne34)).other W60 (Or.inr (sn_GainQueue_keys_count hw)))
  have F65 := ((F51.other W55 (Or.inl ne34)).other W60 (Or.inr (sn_GainQueue_places_count hw)))
  have V66 := ((V50.other W55 ne36).other W60 (Ne.symm ne32))
  have V67 := (((V44.other W49 (Ne.symm ne35)).other W55 ne37).other W60 (Ne.symm ne33))
  have V68 := (V56.other W60 (Ne.symm ne34))
  refine s_private (pc' := 103) (y := y6_up) (argsL := [(.int (0 : Int32))]) (rest := []) A E62 (gq_up13 l Z a0 hw n0 h59 A.size a r_heap r_keys r_places x1 x2 [.long x3, .long x6, .long x5] ⟨E62, F61, F63, F64, F65, V66, V67, V68, ne32, ne33, ne34, ne35, ne36, ne37, ge38, ge39, ge40, ge41⟩) (w45 hw) (w46 hw) (w1 hw) (w47 hw) (w2 hw) (w48 hw) (by decide) pd__I_V rfl (W := 0) (by decide) (by decide) (Nat.le_of_eq rfl) (by decide) (by decide) rfl rfl d7_100 rfl fun T h71 v72 A Q73 => ?_
  obtain ⟨rfl, K69, H70⟩ := Q73
  obtain ⟨E74, F75, F76, F77, F78, V79, V80, V81, ne82, ne83, ne84, ne85, ne86, ne87, ge88, ge89, ge90, ge91⟩ := H70
  refine Wp.stk (st' := []) rfl ?_
  have K92 := (((((((Keep.refl h0 [a, r_heap, r_keys, r_places]).trans K19 (allS (Or.inl (List.mem_of_getElem? (i := 0) rfl)) (allS (Or.inl (List.mem_of_getElem? (i := 1) rfl)) (allS (Or.inl (List.mem_of_getElem? (i := 2) rfl)) (allS (Or.inl (List.mem_of_getElem? (i := 3) rfl)) all0))))).wr W43 (Or.inl (List.mem_of_getElem? (i := 2) rfl))).wr W49 (Or.inl (List.mem_of_getElem? (i := 1) rfl))).wr W55 (Or.inl (List.mem_of_getElem? (i := 3) rfl))).wr W60 (Or.inl (List.mem_of_getElem? (i := 0) rfl))).trans K69 (allS (Or.inl (List.mem_of_getElem? (i := 0) rfl)) (allS (Or.inl (List.mem_of_getElem? (i := 1) rfl)) (allS (Or.inl (List.mem_of_getElem? (i := 2) rfl)) (allS (Or.inl (List.mem_of_getElem? (i := 3) rfl)) all0)))))
  exact r_void A rfl d7_103 (by decide) (by decide) (⟨rfl, K92, ⟨E74, F75, F76, F77, F78, V79, V80, V81, ne82, ne83, ne84, ne85, ne86, ne87, ge88, ge89, ge90, ge91⟩⟩)
set_option maxRecDepth 65536 in
set_option maxHeartbeats 40000000 in
theorem gq_remove16 (l : Launch) (Z : State) (a0 : Array Value) (hw : ∀ d ∈ tables_1, d.before a0 Z = true) (n0 : Nat) (h0 : Heap) (Z0 : n0 ≤ h0.size) (a r_heap r_keys r_places : Addr) (x0 : Int32) (x1 : Int32) (l_keys : List Value) (H : GQ Z n0 h0 a r_heap r_keys r_places (1 : Int32) [.int (1 : Int32), .int x0, .int x1] l_keys [.int (-1 : Int32), .int (0 : Int32), .int (-1 : Int32)]) :
    Met l Z n0 y8_remove prog_22_method_7_code 4 (Option.none : Option Jvm.ClassFile.FieldType) ({ frames := 0, cells := 0, slots := 0, locals := 0 } : Room) #[(.ref a), (.int (1 : Int32))] h0 (fun v h => v = none ∧ Keep h0 h [a, r_heap, r_keys, r_places] ∧ GQ Z n0 h a r_heap r_keys r_places (0 : Int32) [.int (1 : Int32), .int x0, .int x1] l_keys [.int (-1 : Int32), .int (-1 : Int32), .int (-1 : Int32)]) := by
  refine met_intro (own := c1_GainQueue) (plainFor_of_name pn_com_example_kithgraph_kithgraph_cluster_GainQueue) rfl Z0 ?_
  intro p e s m below meth c T A hnm
  refine Wp.cast (g' := mkF m 0 #[rv a, iv 1, U0, U0] []) (by first | (simp [entryFrame, mkF, argsToLocals, Value.category, maxLocals, jv, S2, U0, iv, rv]; done) | rfl) ?_
  obtain ⟨E1, F2, F3, F4, F5, V6, V7, V8, ne9, ne10, ne11, ne12, ne13, ne14, ge15, ge16, ge17, ge18⟩ := H
  refine s_aloadN (pc' := 1) A d11_0 rfl rfl rfl ?_
  refine s_getfield (pc' := 4) (host := "") A (Or.inl (w17 hw)) Via.refl F5 d11_1 rfl fun T A => ?_
  refine s_iloadN (pc' := 5) A d11_4 rfl rfl ?_
  refine s_iaload (pc' := 6) (i := 1) (v := (.int (0 : Int32))) A V8 (by decide) rfl d11_5 rfl ?_
  refine s_istoreN (pc' := 7) (Ls' := #[rv a, iv 1, iv 0, U0]) A d11_6 rfl rfl ?_
  refine s_iloadN (pc' := 8) A d11_7 rfl rfl ?_
  refine s_iconst (pc' := 9) (z := (-1 : Int32)) A d11_8 rfl (by decide) ?_
  refine s_icmpY (pc' := 13) A d11_9 (by decide) (by decide) (by decide) ?_
  refine s_aloadN (pc' := 14) A d11_13 rfl rfl rfl ?_
  refine s_dup (pc' := 15) A d11_14 rfl rfl ?_
  refine s_getfield (pc' := 18) (host := "") A (Or.inl (w9 hw)) Via.refl F2 d11_15 rfl fun T A => ?_
  refine s_iconst (pc' := 19) (z := (1 : Int32)) A d11_18 rfl (by decide) ?_
  refine s_isub (pc' := 20) (z := (0 : Int32)) A d11_19 rfl (by decide) ?_
  refine s_putfield (pc' := 23) (host := "") A (Or.inl (w9 hw)) Via.refl F2 E1 (Or.inl (w10 hw)) (w1 hw) (ty := .int) (by decide) rfl rfl ge15 d11_20 rfl fun T h19 A W20 => ?_
  have F21 := F2.same W20
  refine s_aloadN (pc' := 24) A d11_23 rfl rfl rfl ?_
  have F22 := (F5.other W20 (Or.inr (sn_GainQueue_places_count hw)))
  refine s_getfield (pc' := 27) (host := "") A (Or.inl (w17 hw)) Via.refl F22 d11_24 rfl fun T A => ?_
  refine s_iloadN (pc' := 28) A d11_27 rfl rfl ?_
  refine s_iconst (pc' := 29) (z := (-1 : Int32)) A d11_28 rfl (by decide) ?_
  have V23 := (V8.other W20 (Ne.symm ne11))
  refine s_iastore (pc' := 30) (i := 1) A V23 (by decide) (Nat.le_of_ble_eq_true rfl) ge18 d11_29 rfl fun T h24 A W25 V26 => ?_
  have V26 : AA Z h24 r_places .int [.int (-1 : Int32), .int (-1 : Int32), .int (-1 : Int32)] := V26
  refine s_iloadN (pc' := 31) A d11_30 rfl rfl ?_
  refine s_aloadN (pc' := 32) A d11_31 rfl rfl rfl ?_
  have F27 := (F21.other W25 (Or.inl ne11))
  refine s_getfield (pc' := 35) (host := "") A (Or.inl (w9 hw)) Via.refl F27 d11_32 rfl fun T A => ?_
  refine s_icmpY (pc' := 77) A d11_35 (by decide) (by decide) (by decide) ?_
  have K28 := (((Keep.refl h0 [a, r_heap, r_keys, r_places]).wr W20 (Or.inl (List.mem_of_getElem? (i := 0) rfl))).wr W25 (Or.inl (List.mem_of_getElem? (i := 3) rfl)))
  have E29 := ((E1.wr W20).wr W25)
  have F30 := ((F3.other W20 (Or.inr (sn_GainQueue_heap_count hw))).other W25 (Or.inl ne11))
  have F31 := ((F4.other W20 (Or.inr (sn_GainQueue_keys_count hw))).other W25 (Or.inl ne11))
  have F32 := (F22.other W25 (Or.inl ne11))
  have V33 := ((V6.other W20 (Ne.symm ne9)).other W25 ne13)
  have V34 := ((V7.other W20 (Ne.symm ne10)).other W25 ne14)
  exact r_void A rfl d11_77 (by decide) (by decide) (⟨rfl, K28, ⟨E29, F27, F30, F31, F32, V33, V34, V26, ne9, ne10, ne11, ne12, ne13, ne14, ge15, ge16, ge17, ge18⟩⟩)
set_option maxRecDepth 65536 in
set_option maxHeartbeats 40000000 in
theorem gq_poll15 (l : Launch) (Z : State) (a0 : Array Value) (hw : ∀ d ∈ tables_1, d.before a0 Z = true) (n0 : Nat) (h0 : Heap) (Z0 : n0 ≤ h0.size) (a r_heap r_keys r_places : Addr) (x0 : Int32) (x1 : Int32) (l_keys : List Value) (H : GQ Z n0 h0 a r_heap r_keys r_places (1 : Int32) [.int (1 : Int32), .int x0, .int x1] l_keys [.int (-1 : Int32), .int (0 : Int32), .int (-1 : Int32)]) :
    Met l Z n0 y9_poll prog_22_method_6_code 2 (Option.some Jvm.ClassFile.FieldType.int) ({ frames := 1, cells := 0, slots := 0, locals := 15 } : Room) #[(.ref a)] h0 (fun v h => v = some (.int (1 : Int32)) ∧ Keep h0 h [a, r_heap, r_keys, r_places] ∧ GQ Z n0 h a r_heap r_keys r_places (0 : Int32) [.int (1 : Int32), .int x0, .int x1] l_keys [.int (-1 : Int32), .int (-1 : Int32), .int (-1 : Int32)]) := by
  refine met_intro (own := c1_GainQueue) (plainFor_of_name pn_com_example_kithgraph_kithgraph_cluster_GainQueue) rfl Z0 ?_
  intro p e s m below meth c T A hnm
  refine Wp.cast (g' := mkF m 0 #[rv a, U0] []) (by first | (simp [entryFrame, mkF, argsToLocals, Value.category, maxLocals, jv, S2, U0, iv, rv]; done) | rfl) ?_
  obtain ⟨E1, F2, F3, F4, F5, V6, V7, V8, ne9, ne10, ne11, ne12, ne13, ne14, ge15, ge16, ge17, ge18⟩ := H
  refine s_aloadN (pc' := 1) A d10_0 rfl rfl rfl ?_
  refine s_getfield (pc' := 4) (host := "") A (Or.inl (w12 hw)) Via.refl F3 d10_1 rfl fun T A => ?_
  refine s_iconst (pc' := 5) (z := (0 : Int32)) A d10_4 rfl (by decide) ?_
  refine s_iaload (pc' := 6) (i := 0) (v := (.int (1 : Int32))) A V6 (by decide) rfl d10_5 rfl ?_
  refine s_istoreN (pc' := 7) (Ls' := #[rv a, iv 1]) A d10_6 rfl rfl ?_
  refine s_aloadN (pc' := 8) A d10_7 rfl rfl rfl ?_
  refine s_iloadN (pc' := 9) A d10_8 rfl rfl ?_
  refine s_virtual (pc' := 12) (y := y8_remove) (argsL := [(.int (1 : Int32))]) (rest := []) (z := y8_remove) A E1 (gq_remove16 l Z a0 hw n0 h0 A.size a r_heap r_keys r_places x0 x1 l_keys ⟨E1, F2, F3, F4, F5, V6, V7, V8, ne9, ne10, ne11, ne12, ne13, ne14, ge15, ge16, ge17, ge18⟩) (w58 hw) (w59 hw) (nf_same (C := "") (w61 hw)) (w61 hw) (w60 hw) (w2 hw) (w62 hw) (by decide) pd__I_V rfl (W := 0) (by decide) (by decide) (Nat.le_of_eq rfl) (by decide) (by decide) rfl rfl d10_9 rfl fun T h21 v22 A Q23 => ?_
  obtain ⟨rfl, K19, H20⟩ := Q23
  obtain ⟨E24, F25, F26, F27, F28, V29, V30, V31, ne32, ne33, ne34, ne35, ne36, ne37, ge38, ge39, ge40, ge41⟩ := H20
  refine Wp.stk (st' := []) rfl ?_
  refine s_iloadN (pc' := 13) A d10_12 rfl rfl ?_
  have K42 := ((Keep.refl h0 [a, r_heap, r_keys, r_places]).trans K19 (allS (Or.inl (List.mem_of_getElem? (i := 0) rfl)) (allS (Or.inl (List.mem_of_getElem? (i := 1) rfl)) (allS (Or.inl (List.mem_of_getElem? (i := 2) rfl)) (allS (Or.inl (List.mem_of_getElem? (i := 3) rfl)) all0)))))
  exact r_int A rfl d10_13 (by decide) (by decide) (⟨rfl, K42, ⟨E24, F25, F26, F27, F28, V29, V30, V31, ne32, ne33, ne34, ne35, ne36, ne37, ge38, ge39, ge40, ge41⟩⟩)
set_option maxRecDepth 65536 in
set_option maxHeartbeats 40000000 in
theorem gq_set19 (l : Launch) (Z : State) (a0 : Array Value) (hw : ∀ d ∈ tables_1, d.before a0 Z = true) (n0 : Nat) (h0 : Heap) (Z0 : n0 ≤ h0.size) (a r_heap r_keys r_places : Addr) (x0 : Int32) (x1 : Int32) (l_keys : List Value) (H : GQ Z n0 h0 a r_heap r_keys r_places (1 : Int32) [.int (2 : Int32), .int x0, .int x1] l_keys [.int (-1 : Int32), .int (-1 : Int32), .int (0 : Int32)]) :
    Met l Z n0 y5_set prog_22_method_11_code 3 (Option.none : Option Jvm.ClassFile.FieldType) ({ frames := 0, cells := 0, slots := 0, locals := 0 } : Room) #[(.ref a), (.int (0 : Int32)), (.int (2 : Int32))] h0 (fun v h => v = none ∧ Keep h0 h [a, r_heap, r_keys, r_places] ∧ GQ Z n0 h a r_heap r_keys r_places (1 : Int32) [.int (2 : Int32), .int x0, .int x1] l_keys [.int (-1 : Int32), .int (-1 : Int32), .int (0 : Int32)]) := by
  refine met_intro (own := c1_GainQueue) (plainFor_of_name pn_com_example_kithgraph_kithgraph_cluster_GainQueue) rfl Z0 ?_
  intro p e s m below meth c T A hnm
  refine Wp.cast (g' := mkF m 0 #[rv a, iv 0, iv 2] []) (by first | (simp [entryFrame, mkF, argsToLocals, Value.category, maxLocals, jv, S2, U0, iv, rv]; done) | rfl) ?_
  obtain ⟨E1, F2, F3, F4, F5, V6, V7, V8, ne9, ne10, ne11, ne12, ne13, ne14, ge15, ge16, ge17, ge18⟩ := H
  refine s_aloadN (pc' := 1) A d9_0 rfl rfl rfl ?_
  refine s_getfield (pc' := 4) (host := "") A (Or.inl (w12 hw)) Via.refl F3 d9_1 rfl fun T A => ?_
  refine s_iloadN (pc' := 5) A d9_4 rfl rfl ?_
  refine s_iloadN (pc' := 6) A d9_5 rfl rfl ?_
  refine s_iastore (pc' := 7) (i := 0) A V6 (by decide) (Nat.le_of_ble_eq_true rfl) ge16 d9_6 rfl fun T h19 A W20 V21 => ?_
  have V21 : AA Z h19 r_heap .int [.int (2 : Int32), .int x0, .int x1] := V21
  refine s_aloadN (pc' := 8) A d9_7 rfl rfl rfl ?_
  have F22 := (F5.other W20 (Or.inl ne9))
  refine s_getfield (pc' := 11) (host := "") A (Or.inl (w17 hw)) Via.refl F22 d9_8 rfl fun T A => ?_
  refine s_iloadN (pc' := 12) A d9_11 rfl rfl ?_
  refine s_iloadN (pc' := 13) A d9_12 rfl rfl ?_
  have V23 := (V8.other W20 (Ne.symm ne13))
  refine s_iastore (pc' := 14) (i := 2) A V23 (by decide) (Nat.le_of_ble_eq_true rfl) ge18 d9_13 rfl fun T h24 A W25 V26 => ?_
  have V26 : AA Z h24 r_places .int [.int (-1 : Int32), .int (-1 : Int32), .int (0 : Int32)] := V26
  have K27 := (((Keep.refl h0 [a, r_heap, r_keys, r_places]).wr W20 (Or.inl (List.mem_of_getElem? (i := 1) rfl))).wr W25 (Or.inl (List.mem_of_getElem? (i := 3) rfl)))
  have E28 := ((E1.wr W20).wr W25)
  have F29 := ((F2.other W20 (Or.inl ne9)).other W25 (Or.inl ne11))
  have F30 := ((F3.other W20 (Or.inl ne9)).other W25 (Or.inl ne11))
  have F31 := ((F4.other W20 (Or.inl ne9)).other W25 (Or.inl ne11))
  have F32 := (F22.other W25 (Or.inl ne11))
  have V33 := (V21.other W25 ne13)
  have V34 := ((V7.other W20 (Ne.symm ne12)).other W25 ne14)
  exact r_void A rfl d9_14 (by decide) (by decide) (⟨rfl, K27, ⟨E28, F29, F30, F31, F32, V33, V34, V26, ne9, ne10, ne11, ne12, ne13, ne14, ge15, ge16, ge17, ge18⟩⟩)
set_option maxRecDepth 65536 in
set_option maxHeartbeats 40000000 in
theorem gq_up18 (l : Launch) (Z : State) (a0 : Array Value) (hw : ∀ d ∈ tables_1, d.before a0 Z = true) (n0 : Nat) (h0 : Heap) (Z0 : n0 ≤ h0.size) (a r_heap r_keys r_places : Addr) (x0 : Int32) (x1 : Int32) (l_keys : List Value) (H : GQ Z n0 h0 a r_heap r_keys r_places (1 : Int32) [.int (2 : Int32), .int x0, .int x1] l_keys [.int (-1 : Int32), .int (-1 : Int32), .int (0 : Int32)]) :
    Met l Z n0 y6_up prog_22_method_9_code 4 (Option.none : Option Jvm.ClassFile.FieldType) ({ frames := 1, cells := 0, slots := 0, locals := 14 } : Room) #[(.ref a), (.int (0 : Int32))] h0 (fun v h => v = none ∧ Keep h0 h [a, r_heap, r_keys, r_places] ∧ GQ Z n0 h a r_heap r_keys r_places (1 : Int32) [.int (2 : Int32), .int x0, .int x1] l_keys [.int (-1 : Int32), .int (-1 : Int32), .int (0 : Int32)]) := by
  refine met_intro (own := c1_GainQueue) (plainFor_of_name pn_com_example_kithgraph_kithgraph_cluster_GainQueue) rfl Z0 ?_
  intro p e s m below meth c T A hnm
  refine Wp.cast (g' := mkF m 0 #[rv a, iv 0, U0, U0] []) (by first | (simp [entryFrame, mkF, argsToLocals, Value.category, maxLocals, jv, S2, U0, iv, rv]; done) | rfl) ?_
  obtain ⟨E1, F2, F3, F4, F5, V6, V7, V8, ne9, ne10, ne11, ne12, ne13, ne14, ge15, ge16, ge17, ge18⟩ := H
  refine s_aloadN (pc' := 1) A d8_0 rfl rfl rfl ?_
  refine s_getfield (pc' := 4) (host := "") A (Or.inl (w12 hw)) Via.refl F3 d8_1 rfl fun T A => ?_
  refine s_iloadN (pc' := 5) A d8_4 rfl rfl ?_
  refine s_iaload (pc' := 6) (i := 0) (v := (.int (2 : Int32))) A V6 (by decide) rfl d8_5 rfl ?_
  refine s_istoreN (pc' := 7) (Ls' := #[rv a, iv 0, iv 2, U0]) A d8_6 rfl rfl ?_
  refine s_iloadN (pc' := 8) A d8_7 rfl rfl ?_
  refine s_ifY (pc' := 50) A d8_8 (by decide) (by decide) (by decide) ?_
  refine s_aloadN (pc' := 51) A d8_50 rfl rfl rfl ?_
  refine s_iloadN (pc' := 52) A d8_51 rfl rfl ?_
  refine s_iloadN (pc' := 53) A d8_52 rfl rfl ?_
  refine s_private (pc' := 56) (y := y5_set) (argsL := [(.int (0 : Int32)), (.int (2 : Int32))]) (rest := []) A E1 (gq_set19 l Z a0 hw n0 h0 A.size a r_heap r_keys r_places x0 x1 l_keys ⟨E1, F2, F3, F4, F5, V6, V7, V8, ne9, ne10, ne11, ne12, ne13, ne14, ge15, ge16, ge17, ge18⟩) (w49 hw) (w50 hw) (w1 hw) (w51 hw) (w2 hw) (w52 hw) (by decide) pd__II_V rfl (W := 0) (by decide) (by decide) (Nat.le_of_eq rfl) (by decide) (by decide) rfl rfl d8_53 rfl fun T h21 v22 A Q23 => ?_
  obtain ⟨rfl, K19, H20⟩ := Q23
  obtain ⟨E24, F25, F26, F27, F28, V29, V30, V31, ne32, ne33, ne34, ne35, ne36, ne37, ge38, ge39, ge40, ge41⟩ := H20
  refine Wp.stk (st' := []) rfl ?_
  have K42 := ((Keep.refl h0 [a, r_heap, r_keys, r_places]).trans K19 (allS (Or.inl (List.mem_of_getElem? (i := 0) rfl)) (allS (Or.inl (List.mem_of_getElem? (i := 1) rfl)) (allS (Or.inl (List.mem_of_getElem? (i := 2) rfl)) (allS (Or.inl (List.mem_of_getElem? (i := 3) rfl)) all0)))))
  exact r_void A rfl d8_56 (by decide) (by decide) (⟨rfl, K42, ⟨E24, F25, F26, F27, F28, V29, V30, V31, ne32, ne33, ne34, ne35, ne36, ne37, ge38, ge39, ge40, ge41⟩⟩)
set_option maxRecDepth 65536 in
set_option maxHeartbeats 40000000 in
theorem gq_put17 (l : Launch) (Z : State) (a0 : Array Value) (hw : ∀ d ∈ tables_1, d.before a0 Z = true) (n0 : Nat) (h0 : Heap) (Z0 : n0 ≤ h0.size) (a r_heap r_keys r_places : Addr) (x0 : Int32) (x1 : Int32) (x2 : Int32) (x3 : Int64) (x4 : Int64) (x5 : Int64) (x6 : Int64) (H : GQ Z n0 h0 a r_heap r_keys r_places (0 : Int32) [.int x0, .int x1, .int x2] [.long x3, .long x4, .long x5] [.int (-1 : Int32), .int (-1 : Int32), .int (-1 : Int32)]) :
    Met l Z n0 y7_put prog_22_method_4_code 6 (Option.none : Option Jvm.ClassFile.FieldType) ({ frames := 2, cells := 0, slots := 0, locals := 29 } : Room) #[(.ref a), (.int (2 : Int32)), (.long x6)] h0 (fun v h => v = none ∧ Keep h0 h [a, r_heap, r_keys, r_places] ∧ GQ Z n0 h a r_heap r_keys r_places (1 : Int32) [.int (2 : Int32), .int x1, .int x2] [.long x3, .long x4, .long x6] [.int (-1 : Int32), .int (-1 : Int32), .int (0 : Int32)]) := by
  refine met_intro (own := c1_GainQueue) (plainFor_of_name pn_com_example_kithgraph_kithgraph_cluster_GainQueue) rfl Z0 ?_
  intro p e s m below meth c T A hnm
  refine Wp.cast (g' := mkF m 0 #[rv a, iv 2, jv x6, S2, U0, U0] []) (by first | (simp [entryFrame, mkF, argsToLocals, Value.category, maxLocals, jv, S2, U0, iv, rv]; done) | rfl) ?_
  obtain ⟨E1, F2, F3, F4, F5, V6, V7, V8, ne9, ne10, ne11, ne12, ne13, ne14, ge15, ge16, ge17, ge18⟩ := H
  refine s_aloadN (pc' := 1) A d7_0 rfl rfl rfl ?_
  refine s_iloadN (pc' := 2) A d7_1 rfl rfl ?_
  refine s_virtual (pc' := 5) (y := y4_contains) (argsL := [(.int (2 : Int32))]) (rest := []) (z := y4_contains) A E1 (gq_contains6 l Z a0 hw n0 h0 A.size a r_heap r_keys r_places [.int x0, .int x1, .int x2] [.long x3, .long x4, .long x5] ⟨E1, F2, F3, F4, F5, V6, V7, V8, ne9, ne10, ne11, ne12, ne13, ne14, ge15, ge16, ge17, ge18⟩) (w44 hw) (w34 hw) (nf_same (C := "") (w36 hw)) (w36 hw) (w35 hw) (w2 hw) (w37 hw) (by decide) pd__I_Z rfl (W := 0) (by decide) (by decide) (Nat.le_of_eq rfl) (by decide) (by decide) rfl rfl d7_2 rfl fun T h21 v22 A Q23 => ?_
  obtain ⟨rfl, K19, H20⟩ := Q23
  obtain ⟨E24, F25, F26, F27, F28, V29, V30, V31, ne32, ne33, ne34, ne35, ne36, ne37, ge38, ge39, ge40, ge41⟩ := H20
  refine Wp.stk (st' := [(.int (0 : Int32))]) rfl ?_
  refine s_ifY (pc' := 56) A d7_5 (by decide) (by decide) (by decide) ?_
  refine s_aloadN (pc' := 57) A d7_56 rfl rfl rfl ?_
  refine s_getfield (pc' := 60) (host := "") A (Or.inl (w15 hw)) Via.refl F27 d7_57 rfl fun T A => ?_
  refine s_iloadN (pc' := 61) A d7_60 rfl rfl ?_
  refine s_lloadN (pc' := 62) A d7_61 rfl rfl ?_
  refine s_lastore (pc' := 63) (i := 2) A V30 (by decide) (Nat.le_of_ble_eq_true rfl) ge40 d7_62 rfl fun T h42 A W43 V44 => ?_
  have V44 : AA Z h42 r_keys .long [.long x3, .long x4, .long x6] := V44
  refine s_aloadN (pc' := 64) A d7_63 rfl rfl rfl ?_
  have F45 := (F26.other W43 (Or.inl ne33))
  refine s_getfield (pc' := 67) (host := "") A (Or.inl (w12 hw)) Via.refl F45 d7_64 rfl fun T A => ?_
  refine s_aloadN (pc' := 68) A d7_67 rfl rfl rfl ?_
  have F46 := (F25.other W43 (Or.inl ne33))
  refine s_getfield (pc' := 71) (host := "") A (Or.inl (w9 hw)) Via.refl F46 d7_68 rfl fun T A => ?_
  refine s_iloadN (pc' := 72) A d7_71 rfl rfl ?_
  have V47 := (V29.other W43 ne35)
  refine s_iastore (pc' := 73) (i := 0) A V47 (by decide) (Nat.le_of_ble_eq_true rfl) ge39 d7_72 rfl fun T h48 A W49 V50 => ?_
  have V50 : AA Z h48 r_heap .int [.int (2 : Int32), .int x1, .int x2] := V50
  refine s_aloadN (pc' := 74) A d7_73 rfl rfl rfl ?_
  have F51 := ((F28.other W43 (Or.inl ne33)).other W49 (Or.inl ne32))
  refine s_getfield (pc' := 77) (host := "") A (Or.inl (w17 hw)) Via.refl F51 d7_74 rfl fun T A => ?_
  refine s_iloadN (pc' := 78) A d7_77 rfl rfl ?_
  refine s_aloadN (pc' := 79) A d7_78 rfl rfl rfl ?_
  have F52 := (F46.other W49 (Or.inl ne32))
  refine s_getfield (pc' := 82) (host := "") A (Or.inl (w9 hw)) Via.refl F52 d7_79 rfl fun T A => ?_
  have V53 := ((V31.other W43 (Ne.symm ne37)).other W49 (Ne.symm ne36))
  refine s_iastore (pc' := 83) (i := 2) A V53 (by decide) (Nat.le_of_ble_eq_true rfl) ge41 d7_82 rfl fun T h54 A W55 V56 => ?_
  have V56 : AA Z h54 r_places .int [.int (-1 : Int32), .int (-1 : Int32), .int (0 : Int32)] := V56
  refine s_aloadN (pc' := 84) A d7_83 rfl rfl rfl ?_
  refine s_dup (pc' := 85) A d7_84 rfl rfl ?_
  have F57 := (F52.other W55 (Or.inl ne34))
  refine s_getfield (pc' := 88) (host := "") A (Or.inl (w9 hw)) Via.refl F57 d7_85 rfl fun T A => ?_
  refine s_iconst (pc' := 89) (z := (1 : Int32)) A d7_88 rfl (by decide) ?_
  refine s_iadd (pc' := 90) (z := (1 : Int32)) A d7_89 rfl (by decide) ?_
  have E58 := (((E24.wr W43).wr W49).wr W55)
  refine s_putfield (pc' := 93) (host := "") A (Or.inl (w9 hw)) Via.refl F57 E58 (Or.inl (w10 hw)) (w1 hw) (ty := .int) (by decide) rfl rfl ge38 d7_90 rfl fun T h59 A W60 => ?_
  have F61 := F57.same W60
  refine s_aloadN (pc' := 94) A d7_93 rfl rfl rfl ?_
  refine s_aloadN (pc' := 95) A d7_94 rfl rfl rfl ?_
  refine s_getfield (pc' := 98) (host := "") A (Or.inl (w9 hw)) Via.refl F61 d7_95 rfl fun T A => ?_
  refine s_iconst (pc' := 99) (z := (1 : Int32)) A d7_98 rfl (by decide) ?_
  refine s_isub (pc' := 100) (z := (0 : Int32)) A d7_99 rfl (by decide) ?_
  have E62 := (E58.wr W60)
  have F63 := (((F45.other W49 (Or.inl ne32)).other W55 (Or.inl ne34)).other W60 (Or.inr (sn_GainQueue_heap_count hw)))
  have F64 := ((((F27.other W43 (Or.inl ne33)).other W49 (Or.inl ne32)).other W55 (Or.inl ne34)).other W60 (Or.inr (sn_GainQueue_keys_count hw)))
  have F65 := ((F51.other W55 (Or.inl ne34)).other W60 (Or.inr (sn_GainQueue_places_count hw)))
  have V66 := ((V50.other W55 ne36).other W60 (Ne.symm ne32))
  have V67 := (((V44.other W49 (Ne.symm ne35)).other W55 ne37).other W60 (Ne.symm ne33))
  have V68 := (V56.other W60 (Ne.symm ne34))
  refine s_private (pc' := 103) (y := y6_up) (argsL := [(.int (0 : Int32))]) (rest := []) A E62 (gq_up18 l Z a0 hw n0 h59 A.size a r_heap r_keys r_places x1 x2 [.long x3, .long x4, .long x6] ⟨E62, F61, F63, F64, F65, V66, V67, V68, ne32, ne33, ne34, ne35, ne36, ne37, ge38, ge39, ge40, ge41⟩) (w45 hw) (w46 hw) (w1 hw) (w47 hw) (w2 hw) (w48 hw) (by decide) pd__I_V rfl (W := 0) (by decide) (by decide) (Nat.le_of_eq rfl) (by decide) (by decide) rfl rfl d7_100 rfl fun T h71 v72 A Q73 => ?_
  obtain ⟨rfl, K69, H70⟩ := Q73
  obtain ⟨E74, F75, F76, F77, F78, V79, V80, V81, ne82, ne83, ne84, ne85, ne86, ne87, ge88, ge89, ge90, ge91⟩ := H70
  refine Wp.stk (st' := []) rfl ?_
  have K92 := (((((((Keep.refl h0 [a, r_heap, r_keys, r_places]).trans K19 (allS (Or.inl (List.mem_of_getElem? (i := 0) rfl)) (allS (Or.inl (List.mem_of_getElem? (i := 1) rfl)) (allS (Or.inl (List.mem_of_getElem? (i := 2) rfl)) (allS (Or.inl (List.mem_of_getElem? (i := 3) rfl)) all0))))).wr W43 (Or.inl (List.mem_of_getElem? (i := 2) rfl))).wr W49 (Or.inl (List.mem_of_getElem? (i := 1) rfl))).wr W55 (Or.inl (List.mem_of_getElem? (i := 3) rfl))).wr W60 (Or.inl (List.mem_of_getElem? (i := 0) rfl))).trans K69 (allS (Or.inl (List.mem_of_getElem? (i := 0) rfl)) (allS (Or.inl (List.mem_of_getElem? (i := 1) rfl)) (allS (Or.inl (List.mem_of_getElem? (i := 2) rfl)) (allS (Or.inl (List.mem_of_getElem? (i := 3) rfl)) all0)))))
  exact r_void A rfl d7_103 (by decide) (by decide) (⟨rfl, K92, ⟨E74, F75, F76, F77, F78, V79, V80, V81, ne82, ne83, ne84, ne85, ne86, ne87, ge88, ge89, ge90, ge91⟩⟩)
set_option maxRecDepth 65536 in
set_option maxHeartbeats 40000000 in
theorem gq_remove21 (l : Launch) (Z : State) (a0 : Array Value) (hw : ∀ d ∈ tables_1, d.before a0 Z = true) (n0 : Nat) (h0 : Heap) (Z0 : n0 ≤ h0.size) (a r_heap r_keys r_places : Addr) (x0 : Int32) (x1 : Int32) (l_keys : List Value) (H : GQ Z n0 h0 a r_heap r_keys r_places (1 : Int32) [.int (2 : Int32), .int x0, .int x1] l_keys [.int (-1 : Int32), .int (-1 : Int32), .int (0 : Int32)]) :
    Met l Z n0 y8_remove prog_22_method_7_code 4 (Option.none : Option Jvm.ClassFile.FieldType) ({ frames := 0, cells := 0, slots := 0, locals := 0 } : Room) #[(.ref a), (.int (2 : Int32))] h0 (fun v h => v = none ∧ Keep h0 h [a, r_heap, r_keys, r_places] ∧ GQ Z n0 h a r_heap r_keys r_places (0 : Int32) [.int (2 : Int32), .int x0, .int x1] l_keys [.int (-1 : Int32), .int (-1 : Int32), .int (-1 : Int32)]) := by
  refine met_intro (own := c1_GainQueue) (plainFor_of_name pn_com_example_kithgraph_kithgraph_cluster_GainQueue) rfl Z0 ?_
  intro p e s m below meth c T A hnm
  refine Wp.cast (g' := mkF m 0 #[rv a, iv 2, U0, U0] []) (by first | (simp [entryFrame, mkF, argsToLocals, Value.category, maxLocals, jv, S2, U0, iv, rv]; done) | rfl) ?_
  obtain ⟨E1, F2, F3, F4, F5, V6, V7, V8, ne9, ne10, ne11, ne12, ne13, ne14, ge15, ge16, ge17, ge18⟩ := H
  refine s_aloadN (pc' := 1) A d11_0 rfl rfl rfl ?_
  refine s_getfield (pc' := 4) (host := "") A (Or.inl (w17 hw)) Via.refl F5 d11_1 rfl fun T A => ?_
  refine s_iloadN (pc' := 5) A d11_4 rfl rfl ?_
  refine s_iaload (pc' := 6) (i := 2) (v := (.int (0 : Int32))) A V8 (by decide) rfl d11_5 rfl ?_
  refine s_istoreN (pc' := 7) (Ls' := #[rv a, iv 2, iv 0, U0]) A d11_6 rfl rfl ?_
  refine s_iloadN (pc' := 8) A d11_7 rfl rfl ?_
  refine s_iconst (pc' := 9) (z := (-1 : Int32)) A d11_8 rfl (by decide) ?_
  refine s_icmpY (pc' := 13) A d11_9 (by decide) (by decide) (by decide) ?_
  refine s_aloadN (pc' := 14) A d11_13 rfl rfl rfl ?_
  refine s_dup (pc' := 15) A d11_14 rfl rfl ?_
  refine s_getfield (pc' := 18) (host := "") A (Or.inl (w9 hw)) Via.refl F2 d11_15 rfl fun T A => ?_
  refine s_iconst (pc' := 19) (z := (1 : Int32)) A d11_18 rfl (by decide) ?_
  refine s_isub (pc' := 20) (z := (0 : Int32)) A d11_19 rfl (by decide) ?_
  refine s_putfield (pc' := 23) (host := "") A (Or.inl (w9 hw)) Via.refl F2 E1 (Or.inl (w10 hw)) (w1 hw) (ty := .int) (by decide) rfl rfl ge15 d11_20 rfl fun T h19 A W20 => ?_
  have F21 := F2.same W20
  refine s_aloadN (pc' := 24) A d11_23 rfl rfl rfl ?_
  have F22 := (F5.other W20 (Or.inr (sn_GainQueue_places_count hw)))
  refine s_getfield (pc' := 27) (host := "") A (Or.inl (w17 hw)) Via.refl F22 d11_24 rfl fun T A => ?_
  refine s_iloadN (pc' := 28) A d11_27 rfl rfl ?_
  refine s_iconst (pc' := 29) (z := (-1 : Int32)) A d11_28 rfl (by decide) ?_
  have V23 := (V8.other W20 (Ne.symm ne11))
  refine s_iastore (pc' := 30) (i := 2) A V23 (by decide) (Nat.le_of_ble_eq_true rfl) ge18 d11_29 rfl fun T h24 A W25 V26 => ?_
  have V26 : AA Z h24 r_places .int [.int (-1 : Int32), .int (-1 : Int32), .int (-1 : Int32)] := V26
  refine s_iloadN (pc' := 31) A d11_30 rfl rfl ?_
  refine s_aloadN (pc' := 32) A d11_31 rfl rfl rfl ?_
  have F27 := (F21.other W25 (Or.inl ne11))
  refine s_getfield (pc' := 35) (host := "") A (Or.inl (w9 hw)) Via.refl F27 d11_32 rfl fun T A => ?_
  refine s_icmpY (pc' := 77) A d11_35 (by decide) (by decide) (by decide) ?_
  have K28 := (((Keep.refl h0 [a, r_heap, r_keys, r_places]).wr W20 (Or.inl (List.mem_of_getElem? (i := 0) rfl))).wr W25 (Or.inl (List.mem_of_getElem? (i := 3) rfl)))
  have E29 := ((E1.wr W20).wr W25)
  have F30 := ((F3.other W20 (Or.inr (sn_GainQueue_heap_count hw))).other W25 (Or.inl ne11))
  have F31 := ((F4.other W20 (Or.inr (sn_GainQueue_keys_count hw))).other W25 (Or.inl ne11))
  have F32 := (F22.other W25 (Or.inl ne11))
  have V33 := ((V6.other W20 (Ne.symm ne9)).other W25 ne13)
  have V34 := ((V7.other W20 (Ne.symm ne10)).other W25 ne14)
  exact r_void A rfl d11_77 (by decide) (by decide) (⟨rfl, K28, ⟨E29, F27, F30, F31, F32, V33, V34, V26, ne9, ne10, ne11, ne12, ne13, ne14, ge15, ge16, ge17, ge18⟩⟩)
set_option maxRecDepth 65536 in
set_option maxHeartbeats 40000000 in
theorem gq_poll20 (l : Launch) (Z : State) (a0 : Array Value) (hw : ∀ d ∈ tables_1, d.before a0 Z = true) (n0 : Nat) (h0 : Heap) (Z0 : n0 ≤ h0.size) (a r_heap r_keys r_places : Addr) (x0 : Int32) (x1 : Int32) (l_keys : List Value) (H : GQ Z n0 h0 a r_heap r_keys r_places (1 : Int32) [.int (2 : Int32), .int x0, .int x1] l_keys [.int (-1 : Int32), .int (-1 : Int32), .int (0 : Int32)]) :
    Met l Z n0 y9_poll prog_22_method_6_code 2 (Option.some Jvm.ClassFile.FieldType.int) ({ frames := 1, cells := 0, slots := 0, locals := 15 } : Room) #[(.ref a)] h0 (fun v h => v = some (.int (2 : Int32)) ∧ Keep h0 h [a, r_heap, r_keys, r_places] ∧ GQ Z n0 h a r_heap r_keys r_places (0 : Int32) [.int (2 : Int32), .int x0, .int x1] l_keys [.int (-1 : Int32), .int (-1 : Int32), .int (-1 : Int32)]) := by
  refine met_intro (own := c1_GainQueue) (plainFor_of_name pn_com_example_kithgraph_kithgraph_cluster_GainQueue) rfl Z0 ?_
  intro p e s m below meth c T A hnm
  refine Wp.cast (g' := mkF m 0 #[rv a, U0] []) (by first | (simp [entryFrame, mkF, argsToLocals, Value.category, maxLocals, jv, S2, U0, iv, rv]; done) | rfl) ?_
  obtain ⟨E1, F2, F3, F4, F5, V6, V7, V8, ne9, ne10, ne11, ne12, ne13, ne14, ge15, ge16, ge17, ge18⟩ := H
  refine s_aloadN (pc' := 1) A d10_0 rfl rfl rfl ?_
  refine s_getfield (pc' := 4) (host := "") A (Or.inl (w12 hw)) Via.refl F3 d10_1 rfl fun T A => ?_
  refine s_iconst (pc' := 5) (z := (0 : Int32)) A d10_4 rfl (by decide) ?_
  refine s_iaload (pc' := 6) (i := 0) (v := (.int (2 : Int32))) A V6 (by decide) rfl d10_5 rfl ?_
  refine s_istoreN (pc' := 7) (Ls' := #[rv a, iv 2]) A d10_6 rfl rfl ?_
  refine s_aloadN (pc' := 8) A d10_7 rfl rfl rfl ?_
  refine s_iloadN (pc' := 9) A d10_8 rfl rfl ?_
  refine s_virtual (pc' := 12) (y := y8_remove) (argsL := [(.int (2 : Int32))]) (rest := []) (z := y8_remove) A E1 (gq_remove21 l Z a0 hw n0 h0 A.size a r_heap r_keys r_places x0 x1 l_keys ⟨E1, F2, F3, F4, F5, V6, V7, V8, ne9, ne10, ne11, ne12, ne13, ne14, ge15, ge16, ge17, ge18⟩) (w58 hw) (w59 hw) (nf_same (C := "") (w61 hw)) (w61 hw) (w60 hw) (w2 hw) (w62 hw) (by decide) pd__I_V rfl (W := 0) (by decide) (by decide) (Nat.le_of_eq rfl) (by decide) (by decide) rfl rfl d10_9 rfl fun T h21 v22 A Q23 => ?_
  obtain ⟨rfl, K19, H20⟩ := Q23
  obtain ⟨E24, F25, F26, F27, F28, V29, V30, V31, ne32, ne33, ne34, ne35, ne36, ne37, ge38, ge39, ge40, ge41⟩ := H20
  refine Wp.stk (st' := []) rfl ?_
  refine s_iloadN (pc' := 13) A d10_12 rfl rfl ?_
  have K42 := ((Keep.refl h0 [a, r_heap, r_keys, r_places]).trans K19 (allS (Or.inl (List.mem_of_getElem? (i := 0) rfl)) (allS (Or.inl (List.mem_of_getElem? (i := 1) rfl)) (allS (Or.inl (List.mem_of_getElem? (i := 2) rfl)) (allS (Or.inl (List.mem_of_getElem? (i := 3) rfl)) all0)))))
  exact r_int A rfl d10_13 (by decide) (by decide) (⟨rfl, K42, ⟨E24, F25, F26, F27, F28, V29, V30, V31, ne32, ne33, ne34, ne35, ne36, ne37, ge38, ge39, ge40, ge41⟩⟩)
set_option maxRecDepth 65536 in
set_option maxHeartbeats 40000000 in
theorem gq_clear22 (l : Launch) (Z : State) (a0 : Array Value) (hw : ∀ d ∈ tables_1, d.before a0 Z = true) (n0 : Nat) (h0 : Heap) (Z0 : n0 ≤ h0.size) (a r_heap r_keys r_places : Addr)  (l_keys : List Value) (H : GQ Z n0 h0 a r_heap r_keys r_places (1 : Int32) [.int (2 : Int32), .int (0 : Int32), .int (0 : Int32)] l_keys [.int (-1 : Int32), .int (-1 : Int32), .int (0 : Int32)]) :
    Met l Z n0 y2_clear prog_22_method_8_code 2 (Option.none : Option Jvm.ClassFile.FieldType) ({ frames := 0, cells := 0, slots := 0, locals := 0 } : Room) #[(.ref a)] h0 (fun v h => v = none ∧ Keep h0 h [a, r_heap, r_keys, r_places] ∧ GQ Z n0 h a r_heap r_keys r_places (0 : Int32) [.int (2 : Int32), .int (0 : Int32), .int (0 : Int32)] l_keys [.int (-1 : Int32), .int (-1 : Int32), .int (-1 : Int32)]) := by
  refine met_intro (own := c1_GainQueue) (plainFor_of_name pn_com_example_kithgraph_kithgraph_cluster_GainQueue) rfl Z0 ?_
  intro p e s m below meth c T A hnm
  refine Wp.cast (g' := mkF m 0 #[rv a, U0] []) (by first | (simp [entryFrame, mkF, argsToLocals, Value.category, maxLocals, jv, S2, U0, iv, rv]; done) | rfl) ?_
  obtain ⟨E1, F2, F3, F4, F5, V6, V7, V8, ne9, ne10, ne11, ne12, ne13, ne14, ge15, ge16, ge17, ge18⟩ := H
  refine s_iconst (pc' := 1) (z := (0 : Int32)) A d4_0 rfl (by decide) ?_
  refine s_istoreN (pc' := 2) (Ls' := #[rv a, iv 0]) A d4_1 rfl rfl ?_
  refine s_iloadN (pc' := 3) A d4_2 rfl rfl ?_
  refine s_aloadN (pc' := 4) A d4_3 rfl rfl rfl ?_
  refine s_getfield (pc' := 7) (host := "") A (Or.inl (w9 hw)) Via.refl F2 d4_4 rfl fun T A => ?_
  refine s_icmpN (pc' := 10) A d4_7 rfl (by decide) ?_
  refine s_aloadN (pc' := 11) A d4_10 rfl rfl rfl ?_
  refine s_getfield (pc' := 14) (host := "") A (Or.inl (w17 hw)) Via.refl F5 d4_11 rfl fun T A => ?_
  refine s_aloadN (pc' := 15) A d4_14 rfl rfl rfl ?_
  refine s_getfield (pc' := 18) (host := "") A (Or.inl (w12 hw)) Via.refl F3 d4_15 rfl fun T A => ?_
  refine s_iloadN (pc' := 19) A d4_18 rfl rfl ?_
  refine s_iaload (pc' := 20) (i := 0) (v := (.int (2 : Int32))) A V6 (by decide) rfl d4_19 rfl ?_
  refine s_iconst (pc' := 21) (z := (-1 : Int32)) A d4_20 rfl (by decide) ?_
  refine s_iastore (pc' := 22) (i := 2) A V8 (by decide) (Nat.le_of_ble_eq_true rfl) ge18 d4_21 rfl fun T h19 A W20 V21 => ?_
  have V21 : AA Z h19 r_places .int [.int (-1 : Int32), .int (-1 : Int32), .int (-1 : Int32)] := V21
  refine s_iinc (pc' := 25) (z := (1 : Int32)) (Ls' := #[rv a, iv 1]) A d4_22 rfl rfl (by decide) rfl ?_
  refine s_goto (pc' := 2) A d4_25 (by decide) (by decide) ?_
  refine s_iloadN (pc' := 3) A d4_2 rfl rfl ?_
  refine s_aloadN (pc' := 4) A d4_3 rfl rfl rfl ?_
  have F22 := (F2.other W20 (Or.inl ne11))
  refine s_getfield (pc' := 7) (host := "") A (Or.inl (w9 hw)) Via.refl F22 d4_4 rfl fun T A => ?_
  refine s_icmpY (pc' := 28) A d4_7 (by decide) (by decide) (by decide) ?_
  refine s_aloadN (pc' := 29) A d4_28 rfl rfl rfl ?_
  refine s_iconst (pc' := 30) (z := (0 : Int32)) A d4_29 rfl (by decide) ?_
  have E23 := (E1.wr W20)
  refine s_putfield (pc' := 33) (host := "") A (Or.inl (w9 hw)) Via.refl F22 E23 (Or.inl (w10 hw)) (w1 hw) (ty := .int) (by decide) rfl rfl ge15 d4_30 rfl fun T h24 A W25 => ?_
  have F26 := F22.same W25
  have K27 := (((Keep.refl h0 [a, r_heap, r_keys, r_places]).wr W20 (Or.inl (List.mem_of_getElem? (i := 3) rfl))).wr W25 (Or.inl (List.mem_of_getElem? (i := 0) rfl)))
  have E28 := (E23.wr W25)
  have F29 := ((F3.other W20 (Or.inl ne11)).other W25 (Or.inr (sn_GainQueue_heap_count hw)))
  have F30 := ((F4.other W20 (Or.inl ne11)).other W25 (Or.inr (sn_GainQueue_keys_count hw)))
  have F31 := ((F5.other W20 (Or.inl ne11)).other W25 (Or.inr (sn_GainQueue_places_count hw)))
  have V32 := ((V6.other W20 ne13).other W25 (Ne.symm ne9))
  have V33 := ((V7.other W20 ne14).other W25 (Ne.symm ne10))
  have V34 := (V21.other W25 (Ne.symm ne11))
  exact r_void A rfl d4_33 (by decide) (by decide) (⟨rfl, K27, ⟨E28, F26, F29, F30, F31, V32, V33, V34, ne9, ne10, ne11, ne12, ne13, ne14, ge15, ge16, ge17, ge18⟩⟩)
set_option maxRecDepth 65536 in
set_option maxHeartbeats 40000000 in
theorem gq_clear23 (l : Launch) (Z : State) (a0 : Array Value) (hw : ∀ d ∈ tables_1, d.before a0 Z = true) (n0 : Nat) (h0 : Heap) (Z0 : n0 ≤ h0.size) (a r_heap r_keys r_places : Addr)  (l_keys : List Value) (H : GQ Z n0 h0 a r_heap r_keys r_places (1 : Int32) [.int (1 : Int32), .int (0 : Int32), .int (0 : Int32)] l_keys [.int (-1 : Int32), .int (0 : Int32), .int (-1 : Int32)]) :
    Met l Z n0 y2_clear prog_22_method_8_code 2 (Option.none : Option Jvm.ClassFile.FieldType) ({ frames := 0, cells := 0, slots := 0, locals := 0 } : Room) #[(.ref a)] h0 (fun v h => v = none ∧ Keep h0 h [a, r_heap, r_keys, r_places] ∧ GQ Z n0 h a r_heap r_keys r_places (0 : Int32) [.int (1 : Int32), .int (0 : Int32), .int (0 : Int32)] l_keys [.int (-1 : Int32), .int (-1 : Int32), .int (-1 : Int32)]) := by
  refine met_intro (own := c1_GainQueue) (plainFor_of_name pn_com_example_kithgraph_kithgraph_cluster_GainQueue) rfl Z0 ?_
  intro p e s m below meth c T A hnm
  refine Wp.cast (g' := mkF m 0 #[rv a, U0] []) (by first | (simp [entryFrame, mkF, argsToLocals, Value.category, maxLocals, jv, S2, U0, iv, rv]; done) | rfl) ?_
  obtain ⟨E1, F2, F3, F4, F5, V6, V7, V8, ne9, ne10, ne11, ne12, ne13, ne14, ge15, ge16, ge17, ge18⟩ := H
  refine s_iconst (pc' := 1) (z := (0 : Int32)) A d4_0 rfl (by decide) ?_
  refine s_istoreN (pc' := 2) (Ls' := #[rv a, iv 0]) A d4_1 rfl rfl ?_
  refine s_iloadN (pc' := 3) A d4_2 rfl rfl ?_
  refine s_aloadN (pc' := 4) A d4_3 rfl rfl rfl ?_
  refine s_getfield (pc' := 7) (host := "") A (Or.inl (w9 hw)) Via.refl F2 d4_4 rfl fun T A => ?_
  refine s_icmpN (pc' := 10) A d4_7 rfl (by decide) ?_
  refine s_aloadN (pc' := 11) A d4_10 rfl rfl rfl ?_
  refine s_getfield (pc' := 14) (host := "") A (Or.inl (w17 hw)) Via.refl F5 d4_11 rfl fun T A => ?_
  refine s_aloadN (pc' := 15) A d4_14 rfl rfl rfl ?_
  refine s_getfield (pc' := 18) (host := "") A (Or.inl (w12 hw)) Via.refl F3 d4_15 rfl fun T A => ?_
  refine s_iloadN (pc' := 19) A d4_18 rfl rfl ?_
  refine s_iaload (pc' := 20) (i := 0) (v := (.int (1 : Int32))) A V6 (by decide) rfl d4_19 rfl ?_
  refine s_iconst (pc' := 21) (z := (-1 : Int32)) A d4_20 rfl (by decide) ?_
  refine s_iastore (pc' := 22) (i := 1) A V8 (by decide) (Nat.le_of_ble_eq_true rfl) ge18 d4_21 rfl fun T h19 A W20 V21 => ?_
  have V21 : AA Z h19 r_places .int [.int (-1 : Int32), .int (-1 : Int32), .int (-1 : Int32)] := V21
  refine s_iinc (pc' := 25) (z := (1 : Int32)) (Ls' := #[rv a, iv 1]) A d4_22 rfl rfl (by decide) rfl ?_
  refine s_goto (pc' := 2) A d4_25 (by decide) (by decide) ?_
  refine s_iloadN (pc' := 3) A d4_2 rfl rfl ?_
  refine s_aloadN (pc' := 4) A d4_3 rfl rfl rfl ?_
  have F22 := (F2.other W20 (Or.inl ne11))
  refine s_getfield (pc' := 7) (host := "") A (Or.inl (w9 hw)) Via.refl F22 d4_4 rfl fun T A => ?_
  refine s_icmpY (pc' := 28) A d4_7 (by decide) (by decide) (by decide) ?_
  refine s_aloadN (pc' := 29) A d4_28 rfl rfl rfl ?_
  refine s_iconst (pc' := 30) (z := (0 : Int32)) A d4_29 rfl (by decide) ?_
  have E23 := (E1.wr W20)
  refine s_putfield (pc' := 33) (host := "") A (Or.inl (w9 hw)) Via.refl F22 E23 (Or.inl (w10 hw)) (w1 hw) (ty := .int) (by decide) rfl rfl ge15 d4_30 rfl fun T h24 A W25 => ?_
  have F26 := F22.same W25
  have K27 := (((Keep.refl h0 [a, r_heap, r_keys, r_places]).wr W20 (Or.inl (List.mem_of_getElem? (i := 3) rfl))).wr W25 (Or.inl (List.mem_of_getElem? (i := 0) rfl)))
  have E28 := (E23.wr W25)
  have F29 := ((F3.other W20 (Or.inl ne11)).other W25 (Or.inr (sn_GainQueue_heap_count hw)))
  have F30 := ((F4.other W20 (Or.inl ne11)).other W25 (Or.inr (sn_GainQueue_keys_count hw)))
  have F31 := ((F5.other W20 (Or.inl ne11)).other W25 (Or.inr (sn_GainQueue_places_count hw)))
  have V32 := ((V6.other W20 ne13).other W25 (Ne.symm ne9))
  have V33 := ((V7.other W20 ne14).other W25 (Ne.symm ne10))
  have V34 := (V21.other W25 (Ne.symm ne11))
  exact r_void A rfl d4_33 (by decide) (by decide) (⟨rfl, K27, ⟨E28, F26, F29, F30, F31, V32, V33, V34, ne9, ne10, ne11, ne12, ne13, ne14, ge15, ge16, ge17, ge18⟩⟩)
set_option maxRecDepth 65536 in
set_option maxHeartbeats 40000000 in
theorem gq_contains25 (l : Launch) (Z : State) (a0 : Array Value) (hw : ∀ d ∈ tables_1, d.before a0 Z = true) (n0 : Nat) (h0 : Heap) (Z0 : n0 ≤ h0.size) (a r_heap r_keys r_places : Addr)  (l_heap : List Value) (l_keys : List Value) (H : GQ Z n0 h0 a r_heap r_keys r_places (1 : Int32) l_heap l_keys [.int (-1 : Int32), .int (0 : Int32), .int (-1 : Int32)]) :
    Met l Z n0 y4_contains prog_22_method_3_code 2 (Option.some Jvm.ClassFile.FieldType.boolean) ({ frames := 0, cells := 0, slots := 0, locals := 0 } : Room) #[(.ref a), (.int (2 : Int32))] h0 (fun v h => v = some (.int (0 : Int32)) ∧ Keep h0 h [a, r_heap, r_keys, r_places] ∧ GQ Z n0 h a r_heap r_keys r_places (1 : Int32) l_heap l_keys [.int (-1 : Int32), .int (0 : Int32), .int (-1 : Int32)]) := by
  refine met_intro (own := c1_GainQueue) (plainFor_of_name pn_com_example_kithgraph_kithgraph_cluster_GainQueue) rfl Z0 ?_
  intro p e s m below meth c T A hnm
  refine Wp.cast (g' := mkF m 0 #[rv a, iv 2] []) (by first | (simp [entryFrame, mkF, argsToLocals, Value.category, maxLocals, jv, S2, U0, iv, rv]; done) | rfl) ?_
  obtain ⟨E1, F2, F3, F4, F5, V6, V7, V8, ne9, ne10, ne11, ne12, ne13, ne14, ge15, ge16, ge17, ge18⟩ := H
  refine s_aloadN (pc' := 1) A d6_0 rfl rfl rfl ?_
  refine s_getfield (pc' := 4) (host := "") A (Or.inl (w17 hw)) Via.refl F5 d6_1 rfl fun T A => ?_
  refine s_iloadN (pc' := 5) A d6_4 rfl rfl ?_
  refine s_iaload (pc' := 6) (i := 2) (v := (.int (-1 : Int32))) A V8 (by decide) rfl d6_5 rfl ?_
  refine s_iconst (pc' := 7) (z := (-1 : Int32)) A d6_6 rfl (by decide) ?_
  refine s_icmpY (pc' := 14) A d6_7 (by decide) (by decide) (by decide) ?_
  refine s_iconst (pc' := 15) (z := (0 : Int32)) A d6_14 rfl (by decide) ?_
  exact r_bool A rfl (by decide) d6_15 (by decide) (by decide) (⟨rfl, (Keep.refl h0 [a, r_heap, r_keys, r_places]), ⟨E1, F2, F3, F4, F5, V6, V7, V8, ne9, ne10, ne11, ne12, ne13, ne14, ge15, ge16, ge17, ge18⟩⟩)
set_option maxRecDepth 65536 in
set_option maxHeartbeats 40000000 in
theorem gq_before27 (l : Launch) (Z : State) (a0 : Array Value) (hw : ∀ d ∈ tables_1, d.before a0 Z = true) (n0 : Nat) (h0 : Heap) (Z0 : n0 ≤ h0.size) (a r_heap r_keys r_places : Addr) (x0 : Int64) (x1 : Int64) (l_heap : List Value) (l_places : List Value) (H : GQ Z n0 h0 a r_heap r_keys r_places (2 : Int32) l_heap [.long (0 : Int64), .long x0, .long x1] l_places) (hk : x0 < x1) :
    Met l Z n0 y10_before prog_22_method_12_code 7 (Option.some Jvm.ClassFile.FieldType.boolean) ({ frames := 0, cells := 0, slots := 0, locals := 0 } : Room) #[(.ref a), (.int (2 : Int32)), (.int (1 : Int32))] h0 (fun v h => v = some (.int (1 : Int32)) ∧ Keep h0 h [a, r_heap, r_keys, r_places] ∧ GQ Z n0 h a r_heap r_keys r_places (2 : Int32) l_heap [.long (0 : Int64), .long x0, .long x1] l_places) := by
  refine met_intro (own := c1_GainQueue) (plainFor_of_name pn_com_example_kithgraph_kithgraph_cluster_GainQueue) rfl Z0 ?_
  intro p e s m below meth c T A hnm
  refine Wp.cast (g' := mkF m 0 #[rv a, iv 2, iv 1, U0, U0, U0, U0] []) (by first | (simp [entryFrame, mkF, argsToLocals, Value.category, maxLocals, jv, S2, U0, iv, rv]; done) | rfl) ?_
  obtain ⟨E1, F2, F3, F4, F5, V6, V7, V8, ne9, ne10, ne11, ne12, ne13, ne14, ge15, ge16, ge17, ge18⟩ := H
  refine s_aloadN (pc' := 1) A d12_0 rfl rfl rfl ?_
  refine s_getfield (pc' := 4) (host := "") A (Or.inl (w15 hw)) Via.refl F4 d12_1 rfl fun T A => ?_
  refine s_iloadN (pc' := 5) A d12_4 rfl rfl ?_
  refine s_laload (pc' := 6) (i := 2) (v := (.long x1)) A V7 (by decide) rfl d12_5 rfl ?_
  refine s_lstoreN (pc' := 7) (Ls' := #[rv a, iv 2, iv 1, jv x1, S2, U0, U0]) A d12_6 rfl rfl ?_
  refine s_aloadN (pc' := 8) A d12_7 rfl rfl rfl ?_
  refine s_getfield (pc' := 11) (host := "") A (Or.inl (w15 hw)) Via.refl F4 d12_8 rfl fun T A => ?_
  refine s_iloadN (pc' := 12) A d12_11 rfl rfl ?_
  refine s_laload (pc' := 13) (i := 1) (v := (.long x0)) A V7 (by decide) rfl d12_12 rfl ?_
  refine s_lstore (pc' := 15) (Ls' := #[rv a, iv 2, iv 1, jv x1, S2, jv x0, S2]) A d12_13 rfl rfl ?_
  refine s_lloadN (pc' := 16) A d12_15 rfl rfl ?_
  refine s_lload (pc' := 18) A d12_16 rfl rfl ?_
  refine s_lcmp (pc' := 19) A d12_18 rfl ?_
  refine s_ifY (pc' := 34) A d12_19 ((if0 _ _).trans (tlt ((lw_gt x1 x0).2 hk)).2.2.1) (by decide) (by decide) ?_
  refine s_iconst (pc' := 35) (z := (1 : Int32)) A d12_34 rfl (by decide) ?_
  refine s_goto (pc' := 39) A d12_35 (by decide) (by decide) ?_
  exact r_bool A rfl (by decide) d12_39 (by decide) (by decide) (⟨rfl, (Keep.refl h0 [a, r_heap, r_keys, r_places]), ⟨E1, F2, F3, F4, F5, V6, V7, V8, ne9, ne10, ne11, ne12, ne13, ne14, ge15, ge16, ge17, ge18⟩⟩)
set_option maxRecDepth 65536 in
set_option maxHeartbeats 40000000 in
theorem gq_set28 (l : Launch) (Z : State) (a0 : Array Value) (hw : ∀ d ∈ tables_1, d.before a0 Z = true) (n0 : Nat) (h0 : Heap) (Z0 : n0 ≤ h0.size) (a r_heap r_keys r_places : Addr)  (l_keys : List Value) (H : GQ Z n0 h0 a r_heap r_keys r_places (2 : Int32) [.int (1 : Int32), .int (2 : Int32), .int (0 : Int32)] l_keys [.int (-1 : Int32), .int (0 : Int32), .int (1 : Int32)]) :
    Met l Z n0 y5_set prog_22_method_11_code 3 (Option.none : Option Jvm.ClassFile.FieldType) ({ frames := 0, cells := 0, slots := 0, locals := 0 } : Room) #[(.ref a), (.int (1 : Int32)), (.int (1 : Int32))] h0 (fun v h => v = none ∧ Keep h0 h [a, r_heap, r_keys, r_places] ∧ GQ Z n0 h a r_heap r_keys r_places (2 : Int32) [.int (1 : Int32), .int (1 : Int32), .int (0 : Int32)] l_keys [.int (-1 : Int32), .int (1 : Int32), .int (1 : Int32)]) := by
  refine met_intro (own := c1_GainQueue) (plainFor_of_name pn_com_example_kithgraph_kithgraph_cluster_GainQueue) rfl Z0 ?_
  intro p e s m below meth c T A hnm
  refine Wp.cast (g' := mkF m 0 #[rv a, iv 1, iv 1] []) (by first | (simp [entryFrame, mkF, argsToLocals, Value.category, maxLocals, jv, S2, U0, iv, rv]; done) | rfl) ?_
  obtain ⟨E1, F2, F3, F4, F5, V6, V7, V8, ne9, ne10, ne11, ne12, ne13, ne14, ge15, ge16, ge17, ge18⟩ := H
  refine s_aloadN (pc' := 1) A d9_0 rfl rfl rfl ?_
  refine s_getfield (pc' := 4) (host := "") A (Or.inl (w12 hw)) Via.refl F3 d9_1 rfl fun T A => ?_
  refine s_iloadN (pc' := 5) A d9_4 rfl rfl ?_
  refine s_iloadN (pc' := 6) A d9_5 rfl rfl ?_
  refine s_iastore (pc' := 7) (i := 1) A V6 (by decide) (Nat.le_of_ble_eq_true rfl) ge16 d9_6 rfl fun T h19 A W20 V21 => ?_
  have V21 : AA Z h19 r_heap .int [.int (1 : Int32), .int (1 : Int32), .int (0 : Int32)] := V21
  refine s_aloadN (pc' := 8) A d9_7 rfl rfl rfl ?_
  have F22 := (F5.other W20 (Or.inl ne9))
  refine s_getfield (pc' := 11) (host := "") A (Or.inl (w17 hw)) Via.refl F22 d9_8 rfl fun T A => ?_
  refine s_iloadN (pc' := 12) A d9_11 rfl rfl ?_
  refine s_iloadN (pc' := 13) A d9_12 rfl rfl ?_
  have V23 := (V8.other W20 (Ne.symm ne13))
  refine s_iastore (pc' := 14) (i := 1) A V23 (by decide) (Nat.le_of_ble_eq_true rfl) ge18 d9_13 rfl fun T h24 A W25 V26 => ?_
  have V26 : AA Z h24 r_places .int [.int (-1 : Int32), .int (1 : Int32), .int (1 : Int32)] := V26
  have K27 := (((Keep.refl h0 [a, r_heap, r_keys, r_places]).wr W20 (Or.inl (List.mem_of_getElem? (i := 1) rfl))).wr W25 (Or.inl (List.mem_of_getElem? (i := 3) rfl)))
  have E28 := ((E1.wr W20).wr W25)
  have F29 := ((F2.other W20 (Or.inl ne9)).other W25 (Or.inl ne11))
  have F30 := ((F3.other W20 (Or.inl ne9)).other W25 (Or.inl ne11))
  have F31 := ((F4.other W20 (Or.inl ne9)).other W25 (Or.inl ne11))
  have F32 := (F22.other W25 (Or.inl ne11))
  have V33 := (V21.other W25 ne13)
  have V34 := ((V7.other W20 (Ne.symm ne12)).other W25 ne14)
  exact r_void A rfl d9_14 (by decide) (by decide) (⟨rfl, K27, ⟨E28, F29, F30, F31, F32, V33, V34, V26, ne9, ne10, ne11, ne12, ne13, ne14, ge15, ge16, ge17, ge18⟩⟩)
set_option maxRecDepth 65536 in
set_option maxHeartbeats 40000000 in
theorem gq_set29 (l : Launch) (Z : State) (a0 : Array Value) (hw : ∀ d ∈ tables_1, d.before a0 Z = true) (n0 : Nat) (h0 : Heap) (Z0 : n0 ≤ h0.size) (a r_heap r_keys r_places : Addr)  (l_keys : List Value) (H : GQ Z n0 h0 a r_heap r_keys r_places (2 : Int32) [.int (1 : Int32), .int (1 : Int32), .int (0 : Int32)] l_keys [.int (-1 : Int32), .int (1 : Int32), .int (1 : Int32)]) :
    Met l Z n0 y5_set prog_22_method_11_code 3 (Option.none : Option Jvm.ClassFile.FieldType) ({ frames := 0, cells := 0, slots := 0, locals := 0 } : Room) #[(.ref a), (.int (0 : Int32)), (.int (2 : Int32))] h0 (fun v h => v = none ∧ Keep h0 h [a, r_heap, r_keys, r_places] ∧ GQ Z n0 h a r_heap r_keys r_places (2 : Int32) [.int (2 : Int32), .int (1 : Int32), .int (0 : Int32)] l_keys [.int (-1 : Int32), .int (1 : Int32), .int (0 : Int32)]) := by
  refine met_intro (own := c1_GainQueue) (plainFor_of_name pn_com_example_kithgraph_kithgraph_cluster_GainQueue) rfl Z0 ?_
  intro p e s m below meth c T A hnm
  refine Wp.cast (g' := mkF m 0 #[rv a, iv 0, iv 2] []) (by first | (simp [entryFrame, mkF, argsToLocals, Value.category, maxLocals, jv, S2, U0, iv, rv]; done) | rfl) ?_
  obtain ⟨E1, F2, F3, F4, F5, V6, V7, V8, ne9, ne10, ne11, ne12, ne13, ne14, ge15, ge16, ge17, ge18⟩ := H
  refine s_aloadN (pc' := 1) A d9_0 rfl rfl rfl ?_
  refine s_getfield (pc' := 4) (host := "") A (Or.inl (w12 hw)) Via.refl F3 d9_1 rfl fun T A => ?_
  refine s_iloadN (pc' := 5) A d9_4 rfl rfl ?_
  refine s_iloadN (pc' := 6) A d9_5 rfl rfl ?_
  refine s_iastore (pc' := 7) (i := 0) A V6 (by decide) (Nat.le_of_ble_eq_true rfl) ge16 d9_6 rfl fun T h19 A W20 V21 => ?_
  have V21 : AA Z h19 r_heap .int [.int (2 : Int32), .int (1 : Int32), .int (0 : Int32)] := V21
  refine s_aloadN (pc' := 8) A d9_7 rfl rfl rfl ?_
  have F22 := (F5.other W20 (Or.inl ne9))
  refine s_getfield (pc' := 11) (host := "") A (Or.inl (w17 hw)) Via.refl F22 d9_8 rfl fun T A => ?_
  refine s_iloadN (pc' := 12) A d9_11 rfl rfl ?_
  refine s_iloadN (pc' := 13) A d9_12 rfl rfl ?_
  have V23 := (V8.other W20 (Ne.symm ne13))
  refine s_iastore (pc' := 14) (i := 2) A V23 (by decide) (Nat.le_of_ble_eq_true rfl) ge18 d9_13 rfl fun T h24 A W25 V26 => ?_
  have V26 : AA Z h24 r_places .int [.int (-1 : Int32), .int (1 : Int32), .int (0 : Int32)] := V26
  have K27 := (((Keep.refl h0 [a, r_heap, r_keys, r_places]).wr W20 (Or.inl (List.mem_of_getElem? (i := 1) rfl))).wr W25 (Or.inl (List.mem_of_getElem? (i := 3) rfl)))
  have E28 := ((E1.wr W20).wr W25)
  have F29 := ((F2.other W20 (Or.inl ne9)).other W25 (Or.inl ne11))
  have F30 := ((F3.other W20 (Or.inl ne9)).other W25 (Or.inl ne11))
  have F31 := ((F4.other W20 (Or.inl ne9)).other W25 (Or.inl ne11))
  have F32 := (F22.other W25 (Or.inl ne11))
  have V33 := (V21.other W25 ne13)
  have V34 := ((V7.other W20 (Ne.symm ne12)).other W25 ne14)
  exact r_void A rfl d9_14 (by decide) (by decide) (⟨rfl, K27, ⟨E28, F29, F30, F31, F32, V33, V34, V26, ne9, ne10, ne11, ne12, ne13, ne14, ge15, ge16, ge17, ge18⟩⟩)
set_option maxRecDepth 65536 in
set_option maxHeartbeats 40000000 in
theorem gq_up26 (l : Launch) (Z : State) (a0 : Array Value) (hw : ∀ d ∈ tables_1, d.before a0 Z = true) (n0 : Nat) (h0 : Heap) (Z0 : n0 ≤ h0.size) (a r_heap r_keys r_places : Addr) (x0 : Int64) (x1 : Int64) (H : GQ Z n0 h0 a r_heap r_keys r_places (2 : Int32) [.int (1 : Int32), .int (2 : Int32), .int (0 : Int32)] [.long (0 : Int64), .long x0, .long x1] [.int (-1 : Int32), .int (0 : Int32), .int (1 : Int32)]) (hk : x0 < x1) :
    Met l Z n0 y6_up prog_22_method_9_code 4 (Option.none : Option Jvm.ClassFile.FieldType) ({ frames := 1, cells := 0, slots := 0, locals := 18 } : Room) #[(.ref a), (.int (1 : Int32))] h0 (fun v h => v = none ∧ Keep h0 h [a, r_heap, r_keys, r_places] ∧ GQ Z n0 h a r_heap r_keys r_places (2 : Int32) [.int (2 : Int32), .int (1 : Int32), .int (0 : Int32)] [.long (0 : Int64), .long x0, .long x1] [.int (-1 : Int32), .int (1 : Int32), .int (0 : Int32)]) := by
  refine met_intro (own := c1_GainQueue) (plainFor_of_name pn_com_example_kithgraph_kithgraph_cluster_GainQueue) rfl Z0 ?_
  intro p e s m below meth c T A hnm
  refine Wp.cast (g' := mkF m 0 #[rv a, iv 1, U0, U0] []) (by first | (simp [entryFrame, mkF, argsToLocals, Value.category, maxLocals, jv, S2, U0, iv, rv]; done) | rfl) ?_
  obtain ⟨E1, F2, F3, F4, F5, V6, V7, V8, ne9, ne10, ne11, ne12, ne13, ne14, ge15, ge16, ge17, ge18⟩ := H
  refine s_aloadN (pc' := 1) A d8_0 rfl rfl rfl ?_
  refine s_getfield (pc' := 4) (host := "") A (Or.inl (w12 hw)) Via.refl F3 d8_1 rfl fun T A => ?_
  refine s_iloadN (pc' := 5) A d8_4 rfl rfl ?_
  refine s_iaload (pc' := 6) (i := 1) (v := (.int (2 : Int32))) A V6 (by decide) rfl d8_5 rfl ?_
  refine s_istoreN (pc' := 7) (Ls' := #[rv a, iv 1, iv 2, U0]) A d8_6 rfl rfl ?_
  refine s_iloadN (pc' := 8) A d8_7 rfl rfl ?_
  refine s_ifN (pc' := 11) A d8_8 rfl (by decide) ?_
  refine s_iloadN (pc' := 12) A d8_11 rfl rfl ?_
  refine s_iconst (pc' := 13) (z := (1 : Int32)) A d8_12 rfl (by decide) ?_
  refine s_isub (pc' := 14) (z := (0 : Int32)) A d8_13 rfl (by decide) ?_
  refine s_iconst (pc' := 15) (z := (2 : Int32)) A d8_14 rfl (by decide) ?_
  refine s_idiv (pc' := 16) (z := (0 : Int32)) A d8_15 rfl (by decide) (by decide) ?_
  refine s_istoreN (pc' := 17) (Ls' := #[rv a, iv 1, iv 2, iv 0]) A d8_16 rfl rfl ?_
  refine s_aloadN (pc' := 18) A d8_17 rfl rfl rfl ?_
  refine s_iloadN (pc' := 19) A d8_18 rfl rfl ?_
  refine s_aloadN (pc' := 20) A d8_19 rfl rfl rfl ?_
  refine s_getfield (pc' := 23) (host := "") A (Or.inl (w12 hw)) Via.refl F3 d8_20 rfl fun T A => ?_
  refine s_iloadN (pc' := 24) A d8_23 rfl rfl ?_
  refine s_iaload (pc' := 25) (i := 0) (v := (.int (1 : Int32))) A V6 (by decide) rfl d8_24 rfl ?_
  refine s_private (pc' := 28) (y := y10_before) (argsL := [(.int (2 : Int32)), (.int (1 : Int32))]) (rest := []) A E1 (gq_before27 l Z a0 hw n0 h0 A.size a r_heap r_keys r_places x0 x1 [.int (1 : Int32), .int (2 : Int32), .int (0 : Int32)] [.int (-1 : Int32), .int (0 : Int32), .int (1 : Int32)] ⟨E1, F2, F3, F4, F5, V6, V7, V8, ne9, ne10, ne11, ne12, ne13, ne14, ge15, ge16, ge17, ge18⟩ hk) (w63 hw) (w64 hw) (w1 hw) (w65 hw) (w2 hw) (w66 hw) (by decide) pd__II_Z rfl (W := 0) (by decide) (by decide) (Nat.le_of_eq rfl) (by decide) (by decide) rfl rfl d8_25 rfl fun T h21 v22 A Q23 => ?_
  obtain ⟨rfl, K19, H20⟩ := Q23
  obtain ⟨E24, F25, F26, F27, F28, V29, V30, V31, ne32, ne33, ne34, ne35, ne36, ne37, ge38, ge39, ge40, ge41⟩ := H20
  refine Wp.stk (st' := [(.int (1 : Int32))]) rfl ?_
  refine s_ifY (pc' := 34) A d8_28 (by decide) (by decide) (by decide) ?_
  refine s_aloadN (pc' := 35) A d8_34 rfl rfl rfl ?_
  refine s_iloadN (pc' := 36) A d8_35 rfl rfl ?_
  refine s_aloadN (pc' := 37) A d8_36 rfl rfl rfl ?_
  refine s_getfield (pc' := 40) (host := "") A (Or.inl (w12 hw)) Via.refl F26 d8_37 rfl fun T A => ?_
  refine s_iloadN (pc' := 41) A d8_40 rfl rfl ?_
  refine s_iaload (pc' := 42) (i := 0) (v := (.int (1 : Int32))) A V29 (by decide) rfl d8_41 rfl ?_
  refine s_private (pc' := 45) (y := y5_set) (argsL := [(.int (1 : Int32)), (.int (1 : Int32))]) (rest := []) A E24 (gq_set28 l Z a0 hw n0 h21 A.size a r_heap r_keys r_places [.long (0 : Int64), .long x0, .long x1] ⟨E24, F25, F26, F27, F28, V29, V30, V31, ne32, ne33, ne34, ne35, ne36, ne37, ge38, ge39, ge40, ge41⟩) (w49 hw) (w50 hw) (w1 hw) (w51 hw) (w2 hw) (w52 hw) (by decide) pd__II_V rfl (W := 0) (by decide) (by decide) (Nat.le_of_eq rfl) (by decide) (by decide) rfl rfl d8_42 rfl fun T h44 v45 A Q46 => ?_
  obtain ⟨rfl, K42, H43⟩ := Q46
  obtain ⟨E47, F48, F49, F50, F51, V52, V53, V54, ne55, ne56, ne57, ne58, ne59, ne60, ge61, ge62, ge63, ge64⟩ := H43
  refine Wp.stk (st' := []) rfl ?_
  refine s_iloadN (pc' := 46) A d8_45 rfl rfl ?_
  refine s_istoreN (pc' := 47) (Ls' := #[rv a, iv 0, iv 2, iv 0]) A d8_46 rfl rfl ?_
  refine s_goto (pc' := 7) A d8_47 (by decide) (by decide) ?_
  refine s_iloadN (pc' := 8) A d8_7 rfl rfl ?_
  refine s_ifY (pc' := 50) A d8_8 (by decide) (by decide) (by decide) ?_
  refine s_aloadN (pc' := 51) A d8_50 rfl rfl rfl ?_
  refine s_iloadN (pc' := 52) A d8_51 rfl rfl ?_
  refine s_iloadN (pc' := 53) A d8_52 rfl rfl ?_
  refine s_private (pc' := 56) (y := y5_set) (argsL := [(.int (0 : Int32)), (.int (2 : Int32))]) (rest := []) A E47 (gq_set29 l Z a0 hw n0 h44 A.size a r_heap r_keys r_places [.long (0 : Int64), .long x0, .long x1] ⟨E47, F48, F49, F50, F51, V52, V53, V54, ne55, ne56, ne57, ne58, ne59, ne60, ge61, ge62, ge63, ge64⟩) (w49 hw) (w50 hw) (w1 hw) (w51 hw) (w2 hw) (w52 hw) (by decide) pd__II_V rfl (W := 0) (by decide) (by decide) (Nat.le_of_eq rfl) (by decide) (by decide) rfl rfl d8_53 rfl fun T h67 v68 A Q69 => ?_
  obtain ⟨rfl, K65, H66⟩ := Q69
  obtain ⟨E70, F71, F72, F73, F74, V75, V76, V77, ne78, ne79, ne80, ne81, ne82, ne83, ge84, ge85, ge86, ge87⟩ := H66
  refine Wp.stk (st' := []) rfl ?_
  have K88 := ((((Keep.refl h0 [a, r_heap, r_keys, r_places]).trans K19 (allS (Or.inl (List.mem_of_getElem? (i := 0) rfl)) (allS (Or.inl (List.mem_of_getElem? (i := 1) rfl)) (allS (Or.inl (List.mem_of_getElem? (i := 2) rfl)) (allS (Or.inl (List.mem_of_getElem? (i := 3) rfl)) all0))))).trans K42 (allS (Or.inl (List.mem_of_getElem? (i := 0) rfl)) (allS (Or.inl (List.mem_of_getElem? (i := 1) rfl)) (allS (Or.inl (List.mem_of_getElem? (i := 2) rfl)) (allS (Or.inl (List.mem_of_getElem? (i := 3) rfl)) all0))))).trans K65 (allS (Or.inl (List.mem_of_getElem? (i := 0) rfl)) (allS (Or.inl (List.mem_of_getElem? (i := 1) rfl)) (allS (Or.inl (List.mem_of_getElem? (i := 2) rfl)) (allS (Or.inl (List.mem_of_getElem? (i := 3) rfl)) all0)))))
  exact r_void A rfl d8_56 (by decide) (by decide) (⟨rfl, K88, ⟨E70, F71, F72, F73, F74, V75, V76, V77, ne78, ne79, ne80, ne81, ne82, ne83, ge84, ge85, ge86, ge87⟩⟩)
set_option maxRecDepth 65536 in
set_option maxHeartbeats 40000000 in
theorem gq_put24 (l : Launch) (Z : State) (a0 : Array Value) (hw : ∀ d ∈ tables_1, d.before a0 Z = true) (n0 : Nat) (h0 : Heap) (Z0 : n0 ≤ h0.size) (a r_heap r_keys r_places : Addr) (x0 : Int64) (x1 : Int64) (H : GQ Z n0 h0 a r_heap r_keys r_places (1 : Int32) [.int (1 : Int32), .int (0 : Int32), .int (0 : Int32)] [.long (0 : Int64), .long x0, .long (0 : Int64)] [.int (-1 : Int32), .int (0 : Int32), .int (-1 : Int32)]) (hk : x0 < x1) :
    Met l Z n0 y7_put prog_22_method_4_code 6 (Option.none : Option Jvm.ClassFile.FieldType) ({ frames := 2, cells := 0, slots := 0, locals := 33 } : Room) #[(.ref a), (.int (2 : Int32)), (.long x1)] h0 (fun v h => v = none ∧ Keep h0 h [a, r_heap, r_keys, r_places] ∧ GQ Z n0 h a r_heap r_keys r_places (2 : Int32) [.int (2 : Int32), .int (1 : Int32), .int (0 : Int32)] [.long (0 : Int64), .long x0, .long x1] [.int (-1 : Int32), .int (1 : Int32), .int (0 : Int32)]) := by
  refine met_intro (own := c1_GainQueue) (plainFor_of_name pn_com_example_kithgraph_kithgraph_cluster_GainQueue) rfl Z0 ?_
  intro p e s m below meth c T A hnm
  refine Wp.cast (g' := mkF m 0 #[rv a, iv 2, jv x1, S2, U0, U0] []) (by first | (simp [entryFrame, mkF, argsToLocals, Value.category, maxLocals, jv, S2, U0, iv, rv]; done) | rfl) ?_
  obtain ⟨E1, F2, F3, F4, F5, V6, V7, V8, ne9, ne10, ne11, ne12, ne13, ne14, ge15, ge16, ge17, ge18⟩ := H
  refine s_aloadN (pc' := 1) A d7_0 rfl rfl rfl ?_
  refine s_iloadN (pc' := 2) A d7_1 rfl rfl ?_
  refine s_virtual (pc' := 5) (y := y4_contains) (argsL := [(.int (2 : Int32))]) (rest := []) (z := y4_contains) A E1 (gq_contains25 l Z a0 hw n0 h0 A.size a r_heap r_keys r_places [.int (1 : Int32), .int (0 : Int32), .int (0 : Int32)] [.long (0 : Int64), .long x0, .long (0 : Int64)] ⟨E1, F2, F3, F4, F5, V6, V7, V8, ne9, ne10, ne11, ne12, ne13, ne14, ge15, ge16, ge17, ge18⟩) (w44 hw) (w34 hw) (nf_same (C := "") (w36 hw)) (w36 hw) (w35 hw) (w2 hw) (w37 hw) (by decide) pd__I_Z rfl (W := 0) (by decide) (by decide) (Nat.le_of_eq rfl) (by decide) (by decide) rfl rfl d7_2 rfl fun T h21 v22 A Q23 => ?_
  obtain ⟨rfl, K19, H20⟩ := Q23
  obtain ⟨E24, F25, F26, F27, F28, V29, V30, V31, ne32, ne33, ne34, ne35, ne36, ne37, ge38, ge39, ge40, ge41⟩ := H20
  refine Wp.stk (st' := [(.int (0 : Int32))]) rfl ?_
  refine s_ifY (pc' := 56) A d7_5 (by decide) (by decide) (by decide) ?_
  refine s_aloadN (pc' := 57) A d7_56 rfl rfl rfl ?_
  refine s_getfield (pc' := 60) (host := "") A (Or.inl (w15 hw)) Via.refl F27 d7_57 rfl fun T A => ?_
  refine s_iloadN (pc' := 61) A d7_60 rfl rfl ?_
  refine s_lloadN (pc' := 62) A d7_61 rfl rfl ?_
  refine s_lastore (pc' := 63) (i := 2) A V30 (by decide) (Nat.le_of_ble_eq_true rfl) ge40 d7_62 rfl fun T h42 A W43 V44 => ?_
  have V44 : AA Z h42 r_keys .long [.long (0 : Int64), .long x0, .long x1] := V44
  refine s_aloadN (pc' := 64) A d7_63 rfl rfl rfl ?_
  have F45 := (F26.other W43 (Or.inl ne33))
  refine s_getfield (pc' := 67) (host := "") A (Or.inl (w12 hw)) Via.refl F45 d7_64 rfl fun T A => ?_
  refine s_aloadN (pc' := 68) A d7_67 rfl rfl rfl ?_
  have F46 := (F25.other W43 (Or.inl ne33))
  refine s_getfield (pc' := 71) (host := "") A (Or.inl (w9 hw)) Via.refl F46 d7_68 rfl fun T A => ?_
  refine s_iloadN (pc' := 72) A d7_71 rfl rfl ?_
  have V47 := (V29.other W43 ne35)
  refine s_iastore (pc' := 73) (i := 1) A V47 (by decide) (Nat.le_of_ble_eq_true rfl) ge39 d7_72 rfl fun T h48 A W49 V50 => ?_
  have V50 : AA Z h48 r_heap .int [.int (1 : Int32), .int (2 : Int32), .int (0 : Int32)] := V50
  refine s_aloadN (pc' := 74) A d7_73 rfl rfl rfl ?_
  have F51 := ((F28.other W43 (Or.inl ne33)).other W49 (Or.inl ne32))
  refine s_getfield (pc' := 77) (host := "") A (Or.inl (w17 hw)) Via.refl F51 d7_74 rfl fun T A => ?_
  refine s_iloadN (pc' := 78) A d7_77 rfl rfl ?_
  refine s_aloadN (pc' := 79) A d7_78 rfl rfl rfl ?_
  have F52 := (F46.other W49 (Or.inl ne32))
  refine s_getfield (pc' := 82) (host := "") A (Or.inl (w9 hw)) Via.refl F52 d7_79 rfl fun T A => ?_
  have V53 := ((V31.other W43 (Ne.symm ne37)).other W49 (Ne.symm ne36))
  refine s_iastore (pc' := 83) (i := 2) A V53 (by decide) (Nat.le_of_ble_eq_true rfl) ge41 d7_82 rfl fun T h54 A W55 V56 => ?_
  have V56 : AA Z h54 r_places .int [.int (-1 : Int32), .int (0 : Int32), .int (1 : Int32)] := V56
  refine s_aloadN (pc' := 84) A d7_83 rfl rfl rfl ?_
  refine s_dup (pc' := 85) A d7_84 rfl rfl ?_
  have F57 := (F52.other W55 (Or.inl ne34))
  refine s_getfield (pc' := 88) (host := "") A (Or.inl (w9 hw)) Via.refl F57 d7_85 rfl fun T A => ?_
  refine s_iconst (pc' := 89) (z := (1 : Int32)) A d7_88 rfl (by decide) ?_
  refine s_iadd (pc' := 90) (z := (2 : Int32)) A d7_89 rfl (by decide) ?_
  have E58 := (((E24.wr W43).wr W49).wr W55)
  refine s_putfield (pc' := 93) (host := "") A (Or.inl (w9 hw)) Via.refl F57 E58 (Or.inl (w10 hw)) (w1 hw) (ty := .int) (by decide) rfl rfl ge38 d7_90 rfl fun T h59 A W60 => ?_
  have F61 := F57.same W60
  refine s_aloadN (pc' := 94) A d7_93 rfl rfl rfl ?_
  refine s_aloadN (pc' := 95) A d7_94 rfl rfl rfl ?_
  refine s_getfield (pc' := 98) (host := "") A (Or.inl (w9 hw)) Via.refl F61 d7_95 rfl fun T A => ?_
  refine s_iconst (pc' := 99) (z := (1 : Int32)) A d7_98 rfl (by decide) ?_
  refine s_isub (pc' := 100) (z := (1 : Int32)) A d7_99 rfl (by decide) ?_
  have E62 := (E58.wr W60)
  have F63 := (((F45.other W49 (Or.inl ne32)).other W55 (Or.inl ne34)).other W60 (Or.inr (sn_GainQueue_heap_count hw)))
  have F64 := ((((F27.other W43 (Or.inl ne33)).other W49 (Or.inl ne32)).other W55 (Or.inl ne34)).other W60 (Or.inr (sn_GainQueue_keys_count hw)))
  have F65 := ((F51.other W55 (Or.inl ne34)).other W60 (Or.inr (sn_GainQueue_places_count hw)))
  have V66 := ((V50.other W55 ne36).other W60 (Ne.symm ne32))
  have V67 := (((V44.other W49 (Ne.symm ne35)).other W55 ne37).other W60 (Ne.symm ne33))
  have V68 := (V56.other W60 (Ne.symm ne34))
  refine s_private (pc' := 103) (y := y6_up) (argsL := [(.int (1 : Int32))]) (rest := []) A E62 (gq_up26 l Z a0 hw n0 h59 A.size a r_heap r_keys r_places x0 x1 ⟨E62, F61, F63, F64, F65, V66, V67, V68, ne32, ne33, ne34, ne35, ne36, ne37, ge38, ge39, ge40, ge41⟩ hk) (w45 hw) (w46 hw) (w1 hw) (w47 hw) (w2 hw) (w48 hw) (by decide) pd__I_V rfl (W := 0) (by decide) (by decide) (Nat.le_of_eq rfl) (by decide) (by decide) rfl rfl d7_100 rfl fun T h71 v72 A Q73 => ?_
  obtain ⟨rfl, K69, H70⟩ := Q73
  obtain ⟨E74, F75, F76, F77, F78, V79, V80, V81, ne82, ne83, ne84, ne85, ne86, ne87, ge88, ge89, ge90, ge91⟩ := H70
  refine Wp.stk (st' := []) rfl ?_
  have K92 := (((((((Keep.refl h0 [a, r_heap, r_keys, r_places]).trans K19 (allS (Or.inl (List.mem_of_getElem? (i := 0) rfl)) (allS (Or.inl (List.mem_of_getElem? (i := 1) rfl)) (allS (Or.inl (List.mem_of_getElem? (i := 2) rfl)) (allS (Or.inl (List.mem_of_getElem? (i := 3) rfl)) all0))))).wr W43 (Or.inl (List.mem_of_getElem? (i := 2) rfl))).wr W49 (Or.inl (List.mem_of_getElem? (i := 1) rfl))).wr W55 (Or.inl (List.mem_of_getElem? (i := 3) rfl))).wr W60 (Or.inl (List.mem_of_getElem? (i := 0) rfl))).trans K69 (allS (Or.inl (List.mem_of_getElem? (i := 0) rfl)) (allS (Or.inl (List.mem_of_getElem? (i := 1) rfl)) (allS (Or.inl (List.mem_of_getElem? (i := 2) rfl)) (allS (Or.inl (List.mem_of_getElem? (i := 3) rfl)) all0)))))
  exact r_void A rfl d7_103 (by decide) (by decide) (⟨rfl, K92, ⟨E74, F75, F76, F77, F78, V79, V80, V81, ne82, ne83, ne84, ne85, ne86, ne87, ge88, ge89, ge90, ge91⟩⟩)
set_option maxRecDepth 65536 in
set_option maxHeartbeats 40000000 in
theorem gq_clear30 (l : Launch) (Z : State) (a0 : Array Value) (hw : ∀ d ∈ tables_1, d.before a0 Z = true) (n0 : Nat) (h0 : Heap) (Z0 : n0 ≤ h0.size) (a r_heap r_keys r_places : Addr)  (l_keys : List Value) (H : GQ Z n0 h0 a r_heap r_keys r_places (2 : Int32) [.int (2 : Int32), .int (1 : Int32), .int (0 : Int32)] l_keys [.int (-1 : Int32), .int (1 : Int32), .int (0 : Int32)]) :
    Met l Z n0 y2_clear prog_22_method_8_code 2 (Option.none : Option Jvm.ClassFile.FieldType) ({ frames := 0, cells := 0, slots := 0, locals := 0 } : Room) #[(.ref a)] h0 (fun v h => v = none ∧ Keep h0 h [a, r_heap, r_keys, r_places] ∧ GQ Z n0 h a r_heap r_keys r_places (0 : Int32) [.int (2 : Int32), .int (1 : Int32), .int (0 : Int32)] l_keys [.int (-1 : Int32), .int (-1 : Int32), .int (-1 : Int32)]) := by
  refine met_intro (own := c1_GainQueue) (plainFor_of_name pn_com_example_kithgraph_kithgraph_cluster_GainQueue) rfl Z0 ?_
  intro p e s m below meth c T A hnm
  refine Wp.cast (g' := mkF m 0 #[rv a, U0] []) (by first | (simp [entryFrame, mkF, argsToLocals, Value.category, maxLocals, jv, S2, U0, iv, rv]; done) | rfl) ?_
  obtain ⟨E1, F2, F3, F4, F5, V6, V7, V8, ne9, ne10, ne11, ne12, ne13, ne14, ge15, ge16, ge17, ge18⟩ := H
  refine s_iconst (pc' := 1) (z := (0 : Int32)) A d4_0 rfl (by decide) ?_
  refine s_istoreN (pc' := 2) (Ls' := #[rv a, iv 0]) A d4_1 rfl rfl ?_
  refine s_iloadN (pc' := 3) A d4_2 rfl rfl ?_
  refine s_aloadN (pc' := 4) A d4_3 rfl rfl rfl ?_
  refine s_getfield (pc' := 7) (host := "") A (Or.inl (w9 hw)) Via.refl F2 d4_4 rfl fun T A => ?_
  refine s_icmpN (pc' := 10) A d4_7 rfl (by decide) ?_
  refine s_aloadN (pc' := 11) A d4_10 rfl rfl rfl ?_
  refine s_getfield (pc' := 14) (host := "") A (Or.inl (w17 hw)) Via.refl F5 d4_11 rfl fun T A => ?_
  refine s_aloadN (pc' := 15) A d4_14 rfl rfl rfl ?_
  refine s_getfield (pc' := 18) (host := "") A (Or.inl (w12 hw)) Via.refl F3 d4_15 rfl fun T A => ?_
  refine s_iloadN (pc' := 19) A d4_18 rfl rfl ?_
  refine s_iaload (pc' := 20) (i := 0) (v := (.int (2 : Int32))) A V6 (by decide) rfl d4_19 rfl ?_
  refine s_iconst (pc' := 21) (z := (-1 : Int32)) A d4_20 rfl (by decide) ?_
  refine s_iastore (pc' := 22) (i := 2) A V8 (by decide) (Nat.le_of_ble_eq_true rfl) ge18 d4_21 rfl fun T h19 A W20 V21 => ?_
  have V21 : AA Z h19 r_places .int [.int (-1 : Int32), .int (1 : Int32), .int (-1 : Int32)] := V21
  refine s_iinc (pc' := 25) (z := (1 : Int32)) (Ls' := #[rv a, iv 1]) A d4_22 rfl rfl (by decide) rfl ?_
  refine s_goto (pc' := 2) A d4_25 (by decide) (by decide) ?_
  refine s_iloadN (pc' := 3) A d4_2 rfl rfl ?_
  refine s_aloadN (pc' := 4) A d4_3 rfl rfl rfl ?_
  have F22 := (F2.other W20 (Or.inl ne11))
  refine s_getfield (pc' := 7) (host := "") A (Or.inl (w9 hw)) Via.refl F22 d4_4 rfl fun T A => ?_
  refine s_icmpN (pc' := 10) A d4_7 rfl (by decide) ?_
  refine s_aloadN (pc' := 11) A d4_10 rfl rfl rfl ?_
  have F23 := (F5.other W20 (Or.inl ne11))
  refine s_getfield (pc' := 14) (host := "") A (Or.inl (w17 hw)) Via.refl F23 d4_11 rfl fun T A => ?_
  refine s_aloadN (pc' := 15) A d4_14 rfl rfl rfl ?_
  have F24 := (F3.other W20 (Or.inl ne11))
  refine s_getfield (pc' := 18) (host := "") A (Or.inl (w12 hw)) Via.refl F24 d4_15 rfl fun T A => ?_
  refine s_iloadN (pc' := 19) A d4_18 rfl rfl ?_
  have V25 := (V6.other W20 ne13)
  refine s_iaload (pc' := 20) (i := 1) (v := (.int (1 : Int32))) A V25 (by decide) rfl d4_19 rfl ?_
  refine s_iconst (pc' := 21) (z := (-1 : Int32)) A d4_20 rfl (by decide) ?_
  refine s_iastore (pc' := 22) (i := 1) A V21 (by decide) (Nat.le_of_ble_eq_true rfl) ge18 d4_21 rfl fun T h26 A W27 V28 => ?_
  have V28 : AA Z h26 r_places .int [.int (-1 : Int32), .int (-1 : Int32), .int (-1 : Int32)] := V28
  refine s_iinc (pc' := 25) (z := (2 : Int32)) (Ls' := #[rv a, iv 2]) A d4_22 rfl rfl (by decide) rfl ?_
  refine s_goto (pc' := 2) A d4_25 (by decide) (by decide) ?_
  refine s_iloadN (pc' := 3) A d4_2 rfl rfl ?_
  refine s_aloadN (pc' := 4) A d4_3 rfl rfl rfl ?_
  have F29 := (F22.other W27 (Or.inl ne11))
  refine s_getfield (pc' := 7) (host := "") A (Or.inl (w9 hw)) Via.refl F29 d4_4 rfl fun T A => ?_
  refine s_icmpY (pc' := 28) A d4_7 (by decide) (by decide) (by decide) ?_
  refine s_aloadN (pc' := 29) A d4_28 rfl rfl rfl ?_
  refine s_iconst (pc' := 30) (z := (0 : Int32)) A d4_29 rfl (by decide) ?_
  have E30 := ((E1.wr W20).wr W27)
  refine s_putfield (pc' := 33) (host := "") A (Or.inl (w9 hw)) Via.refl F29 E30 (Or.inl (w10 hw)) (w1 hw) (ty := .int) (by decide) rfl rfl ge15 d4_30 rfl fun T h31 A W32 => ?_
  have F33 := F29.same W32
  have K34 := ((((Keep.refl h0 [a, r_heap, r_keys, r_places]).wr W20 (Or.inl (List.mem_of_getElem? (i := 3) rfl))).wr W27 (Or.inl (List.mem_of_getElem? (i := 3) rfl))).wr W32 (Or.inl (List.mem_of_getElem? (i := 0) rfl)))
  have E35 := (E30.wr W32)
  have F36 := ((F24.other W27 (Or.inl ne11)).other W32 (Or.inr (sn_GainQueue_heap_count hw)))
  have F37 := (((F4.other W20 (Or.inl ne11)).other W27 (Or.inl ne11)).other W32 (Or.inr (sn_GainQueue_keys_count hw)))
  have F38 := ((F23.other W27 (Or.inl ne11)).other W32 (Or.inr (sn_GainQueue_places_count hw)))
  have V39 := ((V25.other W27 ne13).other W32 (Ne.symm ne9))
  have V40 := (((V7.other W20 ne14).other W27 ne14).other W32 (Ne.symm ne10))
  have V41 := (V28.other W32 (Ne.symm ne11))
  exact r_void A rfl d4_33 (by decide) (by decide) (⟨rfl, K34, ⟨E35, F33, F36, F37, F38, V39, V40, V41, ne9, ne10, ne11, ne12, ne13, ne14, ge15, ge16, ge17, ge18⟩⟩)
set_option maxRecDepth 65536 in
set_option maxHeartbeats 40000000 in
theorem gq_before33 (l : Launch) (Z : State) (a0 : Array Value) (hw : ∀ d ∈ tables_1, d.before a0 Z = true) (n0 : Nat) (h0 : Heap) (Z0 : n0 ≤ h0.size) (a r_heap r_keys r_places : Addr) (x0 : Int64) (x1 : Int64) (l_heap : List Value) (l_places : List Value) (H : GQ Z n0 h0 a r_heap r_keys r_places (2 : Int32) l_heap [.long (0 : Int64), .long x0, .long x1] l_places) (hk : ¬ x0 < x1) :
    Met l Z n0 y10_before prog_22_method_12_code 7 (Option.some Jvm.ClassFile.FieldType.boolean) ({ frames := 0, cells := 0, slots := 0, locals := 0 } : Room) #[(.ref a), (.int (2 : Int32)), (.int (1 : Int32))] h0 (fun v h => v = some (.int (0 : Int32)) ∧ Keep h0 h [a, r_heap, r_keys, r_places] ∧ GQ Z n0 h a r_heap r_keys r_places (2 : Int32) l_heap [.long (0 : Int64), .long x0, .long x1] l_places) := by
  refine met_intro (own := c1_GainQueue) (plainFor_of_name pn_com_example_kithgraph_kithgraph_cluster_GainQueue) rfl Z0 ?_
  intro p e s m below meth c T A hnm
  refine Wp.cast (g' := mkF m 0 #[rv a, iv 2, iv 1, U0, U0, U0, U0] []) (by first | (simp [entryFrame, mkF, argsToLocals, Value.category, maxLocals, jv, S2, U0, iv, rv]; done) | rfl) ?_
  obtain ⟨E1, F2, F3, F4, F5, V6, V7, V8, ne9, ne10, ne11, ne12, ne13, ne14, ge15, ge16, ge17, ge18⟩ := H
  refine s_aloadN (pc' := 1) A d12_0 rfl rfl rfl ?_
  refine s_getfield (pc' := 4) (host := "") A (Or.inl (w15 hw)) Via.refl F4 d12_1 rfl fun T A => ?_
  refine s_iloadN (pc' := 5) A d12_4 rfl rfl ?_
  refine s_laload (pc' := 6) (i := 2) (v := (.long x1)) A V7 (by decide) rfl d12_5 rfl ?_
  refine s_lstoreN (pc' := 7) (Ls' := #[rv a, iv 2, iv 1, jv x1, S2, U0, U0]) A d12_6 rfl rfl ?_
  refine s_aloadN (pc' := 8) A d12_7 rfl rfl rfl ?_
  refine s_getfield (pc' := 11) (host := "") A (Or.inl (w15 hw)) Via.refl F4 d12_8 rfl fun T A => ?_
  refine s_iloadN (pc' := 12) A d12_11 rfl rfl ?_
  refine s_laload (pc' := 13) (i := 1) (v := (.long x0)) A V7 (by decide) rfl d12_12 rfl ?_
  refine s_lstore (pc' := 15) (Ls' := #[rv a, iv 2, iv 1, jv x1, S2, jv x0, S2]) A d12_13 rfl rfl ?_
  refine s_lloadN (pc' := 16) A d12_15 rfl rfl ?_
  refine s_lload (pc' := 18) A d12_16 rfl rfl ?_
  refine s_lcmp (pc' := 19) A d12_18 rfl ?_
  refine s_ifN (pc' := 22) A d12_19 rfl ((if0 _ _).trans (flt (fun q => hk ((lw_gt x1 x0).1 q))).2.2.1) ?_
  refine s_lloadN (pc' := 23) A d12_22 rfl rfl ?_
  refine s_lload (pc' := 25) A d12_23 rfl rfl ?_
  refine s_lcmp (pc' := 26) A d12_25 rfl ?_
  by_cases hc26_1 : x1 = x0
  ·
    refine s_ifN (pc' := 29) A d12_26 rfl ((if0 _ _).trans (teq ((lw_eq x1 x0).2 hc26_1)).2) ?_
    refine s_iloadN (pc' := 30) A d12_29 rfl rfl ?_
    refine s_iloadN (pc' := 31) A d12_30 rfl rfl ?_
    refine s_icmpY (pc' := 38) A d12_31 (by decide) (by decide) (by decide) ?_
    refine s_iconst (pc' := 39) (z := (0 : Int32)) A d12_38 rfl (by decide) ?_
    exact r_bool A rfl (by decide) d12_39 (by decide) (by decide) (⟨rfl, (Keep.refl h0 [a, r_heap, r_keys, r_places]), ⟨E1, F2, F3, F4, F5, V6, V7, V8, ne9, ne10, ne11, ne12, ne13, ne14, ge15, ge16, ge17, ge18⟩⟩)
  ·
    refine s_ifY (pc' := 38) A d12_26 ((if0 _ _).trans (feq (fun q => hc26_1 ((lw_eq x1 x0).1 q))).2) (by decide) (by decide) ?_
    refine s_iconst (pc' := 39) (z := (0 : Int32)) A d12_38 rfl (by decide) ?_
    exact r_bool A rfl (by decide) d12_39 (by decide) (by decide) (⟨rfl, (Keep.refl h0 [a, r_heap, r_keys, r_places]), ⟨E1, F2, F3, F4, F5, V6, V7, V8, ne9, ne10, ne11, ne12, ne13, ne14, ge15, ge16, ge17, ge18⟩⟩)
set_option maxRecDepth 65536 in
set_option maxHeartbeats 40000000 in
theorem gq_set34 (l : Launch) (Z : State) (a0 : Array Value) (hw : ∀ d ∈ tables_1, d.before a0 Z = true) (n0 : Nat) (h0 : Heap) (Z0 : n0 ≤ h0.size) (a r_heap r_keys r_places : Addr)  (l_keys : List Value) (H : GQ Z n0 h0 a r_heap r_keys r_places (2 : Int32) [.int (1 : Int32), .int (2 : Int32), .int (0 : Int32)] l_keys [.int (-1 : Int32), .int (0 : Int32), .int (1 : Int32)]) :
    Met l Z n0 y5_set prog_22_method_11_code 3 (Option.none : Option Jvm.ClassFile.FieldType) ({ frames := 0, cells := 0, slots := 0, locals := 0 } : Room) #[(.ref a), (.int (1 : Int32)), (.int (2 : Int32))] h0 (fun v h => v = none ∧ Keep h0 h [a, r_heap, r_keys, r_places] ∧ GQ Z n0 h a r_heap r_keys r_places (2 : Int32) [.int (1 : Int32), .int (2 : Int32), .int (0 : Int32)] l_keys [.int (-1 : Int32), .int (0 : Int32), .int (1 : Int32)]) := by
  refine met_intro (own := c1_GainQueue) (plainFor_of_name pn_com_example_kithgraph_kithgraph_cluster_GainQueue) rfl Z0 ?_
  intro p e s m below meth c T A hnm
  refine Wp.cast (g' := mkF m 0 #[rv a, iv 1, iv 2] []) (by first | (simp [entryFrame, mkF, argsToLocals, Value.category, maxLocals, jv, S2, U0, iv, rv]; done) | rfl) ?_
  obtain ⟨E1, F2, F3, F4, F5, V6, V7, V8, ne9, ne10, ne11, ne12, ne13, ne14, ge15, ge16, ge17, ge18⟩ := H
  refine s_aloadN (pc' := 1) A d9_0 rfl rfl rfl ?_
  refine s_getfield (pc' := 4) (host := "") A (Or.inl (w12 hw)) Via.refl F3 d9_1 rfl fun T A => ?_
  refine s_iloadN (pc' := 5) A d9_4 rfl rfl ?_
  refine s_iloadN (pc' := 6) A d9_5 rfl rfl ?_
  refine s_iastore (pc' := 7) (i := 1) A V6 (by decide) (Nat.le_of_ble_eq_true rfl) ge16 d9_6 rfl fun T h19 A W20 V21 => ?_
  have V21 : AA Z h19 r_heap .int [.int (1 : Int32), .int (2 : Int32), .int (0 : Int32)] := V21
  refine s_aloadN (pc' := 8) A d9_7 rfl rfl rfl ?_
  have F22 := (F5.other W20 (Or.inl ne9))
  refine s_getfield (pc' := 11) (host := "") A (Or.inl (w17 hw)) Via.refl F22 d9_8 rfl fun T A => ?_
  refine s_iloadN (pc' := 12) A d9_11 rfl rfl ?_
  refine s_iloadN (pc' := 13) A d9_12 rfl rfl ?_
  have V23 := (V8.other W20 (Ne.symm ne13))
  refine s_iastore (pc' := 14) (i := 2) A V23 (by decide) (Nat.le_of_ble_eq_true rfl) ge18 d9_13 rfl fun T h24 A W25 V26 => ?_
  have V26 : AA Z h24 r_places .int [.int (-1 : Int32), .int (0 : Int32), .int (1 : Int32)] := V26
  have K27 := (((Keep.refl h0 [a, r_heap, r_keys, r_places]).wr W20 (Or.inl (List.mem_of_getElem? (i := 1) rfl))).wr W25 (Or.inl (List.mem_of_getElem? (i := 3) rfl)))
  have E28 := ((E1.wr W20).wr W25)
  have F29 := ((F2.other W20 (Or.inl ne9)).other W25 (Or.inl ne11))
  have F30 := ((F3.other W20 (Or.inl ne9)).other W25 (Or.inl ne11))
  have F31 := ((F4.other W20 (Or.inl ne9)).other W25 (Or.inl ne11))
  have F32 := (F22.other W25 (Or.inl ne11))
  have V33 := (V21.other W25 ne13)
  have V34 := ((V7.other W20 (Ne.symm ne12)).other W25 ne14)
  exact r_void A rfl d9_14 (by decide) (by decide) (⟨rfl, K27, ⟨E28, F29, F30, F31, F32, V33, V34, V26, ne9, ne10, ne11, ne12, ne13, ne14, ge15, ge16, ge17, ge18⟩⟩)
set_option maxRecDepth 65536 in
set_option maxHeartbeats 40000000 in
theorem gq_up32 (l : Launch) (Z : State) (a0 : Array Value) (hw : ∀ d ∈ tables_1, d.before a0 Z = true) (n0 : Nat) (h0 : Heap) (Z0 : n0 ≤ h0.size) (a r_heap r_keys r_places : Addr) (x0 : Int64) (x1 : Int64) (H : GQ Z n0 h0 a r_heap r_keys r_places (2 : Int32) [.int (1 : Int32), .int (2 : Int32), .int (0 : Int32)] [.long (0 : Int64), .long x0, .long x1] [.int (-1 : Int32), .int (0 : Int32), .int (1 : Int32)]) (hk : ¬ x0 < x1) :
    Met l Z n0 y6_up prog_22_method_9_code 4 (Option.none : Option Jvm.ClassFile.FieldType) ({ frames := 1, cells := 0, slots := 0, locals := 18 } : Room) #[(.ref a), (.int (1 : Int32))] h0 (fun v h => v = none ∧ Keep h0 h [a, r_heap, r_keys, r_places] ∧ GQ Z n0 h a r_heap r_keys r_places (2 : Int32) [.int (1 : Int32), .int (2 : Int32), .int (0 : Int32)] [.long (0 : Int64), .long x0, .long x1] [.int (-1 : Int32), .int (0 : Int32), .int (1 : Int32)]) := by
  refine met_intro (own := c1_GainQueue) (plainFor_of_name pn_com_example_kithgraph_kithgraph_cluster_GainQueue) rfl Z0 ?_
  intro p e s m below meth c T A hnm
  refine Wp.cast (g' := mkF m 0 #[rv a, iv 1, U0, U0] []) (by first | (simp [entryFrame, mkF, argsToLocals, Value.category, maxLocals, jv, S2, U0, iv, rv]; done) | rfl) ?_
  obtain ⟨E1, F2, F3, F4, F5, V6, V7, V8, ne9, ne10, ne11, ne12, ne13, ne14, ge15, ge16, ge17, ge18⟩ := H
  refine s_aloadN (pc' := 1) A d8_0 rfl rfl rfl ?_
  refine s_getfield (pc' := 4) (host := "") A (Or.inl (w12 hw)) Via.refl F3 d8_1 rfl fun T A => ?_
  refine s_iloadN (pc' := 5) A d8_4 rfl rfl ?_
  refine s_iaload (pc' := 6) (i := 1) (v := (.int (2 : Int32))) A V6 (by decide) rfl d8_5 rfl ?_
  refine s_istoreN (pc' := 7) (Ls' := #[rv a, iv 1, iv 2, U0]) A d8_6 rfl rfl ?_
  refine s_iloadN (pc' := 8) A d8_7 rfl rfl ?_
  refine s_ifN (pc' := 11) A d8_8 rfl (by decide) ?_
  refine s_iloadN (pc' := 12) A d8_11 rfl rfl ?_
  refine s_iconst (pc' := 13) (z := (1 : Int32)) A d8_12 rfl (by decide) ?_
  refine s_isub (pc' := 14) (z := (0 : Int32)) A d8_13 rfl (by decide) ?_
  refine s_iconst (pc' := 15) (z := (2 : Int32)) A d8_14 rfl (by decide) ?_
  refine s_idiv (pc' := 16) (z := (0 : Int32)) A d8_15 rfl (by decide) (by decide) ?_
  refine s_istoreN (pc' := 17) (Ls' := #[rv a, iv 1, iv 2, iv 0]) A d8_16 rfl rfl ?_
  refine s_aloadN (pc' := 18) A d8_17 rfl rfl rfl ?_
  refine s_iloadN (pc' := 19) A d8_18 rfl rfl ?_
  refine s_aloadN (pc' := 20) A d8_19 rfl rfl rfl ?_
  refine s_getfield (pc' := 23) (host := "") A (Or.inl (w12 hw)) Via.refl F3 d8_20 rfl fun T A => ?_
  refine s_iloadN (pc' := 24) A d8_23 rfl rfl ?_
  refine s_iaload (pc' := 25) (i := 0) (v := (.int (1 : Int32))) A V6 (by decide) rfl d8_24 rfl ?_
  refine s_private (pc' := 28) (y := y10_before) (argsL := [(.int (2 : Int32)), (.int (1 : Int32))]) (rest := []) A E1 (gq_before33 l Z a0 hw n0 h0 A.size a r_heap r_keys r_places x0 x1 [.int (1 : Int32), .int (2 : Int32), .int (0 : Int32)] [.int (-1 : Int32), .int (0 : Int32), .int (1 : Int32)] ⟨E1, F2, F3, F4, F5, V6, V7, V8, ne9, ne10, ne11, ne12, ne13, ne14, ge15, ge16, ge17, ge18⟩ hk) (w63 hw) (w64 hw) (w1 hw) (w65 hw) (w2 hw) (w66 hw) (by decide) pd__II_Z rfl (W := 0) (by decide) (by decide) (Nat.le_of_eq rfl) (by decide) (by decide) rfl rfl d8_25 rfl fun T h21 v22 A Q23 => ?_
  obtain ⟨rfl, K19, H20⟩ := Q23
  obtain ⟨E24, F25, F26, F27, F28, V29, V30, V31, ne32, ne33, ne34, ne35, ne36, ne37, ge38, ge39, ge40, ge41⟩ := H20
  refine Wp.stk (st' := [(.int (0 : Int32))]) rfl ?_
  refine s_ifN (pc' := 31) A d8_28 rfl (by decide) ?_
  refine s_goto (pc' := 50) A d8_31 (by decide) (by decide) ?_
  refine s_aloadN (pc' := 51) A d8_50 rfl rfl rfl ?_
  refine s_iloadN (pc' := 52) A d8_51 rfl rfl ?_
  refine s_iloadN (pc' := 53) A d8_52 rfl rfl ?_
  refine s_private (pc' := 56) (y := y5_set) (argsL := [(.int (1 : Int32)), (.int (2 : Int32))]) (rest := []) A E24 (gq_set34 l Z a0 hw n0 h21 A.size a r_heap r_keys r_places [.long (0 : Int64), .long x0, .long x1] ⟨E24, F25, F26, F27, F28, V29, V30, V31, ne32, ne33, ne34, ne35, ne36, ne37, ge38, ge39, ge40, ge41⟩) (w49 hw) (w50 hw) (w1 hw) (w51 hw) (w2 hw) (w52 hw) (by decide) pd__II_V rfl (W := 0) (by decide) (by decide) (Nat.le_of_eq rfl) (by decide) (by decide) rfl rfl d8_53 rfl fun T h44 v45 A Q46 => ?_
  obtain ⟨rfl, K42, H43⟩ := Q46
  obtain ⟨E47, F48, F49, F50, F51, V52, V53, V54, ne55, ne56, ne57, ne58, ne59, ne60, ge61, ge62, ge63, ge64⟩ := H43
  refine Wp.stk (st' := []) rfl ?_
  have K65 := (((Keep.refl h0 [a, r_heap, r_keys, r_places]).trans K19 (allS (Or.inl (List.mem_of_getElem? (i := 0) rfl)) (allS (Or.inl (List.mem_of_getElem? (i := 1) rfl)) (allS (Or.inl (List.mem_of_getElem? (i := 2) rfl)) (allS (Or.inl (List.mem_of_getElem? (i := 3) rfl)) all0))))).trans K42 (allS (Or.inl (List.mem_of_getElem? (i := 0) rfl)) (allS (Or.inl (List.mem_of_getElem? (i := 1) rfl)) (allS (Or.inl (List.mem_of_getElem? (i := 2) rfl)) (allS (Or.inl (List.mem_of_getElem? (i := 3) rfl)) all0)))))
  exact r_void A rfl d8_56 (by decide) (by decide) (⟨rfl, K65, ⟨E47, F48, F49, F50, F51, V52, V53, V54, ne55, ne56, ne57, ne58, ne59, ne60, ge61, ge62, ge63, ge64⟩⟩)
set_option maxRecDepth 65536 in
set_option maxHeartbeats 40000000 in
theorem gq_put31 (l : Launch) (Z : State) (a0 : Array Value) (hw : ∀ d ∈ tables_1, d.before a0 Z = true) (n0 : Nat) (h0 : Heap) (Z0 : n0 ≤ h0.size) (a r_heap r_keys r_places : Addr) (x0 : Int64) (x1 : Int64) (H : GQ Z n0 h0 a r_heap r_keys r_places (1 : Int32) [.int (1 : Int32), .int (0 : Int32), .int (0 : Int32)] [.long (0 : Int64), .long x0, .long (0 : Int64)] [.int (-1 : Int32), .int (0 : Int32), .int (-1 : Int32)]) (hk : ¬ x0 < x1) :
    Met l Z n0 y7_put prog_22_method_4_code 6 (Option.none : Option Jvm.ClassFile.FieldType) ({ frames := 2, cells := 0, slots := 0, locals := 33 } : Room) #[(.ref a), (.int (2 : Int32)), (.long x1)] h0 (fun v h => v = none ∧ Keep h0 h [a, r_heap, r_keys, r_places] ∧ GQ Z n0 h a r_heap r_keys r_places (2 : Int32) [.int (1 : Int32), .int (2 : Int32), .int (0 : Int32)] [.long (0 : Int64), .long x0, .long x1] [.int (-1 : Int32), .int (0 : Int32), .int (1 : Int32)]) := by
  refine met_intro (own := c1_GainQueue) (plainFor_of_name pn_com_example_kithgraph_kithgraph_cluster_GainQueue) rfl Z0 ?_
  intro p e s m below meth c T A hnm
  refine Wp.cast (g' := mkF m 0 #[rv a, iv 2, jv x1, S2, U0, U0] []) (by first | (simp [entryFrame, mkF, argsToLocals, Value.category, maxLocals, jv, S2, U0, iv, rv]; done) | rfl) ?_
  obtain ⟨E1, F2, F3, F4, F5, V6, V7, V8, ne9, ne10, ne11, ne12, ne13, ne14, ge15, ge16, ge17, ge18⟩ := H
  refine s_aloadN (pc' := 1) A d7_0 rfl rfl rfl ?_
  refine s_iloadN (pc' := 2) A d7_1 rfl rfl ?_
  refine s_virtual (pc' := 5) (y := y4_contains) (argsL := [(.int (2 : Int32))]) (rest := []) (z := y4_contains) A E1 (gq_contains25 l Z a0 hw n0 h0 A.size a r_heap r_keys r_places [.int (1 : Int32), .int (0 : Int32), .int (0 : Int32)] [.long (0 : Int64), .long x0, .long (0 : Int64)] ⟨E1, F2, F3, F4, F5, V6, V7, V8, ne9, ne10, ne11, ne12, ne13, ne14, ge15, ge16, ge17, ge18⟩) (w44 hw) (w34 hw) (nf_same (C := "") (w36 hw)) (w36 hw) (w35 hw) (w2 hw) (w37 hw) (by decide) pd__I_Z rfl (W := 0) (by decide) (by decide) (Nat.le_of_eq rfl) (by decide) (by decide) rfl rfl d7_2 rfl fun T h21 v22 A Q23 => ?_
  obtain ⟨rfl, K19, H20⟩ := Q23
  obtain ⟨E24, F25, F26, F27, F28, V29, V30, V31, ne32, ne33, ne34, ne35, ne36, ne37, ge38, ge39, ge40, ge41⟩ := H20
  refine Wp.stk (st' := [(.int (0 : Int32))]) rfl ?_
  refine s_ifY (pc' := 56) A d7_5 (by decide) (by decide) (by decide) ?_
  refine s_aloadN (pc' := 57) A d7_56 rfl rfl rfl ?_
  refine s_getfield (pc' := 60) (host := "") A (Or.inl (w15 hw)) Via.refl F27 d7_57 rfl fun T A => ?_
  refine s_iloadN (pc' := 61) A d7_60 rfl rfl ?_
  refine s_lloadN (pc' := 62) A d7_61 rfl rfl ?_
  refine s_lastore (pc' := 63) (i := 2) A V30 (by decide) (Nat.le_of_ble_eq_true rfl) ge40 d7_62 rfl fun T h42 A W43 V44 => ?_
  have V44 : AA Z h42 r_keys .long [.long (0 : Int64), .long x0, .long x1] := V44
  refine s_aloadN (pc' := 64) A d7_63 rfl rfl rfl ?_
  have F45 := (F26.other W43 (Or.inl ne33))
  refine s_getfield (pc' := 67) (host := "") A (Or.inl (w12 hw)) Via.refl F45 d7_64 rfl fun T A => ?_
  refine s_aloadN (pc' := 68) A d7_67 rfl rfl rfl ?_
  have F46 := (F25.other W43 (Or.inl ne33))
  refine s_getfield (pc' := 71) (host := "") A (Or.inl (w9 hw)) Via.refl F46 d7_68 rfl fun T A => ?_
  refine s_iloadN (pc' := 72) A d7_71 rfl rfl ?_
  have V47 := (V29.other W43 ne35)
  refine s_iastore (pc' := 73) (i := 1) A V47 (by decide) (Nat.le_of_ble_eq_true rfl) ge39 d7_72 rfl fun T h48 A W49 V50 => ?_
  have V50 : AA Z h48 r_heap .int [.int (1 : Int32), .int (2 : Int32), .int (0 : Int32)] := V50
  refine s_aloadN (pc' := 74) A d7_73 rfl rfl rfl ?_
  have F51 := ((F28.other W43 (Or.inl ne33)).other W49 (Or.inl ne32))
  refine s_getfield (pc' := 77) (host := "") A (Or.inl (w17 hw)) Via.refl F51 d7_74 rfl fun T A => ?_
  refine s_iloadN (pc' := 78) A d7_77 rfl rfl ?_
  refine s_aloadN (pc' := 79) A d7_78 rfl rfl rfl ?_
  have F52 := (F46.other W49 (Or.inl ne32))
  refine s_getfield (pc' := 82) (host := "") A (Or.inl (w9 hw)) Via.refl F52 d7_79 rfl fun T A => ?_
  have V53 := ((V31.other W43 (Ne.symm ne37)).other W49 (Ne.symm ne36))
  refine s_iastore (pc' := 83) (i := 2) A V53 (by decide) (Nat.le_of_ble_eq_true rfl) ge41 d7_82 rfl fun T h54 A W55 V56 => ?_
  have V56 : AA Z h54 r_places .int [.int (-1 : Int32), .int (0 : Int32), .int (1 : Int32)] := V56
  refine s_aloadN (pc' := 84) A d7_83 rfl rfl rfl ?_
  refine s_dup (pc' := 85) A d7_84 rfl rfl ?_
  have F57 := (F52.other W55 (Or.inl ne34))
  refine s_getfield (pc' := 88) (host := "") A (Or.inl (w9 hw)) Via.refl F57 d7_85 rfl fun T A => ?_
  refine s_iconst (pc' := 89) (z := (1 : Int32)) A d7_88 rfl (by decide) ?_
  refine s_iadd (pc' := 90) (z := (2 : Int32)) A d7_89 rfl (by decide) ?_
  have E58 := (((E24.wr W43).wr W49).wr W55)
  refine s_putfield (pc' := 93) (host := "") A (Or.inl (w9 hw)) Via.refl F57 E58 (Or.inl (w10 hw)) (w1 hw) (ty := .int) (by decide) rfl rfl ge38 d7_90 rfl fun T h59 A W60 => ?_
  have F61 := F57.same W60
  refine s_aloadN (pc' := 94) A d7_93 rfl rfl rfl ?_
  refine s_aloadN (pc' := 95) A d7_94 rfl rfl rfl ?_
  refine s_getfield (pc' := 98) (host := "") A (Or.inl (w9 hw)) Via.refl F61 d7_95 rfl fun T A => ?_
  refine s_iconst (pc' := 99) (z := (1 : Int32)) A d7_98 rfl (by decide) ?_
  refine s_isub (pc' := 100) (z := (1 : Int32)) A d7_99 rfl (by decide) ?_
  have E62 := (E58.wr W60)
  have F63 := (((F45.other W49 (Or.inl ne32)).other W55 (Or.inl ne34)).other W60 (Or.inr (sn_GainQueue_heap_count hw)))
  have F64 := ((((F27.other W43 (Or.inl ne33)).other W49 (Or.inl ne32)).other W55 (Or.inl ne34)).other W60 (Or.inr (sn_GainQueue_keys_count hw)))
  have F65 := ((F51.other W55 (Or.inl ne34)).other W60 (Or.inr (sn_GainQueue_places_count hw)))
  have V66 := ((V50.other W55 ne36).other W60 (Ne.symm ne32))
  have V67 := (((V44.other W49 (Ne.symm ne35)).other W55 ne37).other W60 (Ne.symm ne33))
  have V68 := (V56.other W60 (Ne.symm ne34))
  refine s_private (pc' := 103) (y := y6_up) (argsL := [(.int (1 : Int32))]) (rest := []) A E62 (gq_up32 l Z a0 hw n0 h59 A.size a r_heap r_keys r_places x0 x1 ⟨E62, F61, F63, F64, F65, V66, V67, V68, ne32, ne33, ne34, ne35, ne36, ne37, ge38, ge39, ge40, ge41⟩ hk) (w45 hw) (w46 hw) (w1 hw) (w47 hw) (w2 hw) (w48 hw) (by decide) pd__I_V rfl (W := 0) (by decide) (by decide) (Nat.le_of_eq rfl) (by decide) (by decide) rfl rfl d7_100 rfl fun T h71 v72 A Q73 => ?_
  obtain ⟨rfl, K69, H70⟩ := Q73
  obtain ⟨E74, F75, F76, F77, F78, V79, V80, V81, ne82, ne83, ne84, ne85, ne86, ne87, ge88, ge89, ge90, ge91⟩ := H70
  refine Wp.stk (st' := []) rfl ?_
  have K92 := (((((((Keep.refl h0 [a, r_heap, r_keys, r_places]).trans K19 (allS (Or.inl (List.mem_of_getElem? (i := 0) rfl)) (allS (Or.inl (List.mem_of_getElem? (i := 1) rfl)) (allS (Or.inl (List.mem_of_getElem? (i := 2) rfl)) (allS (Or.inl (List.mem_of_getElem? (i := 3) rfl)) all0))))).wr W43 (Or.inl (List.mem_of_getElem? (i := 2) rfl))).wr W49 (Or.inl (List.mem_of_getElem? (i := 1) rfl))).wr W55 (Or.inl (List.mem_of_getElem? (i := 3) rfl))).wr W60 (Or.inl (List.mem_of_getElem? (i := 0) rfl))).trans K69 (allS (Or.inl (List.mem_of_getElem? (i := 0) rfl)) (allS (Or.inl (List.mem_of_getElem? (i := 1) rfl)) (allS (Or.inl (List.mem_of_getElem? (i := 2) rfl)) (allS (Or.inl (List.mem_of_getElem? (i := 3) rfl)) all0)))))
  exact r_void A rfl d7_103 (by decide) (by decide) (⟨rfl, K92, ⟨E74, F75, F76, F77, F78, V79, V80, V81, ne82, ne83, ne84, ne85, ne86, ne87, ge88, ge89, ge90, ge91⟩⟩)
set_option maxRecDepth 65536 in
set_option maxHeartbeats 40000000 in
theorem gq_clear35 (l : Launch) (Z : State) (a0 : Array Value) (hw : ∀ d ∈ tables_1, d.before a0 Z = true) (n0 : Nat) (h0 : Heap) (Z0 : n0 ≤ h0.size) (a r_heap r_keys r_places : Addr)  (l_keys : List Value) (H : GQ Z n0 h0 a r_heap r_keys r_places (2 : Int32) [.int (1 : Int32), .int (2 : Int32), .int (0 : Int32)] l_keys [.int (-1 : Int32), .int (0 : Int32), .int (1 : Int32)]) :
    Met l Z n0 y2_clear prog_22_method_8_code 2 (Option.none : Option Jvm.ClassFile.FieldType) ({ frames := 0, cells := 0, slots := 0, locals := 0 } : Room) #[(.ref a)] h0 (fun v h => v = none ∧ Keep h0 h [a, r_heap, r_keys, r_places] ∧ GQ Z n0 h a r_heap r_keys r_places (0 : Int32) [.int (1 : Int32), .int (2 : Int32), .int (0 : Int32)] l_keys [.int (-1 : Int32), .int (-1 : Int32), .int (-1 : Int32)]) := by
  refine met_intro (own := c1_GainQueue) (plainFor_of_name pn_com_example_kithgraph_kithgraph_cluster_GainQueue) rfl Z0 ?_
  intro p e s m below meth c T A hnm
  refine Wp.cast (g' := mkF m 0 #[rv a, U0] []) (by first | (simp [entryFrame, mkF, argsToLocals, Value.category, maxLocals, jv, S2, U0, iv, rv]; done) | rfl) ?_
  obtain ⟨E1, F2, F3, F4, F5, V6, V7, V8, ne9, ne10, ne11, ne12, ne13, ne14, ge15, ge16, ge17, ge18⟩ := H
  refine s_iconst (pc' := 1) (z := (0 : Int32)) A d4_0 rfl (by decide) ?_
  refine s_istoreN (pc' := 2) (Ls' := #[rv a, iv 0]) A d4_1 rfl rfl ?_
  refine s_iloadN (pc' := 3) A d4_2 rfl rfl ?_
  refine s_aloadN (pc' := 4) A d4_3 rfl rfl rfl ?_
  refine s_getfield (pc' := 7) (host := "") A (Or.inl (w9 hw)) Via.refl F2 d4_4 rfl fun T A => ?_
  refine s_icmpN (pc' := 10) A d4_7 rfl (by decide) ?_
  refine s_aloadN (pc' := 11) A d4_10 rfl rfl rfl ?_
  refine s_getfield (pc' := 14) (host := "") A (Or.inl (w17 hw)) Via.refl F5 d4_11 rfl fun T A => ?_
  refine s_aloadN (pc' := 15) A d4_14 rfl rfl rfl ?_
  refine s_getfield (pc' := 18) (host := "") A (Or.inl (w12 hw)) Via.refl F3 d4_15 rfl fun T A => ?_
  refine s_iloadN (pc' := 19) A d4_18 rfl rfl ?_
  refine s_iaload (pc' := 20) (i := 0) (v := (.int (1 : Int32))) A V6 (by decide) rfl d4_19 rfl ?_
  refine s_iconst (pc' := 21) (z := (-1 : Int32)) A d4_20 rfl (by decide) ?_
  refine s_iastore (pc' := 22) (i := 1) A V8 (by decide) (Nat.le_of_ble_eq_true rfl) ge18 d4_21 rfl fun T h19 A W20 V21 => ?_
  have V21 : AA Z h19 r_places .int [.int (-1 : Int32), .int (-1 : Int32), .int (1 : Int32)] := V21
  refine s_iinc (pc' := 25) (z := (1 : Int32)) (Ls' := #[rv a, iv 1]) A d4_22 rfl rfl (by decide) rfl ?_
  refine s_goto (pc' := 2) A d4_25 (by decide) (by decide) ?_
  refine s_iloadN (pc' := 3) A d4_2 rfl rfl ?_
  refine s_aloadN (pc' := 4) A d4_3 rfl rfl rfl ?_
  have F22 := (F2.other W20 (Or.inl ne11))
  refine s_getfield (pc' := 7) (host := "") A (Or.inl (w9 hw)) Via.refl F22 d4_4 rfl fun T A => ?_
  refine s_icmpN (pc' := 10) A d4_7 rfl (by decide) ?_
  refine s_aloadN (pc' := 11) A d4_10 rfl rfl rfl ?_
  have F23 := (F5.other W20 (Or.inl ne11))
  refine s_getfield (pc' := 14) (host := "") A (Or.inl (w17 hw)) Via.refl F23 d4_11 rfl fun T A => ?_
  refine s_aloadN (pc' := 15) A d4_14 rfl rfl rfl ?_
  have F24 := (F3.other W20 (Or.inl ne11))
  refine s_getfield (pc' := 18) (host := "") A (Or.inl (w12 hw)) Via.refl F24 d4_15 rfl fun T A => ?_
  refine s_iloadN (pc' := 19) A d4_18 rfl rfl ?_
  have V25 := (V6.other W20 ne13)
  refine s_iaload (pc' := 20) (i := 1) (v := (.int (2 : Int32))) A V25 (by decide) rfl d4_19 rfl ?_
  refine s_iconst (pc' := 21) (z := (-1 : Int32)) A d4_20 rfl (by decide) ?_
  refine s_iastore (pc' := 22) (i := 2) A V21 (by decide) (Nat.le_of_ble_eq_true rfl) ge18 d4_21 rfl fun T h26 A W27 V28 => ?_
  have V28 : AA Z h26 r_places .int [.int (-1 : Int32), .int (-1 : Int32), .int (-1 : Int32)] := V28
  refine s_iinc (pc' := 25) (z := (2 : Int32)) (Ls' := #[rv a, iv 2]) A d4_22 rfl rfl (by decide) rfl ?_
  refine s_goto (pc' := 2) A d4_25 (by decide) (by decide) ?_
  refine s_iloadN (pc' := 3) A d4_2 rfl rfl ?_
  refine s_aloadN (pc' := 4) A d4_3 rfl rfl rfl ?_
  have F29 := (F22.other W27 (Or.inl ne11))
  refine s_getfield (pc' := 7) (host := "") A (Or.inl (w9 hw)) Via.refl F29 d4_4 rfl fun T A => ?_
  refine s_icmpY (pc' := 28) A d4_7 (by decide) (by decide) (by decide) ?_
  refine s_aloadN (pc' := 29) A d4_28 rfl rfl rfl ?_
  refine s_iconst (pc' := 30) (z := (0 : Int32)) A d4_29 rfl (by decide) ?_
  have E30 := ((E1.wr W20).wr W27)
  refine s_putfield (pc' := 33) (host := "") A (Or.inl (w9 hw)) Via.refl F29 E30 (Or.inl (w10 hw)) (w1 hw) (ty := .int) (by decide) rfl rfl ge15 d4_30 rfl fun T h31 A W32 => ?_
  have F33 := F29.same W32
  have K34 := ((((Keep.refl h0 [a, r_heap, r_keys, r_places]).wr W20 (Or.inl (List.mem_of_getElem? (i := 3) rfl))).wr W27 (Or.inl (List.mem_of_getElem? (i := 3) rfl))).wr W32 (Or.inl (List.mem_of_getElem? (i := 0) rfl)))
  have E35 := (E30.wr W32)
  have F36 := ((F24.other W27 (Or.inl ne11)).other W32 (Or.inr (sn_GainQueue_heap_count hw)))
  have F37 := (((F4.other W20 (Or.inl ne11)).other W27 (Or.inl ne11)).other W32 (Or.inr (sn_GainQueue_keys_count hw)))
  have F38 := ((F23.other W27 (Or.inl ne11)).other W32 (Or.inr (sn_GainQueue_places_count hw)))
  have V39 := ((V25.other W27 ne13).other W32 (Ne.symm ne9))
  have V40 := (((V7.other W20 ne14).other W27 ne14).other W32 (Ne.symm ne10))
  have V41 := (V28.other W32 (Ne.symm ne11))
  exact r_void A rfl d4_33 (by decide) (by decide) (⟨rfl, K34, ⟨E35, F33, F36, F37, F38, V39, V40, V41, ne9, ne10, ne11, ne12, ne13, ne14, ge15, ge16, ge17, ge18⟩⟩)
set_option maxRecDepth 65536 in
set_option maxHeartbeats 40000000 in
theorem gq_clear36 (l : Launch) (Z : State) (a0 : Array Value) (hw : ∀ d ∈ tables_1, d.before a0 Z = true) (n0 : Nat) (h0 : Heap) (Z0 : n0 ≤ h0.size) (a r_heap r_keys r_places : Addr)  (l_keys : List Value) (H : GQ Z n0 h0 a r_heap r_keys r_places (1 : Int32) [.int (0 : Int32), .int (0 : Int32), .int (0 : Int32)] l_keys [.int (0 : Int32), .int (-1 : Int32), .int (-1 : Int32)]) :
    Met l Z n0 y2_clear prog_22_method_8_code 2 (Option.none : Option Jvm.ClassFile.FieldType) ({ frames := 0, cells := 0, slots := 0, locals := 0 } : Room) #[(.ref a)] h0 (fun v h => v = none ∧ Keep h0 h [a, r_heap, r_keys, r_places] ∧ GQ Z n0 h a r_heap r_keys r_places (0 : Int32) [.int (0 : Int32), .int (0 : Int32), .int (0 : Int32)] l_keys [.int (-1 : Int32), .int (-1 : Int32), .int (-1 : Int32)]) := by
  refine met_intro (own := c1_GainQueue) (plainFor_of_name pn_com_example_kithgraph_kithgraph_cluster_GainQueue) rfl Z0 ?_
  intro p e s m below meth c T A hnm
  refine Wp.cast (g' := mkF m 0 #[rv a, U0] []) (by first | (simp [entryFrame, mkF, argsToLocals, Value.category, maxLocals, jv, S2, U0, iv, rv]; done) | rfl) ?_
  obtain ⟨E1, F2, F3, F4, F5, V6, V7, V8, ne9, ne10, ne11, ne12, ne13, ne14, ge15, ge16, ge17, ge18⟩ := H
  refine s_iconst (pc' := 1) (z := (0 : Int32)) A d4_0 rfl (by decide) ?_
  refine s_istoreN (pc' := 2) (Ls' := #[rv a, iv 0]) A d4_1 rfl rfl ?_
  refine s_iloadN (pc' := 3) A d4_2 rfl rfl ?_
  refine s_aloadN (pc' := 4) A d4_3 rfl rfl rfl ?_
  refine s_getfield (pc' := 7) (host := "") A (Or.inl (w9 hw)) Via.refl F2 d4_4 rfl fun T A => ?_
  refine s_icmpN (pc' := 10) A d4_7 rfl (by decide) ?_
  refine s_aloadN (pc' := 11) A d4_10 rfl rfl rfl ?_
  refine s_getfield (pc' := 14) (host := "") A (Or.inl (w17 hw)) Via.refl F5 d4_11 rfl fun T A => ?_
  refine s_aloadN (pc' := 15) A d4_14 rfl rfl rfl ?_
  refine s_getfield (pc' := 18) (host := "") A (Or.inl (w12 hw)) Via.refl F3 d4_15 rfl fun T A => ?_
  refine s_iloadN (pc' := 19) A d4_18 rfl rfl ?_
  refine s_iaload (pc' := 20) (i := 0) (v := (.int (0 : Int32))) A V6 (by decide) rfl d4_19 rfl ?_
  refine s_iconst (pc' := 21) (z := (-1 : Int32)) A d4_20 rfl (by decide) ?_
  refine s_iastore (pc' := 22) (i := 0) A V8 (by decide) (Nat.le_of_ble_eq_true rfl) ge18 d4_21 rfl fun T h19 A W20 V21 => ?_
  have V21 : AA Z h19 r_places .int [.int (-1 : Int32), .int (-1 : Int32), .int (-1 : Int32)] := V21
  refine s_iinc (pc' := 25) (z := (1 : Int32)) (Ls' := #[rv a, iv 1]) A d4_22 rfl rfl (by decide) rfl ?_
  refine s_goto (pc' := 2) A d4_25 (by decide) (by decide) ?_
  refine s_iloadN (pc' := 3) A d4_2 rfl rfl ?_
  refine s_aloadN (pc' := 4) A d4_3 rfl rfl rfl ?_
  have F22 := (F2.other W20 (Or.inl ne11))
  refine s_getfield (pc' := 7) (host := "") A (Or.inl (w9 hw)) Via.refl F22 d4_4 rfl fun T A => ?_
  refine s_icmpY (pc' := 28) A d4_7 (by decide) (by decide) (by decide) ?_
  refine s_aloadN (pc' := 29) A d4_28 rfl rfl rfl ?_
  refine s_iconst (pc' := 30) (z := (0 : Int32)) A d4_29 rfl (by decide) ?_
  have E23 := (E1.wr W20)
  refine s_putfield (pc' := 33) (host := "") A (Or.inl (w9 hw)) Via.refl F22 E23 (Or.inl (w10 hw)) (w1 hw) (ty := .int) (by decide) rfl rfl ge15 d4_30 rfl fun T h24 A W25 => ?_
  have F26 := F22.same W25
  have K27 := (((Keep.refl h0 [a, r_heap, r_keys, r_places]).wr W20 (Or.inl (List.mem_of_getElem? (i := 3) rfl))).wr W25 (Or.inl (List.mem_of_getElem? (i := 0) rfl)))
  have E28 := (E23.wr W25)
  have F29 := ((F3.other W20 (Or.inl ne11)).other W25 (Or.inr (sn_GainQueue_heap_count hw)))
  have F30 := ((F4.other W20 (Or.inl ne11)).other W25 (Or.inr (sn_GainQueue_keys_count hw)))
  have F31 := ((F5.other W20 (Or.inl ne11)).other W25 (Or.inr (sn_GainQueue_places_count hw)))
  have V32 := ((V6.other W20 ne13).other W25 (Ne.symm ne9))
  have V33 := ((V7.other W20 ne14).other W25 (Ne.symm ne10))
  have V34 := (V21.other W25 (Ne.symm ne11))
  exact r_void A rfl d4_33 (by decide) (by decide) (⟨rfl, K27, ⟨E28, F26, F29, F30, F31, V32, V33, V34, ne9, ne10, ne11, ne12, ne13, ne14, ge15, ge16, ge17, ge18⟩⟩)
set_option maxRecDepth 65536 in
set_option maxHeartbeats 40000000 in
theorem gq_contains38 (l : Launch) (Z : State) (a0 : Array Value) (hw : ∀ d ∈ tables_1, d.before a0 Z = true) (n0 : Nat) (h0 : Heap) (Z0 : n0 ≤ h0.size) (a r_heap r_keys r_places : Addr)  (l_heap : List Value) (l_keys : List Value) (H : GQ Z n0 h0 a r_heap r_keys r_places (1 : Int32) l_heap l_keys [.int (0 : Int32), .int (-1 : Int32), .int (-1 : Int32)]) :
    Met l Z n0 y4_contains prog_22_method_3_code 2 (Option.some Jvm.ClassFile.FieldType.boolean) ({ frames := 0, cells := 0, slots := 0, locals := 0 } : Room) #[(.ref a), (.int (2 : Int32))] h0 (fun v h => v = some (.int (0 : Int32)) ∧ Keep h0 h [a, r_heap, r_keys, r_places] ∧ GQ Z n0 h a r_heap r_keys r_places (1 : Int32) l_heap l_keys [.int (0 : Int32), .int (-1 : Int32), .int (-1 : Int32)]) := by
  refine met_intro (own := c1_GainQueue) (plainFor_of_name pn_com_example_kithgraph_kithgraph_cluster_GainQueue) rfl Z0 ?_
  intro p e s m below meth c T A hnm
  refine Wp.cast (g' := mkF m 0 #[rv a, iv 2] []) (by first | (simp [entryFrame, mkF, argsToLocals, Value.category, maxLocals, jv, S2, U0, iv, rv]; done) | rfl) ?_
  obtain ⟨E1, F2, F3, F4, F5, V6, V7, V8, ne9, ne10, ne11, ne12, ne13, ne14, ge15, ge16, ge17, ge18⟩ := H
  refine s_aloadN (pc' := 1) A d6_0 rfl rfl rfl ?_
  refine s_getfield (pc' := 4) (host := "") A (Or.inl (w17 hw)) Via.refl F5 d6_1 rfl fun T A => ?_
  refine s_iloadN (pc' := 5) A d6_4 rfl rfl ?_
  refine s_iaload (pc' := 6) (i := 2) (v := (.int (-1 : Int32))) A V8 (by decide) rfl d6_5 rfl ?_
  refine s_iconst (pc' := 7) (z := (-1 : Int32)) A d6_6 rfl (by decide) ?_
  refine s_icmpY (pc' := 14) A d6_7 (by decide) (by decide) (by decide) ?_
  refine s_iconst (pc' := 15) (z := (0 : Int32)) A d6_14 rfl (by decide) ?_
  exact r_bool A rfl (by decide) d6_15 (by decide) (by decide) (⟨rfl, (Keep.refl h0 [a, r_heap, r_keys, r_places]), ⟨E1, F2, F3, F4, F5, V6, V7, V8, ne9, ne10, ne11, ne12, ne13, ne14, ge15, ge16, ge17, ge18⟩⟩)
set_option maxRecDepth 65536 in
set_option maxHeartbeats 40000000 in
theorem gq_before40 (l : Launch) (Z : State) (a0 : Array Value) (hw : ∀ d ∈ tables_1, d.before a0 Z = true) (n0 : Nat) (h0 : Heap) (Z0 : n0 ≤ h0.size) (a r_heap r_keys r_places : Addr) (x0 : Int64) (x1 : Int64) (l_heap : List Value) (l_places : List Value) (H : GQ Z n0 h0 a r_heap r_keys r_places (2 : Int32) l_heap [.long x0, .long (0 : Int64), .long x1] l_places) (hk : x0 < x1) :
    Met l Z n0 y10_before prog_22_method_12_code 7 (Option.some Jvm.ClassFile.FieldType.boolean) ({ frames := 0, cells := 0, slots := 0, locals := 0 } : Room) #[(.ref a), (.int (2 : Int32)), (.int (0 : Int32))] h0 (fun v h => v = some (.int (1 : Int32)) ∧ Keep h0 h [a, r_heap, r_keys, r_places] ∧ GQ Z n0 h a r_heap r_keys r_places (2 : Int32) l_heap [.long x0, .long (0 : Int64), .long x1] l_places) := by
  refine met_intro (own := c1_GainQueue) (plainFor_of_name pn_com_example_kithgraph_kithgraph_cluster_GainQueue) rfl Z0 ?_
  intro p e s m below meth c T A hnm
  refine Wp.cast (g' := mkF m 0 #[rv a, iv 2, iv 0, U0, U0, U0, U0] []) (by first | (simp [entryFrame, mkF, argsToLocals, Value.category, maxLocals, jv, S2, U0, iv, rv]; done) | rfl) ?_
  obtain ⟨E1, F2, F3, F4, F5, V6, V7, V8, ne9, ne10, ne11, ne12, ne13, ne14, ge15, ge16, ge17, ge18⟩ := H
  refine s_aloadN (pc' := 1) A d12_0 rfl rfl rfl ?_
  refine s_getfield (pc' := 4) (host := "") A (Or.inl (w15 hw)) Via.refl F4 d12_1 rfl fun T A => ?_
  refine s_iloadN (pc' := 5) A d12_4 rfl rfl ?_
  refine s_laload (pc' := 6) (i := 2) (v := (.long x1)) A V7 (by decide) rfl d12_5 rfl ?_
  refine s_lstoreN (pc' := 7) (Ls' := #[rv a, iv 2, iv 0, jv x1, S2, U0, U0]) A d12_6 rfl rfl ?_
  refine s_aloadN (pc' := 8) A d12_7 rfl rfl rfl ?_
  refine s_getfield (pc' := 11) (host := "") A (Or.inl (w15 hw)) Via.refl F4 d12_8 rfl fun T A => ?_
  refine s_iloadN (pc' := 12) A d12_11 rfl rfl ?_
  refine s_laload (pc' := 13) (i := 0) (v := (.long x0)) A V7 (by decide) rfl d12_12 rfl ?_
  refine s_lstore (pc' := 15) (Ls' := #[rv a, iv 2, iv 0, jv x1, S2, jv x0, S2]) A d12_13 rfl rfl ?_
  refine s_lloadN (pc' := 16) A d12_15 rfl rfl ?_
  refine s_lload (pc' := 18) A d12_16 rfl rfl ?_
  refine s_lcmp (pc' := 19) A d12_18 rfl ?_
  refine s_ifY (pc' := 34) A d12_19 ((if0 _ _).trans (tlt ((lw_gt x1 x0).2 hk)).2.2.1) (by decide) (by decide) ?_
  refine s_iconst (pc' := 35) (z := (1 : Int32)) A d12_34 rfl (by decide) ?_
  refine s_goto (pc' := 39) A d12_35 (by decide) (by decide) ?_
  exact r_bool A rfl (by decide) d12_39 (by decide) (by decide) (⟨rfl, (Keep.refl h0 [a, r_heap, r_keys, r_places]), ⟨E1, F2, F3, F4, F5, V6, V7, V8, ne9, ne10, ne11, ne12, ne13, ne14, ge15, ge16, ge17, ge18⟩⟩)
set_option maxRecDepth 65536 in
set_option maxHeartbeats 40000000 in
theorem gq_set41 (l : Launch) (Z : State) (a0 : Array Value) (hw : ∀ d ∈ tables_1, d.before a0 Z = true) (n0 : Nat) (h0 : Heap) (Z0 : n0 ≤ h0.size) (a r_heap r_keys r_places : Addr)  (l_keys : List Value) (H : GQ Z n0 h0 a r_heap r_keys r_places (2 : Int32) [.int (0 : Int32), .int (2 : Int32), .int (0 : Int32)] l_keys [.int (0 : Int32), .int (-1 : Int32), .int (1 : Int32)]) :
    Met l Z n0 y5_set prog_22_method_11_code 3 (Option.none : Option Jvm.ClassFile.FieldType) ({ frames := 0, cells := 0, slots := 0, locals := 0 } : Room) #[(.ref a), (.int (1 : Int32)), (.int (0 : Int32))] h0 (fun v h => v = none ∧ Keep h0 h [a, r_heap, r_keys, r_places] ∧ GQ Z n0 h a r_heap r_keys r_places (2 : Int32) [.int (0 : Int32), .int (0 : Int32), .int (0 : Int32)] l_keys [.int (1 : Int32), .int (-1 : Int32), .int (1 : Int32)]) := by
  refine met_intro (own := c1_GainQueue) (plainFor_of_name pn_com_example_kithgraph_kithgraph_cluster_GainQueue) rfl Z0 ?_
  intro p e s m below meth c T A hnm
  refine Wp.cast (g' := mkF m 0 #[rv a, iv 1, iv 0] []) (by first | (simp [entryFrame, mkF, argsToLocals, Value.category, maxLocals, jv, S2, U0, iv, rv]; done) | rfl) ?_
  obtain ⟨E1, F2, F3, F4, F5, V6, V7, V8, ne9, ne10, ne11, ne12, ne13, ne14, ge15, ge16, ge17, ge18⟩ := H
  refine s_aloadN (pc' := 1) A d9_0 rfl rfl rfl ?_
  refine s_getfield (pc' := 4) (host := "") A (Or.inl (w12 hw)) Via.refl F3 d9_1 rfl fun T A => ?_
  refine s_iloadN (pc' := 5) A d9_4 rfl rfl ?_
  refine s_iloadN (pc' := 6) A d9_5 rfl rfl ?_
  refine s_iastore (pc' := 7) (i := 1) A V6 (by decide) (Nat.le_of_ble_eq_true rfl) ge16 d9_6 rfl fun T h19 A W20 V21 => ?_
  have V21 : AA Z h19 r_heap .int [.int (0 : Int32), .int (0 : Int32), .int (0 : Int32)] := V21
  refine s_aloadN (pc' := 8) A d9_7 rfl rfl rfl ?_
  have F22 := (F5.other W20 (Or.inl ne9))
  refine s_getfield (pc' := 11) (host := "") A (Or.inl (w17 hw)) Via.refl F22 d9_8 rfl fun T A => ?_
  refine s_iloadN (pc' := 12) A d9_11 rfl rfl ?_
  refine s_iloadN (pc' := 13) A d9_12 rfl rfl ?_
  have V23 := (V8.other W20 (Ne.symm ne13))
  refine s_iastore (pc' := 14) (i := 0) A V23 (by decide) (Nat.le_of_ble_eq_true rfl) ge18 d9_13 rfl fun T h24 A W25 V26 => ?_
  have V26 : AA Z h24 r_places .int [.int (1 : Int32), .int (-1 : Int32), .int (1 : Int32)] := V26
  have K27 := (((Keep.refl h0 [a, r_heap, r_keys, r_places]).wr W20 (Or.inl (List.mem_of_getElem? (i := 1) rfl))).wr W25 (Or.inl (List.mem_of_getElem? (i := 3) rfl)))
  have E28 := ((E1.wr W20).wr W25)
  have F29 := ((F2.other W20 (Or.inl ne9)).other W25 (Or.inl ne11))
  have F30 := ((F3.other W20 (Or.inl ne9)).other W25 (Or.inl ne11))
  have F31 := ((F4.other W20 (Or.inl ne9)).other W25 (Or.inl ne11))
  have F32 := (F22.other W25 (Or.inl ne11))
  have V33 := (V21.other W25 ne13)
  have V34 := ((V7.other W20 (Ne.symm ne12)).other W25 ne14)
  exact r_void A rfl d9_14 (by decide) (by decide) (⟨rfl, K27, ⟨E28, F29, F30, F31, F32, V33, V34, V26, ne9, ne10, ne11, ne12, ne13, ne14, ge15, ge16, ge17, ge18⟩⟩)
set_option maxRecDepth 65536 in
set_option maxHeartbeats 40000000 in
theorem gq_set42 (l : Launch) (Z : State) (a0 : Array Value) (hw : ∀ d ∈ tables_1, d.before a0 Z = true) (n0 : Nat) (h0 : Heap) (Z0 : n0 ≤ h0.size) (a r_heap r_keys r_places : Addr)  (l_keys : List Value) (H : GQ Z n0 h0 a r_heap r_keys r_places (2 : Int32) [.int (0 : Int32), .int (0 : Int32), .int (0 : Int32)] l_keys [.int (1 : Int32), .int (-1 : Int32), .int (1 : Int32)]) :
    Met l Z n0 y5_set prog_22_method_11_code 3 (Option.none : Option Jvm.ClassFile.FieldType) ({ frames := 0, cells := 0, slots := 0, locals := 0 } : Room) #[(.ref a), (.int (0 : Int32)), (.int (2 : Int32))] h0 (fun v h => v = none ∧ Keep h0 h [a, r_heap, r_keys, r_places] ∧ GQ Z n0 h a r_heap r_keys r_places (2 : Int32) [.int (2 : Int32), .int (0 : Int32), .int (0 : Int32)] l_keys [.int (1 : Int32), .int (-1 : Int32), .int (0 : Int32)]) := by
  refine met_intro (own := c1_GainQueue) (plainFor_of_name pn_com_example_kithgraph_kithgraph_cluster_GainQueue) rfl Z0 ?_
  intro p e s m below meth c T A hnm
  refine Wp.cast (g' := mkF m 0 #[rv a, iv 0, iv 2] []) (by first | (simp [entryFrame, mkF, argsToLocals, Value.category, maxLocals, jv, S2, U0, iv, rv]; done) | rfl) ?_
  obtain ⟨E1, F2, F3, F4, F5, V6, V7, V8, ne9, ne10, ne11, ne12, ne13, ne14, ge15, ge16, ge17, ge18⟩ := H
  refine s_aloadN (pc' := 1) A d9_0 rfl rfl rfl ?_
  refine s_getfield (pc' := 4) (host := "") A (Or.inl (w12 hw)) Via.refl F3 d9_1 rfl fun T A => ?_
  refine s_iloadN (pc' := 5) A d9_4 rfl rfl ?_
  refine s_iloadN (pc' := 6) A d9_5 rfl rfl ?_
  refine s_iastore (pc' := 7) (i := 0) A V6 (by decide) (Nat.le_of_ble_eq_true rfl) ge16 d9_6 rfl fun T h19 A W20 V21 => ?_
  have V21 : AA Z h19 r_heap .int [.int (2 : Int32), .int (0 : Int32), .int (0 : Int32)] := V21
  refine s_aloadN (pc' := 8) A d9_7 rfl rfl rfl ?_
  have F22 := (F5.other W20 (Or.inl ne9))
  refine s_getfield (pc' := 11) (host := "") A (Or.inl (w17 hw)) Via.refl F22 d9_8 rfl fun T A => ?_
  refine s_iloadN (pc' := 12) A d9_11 rfl rfl ?_
  refine s_iloadN (pc' := 13) A d9_12 rfl rfl ?_
  have V23 := (V8.other W20 (Ne.symm ne13))
  refine s_iastore (pc' := 14) (i := 2) A V23 (by decide) (Nat.le_of_ble_eq_true rfl) ge18 d9_13 rfl fun T h24 A W25 V26 => ?_
  have V26 : AA Z h24 r_places .int [.int (1 : Int32), .int (-1 : Int32), .int (0 : Int32)] := V26
  have K27 := (((Keep.refl h0 [a, r_heap, r_keys, r_places]).wr W20 (Or.inl (List.mem_of_getElem? (i := 1) rfl))).wr W25 (Or.inl (List.mem_of_getElem? (i := 3) rfl)))
  have E28 := ((E1.wr W20).wr W25)
  have F29 := ((F2.other W20 (Or.inl ne9)).other W25 (Or.inl ne11))
  have F30 := ((F3.other W20 (Or.inl ne9)).other W25 (Or.inl ne11))
  have F31 := ((F4.other W20 (Or.inl ne9)).other W25 (Or.inl ne11))
  have F32 := (F22.other W25 (Or.inl ne11))
  have V33 := (V21.other W25 ne13)
  have V34 := ((V7.other W20 (Ne.symm ne12)).other W25 ne14)
  exact r_void A rfl d9_14 (by decide) (by decide) (⟨rfl, K27, ⟨E28, F29, F30, F31, F32, V33, V34, V26, ne9, ne10, ne11, ne12, ne13, ne14, ge15, ge16, ge17, ge18⟩⟩)
set_option maxRecDepth 65536 in
set_option maxHeartbeats 40000000 in
theorem gq_up39 (l : Launch) (Z : State) (a0 : Array Value) (hw : ∀ d ∈ tables_1, d.before a0 Z = true) (n0 : Nat) (h0 : Heap) (Z0 : n0 ≤ h0.size) (a r_heap r_keys r_places : Addr) (x0 : Int64) (x1 : Int64) (H : GQ Z n0 h0 a r_heap r_keys r_places (2 : Int32) [.int (0 : Int32), .int (2 : Int32), .int (0 : Int32)] [.long x0, .long (0 : Int64), .long x1] [.int (0 : Int32), .int (-1 : Int32), .int (1 : Int32)]) (hk : x0 < x1) :
    Met l Z n0 y6_up prog_22_method_9_code 4 (Option.none : Option Jvm.ClassFile.FieldType) ({ frames := 1, cells := 0, slots := 0, locals := 18 } : Room) #[(.ref a), (.int (1 : Int32))] h0 (fun v h => v = none ∧ Keep h0 h [a, r_heap, r_keys, r_places] ∧ GQ Z n0 h a r_heap r_keys r_places (2 : Int32) [.int (2 : Int32), .int (0 : Int32), .int (0 : Int32)] [.long x0, .long (0 : Int64), .long x1] [.int (1 : Int32), .int (-1 : Int32), .int (0 : Int32)]) := by
  refine met_intro (own := c1_GainQueue) (plainFor_of_name pn_com_example_kithgraph_kithgraph_cluster_GainQueue) rfl Z0 ?_
  intro p e s m below meth c T A hnm
  refine Wp.cast (g' := mkF m 0 #[rv a, iv 1, U0, U0] []) (by first | (simp [entryFrame, mkF, argsToLocals, Value.category, maxLocals, jv, S2, U0, iv, rv]; done) | rfl) ?_
  obtain ⟨E1, F2, F3, F4, F5, V6, V7, V8, ne9, ne10, ne11, ne12, ne13, ne14, ge15, ge16, ge17, ge18⟩ := H
  refine s_aloadN (pc' := 1) A d8_0 rfl rfl rfl ?_
  refine s_getfield (pc' := 4) (host := "") A (Or.inl (w12 hw)) Via.refl F3 d8_1 rfl fun T A => ?_
  refine s_iloadN (pc' := 5) A d8_4 rfl rfl ?_
  refine s_iaload (pc' := 6) (i := 1) (v := (.int (2 : Int32))) A V6 (by decide) rfl d8_5 rfl ?_
  refine s_istoreN (pc' := 7) (Ls' := #[rv a, iv 1, iv 2, U0]) A d8_6 rfl rfl ?_
  refine s_iloadN (pc' := 8) A d8_7 rfl rfl ?_
  refine s_ifN (pc' := 11) A d8_8 rfl (by decide) ?_
  refine s_iloadN (pc' := 12) A d8_11 rfl rfl ?_
  refine s_iconst (pc' := 13) (z := (1 : Int32)) A d8_12 rfl (by decide) ?_
  refine s_isub (pc' := 14) (z := (0 : Int32)) A d8_13 rfl (by decide) ?_
  refine s_iconst (pc' := 15) (z := (2 : Int32)) A d8_14 rfl (by decide) ?_
  refine s_idiv (pc' := 16) (z := (0 : Int32)) A d8_15 rfl (by decide) (by decide) ?_
  refine s_istoreN (pc' := 17) (Ls' := #[rv a, iv 1, iv 2, iv 0]) A d8_16 rfl rfl ?_
  refine s_aloadN (pc' := 18) A d8_17 rfl rfl rfl ?_
  refine s_iloadN (pc' := 19) A d8_18 rfl rfl ?_
  refine s_aloadN (pc' := 20) A d8_19 rfl rfl rfl ?_
  refine s_getfield (pc' := 23) (host := "") A (Or.inl (w12 hw)) Via.refl F3 d8_20 rfl fun T A => ?_
  refine s_iloadN (pc' := 24) A d8_23 rfl rfl ?_
  refine s_iaload (pc' := 25) (i := 0) (v := (.int (0 : Int32))) A V6 (by decide) rfl d8_24 rfl ?_
  refine s_private (pc' := 28) (y := y10_before) (argsL := [(.int (2 : Int32)), (.int (0 : Int32))]) (rest := []) A E1 (gq_before40 l Z a0 hw n0 h0 A.size a r_heap r_keys r_places x0 x1 [.int (0 : Int32), .int (2 : Int32), .int (0 : Int32)] [.int (0 : Int32), .int (-1 : Int32), .int (1 : Int32)] ⟨E1, F2, F3, F4, F5, V6, V7, V8, ne9, ne10, ne11, ne12, ne13, ne14, ge15, ge16, ge17, ge18⟩ hk) (w63 hw) (w64 hw) (w1 hw) (w65 hw) (w2 hw) (w66 hw) (by decide) pd__II_Z rfl (W := 0) (by decide) (by decide) (Nat.le_of_eq rfl) (by decide) (by decide) rfl rfl d8_25 rfl fun T h21 v22 A Q23 => ?_
  obtain ⟨rfl, K19, H20⟩ := Q23
  obtain ⟨E24, F25, F26, F27, F28, V29, V30, V31, ne32, ne33, ne34, ne35, ne36, ne37, ge38, ge39, ge40, ge41⟩ := H20
  refine Wp.stk (st' := [(.int (1 : Int32))]) rfl ?_
  refine s_ifY (pc' := 34) A d8_28 (by decide) (by decide) (by decide) ?_
  refine s_aloadN (pc' := 35) A d8_34 rfl rfl rfl ?_
  refine s_iloadN (pc' := 36) A d8_35 rfl rfl ?_
  refine s_aloadN (pc' := 37) A d8_36 rfl rfl rfl ?_
  refine s_getfield (pc' := 40) (host := "") A (Or.inl (w12 hw)) Via.refl F26 d8_37 rfl fun T A => ?_
  refine s_iloadN (pc' := 41) A d8_40 rfl rfl ?_
  refine s_iaload (pc' := 42) (i := 0) (v := (.int (0 : Int32))) A V29 (by decide) rfl d8_41 rfl ?_
  refine s_private (pc' := 45) (y := y5_set) (argsL := [(.int (1 : Int32)), (.int (0 : Int32))]) (rest := []) A E24 (gq_set41 l Z a0 hw n0 h21 A.size a r_heap r_keys r_places [.long x0, .long (0 : Int64), .long x1] ⟨E24, F25, F26, F27, F28, V29, V30, V31, ne32, ne33, ne34, ne35, ne36, ne37, ge38, ge39, ge40, ge41⟩) (w49 hw) (w50 hw) (w1 hw) (w51 hw) (w2 hw) (w52 hw) (by decide) pd__II_V rfl (W := 0) (by decide) (by decide) (Nat.le_of_eq rfl) (by decide) (by decide) rfl rfl d8_42 rfl fun T h44 v45 A Q46 => ?_
  obtain ⟨rfl, K42, H43⟩ := Q46
  obtain ⟨E47, F48, F49, F50, F51, V52, V53, V54, ne55, ne56, ne57, ne58, ne59, ne60, ge61, ge62, ge63, ge64⟩ := H43
  refine Wp.stk (st' := []) rfl ?_
  refine s_iloadN (pc' := 46) A d8_45 rfl rfl ?_
  refine s_istoreN (pc' := 47) (Ls' := #[rv a, iv 0, iv 2, iv 0]) A d8_46 rfl rfl ?_
  refine s_goto (pc' := 7) A d8_47 (by decide) (by decide) ?_
  refine s_iloadN (pc' := 8) A d8_7 rfl rfl ?_
  refine s_ifY (pc' := 50) A d8_8 (by decide) (by decide) (by decide) ?_
  refine s_aloadN (pc' := 51) A d8_50 rfl rfl rfl ?_
  refine s_iloadN (pc' := 52) A d8_51 rfl rfl ?_
  refine s_iloadN (pc' := 53) A d8_52 rfl rfl ?_
  refine s_private (pc' := 56) (y := y5_set) (argsL := [(.int (0 : Int32)), (.int (2 : Int32))]) (rest := []) A E47 (gq_set42 l Z a0 hw n0 h44 A.size a r_heap r_keys r_places [.long x0, .long (0 : Int64), .long x1] ⟨E47, F48, F49, F50, F51, V52, V53, V54, ne55, ne56, ne57, ne58, ne59, ne60, ge61, ge62, ge63, ge64⟩) (w49 hw) (w50 hw) (w1 hw) (w51 hw) (w2 hw) (w52 hw) (by decide) pd__II_V rfl (W := 0) (by decide) (by decide) (Nat.le_of_eq rfl) (by decide) (by decide) rfl rfl d8_53 rfl fun T h67 v68 A Q69 => ?_
  obtain ⟨rfl, K65, H66⟩ := Q69
  obtain ⟨E70, F71, F72, F73, F74, V75, V76, V77, ne78, ne79, ne80, ne81, ne82, ne83, ge84, ge85, ge86, ge87⟩ := H66
  refine Wp.stk (st' := []) rfl ?_
  have K88 := ((((Keep.refl h0 [a, r_heap, r_keys, r_places]).trans K19 (allS (Or.inl (List.mem_of_getElem? (i := 0) rfl)) (allS (Or.inl (List.mem_of_getElem? (i := 1) rfl)) (allS (Or.inl (List.mem_of_getElem? (i := 2) rfl)) (allS (Or.inl (List.mem_of_getElem? (i := 3) rfl)) all0))))).trans K42 (allS (Or.inl (List.mem_of_getElem? (i := 0) rfl)) (allS (Or.inl (List.mem_of_getElem? (i := 1) rfl)) (allS (Or.inl (List.mem_of_getElem? (i := 2) rfl)) (allS (Or.inl (List.mem_of_getElem? (i := 3) rfl)) all0))))).trans K65 (allS (Or.inl (List.mem_of_getElem? (i := 0) rfl)) (allS (Or.inl (List.mem_of_getElem? (i := 1) rfl)) (allS (Or.inl (List.mem_of_getElem? (i := 2) rfl)) (allS (Or.inl (List.mem_of_getElem? (i := 3) rfl)) all0)))))
  exact r_void A rfl d8_56 (by decide) (by decide) (⟨rfl, K88, ⟨E70, F71, F72, F73, F74, V75, V76, V77, ne78, ne79, ne80, ne81, ne82, ne83, ge84, ge85, ge86, ge87⟩⟩)
set_option maxRecDepth 65536 in
set_option maxHeartbeats 40000000 in
theorem gq_put37 (l : Launch) (Z : State) (a0 : Array Value) (hw : ∀ d ∈ tables_1, d.before a0 Z = true) (n0 : Nat) (h0 : Heap) (Z0 : n0 ≤ h0.size) (a r_heap r_keys r_places : Addr) (x0 : Int64) (x1 : Int64) (H : GQ Z n0 h0 a r_heap r_keys r_places (1 : Int32) [.int (0 : Int32), .int (0 : Int32), .int (0 : Int32)] [.long x0, .long (0 : Int64), .long (0 : Int64)] [.int (0 : Int32), .int (-1 : Int32), .int (-1 : Int32)]) (hk : x0 < x1) :
    Met l Z n0 y7_put prog_22_method_4_code 6 (Option.none : Option Jvm.ClassFile.FieldType) ({ frames := 2, cells := 0, slots := 0, locals := 33 } : Room) #[(.ref a), (.int (2 : Int32)), (.long x1)] h0 (fun v h => v = none ∧ Keep h0 h [a, r_heap, r_keys, r_places] ∧ GQ Z n0 h a r_heap r_keys r_places (2 : Int32) [.int (2 : Int32), .int (0 : Int32), .int (0 : Int32)] [.long x0, .long (0 : Int64), .long x1] [.int (1 : Int32), .int (-1 : Int32), .int (0 : Int32)]) := by
  refine met_intro (own := c1_GainQueue) (plainFor_of_name pn_com_example_kithgraph_kithgraph_cluster_GainQueue) rfl Z0 ?_
  intro p e s m below meth c T A hnm
  refine Wp.cast (g' := mkF m 0 #[rv a, iv 2, jv x1, S2, U0, U0] []) (by first | (simp [entryFrame, mkF, argsToLocals, Value.category, maxLocals, jv, S2, U0, iv, rv]; done) | rfl) ?_
  obtain ⟨E1, F2, F3, F4, F5, V6, V7, V8, ne9, ne10, ne11, ne12, ne13, ne14, ge15, ge16, ge17, ge18⟩ := H
  refine s_aloadN (pc' := 1) A d7_0 rfl rfl rfl ?_
  refine s_iloadN (pc' := 2) A d7_1 rfl rfl ?_
  refine s_virtual (pc' := 5) (y := y4_contains) (argsL := [(.int (2 : Int32))]) (rest := []) (z := y4_contains) A E1 (gq_contains38 l Z a0 hw n0 h0 A.size a r_heap r_keys r_places [.int (0 : Int32), .int (0 : Int32), .int (0 : Int32)] [.long x0, .long (0 : Int64), .long (0 : Int64)] ⟨E1, F2, F3, F4, F5, V6, V7, V8, ne9, ne10, ne11, ne12, ne13, ne14, ge15, ge16, ge17, ge18⟩) (w44 hw) (w34 hw) (nf_same (C := "") (w36 hw)) (w36 hw) (w35 hw) (w2 hw) (w37 hw) (by decide) pd__I_Z rfl (W := 0) (by decide) (by decide) (Nat.le_of_eq rfl) (by decide) (by decide) rfl rfl d7_2 rfl fun T h21 v22 A Q23 => ?_
  obtain ⟨rfl, K19, H20⟩ := Q23
  obtain ⟨E24, F25, F26, F27, F28, V29, V30, V31, ne32, ne33, ne34, ne35, ne36, ne37, ge38, ge39, ge40, ge41⟩ := H20
  refine Wp.stk (st' := [(.int (0 : Int32))]) rfl ?_
  refine s_ifY (pc' := 56) A d7_5 (by decide) (by decide) (by decide) ?_
  refine s_aloadN (pc' := 57) A d7_56 rfl rfl rfl ?_
  refine s_getfield (pc' := 60) (host := "") A (Or.inl (w15 hw)) Via.refl F27 d7_57 rfl fun T A => ?_
  refine s_iloadN (pc' := 61) A d7_60 rfl rfl ?_
  refine s_lloadN (pc' := 62) A d7_61 rfl rfl ?_
  refine s_lastore (pc' := 63) (i := 2) A V30 (by decide) (Nat.le_of_ble_eq_true rfl) ge40 d7_62 rfl fun T h42 A W43 V44 => ?_
  have V44 : AA Z h42 r_keys .long [.long x0, .long (0 : Int64), .long x1] := V44
  refine s_aloadN (pc' := 64) A d7_63 rfl rfl rfl ?_
  have F45 := (F26.other W43 (Or.inl ne33))
  refine s_getfield (pc' := 67) (host := "") A (Or.inl (w12 hw)) Via.refl F45 d7_64 rfl fun T A => ?_
  refine s_aloadN (pc' := 68) A d7_67 rfl rfl rfl ?_
  have F46 := (F25.other W43 (Or.inl ne33))
  refine s_getfield (pc' := 71) (host := "") A (Or.inl (w9 hw)) Via.refl F46 d7_68 rfl fun T A => ?_
  refine s_iloadN (pc' := 72) A d7_71 rfl rfl ?_
  have V47 := (V29.other W43 ne35)
  refine s_iastore (pc' := 73) (i := 1) A V47 (by decide) (Nat.le_of_ble_eq_true rfl) ge39 d7_72 rfl fun T h48 A W49 V50 => ?_
  have V50 : AA Z h48 r_heap .int [.int (0 : Int32), .int (2 : Int32), .int (0 : Int32)] := V50
  refine s_aloadN (pc' := 74) A d7_73 rfl rfl rfl ?_
  have F51 := ((F28.other W43 (Or.inl ne33)).other W49 (Or.inl ne32))
  refine s_getfield (pc' := 77) (host := "") A (Or.inl (w17 hw)) Via.refl F51 d7_74 rfl fun T A => ?_
  refine s_iloadN (pc' := 78) A d7_77 rfl rfl ?_
  refine s_aloadN (pc' := 79) A d7_78 rfl rfl rfl ?_
  have F52 := (F46.other W49 (Or.inl ne32))
  refine s_getfield (pc' := 82) (host := "") A (Or.inl (w9 hw)) Via.refl F52 d7_79 rfl fun T A => ?_
  have V53 := ((V31.other W43 (Ne.symm ne37)).other W49 (Ne.symm ne36))
  refine s_iastore (pc' := 83) (i := 2) A V53 (by decide) (Nat.le_of_ble_eq_true rfl) ge41 d7_82 rfl fun T h54 A W55 V56 => ?_
  have V56 : AA Z h54 r_places .int [.int (0 : Int32), .int (-1 : Int32), .int (1 : Int32)] := V56
  refine s_aloadN (pc' := 84) A d7_83 rfl rfl rfl ?_
  refine s_dup (pc' := 85) A d7_84 rfl rfl ?_
  have F57 := (F52.other W55 (Or.inl ne34))
  refine s_getfield (pc' := 88) (host := "") A (Or.inl (w9 hw)) Via.refl F57 d7_85 rfl fun T A => ?_
  refine s_iconst (pc' := 89) (z := (1 : Int32)) A d7_88 rfl (by decide) ?_
  refine s_iadd (pc' := 90) (z := (2 : Int32)) A d7_89 rfl (by decide) ?_
  have E58 := (((E24.wr W43).wr W49).wr W55)
  refine s_putfield (pc' := 93) (host := "") A (Or.inl (w9 hw)) Via.refl F57 E58 (Or.inl (w10 hw)) (w1 hw) (ty := .int) (by decide) rfl rfl ge38 d7_90 rfl fun T h59 A W60 => ?_
  have F61 := F57.same W60
  refine s_aloadN (pc' := 94) A d7_93 rfl rfl rfl ?_
  refine s_aloadN (pc' := 95) A d7_94 rfl rfl rfl ?_
  refine s_getfield (pc' := 98) (host := "") A (Or.inl (w9 hw)) Via.refl F61 d7_95 rfl fun T A => ?_
  refine s_iconst (pc' := 99) (z := (1 : Int32)) A d7_98 rfl (by decide) ?_
  refine s_isub (pc' := 100) (z := (1 : Int32)) A d7_99 rfl (by decide) ?_
  have E62 := (E58.wr W60)
  have F63 := (((F45.other W49 (Or.inl ne32)).other W55 (Or.inl ne34)).other W60 (Or.inr (sn_GainQueue_heap_count hw)))
  have F64 := ((((F27.other W43 (Or.inl ne33)).other W49 (Or.inl ne32)).other W55 (Or.inl ne34)).other W60 (Or.inr (sn_GainQueue_keys_count hw)))
  have F65 := ((F51.other W55 (Or.inl ne34)).other W60 (Or.inr (sn_GainQueue_places_count hw)))
  have V66 := ((V50.other W55 ne36).other W60 (Ne.symm ne32))
  have V67 := (((V44.other W49 (Ne.symm ne35)).other W55 ne37).other W60 (Ne.symm ne33))
  have V68 := (V56.other W60 (Ne.symm ne34))
  refine s_private (pc' := 103) (y := y6_up) (argsL := [(.int (1 : Int32))]) (rest := []) A E62 (gq_up39 l Z a0 hw n0 h59 A.size a r_heap r_keys r_places x0 x1 ⟨E62, F61, F63, F64, F65, V66, V67, V68, ne32, ne33, ne34, ne35, ne36, ne37, ge38, ge39, ge40, ge41⟩ hk) (w45 hw) (w46 hw) (w1 hw) (w47 hw) (w2 hw) (w48 hw) (by decide) pd__I_V rfl (W := 0) (by decide) (by decide) (Nat.le_of_eq rfl) (by decide) (by decide) rfl rfl d7_100 rfl fun T h71 v72 A Q73 => ?_
  obtain ⟨rfl, K69, H70⟩ := Q73
  obtain ⟨E74, F75, F76, F77, F78, V79, V80, V81, ne82, ne83, ne84, ne85, ne86, ne87, ge88, ge89, ge90, ge91⟩ := H70
  refine Wp.stk (st' := []) rfl ?_
  have K92 := (((((((Keep.refl h0 [a, r_heap, r_keys, r_places]).trans K19 (allS (Or.inl (List.mem_of_getElem? (i := 0) rfl)) (allS (Or.inl (List.mem_of_getElem? (i := 1) rfl)) (allS (Or.inl (List.mem_of_getElem? (i := 2) rfl)) (allS (Or.inl (List.mem_of_getElem? (i := 3) rfl)) all0))))).wr W43 (Or.inl (List.mem_of_getElem? (i := 2) rfl))).wr W49 (Or.inl (List.mem_of_getElem? (i := 1) rfl))).wr W55 (Or.inl (List.mem_of_getElem? (i := 3) rfl))).wr W60 (Or.inl (List.mem_of_getElem? (i := 0) rfl))).trans K69 (allS (Or.inl (List.mem_of_getElem? (i := 0) rfl)) (allS (Or.inl (List.mem_of_getElem? (i := 1) rfl)) (allS (Or.inl (List.mem_of_getElem? (i := 2) rfl)) (allS (Or.inl (List.mem_of_getElem? (i := 3) rfl)) all0)))))
  exact r_void A rfl d7_103 (by decide) (by decide) (⟨rfl, K92, ⟨E74, F75, F76, F77, F78, V79, V80, V81, ne82, ne83, ne84, ne85, ne86, ne87, ge88, ge89, ge90, ge91⟩⟩)
set_option maxRecDepth 65536 in
set_option maxHeartbeats 40000000 in
theorem gq_clear43 (l : Launch) (Z : State) (a0 : Array Value) (hw : ∀ d ∈ tables_1, d.before a0 Z = true) (n0 : Nat) (h0 : Heap) (Z0 : n0 ≤ h0.size) (a r_heap r_keys r_places : Addr)  (l_keys : List Value) (H : GQ Z n0 h0 a r_heap r_keys r_places (2 : Int32) [.int (2 : Int32), .int (0 : Int32), .int (0 : Int32)] l_keys [.int (1 : Int32), .int (-1 : Int32), .int (0 : Int32)]) :
    Met l Z n0 y2_clear prog_22_method_8_code 2 (Option.none : Option Jvm.ClassFile.FieldType) ({ frames := 0, cells := 0, slots := 0, locals := 0 } : Room) #[(.ref a)] h0 (fun v h => v = none ∧ Keep h0 h [a, r_heap, r_keys, r_places] ∧ GQ Z n0 h a r_heap r_keys r_places (0 : Int32) [.int (2 : Int32), .int (0 : Int32), .int (0 : Int32)] l_keys [.int (-1 : Int32), .int (-1 : Int32), .int (-1 : Int32)]) := by
  refine met_intro (own := c1_GainQueue) (plainFor_of_name pn_com_example_kithgraph_kithgraph_cluster_GainQueue) rfl Z0 ?_
  intro p e s m below meth c T A hnm
  refine Wp.cast (g' := mkF m 0 #[rv a, U0] []) (by first | (simp [entryFrame, mkF, argsToLocals, Value.category, maxLocals, jv, S2, U0, iv, rv]; done) | rfl) ?_
  obtain ⟨E1, F2, F3, F4, F5, V6, V7, V8, ne9, ne10, ne11, ne12, ne13, ne14, ge15, ge16, ge17, ge18⟩ := H
  refine s_iconst (pc' := 1) (z := (0 : Int32)) A d4_0 rfl (by decide) ?_
  refine s_istoreN (pc' := 2) (Ls' := #[rv a, iv 0]) A d4_1 rfl rfl ?_
  refine s_iloadN (pc' := 3) A d4_2 rfl rfl ?_
  refine s_aloadN (pc' := 4) A d4_3 rfl rfl rfl ?_
  refine s_getfield (pc' := 7) (host := "") A (Or.inl (w9 hw)) Via.refl F2 d4_4 rfl fun T A => ?_
  refine s_icmpN (pc' := 10) A d4_7 rfl (by decide) ?_
  refine s_aloadN (pc' := 11) A d4_10 rfl rfl rfl ?_
  refine s_getfield (pc' := 14) (host := "") A (Or.inl (w17 hw)) Via.refl F5 d4_11 rfl fun T A => ?_
  refine s_aloadN (pc' := 15) A d4_14 rfl rfl rfl ?_
  refine s_getfield (pc' := 18) (host := "") A (Or.inl (w12 hw)) Via.refl F3 d4_15 rfl fun T A => ?_
  refine s_iloadN (pc' := 19) A d4_18 rfl rfl ?_
  refine s_iaload (pc' := 20) (i := 0) (v := (.int (2 : Int32))) A V6 (by decide) rfl d4_19 rfl ?_
  refine s_iconst (pc' := 21) (z := (-1 : Int32)) A d4_20 rfl (by decide) ?_
  refine s_iastore (pc' := 22) (i := 2) A V8 (by decide) (Nat.le_of_ble_eq_true rfl) ge18 d4_21 rfl fun T h19 A W20 V21 => ?_
  have V21 : AA Z h19 r_places .int [.int (1 : Int32), .int (-1 : Int32), .int (-1 : Int32)] := V21
  refine s_iinc (pc' := 25) (z := (1 : Int32)) (Ls' := #[rv a, iv 1]) A d4_22 rfl rfl (by decide) rfl ?_
  refine s_goto (pc' := 2) A d4_25 (by decide) (by decide) ?_
  refine s_iloadN (pc' := 3) A d4_2 rfl rfl ?_
  refine s_aloadN (pc' := 4) A d4_3 rfl rfl rfl ?_
  have F22 := (F2.other W20 (Or.inl ne11))
  refine s_getfield (pc' := 7) (host := "") A (Or.inl (w9 hw)) Via.refl F22 d4_4 rfl fun T A => ?_
  refine s_icmpN (pc' := 10) A d4_7 rfl (by decide) ?_
  refine s_aloadN (pc' := 11) A d4_10 rfl rfl rfl ?_
  have F23 := (F5.other W20 (Or.inl ne11))
  refine s_getfield (pc' := 14) (host := "") A (Or.inl (w17 hw)) Via.refl F23 d4_11 rfl fun T A => ?_
  refine s_aloadN (pc' := 15) A d4_14 rfl rfl rfl ?_
  have F24 := (F3.other W20 (Or.inl ne11))
  refine s_getfield (pc' := 18) (host := "") A (Or.inl (w12 hw)) Via.refl F24 d4_15 rfl fun T A => ?_
  refine s_iloadN (pc' := 19) A d4_18 rfl rfl ?_
  have V25 := (V6.other W20 ne13)
  refine s_iaload (pc' := 20) (i := 1) (v := (.int (0 : Int32))) A V25 (by decide) rfl d4_19 rfl ?_
  refine s_iconst (pc' := 21) (z := (-1 : Int32)) A d4_20 rfl (by decide) ?_
  refine s_iastore (pc' := 22) (i := 0) A V21 (by decide) (Nat.le_of_ble_eq_true rfl) ge18 d4_21 rfl fun T h26 A W27 V28 => ?_
  have V28 : AA Z h26 r_places .int [.int (-1 : Int32), .int (-1 : Int32), .int (-1 : Int32)] := V28
  refine s_iinc (pc' := 25) (z := (2 : Int32)) (Ls' := #[rv a, iv 2]) A d4_22 rfl rfl (by decide) rfl ?_
  refine s_goto (pc' := 2) A d4_25 (by decide) (by decide) ?_
  refine s_iloadN (pc' := 3) A d4_2 rfl rfl ?_
  refine s_aloadN (pc' := 4) A d4_3 rfl rfl rfl ?_
  have F29 := (F22.other W27 (Or.inl ne11))
  refine s_getfield (pc' := 7) (host := "") A (Or.inl (w9 hw)) Via.refl F29 d4_4 rfl fun T A => ?_
  refine s_icmpY (pc' := 28) A d4_7 (by decide) (by decide) (by decide) ?_
  refine s_aloadN (pc' := 29) A d4_28 rfl rfl rfl ?_
  refine s_iconst (pc' := 30) (z := (0 : Int32)) A d4_29 rfl (by decide) ?_
  have E30 := ((E1.wr W20).wr W27)
  refine s_putfield (pc' := 33) (host := "") A (Or.inl (w9 hw)) Via.refl F29 E30 (Or.inl (w10 hw)) (w1 hw) (ty := .int) (by decide) rfl rfl ge15 d4_30 rfl fun T h31 A W32 => ?_
  have F33 := F29.same W32
  have K34 := ((((Keep.refl h0 [a, r_heap, r_keys, r_places]).wr W20 (Or.inl (List.mem_of_getElem? (i := 3) rfl))).wr W27 (Or.inl (List.mem_of_getElem? (i := 3) rfl))).wr W32 (Or.inl (List.mem_of_getElem? (i := 0) rfl)))
  have E35 := (E30.wr W32)
  have F36 := ((F24.other W27 (Or.inl ne11)).other W32 (Or.inr (sn_GainQueue_heap_count hw)))
  have F37 := (((F4.other W20 (Or.inl ne11)).other W27 (Or.inl ne11)).other W32 (Or.inr (sn_GainQueue_keys_count hw)))
  have F38 := ((F23.other W27 (Or.inl ne11)).other W32 (Or.inr (sn_GainQueue_places_count hw)))
  have V39 := ((V25.other W27 ne13).other W32 (Ne.symm ne9))
  have V40 := (((V7.other W20 ne14).other W27 ne14).other W32 (Ne.symm ne10))
  have V41 := (V28.other W32 (Ne.symm ne11))
  exact r_void A rfl d4_33 (by decide) (by decide) (⟨rfl, K34, ⟨E35, F33, F36, F37, F38, V39, V40, V41, ne9, ne10, ne11, ne12, ne13, ne14, ge15, ge16, ge17, ge18⟩⟩)
set_option maxRecDepth 65536 in
set_option maxHeartbeats 40000000 in
theorem gq_before46 (l : Launch) (Z : State) (a0 : Array Value) (hw : ∀ d ∈ tables_1, d.before a0 Z = true) (n0 : Nat) (h0 : Heap) (Z0 : n0 ≤ h0.size) (a r_heap r_keys r_places : Addr) (x0 : Int64) (x1 : Int64) (l_heap : List Value) (l_places : List Value) (H : GQ Z n0 h0 a r_heap r_keys r_places (2 : Int32) l_heap [.long x0, .long (0 : Int64), .long x1] l_places) (hk : ¬ x0 < x1) :
    Met l Z n0 y10_before prog_22_method_12_code 7 (Option.some Jvm.ClassFile.FieldType.boolean) ({ frames := 0, cells := 0, slots := 0, locals := 0 } : Room) #[(.ref a), (.int (2 : Int32)), (.int (0 : Int32))] h0 (fun v h => v = some (.int (0 : Int32)) ∧ Keep h0 h [a, r_heap, r_keys, r_places] ∧ GQ Z n0 h a r_heap r_keys r_places (2 : Int32) l_heap [.long x0, .long (0 : Int64), .long x1] l_places) := by
  refine met_intro (own := c1_GainQueue) (plainFor_of_name pn_com_example_kithgraph_kithgraph_cluster_GainQueue) rfl Z0 ?_
  intro p e s m below meth c T A hnm
  refine Wp.cast (g' := mkF m 0 #[rv a, iv 2, iv 0, U0, U0, U0, U0] []) (by first | (simp [entryFrame, mkF, argsToLocals, Value.category, maxLocals, jv, S2, U0, iv, rv]; done) | rfl) ?_
  obtain ⟨E1, F2, F3, F4, F5, V6, V7, V8, ne9, ne10, ne11, ne12, ne13, ne14, ge15, ge16, ge17, ge18⟩ := H
  refine s_aloadN (pc' := 1) A d12_0 rfl rfl rfl ?_
  refine s_getfield (pc' := 4) (host := "") A (Or.inl (w15 hw)) Via.refl F4 d12_1 rfl fun T A => ?_
  refine s_iloadN (pc' := 5) A d12_4 rfl rfl ?_
  refine s_laload (pc' := 6) (i := 2) (v := (.long x1)) A V7 (by decide) rfl d12_5 rfl ?_
  refine s_lstoreN (pc' := 7) (Ls' := #[rv a, iv 2, iv 0, jv x1, S2, U0, U0]) A d12_6 rfl rfl ?_
  refine s_aloadN (pc' := 8) A d12_7 rfl rfl rfl ?_
  refine s_getfield (pc' := 11) (host := "") A (Or.inl (w15 hw)) Via.refl F4 d12_8 rfl fun T A => ?_
  refine s_iloadN (pc' := 12) A d12_11 rfl rfl ?_
  refine s_laload (pc' := 13) (i := 0) (v := (.long x0)) A V7 (by decide) rfl d12_12 rfl ?_
  refine s_lstore (pc' := 15) (Ls' := #[rv a, iv 2, iv 0, jv x1, S2, jv x0, S2]) A d12_13 rfl rfl ?_
  refine s_lloadN (pc' := 16) A d12_15 rfl rfl ?_
  refine s_lload (pc' := 18) A d12_16 rfl rfl ?_
  refine s_lcmp (pc' := 19) A d12_18 rfl ?_
  refine s_ifN (pc' := 22) A d12_19 rfl ((if0 _ _).trans (flt (fun q => hk ((lw_gt x1 x0).1 q))).2.2.1) ?_
  refine s_lloadN (pc' := 23) A d12_22 rfl rfl ?_
  refine s_lload (pc' := 25) A d12_23 rfl rfl ?_
  refine s_lcmp (pc' := 26) A d12_25 rfl ?_
  by_cases hc26_1 : x1 = x0
  ·
    refine s_ifN (pc' := 29) A d12_26 rfl ((if0 _ _).trans (teq ((lw_eq x1 x0).2 hc26_1)).2) ?_
    refine s_iloadN (pc' := 30) A d12_29 rfl rfl ?_
    refine s_iloadN (pc' := 31) A d12_30 rfl rfl ?_
    refine s_icmpY (pc' := 38) A d12_31 (by decide) (by decide) (by decide) ?_
    refine s_iconst (pc' := 39) (z := (0 : Int32)) A d12_38 rfl (by decide) ?_
    exact r_bool A rfl (by decide) d12_39 (by decide) (by decide) (⟨rfl, (Keep.refl h0 [a, r_heap, r_keys, r_places]), ⟨E1, F2, F3, F4, F5, V6, V7, V8, ne9, ne10, ne11, ne12, ne13, ne14, ge15, ge16, ge17, ge18⟩⟩)
  ·
    refine s_ifY (pc' := 38) A d12_26 ((if0 _ _).trans (feq (fun q => hc26_1 ((lw_eq x1 x0).1 q))).2) (by decide) (by decide) ?_
    refine s_iconst (pc' := 39) (z := (0 : Int32)) A d12_38 rfl (by decide) ?_
    exact r_bool A rfl (by decide) d12_39 (by decide) (by decide) (⟨rfl, (Keep.refl h0 [a, r_heap, r_keys, r_places]), ⟨E1, F2, F3, F4, F5, V6, V7, V8, ne9, ne10, ne11, ne12, ne13, ne14, ge15, ge16, ge17, ge18⟩⟩)
set_option maxRecDepth 65536 in
set_option maxHeartbeats 40000000 in
theorem gq_set47 (l : Launch) (Z : State) (a0 : Array Value) (hw : ∀ d ∈ tables_1, d.before a0 Z = true) (n0 : Nat) (h0 : Heap) (Z0 : n0 ≤ h0.size) (a r_heap r_keys r_places : Addr)  (l_keys : List Value) (H : GQ Z n0 h0 a r_heap r_keys r_places (2 : Int32) [.int (0 : Int32), .int (2 : Int32), .int (0 : Int32)] l_keys [.int (0 : Int32), .int (-1 : Int32), .int (1 : Int32)]) :
    Met l Z n0 y5_set prog_22_method_11_code 3 (Option.none : Option Jvm.ClassFile.FieldType) ({ frames := 0, cells := 0, slots := 0, locals := 0 } : Room) #[(.ref a), (.int (1 : Int32)), (.int (2 : Int32))] h0 (fun v h => v = none ∧ Keep h0 h [a, r_heap, r_keys, r_places] ∧ GQ Z n0 h a r_heap r_keys r_places (2 : Int32) [.int (0 : Int32), .int (2 : Int32), .int (0 : Int32)] l_keys [.int (0 : Int32), .int (-1 : Int32), .int (1 : Int32)]) := by
  refine met_intro (own := c1_GainQueue) (plainFor_of_name pn_com_example_kithgraph_kithgraph_cluster_GainQueue) rfl Z0 ?_
  intro p e s m below meth c T A hnm
  refine Wp.cast (g' := mkF m 0 #[rv a, iv 1, iv 2] []) (by first | (simp [entryFrame, mkF, argsToLocals, Value.category, maxLocals, jv, S2, U0, iv, rv]; done) | rfl) ?_
  obtain ⟨E1, F2, F3, F4, F5, V6, V7, V8, ne9, ne10, ne11, ne12, ne13, ne14, ge15, ge16, ge17, ge18⟩ := H
  refine s_aloadN (pc' := 1) A d9_0 rfl rfl rfl ?_
  refine s_getfield (pc' := 4) (host := "") A (Or.inl (w12 hw)) Via.refl F3 d9_1 rfl fun T A => ?_
  refine s_iloadN (pc' := 5) A d9_4 rfl rfl ?_
  refine s_iloadN (pc' := 6) A d9_5 rfl rfl ?_
  refine s_iastore (pc' := 7) (i := 1) A V6 (by decide) (Nat.le_of_ble_eq_true rfl) ge16 d9_6 rfl fun T h19 A W20 V21 => ?_
  have V21 : AA Z h19 r_heap .int [.int (0 : Int32), .int (2 : Int32), .int (0 : Int32)] := V21
  refine s_aloadN (pc' := 8) A d9_7 rfl rfl rfl ?_
  have F22 := (F5.other W20 (Or.inl ne9))
  refine s_getfield (pc' := 11) (host := "") A (Or.inl (w17 hw)) Via.refl F22 d9_8 rfl fun T A => ?_
  refine s_iloadN (pc' := 12) A d9_11 rfl rfl ?_
  refine s_iloadN (pc' := 13) A d9_12 rfl rfl ?_
  have V23 := (V8.other W20 (Ne.symm ne13))
  refine s_iastore (pc' := 14) (i := 2) A V23 (by decide) (Nat.le_of_ble_eq_true rfl) ge18 d9_13 rfl fun T h24 A W25 V26 => ?_
  have V26 : AA Z h24 r_places .int [.int (0 : Int32), .int (-1 : Int32), .int (1 : Int32)] := V26
  have K27 := (((Keep.refl h0 [a, r_heap, r_keys, r_places]).wr W20 (Or.inl (List.mem_of_getElem? (i := 1) rfl))).wr W25 (Or.inl (List.mem_of_getElem? (i := 3) rfl)))
  have E28 := ((E1.wr W20).wr W25)
  have F29 := ((F2.other W20 (Or.inl ne9)).other W25 (Or.inl ne11))
  have F30 := ((F3.other W20 (Or.inl ne9)).other W25 (Or.inl ne11))
  have F31 := ((F4.other W20 (Or.inl ne9)).other W25 (Or.inl ne11))
  have F32 := (F22.other W25 (Or.inl ne11))
  have V33 := (V21.other W25 ne13)
  have V34 := ((V7.other W20 (Ne.symm ne12)).other W25 ne14)
  exact r_void A rfl d9_14 (by decide) (by decide) (⟨rfl, K27, ⟨E28, F29, F30, F31, F32, V33, V34, V26, ne9, ne10, ne11, ne12, ne13, ne14, ge15, ge16, ge17, ge18⟩⟩)
set_option maxRecDepth 65536 in
set_option maxHeartbeats 40000000 in
theorem gq_up45 (l : Launch) (Z : State) (a0 : Array Value) (hw : ∀ d ∈ tables_1, d.before a0 Z = true) (n0 : Nat) (h0 : Heap) (Z0 : n0 ≤ h0.size) (a r_heap r_keys r_places : Addr) (x0 : Int64) (x1 : Int64) (H : GQ Z n0 h0 a r_heap r_keys r_places (2 : Int32) [.int (0 : Int32), .int (2 : Int32), .int (0 : Int32)] [.long x0, .long (0 : Int64), .long x1] [.int (0 : Int32), .int (-1 : Int32), .int (1 : Int32)]) (hk : ¬ x0 < x1) :
    Met l Z n0 y6_up prog_22_method_9_code 4 (Option.none : Option Jvm.ClassFile.FieldType) ({ frames := 1, cells := 0, slots := 0, locals := 18 } : Room) #[(.ref a), (.int (1 : Int32))] h0 (fun v h => v = none ∧ Keep h0 h [a, r_heap, r_keys, r_places] ∧ GQ Z n0 h a r_heap r_keys r_places (2 : Int32) [.int (0 : Int32), .int (2 : Int32), .int (0 : Int32)] [.long x0, .long (0 : Int64), .long x1] [.int (0 : Int32), .int (-1 : Int32), .int (1 : Int32)]) := by
  refine met_intro (own := c1_GainQueue) (plainFor_of_name pn_com_example_kithgraph_kithgraph_cluster_GainQueue) rfl Z0 ?_
  intro p e s m below meth c T A hnm
  refine Wp.cast (g' := mkF m 0 #[rv a, iv 1, U0, U0] []) (by first | (simp [entryFrame, mkF, argsToLocals, Value.category, maxLocals, jv, S2, U0, iv, rv]; done) | rfl) ?_
  obtain ⟨E1, F2, F3, F4, F5, V6, V7, V8, ne9, ne10, ne11, ne12, ne13, ne14, ge15, ge16, ge17, ge18⟩ := H
  refine s_aloadN (pc' := 1) A d8_0 rfl rfl rfl ?_
  refine s_getfield (pc' := 4) (host := "") A (Or.inl (w12 hw)) Via.refl F3 d8_1 rfl fun T A => ?_
  refine s_iloadN (pc' := 5) A d8_4 rfl rfl ?_
  refine s_iaload (pc' := 6) (i := 1) (v := (.int (2 : Int32))) A V6 (by decide) rfl d8_5 rfl ?_
  refine s_istoreN (pc' := 7) (Ls' := #[rv a, iv 1, iv 2, U0]) A d8_6 rfl rfl ?_
  refine s_iloadN (pc' := 8) A d8_7 rfl rfl ?_
  refine s_ifN (pc' := 11) A d8_8 rfl (by decide) ?_
  refine s_iloadN (pc' := 12) A d8_11 rfl rfl ?_
  refine s_iconst (pc' := 13) (z := (1 : Int32)) A d8_12 rfl (by decide) ?_
  refine s_isub (pc' := 14) (z := (0 : Int32)) A d8_13 rfl (by decide) ?_
  refine s_iconst (pc' := 15) (z := (2 : Int32)) A d8_14 rfl (by decide) ?_
  refine s_idiv (pc' := 16) (z := (0 : Int32)) A d8_15 rfl (by decide) (by decide) ?_
  refine s_istoreN (pc' := 17) (Ls' := #[rv a, iv 1, iv 2, iv 0]) A d8_16 rfl rfl ?_
  refine s_aloadN (pc' := 18) A d8_17 rfl rfl rfl ?_
  refine s_iloadN (pc' := 19) A d8_18 rfl rfl ?_
  refine s_aloadN (pc' := 20) A d8_19 rfl rfl rfl ?_
  refine s_getfield (pc' := 23) (host := "") A (Or.inl (w12 hw)) Via.refl F3 d8_20 rfl fun T A => ?_
  refine s_iloadN (pc' := 24) A d8_23 rfl rfl ?_
  refine s_iaload (pc' := 25) (i := 0) (v := (.int (0 : Int32))) A V6 (by decide) rfl d8_24 rfl ?_
  refine s_private (pc' := 28) (y := y10_before) (argsL := [(.int (2 : Int32)), (.int (0 : Int32))]) (rest := []) A E1 (gq_before46 l Z a0 hw n0 h0 A.size a r_heap r_keys r_places x0 x1 [.int (0 : Int32), .int (2 : Int32), .int (0 : Int32)] [.int (0 : Int32), .int (-1 : Int32), .int (1 : Int32)] ⟨E1, F2, F3, F4, F5, V6, V7, V8, ne9, ne10, ne11, ne12, ne13, ne14, ge15, ge16, ge17, ge18⟩ hk) (w63 hw) (w64 hw) (w1 hw) (w65 hw) (w2 hw) (w66 hw) (by decide) pd__II_Z rfl (W := 0) (by decide) (by decide) (Nat.le_of_eq rfl) (by decide) (by decide) rfl rfl d8_25 rfl fun T h21 v22 A Q23 => ?_
  obtain ⟨rfl, K19, H20⟩ := Q23
  obtain ⟨E24, F25, F26, F27, F28, V29, V30, V31, ne32, ne33, ne34, ne35, ne36, ne37, ge38, ge39, ge40, ge41⟩ := H20
  refine Wp.stk (st' := [(.int (0 : Int32))]) rfl ?_
  refine s_ifN (pc' := 31) A d8_28 rfl (by decide) ?_
  refine s_goto (pc' := 50) A d8_31 (by decide) (by decide) ?_
  refine s_aloadN (pc' := 51) A d8_50 rfl rfl rfl ?_
  refine s_iloadN (pc' := 52) A d8_51 rfl rfl ?_
  refine s_iloadN (pc' := 53) A d8_52 rfl rfl ?_
  refine s_private (pc' := 56) (y := y5_set) (argsL := [(.int (1 : Int32)), (.int (2 : Int32))]) (rest := []) A E24 (gq_set47 l Z a0 hw n0 h21 A.size a r_heap r_keys r_places [.long x0, .long (0 : Int64), .long x1] ⟨E24, F25, F26, F27, F28, V29, V30, V31, ne32, ne33, ne34, ne35, ne36, ne37, ge38, ge39, ge40, ge41⟩) (w49 hw) (w50 hw) (w1 hw) (w51 hw) (w2 hw) (w52 hw) (by decide) pd__II_V rfl (W := 0) (by decide) (by decide) (Nat.le_of_eq rfl) (by decide) (by decide) rfl rfl d8_53 rfl fun T h44 v45 A Q46 => ?_
  obtain ⟨rfl, K42, H43⟩ := Q46
  obtain ⟨E47, F48, F49, F50, F51, V52, V53, V54, ne55, ne56, ne57, ne58, ne59, ne60, ge61, ge62, ge63, ge64⟩ := H43
  refine Wp.stk (st' := []) rfl ?_
  have K65 := (((Keep.refl h0 [a, r_heap, r_keys, r_places]).trans K19 (allS (Or.inl (List.mem_of_getElem? (i := 0) rfl)) (allS (Or.inl (List.mem_of_getElem? (i := 1) rfl)) (allS (Or.inl (List.mem_of_getElem? (i := 2) rfl)) (allS (Or.inl (List.mem_of_getElem? (i := 3) rfl)) all0))))).trans K42 (allS (Or.inl (List.mem_of_getElem? (i := 0) rfl)) (allS (Or.inl (List.mem_of_getElem? (i := 1) rfl)) (allS (Or.inl (List.mem_of_getElem? (i := 2) rfl)) (allS (Or.inl (List.mem_of_getElem? (i := 3) rfl)) all0)))))
  exact r_void A rfl d8_56 (by decide) (by decide) (⟨rfl, K65, ⟨E47, F48, F49, F50, F51, V52, V53, V54, ne55, ne56, ne57, ne58, ne59, ne60, ge61, ge62, ge63, ge64⟩⟩)
set_option maxRecDepth 65536 in
set_option maxHeartbeats 40000000 in
theorem gq_put44 (l : Launch) (Z : State) (a0 : Array Value) (hw : ∀ d ∈ tables_1, d.before a0 Z = true) (n0 : Nat) (h0 : Heap) (Z0 : n0 ≤ h0.size) (a r_heap r_keys r_places : Addr) (x0 : Int64) (x1 : Int64) (H : GQ Z n0 h0 a r_heap r_keys r_places (1 : Int32) [.int (0 : Int32), .int (0 : Int32), .int (0 : Int32)] [.long x0, .long (0 : Int64), .long (0 : Int64)] [.int (0 : Int32), .int (-1 : Int32), .int (-1 : Int32)]) (hk : ¬ x0 < x1) :
    Met l Z n0 y7_put prog_22_method_4_code 6 (Option.none : Option Jvm.ClassFile.FieldType) ({ frames := 2, cells := 0, slots := 0, locals := 33 } : Room) #[(.ref a), (.int (2 : Int32)), (.long x1)] h0 (fun v h => v = none ∧ Keep h0 h [a, r_heap, r_keys, r_places] ∧ GQ Z n0 h a r_heap r_keys r_places (2 : Int32) [.int (0 : Int32), .int (2 : Int32), .int (0 : Int32)] [.long x0, .long (0 : Int64), .long x1] [.int (0 : Int32), .int (-1 : Int32), .int (1 : Int32)]) := by
  refine met_intro (own := c1_GainQueue) (plainFor_of_name pn_com_example_kithgraph_kithgraph_cluster_GainQueue) rfl Z0 ?_
  intro p e s m below meth c T A hnm
  refine Wp.cast (g' := mkF m 0 #[rv a, iv 2, jv x1, S2, U0, U0] []) (by first | (simp [entryFrame, mkF, argsToLocals, Value.category, maxLocals, jv, S2, U0, iv, rv]; done) | rfl) ?_
  obtain ⟨E1, F2, F3, F4, F5, V6, V7, V8, ne9, ne10, ne11, ne12, ne13, ne14, ge15, ge16, ge17, ge18⟩ := H
  refine s_aloadN (pc' := 1) A d7_0 rfl rfl rfl ?_
  refine s_iloadN (pc' := 2) A d7_1 rfl rfl ?_
  refine s_virtual (pc' := 5) (y := y4_contains) (argsL := [(.int (2 : Int32))]) (rest := []) (z := y4_contains) A E1 (gq_contains38 l Z a0 hw n0 h0 A.size a r_heap r_keys r_places [.int (0 : Int32), .int (0 : Int32), .int (0 : Int32)] [.long x0, .long (0 : Int64), .long (0 : Int64)] ⟨E1, F2, F3, F4, F5, V6, V7, V8, ne9, ne10, ne11, ne12, ne13, ne14, ge15, ge16, ge17, ge18⟩) (w44 hw) (w34 hw) (nf_same (C := "") (w36 hw)) (w36 hw) (w35 hw) (w2 hw) (w37 hw) (by decide) pd__I_Z rfl (W := 0) (by decide) (by decide) (Nat.le_of_eq rfl) (by decide) (by decide) rfl rfl d7_2 rfl fun T h21 v22 A Q23 => ?_
  obtain ⟨rfl, K19, H20⟩ := Q23
  obtain ⟨E24, F25, F26, F27, F28, V29, V30, V31, ne32, ne33, ne34, ne35, ne36, ne37, ge38, ge39, ge40, ge41⟩ := H20
  refine Wp.stk (st' := [(.int (0 : Int32))]) rfl ?_
  refine s_ifY (pc' := 56) A d7_5 (by decide) (by decide) (by decide) ?_
  refine s_aloadN (pc' := 57) A d7_56 rfl rfl rfl ?_
  refine s_getfield (pc' := 60) (host := "") A (Or.inl (w15 hw)) Via.refl F27 d7_57 rfl fun T A => ?_
  refine s_iloadN (pc' := 61) A d7_60 rfl rfl ?_
  refine s_lloadN (pc' := 62) A d7_61 rfl rfl ?_
  refine s_lastore (pc' := 63) (i := 2) A V30 (by decide) (Nat.le_of_ble_eq_true rfl) ge40 d7_62 rfl fun T h42 A W43 V44 => ?_
  have V44 : AA Z h42 r_keys .long [.long x0, .long (0 : Int64), .long x1] := V44
  refine s_aloadN (pc' := 64) A d7_63 rfl rfl rfl ?_
  have F45 := (F26.other W43 (Or.inl ne33))
  refine s_getfield (pc' := 67) (host := "") A (Or.inl (w12 hw)) Via.refl F45 d7_64 rfl fun T A => ?_
  refine s_aloadN (pc' := 68) A d7_67 rfl rfl rfl ?_
  have F46 := (F25.other W43 (Or.inl ne33))
  refine s_getfield (pc' := 71) (host := "") A (Or.inl (w9 hw)) Via.refl F46 d7_68 rfl fun T A => ?_
  refine s_iloadN (pc' := 72) A d7_71 rfl rfl ?_
  have V47 := (V29.other W43 ne35)
  refine s_iastore (pc' := 73) (i := 1) A V47 (by decide) (Nat.le_of_ble_eq_true rfl) ge39 d7_72 rfl fun T h48 A W49 V50 => ?_
  have V50 : AA Z h48 r_heap .int [.int (0 : Int32), .int (2 : Int32), .int (0 : Int32)] := V50
  refine s_aloadN (pc' := 74) A d7_73 rfl rfl rfl ?_
  have F51 := ((F28.other W43 (Or.inl ne33)).other W49 (Or.inl ne32))
  refine s_getfield (pc' := 77) (host := "") A (Or.inl (w17 hw)) Via.refl F51 d7_74 rfl fun T A => ?_
  refine s_iloadN (pc' := 78) A d7_77 rfl rfl ?_
  refine s_aloadN (pc' := 79) A d7_78 rfl rfl rfl ?_
  have F52 := (F46.other W49 (Or.inl ne32))
  refine s_getfield (pc' := 82) (host := "") A (Or.inl (w9 hw)) Via.refl F52 d7_79 rfl fun T A => ?_
  have V53 := ((V31.other W43 (Ne.symm ne37)).other W49 (Ne.symm ne36))
  refine s_iastore (pc' := 83) (i := 2) A V53 (by decide) (Nat.le_of_ble_eq_true rfl) ge41 d7_82 rfl fun T h54 A W55 V56 => ?_
  have V56 : AA Z h54 r_places .int [.int (0 : Int32), .int (-1 : Int32), .int (1 : Int32)] := V56
  refine s_aloadN (pc' := 84) A d7_83 rfl rfl rfl ?_
  refine s_dup (pc' := 85) A d7_84 rfl rfl ?_
  have F57 := (F52.other W55 (Or.inl ne34))
  refine s_getfield (pc' := 88) (host := "") A (Or.inl (w9 hw)) Via.refl F57 d7_85 rfl fun T A => ?_
  refine s_iconst (pc' := 89) (z := (1 : Int32)) A d7_88 rfl (by decide) ?_
  refine s_iadd (pc' := 90) (z := (2 : Int32)) A d7_89 rfl (by decide) ?_
  have E58 := (((E24.wr W43).wr W49).wr W55)
  refine s_putfield (pc' := 93) (host := "") A (Or.inl (w9 hw)) Via.refl F57 E58 (Or.inl (w10 hw)) (w1 hw) (ty := .int) (by decide) rfl rfl ge38 d7_90 rfl fun T h59 A W60 => ?_
  have F61 := F57.same W60
  refine s_aloadN (pc' := 94) A d7_93 rfl rfl rfl ?_
  refine s_aloadN (pc' := 95) A d7_94 rfl rfl rfl ?_
  refine s_getfield (pc' := 98) (host := "") A (Or.inl (w9 hw)) Via.refl F61 d7_95 rfl fun T A => ?_
  refine s_iconst (pc' := 99) (z := (1 : Int32)) A d7_98 rfl (by decide) ?_
  refine s_isub (pc' := 100) (z := (1 : Int32)) A d7_99 rfl (by decide) ?_
  have E62 := (E58.wr W60)
  have F63 := (((F45.other W49 (Or.inl ne32)).other W55 (Or.inl ne34)).other W60 (Or.inr (sn_GainQueue_heap_count hw)))
  have F64 := ((((F27.other W43 (Or.inl ne33)).other W49 (Or.inl ne32)).other W55 (Or.inl ne34)).other W60 (Or.inr (sn_GainQueue_keys_count hw)))
  have F65 := ((F51.other W55 (Or.inl ne34)).other W60 (Or.inr (sn_GainQueue_places_count hw)))
  have V66 := ((V50.other W55 ne36).other W60 (Ne.symm ne32))
  have V67 := (((V44.other W49 (Ne.symm ne35)).other W55 ne37).other W60 (Ne.symm ne33))
  have V68 := (V56.other W60 (Ne.symm ne34))
  refine s_private (pc' := 103) (y := y6_up) (argsL := [(.int (1 : Int32))]) (rest := []) A E62 (gq_up45 l Z a0 hw n0 h59 A.size a r_heap r_keys r_places x0 x1 ⟨E62, F61, F63, F64, F65, V66, V67, V68, ne32, ne33, ne34, ne35, ne36, ne37, ge38, ge39, ge40, ge41⟩ hk) (w45 hw) (w46 hw) (w1 hw) (w47 hw) (w2 hw) (w48 hw) (by decide) pd__I_V rfl (W := 0) (by decide) (by decide) (Nat.le_of_eq rfl) (by decide) (by decide) rfl rfl d7_100 rfl fun T h71 v72 A Q73 => ?_
  obtain ⟨rfl, K69, H70⟩ := Q73
  obtain ⟨E74, F75, F76, F77, F78, V79, V80, V81, ne82, ne83, ne84, ne85, ne86, ne87, ge88, ge89, ge90, ge91⟩ := H70
  refine Wp.stk (st' := []) rfl ?_
  have K92 := (((((((Keep.refl h0 [a, r_heap, r_keys, r_places]).trans K19 (allS (Or.inl (List.mem_of_getElem? (i := 0) rfl)) (allS (Or.inl (List.mem_of_getElem? (i := 1) rfl)) (allS (Or.inl (List.mem_of_getElem? (i := 2) rfl)) (allS (Or.inl (List.mem_of_getElem? (i := 3) rfl)) all0))))).wr W43 (Or.inl (List.mem_of_getElem? (i := 2) rfl))).wr W49 (Or.inl (List.mem_of_getElem? (i := 1) rfl))).wr W55 (Or.inl (List.mem_of_getElem? (i := 3) rfl))).wr W60 (Or.inl (List.mem_of_getElem? (i := 0) rfl))).trans K69 (allS (Or.inl (List.mem_of_getElem? (i := 0) rfl)) (allS (Or.inl (List.mem_of_getElem? (i := 1) rfl)) (allS (Or.inl (List.mem_of_getElem? (i := 2) rfl)) (allS (Or.inl (List.mem_of_getElem? (i := 3) rfl)) all0)))))
  exact r_void A rfl d7_103 (by decide) (by decide) (⟨rfl, K92, ⟨E74, F75, F76, F77, F78, V79, V80, V81, ne82, ne83, ne84, ne85, ne86, ne87, ge88, ge89, ge90, ge91⟩⟩)
set_option maxRecDepth 65536 in
set_option maxHeartbeats 40000000 in
theorem gq_clear48 (l : Launch) (Z : State) (a0 : Array Value) (hw : ∀ d ∈ tables_1, d.before a0 Z = true) (n0 : Nat) (h0 : Heap) (Z0 : n0 ≤ h0.size) (a r_heap r_keys r_places : Addr)  (l_keys : List Value) (H : GQ Z n0 h0 a r_heap r_keys r_places (2 : Int32) [.int (0 : Int32), .int (2 : Int32), .int (0 : Int32)] l_keys [.int (0 : Int32), .int (-1 : Int32), .int (1 : Int32)]) :
    Met l Z n0 y2_clear prog_22_method_8_code 2 (Option.none : Option Jvm.ClassFile.FieldType) ({ frames := 0, cells := 0, slots := 0, locals := 0 } : Room) #[(.ref a)] h0 (fun v h => v = none ∧ Keep h0 h [a, r_heap, r_keys, r_places] ∧ GQ Z n0 h a r_heap r_keys r_places (0 : Int32) [.int (0 : Int32), .int (2 : Int32), .int (0 : Int32)] l_keys [.int (-1 : Int32), .int (-1 : Int32), .int (-1 : Int32)]) := by
  refine met_intro (own := c1_GainQueue) (plainFor_of_name pn_com_example_kithgraph_kithgraph_cluster_GainQueue) rfl Z0 ?_
  intro p e s m below meth c T A hnm
  refine Wp.cast (g' := mkF m 0 #[rv a, U0] []) (by first | (simp [entryFrame, mkF, argsToLocals, Value.category, maxLocals, jv, S2, U0, iv, rv]; done) | rfl) ?_
  obtain ⟨E1, F2, F3, F4, F5, V6, V7, V8, ne9, ne10, ne11, ne12, ne13, ne14, ge15, ge16, ge17, ge18⟩ := H
  refine s_iconst (pc' := 1) (z := (0 : Int32)) A d4_0 rfl (by decide) ?_
  refine s_istoreN (pc' := 2) (Ls' := #[rv a, iv 0]) A d4_1 rfl rfl ?_
  refine s_iloadN (pc' := 3) A d4_2 rfl rfl ?_
  refine s_aloadN (pc' := 4) A d4_3 rfl rfl rfl ?_
  refine s_getfield (pc' := 7) (host := "") A (Or.inl (w9 hw)) Via.refl F2 d4_4 rfl fun T A => ?_
  refine s_icmpN (pc' := 10) A d4_7 rfl (by decide) ?_
  refine s_aloadN (pc' := 11) A d4_10 rfl rfl rfl ?_
  refine s_getfield (pc' := 14) (host := "") A (Or.inl (w17 hw)) Via.refl F5 d4_11 rfl fun T A => ?_
  refine s_aloadN (pc' := 15) A d4_14 rfl rfl rfl ?_
  refine s_getfield (pc' := 18) (host := "") A (Or.inl (w12 hw)) Via.refl F3 d4_15 rfl fun T A => ?_
  refine s_iloadN (pc' := 19) A d4_18 rfl rfl ?_
  refine s_iaload (pc' := 20) (i := 0) (v := (.int (0 : Int32))) A V6 (by decide) rfl d4_19 rfl ?_
  refine s_iconst (pc' := 21) (z := (-1 : Int32)) A d4_20 rfl (by decide) ?_
  refine s_iastore (pc' := 22) (i := 0) A V8 (by decide) (Nat.le_of_ble_eq_true rfl) ge18 d4_21 rfl fun T h19 A W20 V21 => ?_
  have V21 : AA Z h19 r_places .int [.int (-1 : Int32), .int (-1 : Int32), .int (1 : Int32)] := V21
  refine s_iinc (pc' := 25) (z := (1 : Int32)) (Ls' := #[rv a, iv 1]) A d4_22 rfl rfl (by decide) rfl ?_
  refine s_goto (pc' := 2) A d4_25 (by decide) (by decide) ?_
  refine s_iloadN (pc' := 3) A d4_2 rfl rfl ?_
  refine s_aloadN (pc' := 4) A d4_3 rfl rfl rfl ?_
  have F22 := (F2.other W20 (Or.inl ne11))
  refine s_getfield (pc' := 7) (host := "") A (Or.inl (w9 hw)) Via.refl F22 d4_4 rfl fun T A => ?_
  refine s_icmpN (pc' := 10) A d4_7 rfl (by decide) ?_
  refine s_aloadN (pc' := 11) A d4_10 rfl rfl rfl ?_
  have F23 := (F5.other W20 (Or.inl ne11))
  refine s_getfield (pc' := 14) (host := "") A (Or.inl (w17 hw)) Via.refl F23 d4_11 rfl fun T A => ?_
  refine s_aloadN (pc' := 15) A d4_14 rfl rfl rfl ?_
  have F24 := (F3.other W20 (Or.inl ne11))
  refine s_getfield (pc' := 18) (host := "") A (Or.inl (w12 hw)) Via.refl F24 d4_15 rfl fun T A => ?_
  refine s_iloadN (pc' := 19) A d4_18 rfl rfl ?_
  have V25 := (V6.other W20 ne13)
  refine s_iaload (pc' := 20) (i := 1) (v := (.int (2 : Int32))) A V25 (by decide) rfl d4_19 rfl ?_
  refine s_iconst (pc' := 21) (z := (-1 : Int32)) A d4_20 rfl (by decide) ?_
  refine s_iastore (pc' := 22) (i := 2) A V21 (by decide) (Nat.le_of_ble_eq_true rfl) ge18 d4_21 rfl fun T h26 A W27 V28 => ?_
  have V28 : AA Z h26 r_places .int [.int (-1 : Int32), .int (-1 : Int32), .int (-1 : Int32)] := V28
  refine s_iinc (pc' := 25) (z := (2 : Int32)) (Ls' := #[rv a, iv 2]) A d4_22 rfl rfl (by decide) rfl ?_
  refine s_goto (pc' := 2) A d4_25 (by decide) (by decide) ?_
  refine s_iloadN (pc' := 3) A d4_2 rfl rfl ?_
  refine s_aloadN (pc' := 4) A d4_3 rfl rfl rfl ?_
  have F29 := (F22.other W27 (Or.inl ne11))
  refine s_getfield (pc' := 7) (host := "") A (Or.inl (w9 hw)) Via.refl F29 d4_4 rfl fun T A => ?_
  refine s_icmpY (pc' := 28) A d4_7 (by decide) (by decide) (by decide) ?_
  refine s_aloadN (pc' := 29) A d4_28 rfl rfl rfl ?_
  refine s_iconst (pc' := 30) (z := (0 : Int32)) A d4_29 rfl (by decide) ?_
  have E30 := ((E1.wr W20).wr W27)
  refine s_putfield (pc' := 33) (host := "") A (Or.inl (w9 hw)) Via.refl F29 E30 (Or.inl (w10 hw)) (w1 hw) (ty := .int) (by decide) rfl rfl ge15 d4_30 rfl fun T h31 A W32 => ?_
  have F33 := F29.same W32
  have K34 := ((((Keep.refl h0 [a, r_heap, r_keys, r_places]).wr W20 (Or.inl (List.mem_of_getElem? (i := 3) rfl))).wr W27 (Or.inl (List.mem_of_getElem? (i := 3) rfl))).wr W32 (Or.inl (List.mem_of_getElem? (i := 0) rfl)))
  have E35 := (E30.wr W32)
  have F36 := ((F24.other W27 (Or.inl ne11)).other W32 (Or.inr (sn_GainQueue_heap_count hw)))
  have F37 := (((F4.other W20 (Or.inl ne11)).other W27 (Or.inl ne11)).other W32 (Or.inr (sn_GainQueue_keys_count hw)))
  have F38 := ((F23.other W27 (Or.inl ne11)).other W32 (Or.inr (sn_GainQueue_places_count hw)))
  have V39 := ((V25.other W27 ne13).other W32 (Ne.symm ne9))
  have V40 := (((V7.other W20 ne14).other W27 ne14).other W32 (Ne.symm ne10))
  have V41 := (V28.other W32 (Ne.symm ne11))
  exact r_void A rfl d4_33 (by decide) (by decide) (⟨rfl, K34, ⟨E35, F33, F36, F37, F38, V39, V40, V41, ne9, ne10, ne11, ne12, ne13, ne14, ge15, ge16, ge17, ge18⟩⟩)
set_option maxRecDepth 65536 in
set_option maxHeartbeats 40000000 in
theorem gq_contains50 (l : Launch) (Z : State) (a0 : Array Value) (hw : ∀ d ∈ tables_1, d.before a0 Z = true) (n0 : Nat) (h0 : Heap) (Z0 : n0 ≤ h0.size) (a r_heap r_keys r_places : Addr)  (l_heap : List Value) (l_keys : List Value) (H : GQ Z n0 h0 a r_heap r_keys r_places (1 : Int32) l_heap l_keys [.int (0 : Int32), .int (-1 : Int32), .int (-1 : Int32)]) :
    Met l Z n0 y4_contains prog_22_method_3_code 2 (Option.some Jvm.ClassFile.FieldType.boolean) ({ frames := 0, cells := 0, slots := 0, locals := 0 } : Room) #[(.ref a), (.int (1 : Int32))] h0 (fun v h => v = some (.int (0 : Int32)) ∧ Keep h0 h [a, r_heap, r_keys, r_places] ∧ GQ Z n0 h a r_heap r_keys r_places (1 : Int32) l_heap l_keys [.int (0 : Int32), .int (-1 : Int32), .int (-1 : Int32)]) := by
  refine met_intro (own := c1_GainQueue) (plainFor_of_name pn_com_example_kithgraph_kithgraph_cluster_GainQueue) rfl Z0 ?_
  intro p e s m below meth c T A hnm
  refine Wp.cast (g' := mkF m 0 #[rv a, iv 1] []) (by first | (simp [entryFrame, mkF, argsToLocals, Value.category, maxLocals, jv, S2, U0, iv, rv]; done) | rfl) ?_
  obtain ⟨E1, F2, F3, F4, F5, V6, V7, V8, ne9, ne10, ne11, ne12, ne13, ne14, ge15, ge16, ge17, ge18⟩ := H
  refine s_aloadN (pc' := 1) A d6_0 rfl rfl rfl ?_
  refine s_getfield (pc' := 4) (host := "") A (Or.inl (w17 hw)) Via.refl F5 d6_1 rfl fun T A => ?_
  refine s_iloadN (pc' := 5) A d6_4 rfl rfl ?_
  refine s_iaload (pc' := 6) (i := 1) (v := (.int (-1 : Int32))) A V8 (by decide) rfl d6_5 rfl ?_
  refine s_iconst (pc' := 7) (z := (-1 : Int32)) A d6_6 rfl (by decide) ?_
  refine s_icmpY (pc' := 14) A d6_7 (by decide) (by decide) (by decide) ?_
  refine s_iconst (pc' := 15) (z := (0 : Int32)) A d6_14 rfl (by decide) ?_
  exact r_bool A rfl (by decide) d6_15 (by decide) (by decide) (⟨rfl, (Keep.refl h0 [a, r_heap, r_keys, r_places]), ⟨E1, F2, F3, F4, F5, V6, V7, V8, ne9, ne10, ne11, ne12, ne13, ne14, ge15, ge16, ge17, ge18⟩⟩)
set_option maxRecDepth 65536 in
set_option maxHeartbeats 40000000 in
theorem gq_before52 (l : Launch) (Z : State) (a0 : Array Value) (hw : ∀ d ∈ tables_1, d.before a0 Z = true) (n0 : Nat) (h0 : Heap) (Z0 : n0 ≤ h0.size) (a r_heap r_keys r_places : Addr) (x0 : Int64) (x1 : Int64) (l_heap : List Value) (l_places : List Value) (H : GQ Z n0 h0 a r_heap r_keys r_places (2 : Int32) l_heap [.long x0, .long x1, .long (0 : Int64)] l_places) (hk : x0 < x1) :
    Met l Z n0 y10_before prog_22_method_12_code 7 (Option.some Jvm.ClassFile.FieldType.boolean) ({ frames := 0, cells := 0, slots := 0, locals := 0 } : Room) #[(.ref a), (.int (1 : Int32)), (.int (0 : Int32))] h0 (fun v h => v = some (.int (1 : Int32)) ∧ Keep h0 h [a, r_heap, r_keys, r_places] ∧ GQ Z n0 h a r_heap r_keys r_places (2 : Int32) l_heap [.long x0, .long x1, .long (0 : Int64)] l_places) := by
  refine met_intro (own := c1_GainQueue) (plainFor_of_name pn_com_example_kithgraph_kithgraph_cluster_GainQueue) rfl Z0 ?_
  intro p e s m below meth c T A hnm
  refine Wp.cast (g' := mkF m 0 #[rv a, iv 1, iv 0, U0, U0, U0, U0] []) (by first | (simp [entryFrame, mkF, argsToLocals, Value.category, maxLocals, jv, S2, U0, iv, rv]; done) | rfl) ?_
  obtain ⟨E1, F2, F3, F4, F5, V6, V7, V8, ne9, ne10, ne11, ne12, ne13, ne14, ge15, ge16, ge17, ge18⟩ := H
  refine s_aloadN (pc' := 1) A d12_0 rfl rfl rfl ?_
  refine s_getfield (pc' := 4) (host := "") A (Or.inl (w15 hw)) Via.refl F4 d12_1 rfl fun T A => ?_
  refine s_iloadN (pc' := 5) A d12_4 rfl rfl ?_
  refine s_laload (pc' := 6) (i := 1) (v := (.long x1)) A V7 (by decide) rfl d12_5 rfl ?_
  refine s_lstoreN (pc' := 7) (Ls' := #[rv a, iv 1, iv 0, jv x1, S2, U0, U0]) A d12_6 rfl rfl ?_
  refine s_aloadN (pc' := 8) A d12_7 rfl rfl rfl ?_
  refine s_getfield (pc' := 11) (host := "") A (Or.inl (w15 hw)) Via.refl F4 d12_8 rfl fun T A => ?_
  refine s_iloadN (pc' := 12) A d12_11 rfl rfl ?_
  refine s_laload (pc' := 13) (i := 0) (v := (.long x0)) A V7 (by decide) rfl d12_12 rfl ?_
  refine s_lstore (pc' := 15) (Ls' := #[rv a, iv 1, iv 0, jv x1, S2, jv x0, S2]) A d12_13 rfl rfl ?_
  refine s_lloadN (pc' := 16) A d12_15 rfl rfl ?_
  refine s_lload (pc' := 18) A d12_16 rfl rfl ?_
  refine s_lcmp (pc' := 19) A d12_18 rfl ?_
  refine s_ifY (pc' := 34) A d12_19 ((if0 _ _).trans (tlt ((lw_gt x1 x0).2 hk)).2.2.1) (by decide) (by decide) ?_
  refine s_iconst (pc' := 35) (z := (1 : Int32)) A d12_34 rfl (by decide) ?_
  refine s_goto (pc' := 39) A d12_35 (by decide) (by decide) ?_
  exact r_bool A rfl (by decide) d12_39 (by decide) (by decide) (⟨rfl, (Keep.refl h0 [a, r_heap, r_keys, r_places]), ⟨E1, F2, F3, F4, F5, V6, V7, V8, ne9, ne10, ne11, ne12, ne13, ne14, ge15, ge16, ge17, ge18⟩⟩)
set_option maxRecDepth 65536 in
set_option maxHeartbeats 40000000 in
theorem gq_set53 (l : Launch) (Z : State) (a0 : Array Value) (hw : ∀ d ∈ tables_1, d.before a0 Z = true) (n0 : Nat) (h0 : Heap) (Z0 : n0 ≤ h0.size) (a r_heap r_keys r_places : Addr)  (l_keys : List Value) (H : GQ Z n0 h0 a r_heap r_keys r_places (2 : Int32) [.int (0 : Int32), .int (1 : Int32), .int (0 : Int32)] l_keys [.int (0 : Int32), .int (1 : Int32), .int (-1 : Int32)]) :
    Met l Z n0 y5_set prog_22_method_11_code 3 (Option.none : Option Jvm.ClassFile.FieldType) ({ frames := 0, cells := 0, slots := 0, locals := 0 } : Room) #[(.ref a), (.int (1 : Int32)), (.int (0 : Int32))] h0 (fun v h => v = none ∧ Keep h0 h [a, r_heap, r_keys, r_places] ∧ GQ Z n0 h a r_heap r_keys r_places (2 : Int32) [.int (0 : Int32), .int (0 : Int32), .int (0 : Int32)] l_keys [.int (1 : Int32), .int (1 : Int32), .int (-1 : Int32)]) := by
  refine met_intro (own := c1_GainQueue) (plainFor_of_name pn_com_example_kithgraph_kithgraph_cluster_GainQueue) rfl Z0 ?_
  intro p e s m below meth c T A hnm
  refine Wp.cast (g' := mkF m 0 #[rv a, iv 1, iv 0] []) (by first | (simp [entryFrame, mkF, argsToLocals, Value.category, maxLocals, jv, S2, U0, iv, rv]; done) | rfl) ?_
  obtain ⟨E1, F2, F3, F4, F5, V6, V7, V8, ne9, ne10, ne11, ne12, ne13, ne14, ge15, ge16, ge17, ge18⟩ := H
  refine s_aloadN (pc' := 1) A d9_0 rfl rfl rfl ?_
  refine s_getfield (pc' := 4) (host := "") A (Or.inl (w12 hw)) Via.refl F3 d9_1 rfl fun T A => ?_
  refine s_iloadN (pc' := 5) A d9_4 rfl rfl ?_
  refine s_iloadN (pc' := 6) A d9_5 rfl rfl ?_
  refine s_iastore (pc' := 7) (i := 1) A V6 (by decide) (Nat.le_of_ble_eq_true rfl) ge16 d9_6 rfl fun T h19 A W20 V21 => ?_
  have V21 : AA Z h19 r_heap .int [.int (0 : Int32), .int (0 : Int32), .int (0 : Int32)] := V21
  refine s_aloadN (pc' := 8) A d9_7 rfl rfl rfl ?_
  have F22 := (F5.other W20 (Or.inl ne9))
  refine s_getfield (pc' := 11) (host := "") A (Or.inl (w17 hw)) Via.refl F22 d9_8 rfl fun T A => ?_
  refine s_iloadN (pc' := 12) A d9_11 rfl rfl ?_
  refine s_iloadN (pc' := 13) A d9_12 rfl rfl ?_
  have V23 := (V8.other W20 (Ne.symm ne13))
  refine s_iastore (pc' := 14) (i := 0) A V23 (by decide) (Nat.le_of_ble_eq_true rfl) ge18 d9_13 rfl fun T h24 A W25 V26 => ?_
  have V26 : AA Z h24 r_places .int [.int (1 : Int32), .int (1 : Int32), .int (-1 : Int32)] := V26
  have K27 := (((Keep.refl h0 [a, r_heap, r_keys, r_places]).wr W20 (Or.inl (List.mem_of_getElem? (i := 1) rfl))).wr W25 (Or.inl (List.mem_of_getElem? (i := 3) rfl)))
  have E28 := ((E1.wr W20).wr W25)
  have F29 := ((F2.other W20 (Or.inl ne9)).other W25 (Or.inl ne11))
  have F30 := ((F3.other W20 (Or.inl ne9)).other W25 (Or.inl ne11))
  have F31 := ((F4.other W20 (Or.inl ne9)).other W25 (Or.inl ne11))
  have F32 := (F22.other W25 (Or.inl ne11))
  have V33 := (V21.other W25 ne13)
  have V34 := ((V7.other W20 (Ne.symm ne12)).other W25 ne14)
  exact r_void A rfl d9_14 (by decide) (by decide) (⟨rfl, K27, ⟨E28, F29, F30, F31, F32, V33, V34, V26, ne9, ne10, ne11, ne12, ne13, ne14, ge15, ge16, ge17, ge18⟩⟩)
set_option maxRecDepth 65536 in
set_option maxHeartbeats 40000000 in
theorem gq_set54 (l : Launch) (Z : State) (a0 : Array Value) (hw : ∀ d ∈ tables_1, d.before a0 Z = true) (n0 : Nat) (h0 : Heap) (Z0 : n0 ≤ h0.size) (a r_heap r_keys r_places : Addr)  (l_keys : List Value) (H : GQ Z n0 h0 a r_heap r_keys r_places (2 : Int32) [.int (0 : Int32), .int (0 : Int32), .int (0 : Int32)] l_keys [.int (1 : Int32), .int (1 : Int32), .int (-1 : Int32)]) :
    Met l Z n0 y5_set prog_22_method_11_code 3 (Option.none : Option Jvm.ClassFile.FieldType) ({ frames := 0, cells := 0, slots := 0, locals := 0 } : Room) #[(.ref a), (.int (0 : Int32)), (.int (1 : Int32))] h0 (fun v h => v = none ∧ Keep h0 h [a, r_heap, r_keys, r_places] ∧ GQ Z n0 h a r_heap r_keys r_places (2 : Int32) [.int (1 : Int32), .int (0 : Int32), .int (0 : Int32)] l_keys [.int (1 : Int32), .int (0 : Int32), .int (-1 : Int32)]) := by
  refine met_intro (own := c1_GainQueue) (plainFor_of_name pn_com_example_kithgraph_kithgraph_cluster_GainQueue) rfl Z0 ?_
  intro p e s m below meth c T A hnm
  refine Wp.cast (g' := mkF m 0 #[rv a, iv 0, iv 1] []) (by first | (simp [entryFrame, mkF, argsToLocals, Value.category, maxLocals, jv, S2, U0, iv, rv]; done) | rfl) ?_
  obtain ⟨E1, F2, F3, F4, F5, V6, V7, V8, ne9, ne10, ne11, ne12, ne13, ne14, ge15, ge16, ge17, ge18⟩ := H
  refine s_aloadN (pc' := 1) A d9_0 rfl rfl rfl ?_
  refine s_getfield (pc' := 4) (host := "") A (Or.inl (w12 hw)) Via.refl F3 d9_1 rfl fun T A => ?_
  refine s_iloadN (pc' := 5) A d9_4 rfl rfl ?_
  refine s_iloadN (pc' := 6) A d9_5 rfl rfl ?_
  refine s_iastore (pc' := 7) (i := 0) A V6 (by decide) (Nat.le_of_ble_eq_true rfl) ge16 d9_6 rfl fun T h19 A W20 V21 => ?_
  have V21 : AA Z h19 r_heap .int [.int (1 : Int32), .int (0 : Int32), .int (0 : Int32)] := V21
  refine s_aloadN (pc' := 8) A d9_7 rfl rfl rfl ?_
  have F22 := (F5.other W20 (Or.inl ne9))
  refine s_getfield (pc' := 11) (host := "") A (Or.inl (w17 hw)) Via.refl F22 d9_8 rfl fun T A => ?_
  refine s_iloadN (pc' := 12) A d9_11 rfl rfl ?_
  refine s_iloadN (pc' := 13) A d9_12 rfl rfl ?_
  have V23 := (V8.other W20 (Ne.symm ne13))
  refine s_iastore (pc' := 14) (i := 1) A V23 (by decide) (Nat.le_of_ble_eq_true rfl) ge18 d9_13 rfl fun T h24 A W25 V26 => ?_
  have V26 : AA Z h24 r_places .int [.int (1 : Int32), .int (0 : Int32), .int (-1 : Int32)] := V26
  have K27 := (((Keep.refl h0 [a, r_heap, r_keys, r_places]).wr W20 (Or.inl (List.mem_of_getElem? (i := 1) rfl))).wr W25 (Or.inl (List.mem_of_getElem? (i := 3) rfl)))
  have E28 := ((E1.wr W20).wr W25)
  have F29 := ((F2.other W20 (Or.inl ne9)).other W25 (Or.inl ne11))
  have F30 := ((F3.other W20 (Or.inl ne9)).other W25 (Or.inl ne11))
  have F31 := ((F4.other W20 (Or.inl ne9)).other W25 (Or.inl ne11))
  have F32 := (F22.other W25 (Or.inl ne11))
  have V33 := (V21.other W25 ne13)
  have V34 := ((V7.other W20 (Ne.symm ne12)).other W25 ne14)
  exact r_void A rfl d9_14 (by decide) (by decide) (⟨rfl, K27, ⟨E28, F29, F30, F31, F32, V33, V34, V26, ne9, ne10, ne11, ne12, ne13, ne14, ge15, ge16, ge17, ge18⟩⟩)
set_option maxRecDepth 65536 in
set_option maxHeartbeats 40000000 in
theorem gq_up51 (l : Launch) (Z : State) (a0 : Array Value) (hw : ∀ d ∈ tables_1, d.before a0 Z = true) (n0 : Nat) (h0 : Heap) (Z0 : n0 ≤ h0.size) (a r_heap r_keys r_places : Addr) (x0 : Int64) (x1 : Int64) (H : GQ Z n0 h0 a r_heap r_keys r_places (2 : Int32) [.int (0 : Int32), .int (1 : Int32), .int (0 : Int32)] [.long x0, .long x1, .long (0 : Int64)] [.int (0 : Int32), .int (1 : Int32), .int (-1 : Int32)]) (hk : x0 < x1) :
    Met l Z n0 y6_up prog_22_method_9_code 4 (Option.none : Option Jvm.ClassFile.FieldType) ({ frames := 1, cells := 0, slots := 0, locals := 18 } : Room) #[(.ref a), (.int (1 : Int32))] h0 (fun v h => v = none ∧ Keep h0 h [a, r_heap, r_keys, r_places] ∧ GQ Z n0 h a r_heap r_keys r_places (2 : Int32) [.int (1 : Int32), .int (0 : Int32), .int (0 : Int32)] [.long x0, .long x1, .long (0 : Int64)] [.int (1 : Int32), .int (0 : Int32), .int (-1 : Int32)]) := by
  refine met_intro (own := c1_GainQueue) (plainFor_of_name pn_com_example_kithgraph_kithgraph_cluster_GainQueue) rfl Z0 ?_
  intro p e s m below meth c T A hnm
  refine Wp.cast (g' := mkF m 0 #[rv a, iv 1, U0, U0] []) (by first | (simp [entryFrame, mkF, argsToLocals, Value.category, maxLocals, jv, S2, U0, iv, rv]; done) | rfl) ?_
  obtain ⟨E1, F2, F3, F4, F5, V6, V7, V8, ne9, ne10, ne11, ne12, ne13, ne14, ge15, ge16, ge17, ge18⟩ := H
  refine s_aloadN (pc' := 1) A d8_0 rfl rfl rfl ?_
  refine s_getfield (pc' := 4) (host := "") A (Or.inl (w12 hw)) Via.refl F3 d8_1 rfl fun T A => ?_
  refine s_iloadN (pc' := 5) A d8_4 rfl rfl ?_
  refine s_iaload (pc' := 6) (i := 1) (v := (.int (1 : Int32))) A V6 (by decide) rfl d8_5 rfl ?_
  refine s_istoreN (pc' := 7) (Ls' := #[rv a, iv 1, iv 1, U0]) A d8_6 rfl rfl ?_
  refine s_iloadN (pc' := 8) A d8_7 rfl rfl ?_
  refine s_ifN (pc' := 11) A d8_8 rfl (by decide) ?_
  refine s_iloadN (pc' := 12) A d8_11 rfl rfl ?_
  refine s_iconst (pc' := 13) (z := (1 : Int32)) A d8_12 rfl (by decide) ?_
  refine s_isub (pc' := 14) (z := (0 : Int32)) A d8_13 rfl (by decide) ?_
  refine s_iconst (pc' := 15) (z := (2 : Int32)) A d8_14 rfl (by decide) ?_
  refine s_idiv (pc' := 16) (z := (0 : Int32)) A d8_15 rfl (by decide) (by decide) ?_
  refine s_istoreN (pc' := 17) (Ls' := #[rv a, iv 1, iv 1, iv 0]) A d8_16 rfl rfl ?_
  refine s_aloadN (pc' := 18) A d8_17 rfl rfl rfl ?_
  refine s_iloadN (pc' := 19) A d8_18 rfl rfl ?_
  refine s_aloadN (pc' := 20) A d8_19 rfl rfl rfl ?_
  refine s_getfield (pc' := 23) (host := "") A (Or.inl (w12 hw)) Via.refl F3 d8_20 rfl fun T A => ?_
  refine s_iloadN (pc' := 24) A d8_23 rfl rfl ?_
  refine s_iaload (pc' := 25) (i := 0) (v := (.int (0 : Int32))) A V6 (by decide) rfl d8_24 rfl ?_
  refine s_private (pc' := 28) (y := y10_before) (argsL := [(.int (1 : Int32)), (.int (0 : Int32))]) (rest := []) A E1 (gq_before52 l Z a0 hw n0 h0 A.size a r_heap r_keys r_places x0 x1 [.int (0 : Int32), .int (1 : Int32), .int (0 : Int32)] [.int (0 : Int32), .int (1 : Int32), .int (-1 : Int32)] ⟨E1, F2, F3, F4, F5, V6, V7, V8, ne9, ne10, ne11, ne12, ne13, ne14, ge15, ge16, ge17, ge18⟩ hk) (w63 hw) (w64 hw) (w1 hw) (w65 hw) (w2 hw) (w66 hw) (by decide) pd__II_Z rfl (W := 0) (by decide) (by decide) (Nat.le_of_eq rfl) (by decide) (by decide) rfl rfl d8_25 rfl fun T h21 v22 A Q23 => ?_
  obtain ⟨rfl, K19, H20⟩ := Q23
  obtain ⟨E24, F25, F26, F27, F28, V29, V30, V31, ne32, ne33, ne34, ne35, ne36, ne37, ge38, ge39, ge40, ge41⟩ := H20
  refine Wp.stk (st' := [(.int (1 : Int32))]) rfl ?_
  refine s_ifY (pc' := 34) A d8_28 (by decide) (by decide) (by decide) ?_
  refine s_aloadN (pc' := 35) A d8_34 rfl rfl rfl ?_
  refine s_iloadN (pc' := 36) A d8_35 rfl rfl ?_
  refine s_aloadN (pc' := 37) A d8_36 rfl rfl rfl ?_
  refine s_getfield (pc' := 40) (host := "") A (Or.inl (w12 hw)) Via.refl F26 d8_37 rfl fun T A => ?_
  refine s_iloadN (pc' := 41) A d8_40 rfl rfl ?_
  refine s_iaload (pc' := 42) (i := 0) (v := (.int (0 : Int32))) A V29 (by decide) rfl d8_41 rfl ?_
  refine s_private (pc' := 45) (y := y5_set) (argsL := [(.int (1 : Int32)), (.int (0 : Int32))]) (rest := []) A E24 (gq_set53 l Z a0 hw n0 h21 A.size a r_heap r_keys r_places [.long x0, .long x1, .long (0 : Int64)] ⟨E24, F25, F26, F27, F28, V29, V30, V31, ne32, ne33, ne34, ne35, ne36, ne37, ge38, ge39, ge40, ge41⟩) (w49 hw) (w50 hw) (w1 hw) (w51 hw) (w2 hw) (w52 hw) (by decide) pd__II_V rfl (W := 0) (by decide) (by decide) (Nat.le_of_eq rfl) (by decide) (by decide) rfl rfl d8_42 rfl fun T h44 v45 A Q46 => ?_
  obtain ⟨rfl, K42, H43⟩ := Q46
  obtain ⟨E47, F48, F49, F50, F51, V52, V53, V54, ne55, ne56, ne57, ne58, ne59, ne60, ge61, ge62, ge63, ge64⟩ := H43
  refine Wp.stk (st' := []) rfl ?_
  refine s_iloadN (pc' := 46) A d8_45 rfl rfl ?_
  refine s_istoreN (pc' := 47) (Ls' := #[rv a, iv 0, iv 1, iv 0]) A d8_46 rfl rfl ?_
  refine s_goto (pc' := 7) A d8_47 (by decide) (by decide) ?_
  refine s_iloadN (pc' := 8) A d8_7 rfl rfl ?_
  refine s_ifY (pc' := 50) A d8_8 (by decide) (by decide) (by decide) ?_
  refine s_aloadN (pc' := 51) A d8_50 rfl rfl rfl ?_
  refine s_iloadN (pc' := 52) A d8_51 rfl rfl ?_
  refine s_iloadN (pc' := 53) A d8_52 rfl rfl ?_
  refine s_private (pc' := 56) (y := y5_set) (argsL := [(.int (0 : Int32)), (.int (1 : Int32))]) (rest := []) A E47 (gq_set54 l Z a0 hw n0 h44 A.size a r_heap r_keys r_places [.long x0, .long x1, .long (0 : Int64)] ⟨E47, F48, F49, F50, F51, V52, V53, V54, ne55, ne56, ne57, ne58, ne59, ne60, ge61, ge62, ge63, ge64⟩) (w49 hw) (w50 hw) (w1 hw) (w51 hw) (w2 hw) (w52 hw) (by decide) pd__II_V rfl (W := 0) (by decide) (by decide) (Nat.le_of_eq rfl) (by decide) (by decide) rfl rfl d8_53 rfl fun T h67 v68 A Q69 => ?_
  obtain ⟨rfl, K65, H66⟩ := Q69
  obtain ⟨E70, F71, F72, F73, F74, V75, V76, V77, ne78, ne79, ne80, ne81, ne82, ne83, ge84, ge85, ge86, ge87⟩ := H66
  refine Wp.stk (st' := []) rfl ?_
  have K88 := ((((Keep.refl h0 [a, r_heap, r_keys, r_places]).trans K19 (allS (Or.inl (List.mem_of_getElem? (i := 0) rfl)) (allS (Or.inl (List.mem_of_getElem? (i := 1) rfl)) (allS (Or.inl (List.mem_of_getElem? (i := 2) rfl)) (allS (Or.inl (List.mem_of_getElem? (i := 3) rfl)) all0))))).trans K42 (allS (Or.inl (List.mem_of_getElem? (i := 0) rfl)) (allS (Or.inl (List.mem_of_getElem? (i := 1) rfl)) (allS (Or.inl (List.mem_of_getElem? (i := 2) rfl)) (allS (Or.inl (List.mem_of_getElem? (i := 3) rfl)) all0))))).trans K65 (allS (Or.inl (List.mem_of_getElem? (i := 0) rfl)) (allS (Or.inl (List.mem_of_getElem? (i := 1) rfl)) (allS (Or.inl (List.mem_of_getElem? (i := 2) rfl)) (allS (Or.inl (List.mem_of_getElem? (i := 3) rfl)) all0)))))
  exact r_void A rfl d8_56 (by decide) (by decide) (⟨rfl, K88, ⟨E70, F71, F72, F73, F74, V75, V76, V77, ne78, ne79, ne80, ne81, ne82, ne83, ge84, ge85, ge86, ge87⟩⟩)
set_option maxRecDepth 65536 in
set_option maxHeartbeats 40000000 in
theorem gq_put49 (l : Launch) (Z : State) (a0 : Array Value) (hw : ∀ d ∈ tables_1, d.before a0 Z = true) (n0 : Nat) (h0 : Heap) (Z0 : n0 ≤ h0.size) (a r_heap r_keys r_places : Addr) (x0 : Int64) (x1 : Int64) (H : GQ Z n0 h0 a r_heap r_keys r_places (1 : Int32) [.int (0 : Int32), .int (0 : Int32), .int (0 : Int32)] [.long x0, .long (0 : Int64), .long (0 : Int64)] [.int (0 : Int32), .int (-1 : Int32), .int (-1 : Int32)]) (hk : x0 < x1) :
    Met l Z n0 y7_put prog_22_method_4_code 6 (Option.none : Option Jvm.ClassFile.FieldType) ({ frames := 2, cells := 0, slots := 0, locals := 33 } : Room) #[(.ref a), (.int (1 : Int32)), (.long x1)] h0 (fun v h => v = none ∧ Keep h0 h [a, r_heap, r_keys, r_places] ∧ GQ Z n0 h a r_heap r_keys r_places (2 : Int32) [.int (1 : Int32), .int (0 : Int32), .int (0 : Int32)] [.long x0, .long x1, .long (0 : Int64)] [.int (1 : Int32), .int (0 : Int32), .int (-1 : Int32)]) := by
  refine met_intro (own := c1_GainQueue) (plainFor_of_name pn_com_example_kithgraph_kithgraph_cluster_GainQueue) rfl Z0 ?_
  intro p e s m below meth c T A hnm
  refine Wp.cast (g' := mkF m 0 #[rv a, iv 1, jv x1, S2, U0, U0] []) (by first | (simp [entryFrame, mkF, argsToLocals, Value.category, maxLocals, jv, S2, U0, iv, rv]; done) | rfl) ?_
  obtain ⟨E1, F2, F3, F4, F5, V6, V7, V8, ne9, ne10, ne11, ne12, ne13, ne14, ge15, ge16, ge17, ge18⟩ := H
  refine s_aloadN (pc' := 1) A d7_0 rfl rfl rfl ?_
  refine s_iloadN (pc' := 2) A d7_1 rfl rfl ?_
  refine s_virtual (pc' := 5) (y := y4_contains) (argsL := [(.int (1 : Int32))]) (rest := []) (z := y4_contains) A E1 (gq_contains50 l Z a0 hw n0 h0 A.size a r_heap r_keys r_places [.int (0 : Int32), .int (0 : Int32), .int (0 : Int32)] [.long x0, .long (0 : Int64), .long (0 : Int64)] ⟨E1, F2, F3, F4, F5, V6, V7, V8, ne9, ne10, ne11, ne12, ne13, ne14, ge15, ge16, ge17, ge18⟩) (w44 hw) (w34 hw) (nf_same (C := "") (w36 hw)) (w36 hw) (w35 hw) (w2 hw) (w37 hw) (by decide) pd__I_Z rfl (W := 0) (by decide) (by decide) (Nat.le_of_eq rfl) (by decide) (by decide) rfl rfl d7_2 rfl fun T h21 v22 A Q23 => ?_
  obtain ⟨rfl, K19, H20⟩ := Q23
  obtain ⟨E24, F25, F26, F27, F28, V29, V30, V31, ne32, ne33, ne34, ne35, ne36, ne37, ge38, ge39, ge40, ge41⟩ := H20
  refine Wp.stk (st' := [(.int (0 : Int32))]) rfl ?_
  refine s_ifY (pc' := 56) A d7_5 (by decide) (by decide) (by decide) ?_
  refine s_aloadN (pc' := 57) A d7_56 rfl rfl rfl ?_
  refine s_getfield (pc' := 60) (host := "") A (Or.inl (w15 hw)) Via.refl F27 d7_57 rfl fun T A => ?_
  refine s_iloadN (pc' := 61) A d7_60 rfl rfl ?_
  refine s_lloadN (pc' := 62) A d7_61 rfl rfl ?_
  refine s_lastore (pc' := 63) (i := 1) A V30 (by decide) (Nat.le_of_ble_eq_true rfl) ge40 d7_62 rfl fun T h42 A W43 V44 => ?_
  have V44 : AA Z h42 r_keys .long [.long x0, .long x1, .long (0 : Int64)] := V44
  refine s_aloadN (pc' := 64) A d7_63 rfl rfl rfl ?_
  have F45 := (F26.other W43 (Or.inl ne33))
  refine s_getfield (pc' := 67) (host := "") A (Or.inl (w12 hw)) Via.refl F45 d7_64 rfl fun T A => ?_
  refine s_aloadN (pc' := 68) A d7_67 rfl rfl rfl ?_
  have F46 := (F25.other W43 (Or.inl ne33))
  refine s_getfield (pc' := 71) (host := "") A (Or.inl (w9 hw)) Via.refl F46 d7_68 rfl fun T A => ?_
  refine s_iloadN (pc' := 72) A d7_71 rfl rfl ?_
  have V47 := (V29.other W43 ne35)
  refine s_iastore (pc' := 73) (i := 1) A V47 (by decide) (Nat.le_of_ble_eq_true rfl) ge39 d7_72 rfl fun T h48 A W49 V50 => ?_
  have V50 : AA Z h48 r_heap .int [.int (0 : Int32), .int (1 : Int32), .int (0 : Int32)] := V50
  refine s_aloadN (pc' := 74) A d7_73 rfl rfl rfl ?_
  have F51 := ((F28.other W43 (Or.inl ne33)).other W49 (Or.inl ne32))
  refine s_getfield (pc' := 77) (host := "") A (Or.inl (w17 hw)) Via.refl F51 d7_74 rfl fun T A => ?_
  refine s_iloadN (pc' := 78) A d7_77 rfl rfl ?_
  refine s_aloadN (pc' := 79) A d7_78 rfl rfl rfl ?_
  have F52 := (F46.other W49 (Or.inl ne32))
  refine s_getfield (pc' := 82) (host := "") A (Or.inl (w9 hw)) Via.refl F52 d7_79 rfl fun T A => ?_
  have V53 := ((V31.other W43 (Ne.symm ne37)).other W49 (Ne.symm ne36))
  refine s_iastore (pc' := 83) (i := 1) A V53 (by decide) (Nat.le_of_ble_eq_true rfl) ge41 d7_82 rfl fun T h54 A W55 V56 => ?_
  have V56 : AA Z h54 r_places .int [.int (0 : Int32), .int (1 : Int32), .int (-1 : Int32)] := V56
  refine s_aloadN (pc' := 84) A d7_83 rfl rfl rfl ?_
  refine s_dup (pc' := 85) A d7_84 rfl rfl ?_
  have F57 := (F52.other W55 (Or.inl ne34))
  refine s_getfield (pc' := 88) (host := "") A (Or.inl (w9 hw)) Via.refl F57 d7_85 rfl fun T A => ?_
  refine s_iconst (pc' := 89) (z := (1 : Int32)) A d7_88 rfl (by decide) ?_
  refine s_iadd (pc' := 90) (z := (2 : Int32)) A d7_89 rfl (by decide) ?_
  have E58 := (((E24.wr W43).wr W49).wr W55)
  refine s_putfield (pc' := 93) (host := "") A (Or.inl (w9 hw)) Via.refl F57 E58 (Or.inl (w10 hw)) (w1 hw) (ty := .int) (by decide) rfl rfl ge38 d7_90 rfl fun T h59 A W60 => ?_
  have F61 := F57.same W60
  refine s_aloadN (pc' := 94) A d7_93 rfl rfl rfl ?_
  refine s_aloadN (pc' := 95) A d7_94 rfl rfl rfl ?_
  refine s_getfield (pc' := 98) (host := "") A (Or.inl (w9 hw)) Via.refl F61 d7_95 rfl fun T A => ?_
  refine s_iconst (pc' := 99) (z := (1 : Int32)) A d7_98 rfl (by decide) ?_
  refine s_isub (pc' := 100) (z := (1 : Int32)) A d7_99 rfl (by decide) ?_
  have E62 := (E58.wr W60)
  have F63 := (((F45.other W49 (Or.inl ne32)).other W55 (Or.inl ne34)).other W60 (Or.inr (sn_GainQueue_heap_count hw)))
  have F64 := ((((F27.other W43 (Or.inl ne33)).other W49 (Or.inl ne32)).other W55 (Or.inl ne34)).other W60 (Or.inr (sn_GainQueue_keys_count hw)))
  have F65 := ((F51.other W55 (Or.inl ne34)).other W60 (Or.inr (sn_GainQueue_places_count hw)))
  have V66 := ((V50.other W55 ne36).other W60 (Ne.symm ne32))
  have V67 := (((V44.other W49 (Ne.symm ne35)).other W55 ne37).other W60 (Ne.symm ne33))
  have V68 := (V56.other W60 (Ne.symm ne34))
  refine s_private (pc' := 103) (y := y6_up) (argsL := [(.int (1 : Int32))]) (rest := []) A E62 (gq_up51 l Z a0 hw n0 h59 A.size a r_heap r_keys r_places x0 x1 ⟨E62, F61, F63, F64, F65, V66, V67, V68, ne32, ne33, ne34, ne35, ne36, ne37, ge38, ge39, ge40, ge41⟩ hk) (w45 hw) (w46 hw) (w1 hw) (w47 hw) (w2 hw) (w48 hw) (by decide) pd__I_V rfl (W := 0) (by decide) (by decide) (Nat.le_of_eq rfl) (by decide) (by decide) rfl rfl d7_100 rfl fun T h71 v72 A Q73 => ?_
  obtain ⟨rfl, K69, H70⟩ := Q73
  obtain ⟨E74, F75, F76, F77, F78, V79, V80, V81, ne82, ne83, ne84, ne85, ne86, ne87, ge88, ge89, ge90, ge91⟩ := H70
  refine Wp.stk (st' := []) rfl ?_
  have K92 := (((((((Keep.refl h0 [a, r_heap, r_keys, r_places]).trans K19 (allS (Or.inl (List.mem_of_getElem? (i := 0) rfl)) (allS (Or.inl (List.mem_of_getElem? (i := 1) rfl)) (allS (Or.inl (List.mem_of_getElem? (i := 2) rfl)) (allS (Or.inl (List.mem_of_getElem? (i := 3) rfl)) all0))))).wr W43 (Or.inl (List.mem_of_getElem? (i := 2) rfl))).wr W49 (Or.inl (List.mem_of_getElem? (i := 1) rfl))).wr W55 (Or.inl (List.mem_of_getElem? (i := 3) rfl))).wr W60 (Or.inl (List.mem_of_getElem? (i := 0) rfl))).trans K69 (allS (Or.inl (List.mem_of_getElem? (i := 0) rfl)) (allS (Or.inl (List.mem_of_getElem? (i := 1) rfl)) (allS (Or.inl (List.mem_of_getElem? (i := 2) rfl)) (allS (Or.inl (List.mem_of_getElem? (i := 3) rfl)) all0)))))
  exact r_void A rfl d7_103 (by decide) (by decide) (⟨rfl, K92, ⟨E74, F75, F76, F77, F78, V79, V80, V81, ne82, ne83, ne84, ne85, ne86, ne87, ge88, ge89, ge90, ge91⟩⟩)
set_option maxRecDepth 65536 in
set_option maxHeartbeats 40000000 in
theorem gq_clear55 (l : Launch) (Z : State) (a0 : Array Value) (hw : ∀ d ∈ tables_1, d.before a0 Z = true) (n0 : Nat) (h0 : Heap) (Z0 : n0 ≤ h0.size) (a r_heap r_keys r_places : Addr)  (l_keys : List Value) (H : GQ Z n0 h0 a r_heap r_keys r_places (2 : Int32) [.int (1 : Int32), .int (0 : Int32), .int (0 : Int32)] l_keys [.int (1 : Int32), .int (0 : Int32), .int (-1 : Int32)]) :
    Met l Z n0 y2_clear prog_22_method_8_code 2 (Option.none : Option Jvm.ClassFile.FieldType) ({ frames := 0, cells := 0, slots := 0, locals := 0 } : Room) #[(.ref a)] h0 (fun v h => v = none ∧ Keep h0 h [a, r_heap, r_keys, r_places] ∧ GQ Z n0 h a r_heap r_keys r_places (0 : Int32) [.int (1 : Int32), .int (0 : Int32), .int (0 : Int32)] l_keys [.int (-1 : Int32), .int (-1 : Int32), .int (-1 : Int32)]) := by
  refine met_intro (own := c1_GainQueue) (plainFor_of_name pn_com_example_kithgraph_kithgraph_cluster_GainQueue) rfl Z0 ?_
  intro p e s m below meth c T A hnm
  refine Wp.cast (g' := mkF m 0 #[rv a, U0] []) (by first | (simp [entryFrame, mkF, argsToLocals, Value.category, maxLocals, jv, S2, U0, iv, rv]; done) | rfl) ?_
  obtain ⟨E1, F2, F3, F4, F5, V6, V7, V8, ne9, ne10, ne11, ne12, ne13, ne14, ge15, ge16, ge17, ge18⟩ := H
  refine s_iconst (pc' := 1) (z := (0 : Int32)) A d4_0 rfl (by decide) ?_
  refine s_istoreN (pc' := 2) (Ls' := #[rv a, iv 0]) A d4_1 rfl rfl ?_
  refine s_iloadN (pc' := 3) A d4_2 rfl rfl ?_
  refine s_aloadN (pc' := 4) A d4_3 rfl rfl rfl ?_
  refine s_getfield (pc' := 7) (host := "") A (Or.inl (w9 hw)) Via.refl F2 d4_4 rfl fun T A => ?_
  refine s_icmpN (pc' := 10) A d4_7 rfl (by decide) ?_
  refine s_aloadN (pc' := 11) A d4_10 rfl rfl rfl ?_
  refine s_getfield (pc' := 14) (host := "") A (Or.inl (w17 hw)) Via.refl F5 d4_11 rfl fun T A => ?_
  refine s_aloadN (pc' := 15) A d4_14 rfl rfl rfl ?_
  refine s_getfield (pc' := 18) (host := "") A (Or.inl (w12 hw)) Via.refl F3 d4_15 rfl fun T A => ?_
  refine s_iloadN (pc' := 19) A d4_18 rfl rfl ?_
  refine s_iaload (pc' := 20) (i := 0) (v := (.int (1 : Int32))) A V6 (by decide) rfl d4_19 rfl ?_
  refine s_iconst (pc' := 21) (z := (-1 : Int32)) A d4_20 rfl (by decide) ?_
  refine s_iastore (pc' := 22) (i := 1) A V8 (by decide) (Nat.le_of_ble_eq_true rfl) ge18 d4_21 rfl fun T h19 A W20 V21 => ?_
  have V21 : AA Z h19 r_places .int [.int (1 : Int32), .int (-1 : Int32), .int (-1 : Int32)] := V21
  refine s_iinc (pc' := 25) (z := (1 : Int32)) (Ls' := #[rv a, iv 1]) A d4_22 rfl rfl (by decide) rfl ?_
  refine s_goto (pc' := 2) A d4_25 (by decide) (by decide) ?_
  refine s_iloadN (pc' := 3) A d4_2 rfl rfl ?_
  refine s_aloadN (pc' := 4) A d4_3 rfl rfl rfl ?_
  have F22 := (F2.other W20 (Or.inl ne11))
  refine s_getfield (pc' := 7) (host := "") A (Or.inl (w9 hw)) Via.refl F22 d4_4 rfl fun T A => ?_
  refine s_icmpN (pc' := 10) A d4_7 rfl (by decide) ?_
  refine s_aloadN (pc' := 11) A d4_10 rfl rfl rfl ?_
  have F23 := (F5.other W20 (Or.inl ne11))
  refine s_getfield (pc' := 14) (host := "") A (Or.inl (w17 hw)) Via.refl F23 d4_11 rfl fun T A => ?_
  refine s_aloadN (pc' := 15) A d4_14 rfl rfl rfl ?_
  have F24 := (F3.other W20 (Or.inl ne11))
  refine s_getfield (pc' := 18) (host := "") A (Or.inl (w12 hw)) Via.refl F24 d4_15 rfl fun T A => ?_
  refine s_iloadN (pc' := 19) A d4_18 rfl rfl ?_
  have V25 := (V6.other W20 ne13)
  refine s_iaload (pc' := 20) (i := 1) (v := (.int (0 : Int32))) A V25 (by decide) rfl d4_19 rfl ?_
  refine s_iconst (pc' := 21) (z := (-1 : Int32)) A d4_20 rfl (by decide) ?_
  refine s_iastore (pc' := 22) (i := 0) A V21 (by decide) (Nat.le_of_ble_eq_true rfl) ge18 d4_21 rfl fun T h26 A W27 V28 => ?_
  have V28 : AA Z h26 r_places .int [.int (-1 : Int32), .int (-1 : Int32), .int (-1 : Int32)] := V28
  refine s_iinc (pc' := 25) (z := (2 : Int32)) (Ls' := #[rv a, iv 2]) A d4_22 rfl rfl (by decide) rfl ?_
  refine s_goto (pc' := 2) A d4_25 (by decide) (by decide) ?_
  refine s_iloadN (pc' := 3) A d4_2 rfl rfl ?_
  refine s_aloadN (pc' := 4) A d4_3 rfl rfl rfl ?_
  have F29 := (F22.other W27 (Or.inl ne11))
  refine s_getfield (pc' := 7) (host := "") A (Or.inl (w9 hw)) Via.refl F29 d4_4 rfl fun T A => ?_
  refine s_icmpY (pc' := 28) A d4_7 (by decide) (by decide) (by decide) ?_
  refine s_aloadN (pc' := 29) A d4_28 rfl rfl rfl ?_
  refine s_iconst (pc' := 30) (z := (0 : Int32)) A d4_29 rfl (by decide) ?_
  have E30 := ((E1.wr W20).wr W27)
  refine s_putfield (pc' := 33) (host := "") A (Or.inl (w9 hw)) Via.refl F29 E30 (Or.inl (w10 hw)) (w1 hw) (ty := .int) (by decide) rfl rfl ge15 d4_30 rfl fun T h31 A W32 => ?_
  have F33 := F29.same W32
  have K34 := ((((Keep.refl h0 [a, r_heap, r_keys, r_places]).wr W20 (Or.inl (List.mem_of_getElem? (i := 3) rfl))).wr W27 (Or.inl (List.mem_of_getElem? (i := 3) rfl))).wr W32 (Or.inl (List.mem_of_getElem? (i := 0) rfl)))
  have E35 := (E30.wr W32)
  have F36 := ((F24.other W27 (Or.inl ne11)).other W32 (Or.inr (sn_GainQueue_heap_count hw)))
  have F37 := (((F4.other W20 (Or.inl ne11)).other W27 (Or.inl ne11)).other W32 (Or.inr (sn_GainQueue_keys_count hw)))
  have F38 := ((F23.other W27 (Or.inl ne11)).other W32 (Or.inr (sn_GainQueue_places_count hw)))
  have V39 := ((V25.other W27 ne13).other W32 (Ne.symm ne9))
  have V40 := (((V7.other W20 ne14).other W27 ne14).other W32 (Ne.symm ne10))
  have V41 := (V28.other W32 (Ne.symm ne11))
  exact r_void A rfl d4_33 (by decide) (by decide) (⟨rfl, K34, ⟨E35, F33, F36, F37, F38, V39, V40, V41, ne9, ne10, ne11, ne12, ne13, ne14, ge15, ge16, ge17, ge18⟩⟩)
set_option maxRecDepth 65536 in
set_option maxHeartbeats 40000000 in
theorem gq_contains57 (l : Launch) (Z : State) (a0 : Array Value) (hw : ∀ d ∈ tables_1, d.before a0 Z = true) (n0 : Nat) (h0 : Heap) (Z0 : n0 ≤ h0.size) (a r_heap r_keys r_places : Addr)  (l_heap : List Value) (l_keys : List Value) (H : GQ Z n0 h0 a r_heap r_keys r_places (2 : Int32) l_heap l_keys [.int (1 : Int32), .int (0 : Int32), .int (-1 : Int32)]) :
    Met l Z n0 y4_contains prog_22_method_3_code 2 (Option.some Jvm.ClassFile.FieldType.boolean) ({ frames := 0, cells := 0, slots := 0, locals := 0 } : Room) #[(.ref a), (.int (2 : Int32))] h0 (fun v h => v = some (.int (0 : Int32)) ∧ Keep h0 h [a, r_heap, r_keys, r_places] ∧ GQ Z n0 h a r_heap r_keys r_places (2 : Int32) l_heap l_keys [.int (1 : Int32), .int (0 : Int32), .int (-1 : Int32)]) := by
  refine met_intro (own := c1_GainQueue) (plainFor_of_name pn_com_example_kithgraph_kithgraph_cluster_GainQueue) rfl Z0 ?_
  intro p e s m below meth c T A hnm
  refine Wp.cast (g' := mkF m 0 #[rv a, iv 2] []) (by first | (simp [entryFrame, mkF, argsToLocals, Value.category, maxLocals, jv, S2, U0, iv, rv]; done) | rfl) ?_
  obtain ⟨E1, F2, F3, F4, F5, V6, V7, V8, ne9, ne10, ne11, ne12, ne13, ne14, ge15, ge16, ge17, ge18⟩ := H
  refine s_aloadN (pc' := 1) A d6_0 rfl rfl rfl ?_
  refine s_getfield (pc' := 4) (host := "") A (Or.inl (w17 hw)) Via.refl F5 d6_1 rfl fun T A => ?_
  refine s_iloadN (pc' := 5) A d6_4 rfl rfl ?_
  refine s_iaload (pc' := 6) (i := 2) (v := (.int (-1 : Int32))) A V8 (by decide) rfl d6_5 rfl ?_
  refine s_iconst (pc' := 7) (z := (-1 : Int32)) A d6_6 rfl (by decide) ?_
  refine s_icmpY (pc' := 14) A d6_7 (by decide) (by decide) (by decide) ?_
  refine s_iconst (pc' := 15) (z := (0 : Int32)) A d6_14 rfl (by decide) ?_
  exact r_bool A rfl (by decide) d6_15 (by decide) (by decide) (⟨rfl, (Keep.refl h0 [a, r_heap, r_keys, r_places]), ⟨E1, F2, F3, F4, F5, V6, V7, V8, ne9, ne10, ne11, ne12, ne13, ne14, ge15, ge16, ge17, ge18⟩⟩)
set_option maxRecDepth 65536 in
set_option maxHeartbeats 40000000 in
theorem gq_before59 (l : Launch) (Z : State) (a0 : Array Value) (hw : ∀ d ∈ tables_1, d.before a0 Z = true) (n0 : Nat) (h0 : Heap) (Z0 : n0 ≤ h0.size) (a r_heap r_keys r_places : Addr) (x0 : Int64) (x1 : Int64) (x2 : Int64) (l_heap : List Value) (l_places : List Value) (H : GQ Z n0 h0 a r_heap r_keys r_places (3 : Int32) l_heap [.long x0, .long x1, .long x2] l_places) (hk : x1 < x2) :
    Met l Z n0 y10_before prog_22_method_12_code 7 (Option.some Jvm.ClassFile.FieldType.boolean) ({ frames := 0, cells := 0, slots := 0, locals := 0 } : Room) #[(.ref a), (.int (2 : Int32)), (.int (1 : Int32))] h0 (fun v h => v = some (.int (1 : Int32)) ∧ Keep h0 h [a, r_heap, r_keys, r_places] ∧ GQ Z n0 h a r_heap r_keys r_places (3 : Int32) l_heap [.long x0, .long x1, .long x2] l_places) := by
  refine met_intro (own := c1_GainQueue) (plainFor_of_name pn_com_example_kithgraph_kithgraph_cluster_GainQueue) rfl Z0 ?_
  intro p e s m below meth c T A hnm
  refine Wp.cast (g' := mkF m 0 #[rv a, iv 2, iv 1, U0, U0, U0, U0] []) (by first | (simp [entryFrame, mkF, argsToLocals, Value.category, maxLocals, jv, S2, U0, iv, rv]; done) | rfl) ?_
  obtain ⟨E1, F2, F3, F4, F5, V6, V7, V8, ne9, ne10, ne11, ne12, ne13, ne14, ge15, ge16, ge17, ge18⟩ := H
  refine s_aloadN (pc' := 1) A d12_0 rfl rfl rfl ?_
  refine s_getfield (pc' := 4) (host := "") A (Or.inl (w15 hw)) Via.refl F4 d12_1 rfl fun T A => ?_
  refine s_iloadN (pc' := 5) A d12_4 rfl rfl ?_
  refine s_laload (pc' := 6) (i := 2) (v := (.long x2)) A V7 (by decide) rfl d12_5 rfl ?_
  refine s_lstoreN (pc' := 7) (Ls' := #[rv a, iv 2, iv 1, jv x2, S2, U0, U0]) A d12_6 rfl rfl ?_
  refine s_aloadN (pc' := 8) A d12_7 rfl rfl rfl ?_
  refine s_getfield (pc' := 11) (host := "") A (Or.inl (w15 hw)) Via.refl F4 d12_8 rfl fun T A => ?_
  refine s_iloadN (pc' := 12) A d12_11 rfl rfl ?_
  refine s_laload (pc' := 13) (i := 1) (v := (.long x1)) A V7 (by decide) rfl d12_12 rfl ?_
  refine s_lstore (pc' := 15) (Ls' := #[rv a, iv 2, iv 1, jv x2, S2, jv x1, S2]) A d12_13 rfl rfl ?_
  refine s_lloadN (pc' := 16) A d12_15 rfl rfl ?_
  refine s_lload (pc' := 18) A d12_16 rfl rfl ?_
  refine s_lcmp (pc' := 19) A d12_18 rfl ?_
  refine s_ifY (pc' := 34) A d12_19 ((if0 _ _).trans (tlt ((lw_gt x2 x1).2 hk)).2.2.1) (by decide) (by decide) ?_
  refine s_iconst (pc' := 35) (z := (1 : Int32)) A d12_34 rfl (by decide) ?_
  refine s_goto (pc' := 39) A d12_35 (by decide) (by decide) ?_
  exact r_bool A rfl (by decide) d12_39 (by decide) (by decide) (⟨rfl, (Keep.refl h0 [a, r_heap, r_keys, r_places]), ⟨E1, F2, F3, F4, F5, V6, V7, V8, ne9, ne10, ne11, ne12, ne13, ne14, ge15, ge16, ge17, ge18⟩⟩)
set_option maxRecDepth 65536 in
set_option maxHeartbeats 40000000 in
theorem gq_set60 (l : Launch) (Z : State) (a0 : Array Value) (hw : ∀ d ∈ tables_1, d.before a0 Z = true) (n0 : Nat) (h0 : Heap) (Z0 : n0 ≤ h0.size) (a r_heap r_keys r_places : Addr)  (l_keys : List Value) (H : GQ Z n0 h0 a r_heap r_keys r_places (3 : Int32) [.int (1 : Int32), .int (0 : Int32), .int (2 : Int32)] l_keys [.int (1 : Int32), .int (0 : Int32), .int (2 : Int32)]) :
    Met l Z n0 y5_set prog_22_method_11_code 3 (Option.none : Option Jvm.ClassFile.FieldType) ({ frames := 0, cells := 0, slots := 0, locals := 0 } : Room) #[(.ref a), (.int (2 : Int32)), (.int (1 : Int32))] h0 (fun v h => v = none ∧ Keep h0 h [a, r_heap, r_keys, r_places] ∧ GQ Z n0 h a r_heap r_keys r_places (3 : Int32) [.int (1 : Int32), .int (0 : Int32), .int (1 : Int32)] l_keys [.int (1 : Int32), .int (2 : Int32), .int (2 : Int32)]) := by
  refine met_intro (own := c1_GainQueue) (plainFor_of_name pn_com_example_kithgraph_kithgraph_cluster_GainQueue) rfl Z0 ?_
  intro p e s m below meth c T A hnm
  refine Wp.cast (g' := mkF m 0 #[rv a, iv 2, iv 1] []) (by first | (simp [entryFrame, mkF, argsToLocals, Value.category, maxLocals, jv, S2, U0, iv, rv]; done) | rfl) ?_
  obtain ⟨E1, F2, F3, F4, F5, V6, V7, V8, ne9, ne10, ne11, ne12, ne13, ne14, ge15, ge16, ge17, ge18⟩ := H
  refine s_aloadN (pc' := 1) A d9_0 rfl rfl rfl ?_
  refine s_getfield (pc' := 4) (host := "") A (Or.inl (w12 hw)) Via.refl F3 d9_1 rfl fun T A => ?_
  refine s_iloadN (pc' := 5) A d9_4 rfl rfl ?_
  refine s_iloadN (pc' := 6) A d9_5 rfl rfl ?_
  refine s_iastore (pc' := 7) (i := 2) A V6 (by decide) (Nat.le_of_ble_eq_true rfl) ge16 d9_6 rfl fun T h19 A W20 V21 => ?_
  have V21 : AA Z h19 r_heap .int [.int (1 : Int32), .int (0 : Int32), .int (1 : Int32)] := V21
  refine s_aloadN (pc' := 8) A d9_7 rfl rfl rfl ?_
  have F22 := (F5.other W20 (Or.inl ne9))
  refine s_getfield (pc' := 11) (host := "") A (Or.inl (w17 hw)) Via.refl F22 d9_8 rfl fun T A => ?_
  refine s_iloadN (pc' := 12) A d9_11 rfl rfl ?_
  refine s_iloadN (pc' := 13) A d9_12 rfl rfl ?_
  have V23 := (V8.other W20 (Ne.symm ne13))
  refine s_iastore (pc' := 14) (i := 1) A V23 (by decide) (Nat.le_of_ble_eq_true rfl) ge18 d9_13 rfl fun T h24 A W25 V26 => ?_
  have V26 : AA Z h24 r_places .int [.int (1 : Int32), .int (2 : Int32), .int (2 : Int32)] := V26
  have K27 := (((Keep.refl h0 [a, r_heap, r_keys, r_places]).wr W20 (Or.inl (List.mem_of_getElem? (i := 1) rfl))).wr W25 (Or.inl (List.mem_of_getElem? (i := 3) rfl)))
  have E28 := ((E1.wr W20).wr W25)
  have F29 := ((F2.other W20 (Or.inl ne9)).other W25 (Or.inl ne11))
  have F30 := ((F3.other W20 (Or.inl ne9)).other W25 (Or.inl ne11))
  have F31 := ((F4.other W20 (Or.inl ne9)).other W25 (Or.inl ne11))
  have F32 := (F22.other W25 (Or.inl ne11))
  have V33 := (V21.other W25 ne13)
  have V34 := ((V7.other W20 (Ne.symm ne12)).other W25 ne14)
  exact r_void A rfl d9_14 (by decide) (by decide) (⟨rfl, K27, ⟨E28, F29, F30, F31, F32, V33, V34, V26, ne9, ne10, ne11, ne12, ne13, ne14, ge15, ge16, ge17, ge18⟩⟩)
set_option maxRecDepth 65536 in
set_option maxHeartbeats 40000000 in
theorem gq_set61 (l : Launch) (Z : State) (a0 : Array Value) (hw : ∀ d ∈ tables_1, d.before a0 Z = true) (n0 : Nat) (h0 : Heap) (Z0 : n0 ≤ h0.size) (a r_heap r_keys r_places : Addr)  (l_keys : List Value) (H : GQ Z n0 h0 a r_heap r_keys r_places (3 : Int32) [.int (1 : Int32), .int (0 : Int32), .int (1 : Int32)] l_keys [.int (1 : Int32), .int (2 : Int32), .int (2 : Int32)]) :
    Met l Z n0 y5_set prog_22_method_11_code 3 (Option.none : Option Jvm.ClassFile.FieldType) ({ frames := 0, cells := 0, slots := 0, locals := 0 } : Room) #[(.ref a), (.int (0 : Int32)), (.int (2 : Int32))] h0 (fun v h => v = none ∧ Keep h0 h [a, r_heap, r_keys, r_places] ∧ GQ Z n0 h a r_heap r_keys r_places (3 : Int32) [.int (2 : Int32), .int (0 : Int32), .int (1 : Int32)] l_keys [.int (1 : Int32), .int (2 : Int32), .int (0 : Int32)]) := by
  refine met_intro (own := c1_GainQueue) (plainFor_of_name pn_com_example_kithgraph_kithgraph_cluster_GainQueue) rfl Z0 ?_
  intro p e s m below meth c T A hnm
  refine Wp.cast (g' := mkF m 0 #[rv a, iv 0, iv 2] []) (by first | (simp [entryFrame, mkF, argsToLocals, Value.category, maxLocals, jv, S2, U0, iv, rv]; done) | rfl) ?_
  obtain ⟨E1, F2, F3, F4, F5, V6, V7, V8, ne9, ne10, ne11, ne12, ne13, ne14, ge15, ge16, ge17, ge18⟩ := H
  refine s_aloadN (pc' := 1) A d9_0 rfl rfl rfl ?_
  refine s_getfield (pc' := 4) (host := "") A (Or.inl (w12 hw)) Via.refl F3 d9_1 rfl fun T A => ?_
  refine s_iloadN (pc' := 5) A d9_4 rfl rfl ?_
  refine s_iloadN (pc' := 6) A d9_5 rfl rfl ?_
  refine s_iastore (pc' := 7) (i := 0) A V6 (by decide) (Nat.le_of_ble_eq_true rfl) ge16 d9_6 rfl fun T h19 A W20 V21 => ?_
  have V21 : AA Z h19 r_heap .int [.int (2 : Int32), .int (0 : Int32), .int (1 : Int32)] := V21
  refine s_aloadN (pc' := 8) A d9_7 rfl rfl rfl ?_
  have F22 := (F5.other W20 (Or.inl ne9))
  refine s_getfield (pc' := 11) (host := "") A (Or.inl (w17 hw)) Via.refl F22 d9_8 rfl fun T A => ?_
  refine s_iloadN (pc' := 12) A d9_11 rfl rfl ?_
  refine s_iloadN (pc' := 13) A d9_12 rfl rfl ?_
  have V23 := (V8.other W20 (Ne.symm ne13))
  refine s_iastore (pc' := 14) (i := 2) A V23 (by decide) (Nat.le_of_ble_eq_true rfl) ge18 d9_13 rfl fun T h24 A W25 V26 => ?_
  have V26 : AA Z h24 r_places .int [.int (1 : Int32), .int (2 : Int32), .int (0 : Int32)] := V26
  have K27 := (((Keep.refl h0 [a, r_heap, r_keys, r_places]).wr W20 (Or.inl (List.mem_of_getElem? (i := 1) rfl))).wr W25 (Or.inl (List.mem_of_getElem? (i := 3) rfl)))
  have E28 := ((E1.wr W20).wr W25)
  have F29 := ((F2.other W20 (Or.inl ne9)).other W25 (Or.inl ne11))
  have F30 := ((F3.other W20 (Or.inl ne9)).other W25 (Or.inl ne11))
  have F31 := ((F4.other W20 (Or.inl ne9)).other W25 (Or.inl ne11))
  have F32 := (F22.other W25 (Or.inl ne11))
  have V33 := (V21.other W25 ne13)
  have V34 := ((V7.other W20 (Ne.symm ne12)).other W25 ne14)
  exact r_void A rfl d9_14 (by decide) (by decide) (⟨rfl, K27, ⟨E28, F29, F30, F31, F32, V33, V34, V26, ne9, ne10, ne11, ne12, ne13, ne14, ge15, ge16, ge17, ge18⟩⟩)
set_option maxRecDepth 65536 in
set_option maxHeartbeats 40000000 in
theorem gq_up58 (l : Launch) (Z : State) (a0 : Array Value) (hw : ∀ d ∈ tables_1, d.before a0 Z = true) (n0 : Nat) (h0 : Heap) (Z0 : n0 ≤ h0.size) (a r_heap r_keys r_places : Addr) (x0 : Int64) (x1 : Int64) (x2 : Int64) (H : GQ Z n0 h0 a r_heap r_keys r_places (3 : Int32) [.int (1 : Int32), .int (0 : Int32), .int (2 : Int32)] [.long x0, .long x1, .long x2] [.int (1 : Int32), .int (0 : Int32), .int (2 : Int32)]) (hk : x1 < x2) :
    Met l Z n0 y6_up prog_22_method_9_code 4 (Option.none : Option Jvm.ClassFile.FieldType) ({ frames := 1, cells := 0, slots := 0, locals := 18 } : Room) #[(.ref a), (.int (2 : Int32))] h0 (fun v h => v = none ∧ Keep h0 h [a, r_heap, r_keys, r_places] ∧ GQ Z n0 h a r_heap r_keys r_places (3 : Int32) [.int (2 : Int32), .int (0 : Int32), .int (1 : Int32)] [.long x0, .long x1, .long x2] [.int (1 : Int32), .int (2 : Int32), .int (0 : Int32)]) := by
  refine met_intro (own := c1_GainQueue) (plainFor_of_name pn_com_example_kithgraph_kithgraph_cluster_GainQueue) rfl Z0 ?_
  intro p e s m below meth c T A hnm
  refine Wp.cast (g' := mkF m 0 #[rv a, iv 2, U0, U0] []) (by first | (simp [entryFrame, mkF, argsToLocals, Value.category, maxLocals, jv, S2, U0, iv, rv]; done) | rfl) ?_
  obtain ⟨E1, F2, F3, F4, F5, V6, V7, V8, ne9, ne10, ne11, ne12, ne13, ne14, ge15, ge16, ge17, ge18⟩ := H
  refine s_aloadN (pc' := 1) A d8_0 rfl rfl rfl ?_
  refine s_getfield (pc' := 4) (host := "") A (Or.inl (w12 hw)) Via.refl F3 d8_1 rfl fun T A => ?_
  refine s_iloadN (pc' := 5) A d8_4 rfl rfl ?_
  refine s_iaload (pc' := 6) (i := 2) (v := (.int (2 : Int32))) A V6 (by decide) rfl d8_5 rfl ?_
  refine s_istoreN (pc' := 7) (Ls' := #[rv a, iv 2, iv 2, U0]) A d8_6 rfl rfl ?_
  refine s_iloadN (pc' := 8) A d8_7 rfl rfl ?_
  refine s_ifN (pc' := 11) A d8_8 rfl (by decide) ?_
  refine s_iloadN (pc' := 12) A d8_11 rfl rfl ?_
  refine s_iconst (pc' := 13) (z := (1 : Int32)) A d8_12 rfl (by decide) ?_
  refine s_isub (pc' := 14) (z := (1 : Int32)) A d8_13 rfl (by decide) ?_
  refine s_iconst (pc' := 15) (z := (2 : Int32)) A d8_14 rfl (by decide) ?_
  refine s_idiv (pc' := 16) (z := (0 : Int32)) A d8_15 rfl (by decide) (by decide) ?_
  refine s_istoreN (pc' := 17) (Ls' := #[rv a, iv 2, iv 2, iv 0]) A d8_16 rfl rfl ?_
  refine s_aloadN (pc' := 18) A d8_17 rfl rfl rfl ?_
  refine s_iloadN (pc' := 19) A d8_18 rfl rfl ?_
  refine s_aloadN (pc' := 20) A d8_19 rfl rfl rfl ?_
  refine s_getfield (pc' := 23) (host := "") A (Or.inl (w12 hw)) Via.refl F3 d8_20 rfl fun T A => ?_
  refine s_iloadN (pc' := 24) A d8_23 rfl rfl ?_
  refine s_iaload (pc' := 25) (i := 0) (v := (.int (1 : Int32))) A V6 (by decide) rfl d8_24 rfl ?_
  refine s_private (pc' := 28) (y := y10_before) (argsL := [(.int (2 : Int32)), (.int (1 : Int32))]) (rest := []) A E1 (gq_before59 l Z a0 hw n0 h0 A.size a r_heap r_keys r_places x0 x1 x2 [.int (1 : Int32), .int (0 : Int32), .int (2 : Int32)] [.int (1 : Int32), .int (0 : Int32), .int (2 : Int32)] ⟨E1, F2, F3, F4, F5, V6, V7, V8, ne9, ne10, ne11, ne12, ne13, ne14, ge15, ge16, ge17, ge18⟩ hk) (w63 hw) (w64 hw) (w1 hw) (w65 hw) (w2 hw) (w66 hw) (by decide) pd__II_Z rfl (W := 0) (by decide) (by decide) (Nat.le_of_eq rfl) (by decide) (by decide) rfl rfl d8_25 rfl fun T h21 v22 A Q23 => ?_
  obtain ⟨rfl, K19, H20⟩ := Q23
  obtain ⟨E24, F25, F26, F27, F28, V29, V30, V31, ne32, ne33, ne34, ne35, ne36, ne37, ge38, ge39, ge40, ge41⟩ := H20
  refine Wp.stk (st' := [(.int (1 : Int32))]) rfl ?_
  refine s_ifY (pc' := 34) A d8_28 (by decide) (by decide) (by decide) ?_
  refine s_aloadN (pc' := 35) A d8_34 rfl rfl rfl ?_
  refine s_iloadN (pc' := 36) A d8_35 rfl rfl ?_
  refine s_aloadN (pc' := 37) A d8_36 rfl rfl rfl ?_
  refine s_getfield (pc' := 40) (host := "") A (Or.inl (w12 hw)) Via.refl F26 d8_37 rfl fun T A => ?_
  refine s_iloadN (pc' := 41) A d8_40 rfl rfl ?_
  refine s_iaload (pc' := 42) (i := 0) (v := (.int (1 : Int32))) A V29 (by decide) rfl d8_41 rfl ?_
  refine s_private (pc' := 45) (y := y5_set) (argsL := [(.int (2 : Int32)), (.int (1 : Int32))]) (rest := []) A E24 (gq_set60 l Z a0 hw n0 h21 A.size a r_heap r_keys r_places [.long x0, .long x1, .long x2] ⟨E24, F25, F26, F27, F28, V29, V30, V31, ne32, ne33, ne34, ne35, ne36, ne37, ge38, ge39, ge40, ge41⟩) (w49 hw) (w50 hw) (w1 hw) (w51 hw) (w2 hw) (w52 hw) (by decide) pd__II_V rfl (W := 0) (by decide) (by decide) (Nat.le_of_eq rfl) (by decide) (by decide) rfl rfl d8_42 rfl fun T h44 v45 A Q46 => ?_
  obtain ⟨rfl, K42, H43⟩ := Q46
  obtain ⟨E47, F48, F49, F50, F51, V52, V53, V54, ne55, ne56, ne57, ne58, ne59, ne60, ge61, ge62, ge63, ge64⟩ := H43
  refine Wp.stk (st' := []) rfl ?_
  refine s_iloadN (pc' := 46) A d8_45 rfl rfl ?_
  refine s_istoreN (pc' := 47) (Ls' := #[rv a, iv 0, iv 2, iv 0]) A d8_46 rfl rfl ?_
  refine s_goto (pc' := 7) A d8_47 (by decide) (by decide) ?_
  refine s_iloadN (pc' := 8) A d8_7 rfl rfl ?_
  refine s_ifY (pc' := 50) A d8_8 (by decide) (by decide) (by decide) ?_
  refine s_aloadN (pc' := 51) A d8_50 rfl rfl rfl ?_
  refine s_iloadN (pc' := 52) A d8_51 rfl rfl ?_
  refine s_iloadN (pc' := 53) A d8_52 rfl rfl ?_
  refine s_private (pc' := 56) (y := y5_set) (argsL := [(.int (0 : Int32)), (.int (2 : Int32))]) (rest := []) A E47 (gq_set61 l Z a0 hw n0 h44 A.size a r_heap r_keys r_places [.long x0, .long x1, .long x2] ⟨E47, F48, F49, F50, F51, V52, V53, V54, ne55, ne56, ne57, ne58, ne59, ne60, ge61, ge62, ge63, ge64⟩) (w49 hw) (w50 hw) (w1 hw) (w51 hw) (w2 hw) (w52 hw) (by decide) pd__II_V rfl (W := 0) (by decide) (by decide) (Nat.le_of_eq rfl) (by decide) (by decide) rfl rfl d8_53 rfl fun T h67 v68 A Q69 => ?_
  obtain ⟨rfl, K65, H66⟩ := Q69
  obtain ⟨E70, F71, F72, F73, F74, V75, V76, V77, ne78, ne79, ne80, ne81, ne82, ne83, ge84, ge85, ge86, ge87⟩ := H66
  refine Wp.stk (st' := []) rfl ?_
  have K88 := ((((Keep.refl h0 [a, r_heap, r_keys, r_places]).trans K19 (allS (Or.inl (List.mem_of_getElem? (i := 0) rfl)) (allS (Or.inl (List.mem_of_getElem? (i := 1) rfl)) (allS (Or.inl (List.mem_of_getElem? (i := 2) rfl)) (allS (Or.inl (List.mem_of_getElem? (i := 3) rfl)) all0))))).trans K42 (allS (Or.inl (List.mem_of_getElem? (i := 0) rfl)) (allS (Or.inl (List.mem_of_getElem? (i := 1) rfl)) (allS (Or.inl (List.mem_of_getElem? (i := 2) rfl)) (allS (Or.inl (List.mem_of_getElem? (i := 3) rfl)) all0))))).trans K65 (allS (Or.inl (List.mem_of_getElem? (i := 0) rfl)) (allS (Or.inl (List.mem_of_getElem? (i := 1) rfl)) (allS (Or.inl (List.mem_of_getElem? (i := 2) rfl)) (allS (Or.inl (List.mem_of_getElem? (i := 3) rfl)) all0)))))
  exact r_void A rfl d8_56 (by decide) (by decide) (⟨rfl, K88, ⟨E70, F71, F72, F73, F74, V75, V76, V77, ne78, ne79, ne80, ne81, ne82, ne83, ge84, ge85, ge86, ge87⟩⟩)
set_option maxRecDepth 65536 in
set_option maxHeartbeats 40000000 in
theorem gq_put56 (l : Launch) (Z : State) (a0 : Array Value) (hw : ∀ d ∈ tables_1, d.before a0 Z = true) (n0 : Nat) (h0 : Heap) (Z0 : n0 ≤ h0.size) (a r_heap r_keys r_places : Addr) (x0 : Int64) (x1 : Int64) (x2 : Int64) (H : GQ Z n0 h0 a r_heap r_keys r_places (2 : Int32) [.int (1 : Int32), .int (0 : Int32), .int (0 : Int32)] [.long x0, .long x1, .long (0 : Int64)] [.int (1 : Int32), .int (0 : Int32), .int (-1 : Int32)]) (hk : x1 < x2) :
    Met l Z n0 y7_put prog_22_method_4_code 6 (Option.none : Option Jvm.ClassFile.FieldType) ({ frames := 2, cells := 0, slots := 0, locals := 33 } : Room) #[(.ref a), (.int (2 : Int32)), (.long x2)] h0 (fun v h => v = none ∧ Keep h0 h [a, r_heap, r_keys, r_places] ∧ GQ Z n0 h a r_heap r_keys r_places (3 : Int32) [.int (2 : Int32), .int (0 : Int32), .int (1 : Int32)] [.long x0, .long x1, .long x2] [.int (1 : Int32), .int (2 : Int32), .int (0 : Int32)]) := by
  refine met_intro (own := c1_GainQueue) (plainFor_of_name pn_com_example_kithgraph_kithgraph_cluster_GainQueue) rfl Z0 ?_
  intro p e s m below meth c T A hnm
  refine Wp.cast (g' := mkF m 0 #[rv a, iv 2, jv x2, S2, U0, U0] []) (by first | (simp [entryFrame, mkF, argsToLocals, Value.category, maxLocals, jv, S2, U0, iv, rv]; done) | rfl) ?_
  obtain ⟨E1, F2, F3, F4, F5, V6, V7, V8, ne9, ne10, ne11, ne12, ne13, ne14, ge15, ge16, ge17, ge18⟩ := H
  refine s_aloadN (pc' := 1) A d7_0 rfl rfl rfl ?_
  refine s_iloadN (pc' := 2) A d7_1 rfl rfl ?_
  refine s_virtual (pc' := 5) (y := y4_contains) (argsL := [(.int (2 : Int32))]) (rest := []) (z := y4_contains) A E1 (gq_contains57 l Z a0 hw n0 h0 A.size a r_heap r_keys r_places [.int (1 : Int32), .int (0 : Int32), .int (0 : Int32)] [.long x0, .long x1, .long (0 : Int64)] ⟨E1, F2, F3, F4, F5, V6, V7, V8, ne9, ne10, ne11, ne12, ne13, ne14, ge15, ge16, ge17, ge18⟩) (w44 hw) (w34 hw) (nf_same (C := "") (w36 hw)) (w36 hw) (w35 hw) (w2 hw) (w37 hw) (by decide) pd__I_Z rfl (W := 0) (by decide) (by decide) (Nat.le_of_eq rfl) (by decide) (by decide) rfl rfl d7_2 rfl fun T h21 v22 A Q23 => ?_
  obtain ⟨rfl, K19, H20⟩ := Q23
  obtain ⟨E24, F25, F26, F27, F28, V29, V30, V31, ne32, ne33, ne34, ne35, ne36, ne37, ge38, ge39, ge40, ge41⟩ := H20
  refine Wp.stk (st' := [(.int (0 : Int32))]) rfl ?_
  refine s_ifY (pc' := 56) A d7_5 (by decide) (by decide) (by decide) ?_
  refine s_aloadN (pc' := 57) A d7_56 rfl rfl rfl ?_
  refine s_getfield (pc' := 60) (host := "") A (Or.inl (w15 hw)) Via.refl F27 d7_57 rfl fun T A => ?_
  refine s_iloadN (pc' := 61) A d7_60 rfl rfl ?_
  refine s_lloadN (pc' := 62) A d7_61 rfl rfl ?_
  refine s_lastore (pc' := 63) (i := 2) A V30 (by decide) (Nat.le_of_ble_eq_true rfl) ge40 d7_62 rfl fun T h42 A W43 V44 => ?_
  have V44 : AA Z h42 r_keys .long [.long x0, .long x1, .long x2] := V44
  refine s_aloadN (pc' := 64) A d7_63 rfl rfl rfl ?_
  have F45 := (F26.other W43 (Or.inl ne33))
  refine s_getfield (pc' := 67) (host := "") A (Or.inl (w12 hw)) Via.refl F45 d7_64 rfl fun T A => ?_
  refine s_aloadN (pc' := 68) A d7_67 rfl rfl rfl ?_
  have F46 := (F25.other W43 (Or.inl ne33))
  refine s_getfield (pc' := 71) (host := "") A (Or.inl (w9 hw)) Via.refl F46 d7_68 rfl fun T A => ?_
  refine s_iloadN (pc' := 72) A d7_71 rfl rfl ?_
  have V47 := (V29.other W43 ne35)
  refine s_iastore (pc' := 73) (i := 2) A V47 (by decide) (Nat.le_of_ble_eq_true rfl) ge39 d7_72 rfl fun T h48 A W49 V50 => ?_
  have V50 : AA Z h48 r_heap .int [.int (1 : Int32), .int (0 : Int32), .int (2 : Int32)] := V50
  refine s_aloadN (pc' := 74) A d7_73 rfl rfl rfl ?_
  have F51 := ((F28.other W43 (Or.inl ne33)).other W49 (Or.inl ne32))
  refine s_getfield (pc' := 77) (host := "") A (Or.inl (w17 hw)) Via.refl F51 d7_74 rfl fun T A => ?_
  refine s_iloadN (pc' := 78) A d7_77 rfl rfl ?_
  refine s_aloadN (pc' := 79) A d7_78 rfl rfl rfl ?_
  have F52 := (F46.other W49 (Or.inl ne32))
  refine s_getfield (pc' := 82) (host := "") A (Or.inl (w9 hw)) Via.refl F52 d7_79 rfl fun T A => ?_
  have V53 := ((V31.other W43 (Ne.symm ne37)).other W49 (Ne.symm ne36))
  refine s_iastore (pc' := 83) (i := 2) A V53 (by decide) (Nat.le_of_ble_eq_true rfl) ge41 d7_82 rfl fun T h54 A W55 V56 => ?_
  have V56 : AA Z h54 r_places .int [.int (1 : Int32), .int (0 : Int32), .int (2 : Int32)] := V56
  refine s_aloadN (pc' := 84) A d7_83 rfl rfl rfl ?_
  refine s_dup (pc' := 85) A d7_84 rfl rfl ?_
  have F57 := (F52.other W55 (Or.inl ne34))
  refine s_getfield (pc' := 88) (host := "") A (Or.inl (w9 hw)) Via.refl F57 d7_85 rfl fun T A => ?_
  refine s_iconst (pc' := 89) (z := (1 : Int32)) A d7_88 rfl (by decide) ?_
  refine s_iadd (pc' := 90) (z := (3 : Int32)) A d7_89 rfl (by decide) ?_
  have E58 := (((E24.wr W43).wr W49).wr W55)
  refine s_putfield (pc' := 93) (host := "") A (Or.inl (w9 hw)) Via.refl F57 E58 (Or.inl (w10 hw)) (w1 hw) (ty := .int) (by decide) rfl rfl ge38 d7_90 rfl fun T h59 A W60 => ?_
  have F61 := F57.same W60
  refine s_aloadN (pc' := 94) A d7_93 rfl rfl rfl ?_
  refine s_aloadN (pc' := 95) A d7_94 rfl rfl rfl ?_
  refine s_getfield (pc' := 98) (host := "") A (Or.inl (w9 hw)) Via.refl F61 d7_95 rfl fun T A => ?_
  refine s_iconst (pc' := 99) (z := (1 : Int32)) A d7_98 rfl (by decide) ?_
  refine s_isub (pc' := 100) (z := (2 : Int32)) A d7_99 rfl (by decide) ?_
  have E62 := (E58.wr W60)
  have F63 := (((F45.other W49 (Or.inl ne32)).other W55 (Or.inl ne34)).other W60 (Or.inr (sn_GainQueue_heap_count hw)))
  have F64 := ((((F27.other W43 (Or.inl ne33)).other W49 (Or.inl ne32)).other W55 (Or.inl ne34)).other W60 (Or.inr (sn_GainQueue_keys_count hw)))
  have F65 := ((F51.other W55 (Or.inl ne34)).other W60 (Or.inr (sn_GainQueue_places_count hw)))
  have V66 := ((V50.other W55 ne36).other W60 (Ne.symm ne32))
  have V67 := (((V44.other W49 (Ne.symm ne35)).other W55 ne37).other W60 (Ne.symm ne33))
  have V68 := (V56.other W60 (Ne.symm ne34))
  refine s_private (pc' := 103) (y := y6_up) (argsL := [(.int (2 : Int32))]) (rest := []) A E62 (gq_up58 l Z a0 hw n0 h59 A.size a r_heap r_keys r_places x0 x1 x2 ⟨E62, F61, F63, F64, F65, V66, V67, V68, ne32, ne33, ne34, ne35, ne36, ne37, ge38, ge39, ge40, ge41⟩ hk) (w45 hw) (w46 hw) (w1 hw) (w47 hw) (w2 hw) (w48 hw) (by decide) pd__I_V rfl (W := 0) (by decide) (by decide) (Nat.le_of_eq rfl) (by decide) (by decide) rfl rfl d7_100 rfl fun T h71 v72 A Q73 => ?_
  obtain ⟨rfl, K69, H70⟩ := Q73
  obtain ⟨E74, F75, F76, F77, F78, V79, V80, V81, ne82, ne83, ne84, ne85, ne86, ne87, ge88, ge89, ge90, ge91⟩ := H70
  refine Wp.stk (st' := []) rfl ?_
  have K92 := (((((((Keep.refl h0 [a, r_heap, r_keys, r_places]).trans K19 (allS (Or.inl (List.mem_of_getElem? (i := 0) rfl)) (allS (Or.inl (List.mem_of_getElem? (i := 1) rfl)) (allS (Or.inl (List.mem_of_getElem? (i := 2) rfl)) (allS (Or.inl (List.mem_of_getElem? (i := 3) rfl)) all0))))).wr W43 (Or.inl (List.mem_of_getElem? (i := 2) rfl))).wr W49 (Or.inl (List.mem_of_getElem? (i := 1) rfl))).wr W55 (Or.inl (List.mem_of_getElem? (i := 3) rfl))).wr W60 (Or.inl (List.mem_of_getElem? (i := 0) rfl))).trans K69 (allS (Or.inl (List.mem_of_getElem? (i := 0) rfl)) (allS (Or.inl (List.mem_of_getElem? (i := 1) rfl)) (allS (Or.inl (List.mem_of_getElem? (i := 2) rfl)) (allS (Or.inl (List.mem_of_getElem? (i := 3) rfl)) all0)))))
  exact r_void A rfl d7_103 (by decide) (by decide) (⟨rfl, K92, ⟨E74, F75, F76, F77, F78, V79, V80, V81, ne82, ne83, ne84, ne85, ne86, ne87, ge88, ge89, ge90, ge91⟩⟩)
set_option maxRecDepth 65536 in
set_option maxHeartbeats 40000000 in
theorem gq_clear62 (l : Launch) (Z : State) (a0 : Array Value) (hw : ∀ d ∈ tables_1, d.before a0 Z = true) (n0 : Nat) (h0 : Heap) (Z0 : n0 ≤ h0.size) (a r_heap r_keys r_places : Addr)  (l_keys : List Value) (H : GQ Z n0 h0 a r_heap r_keys r_places (3 : Int32) [.int (2 : Int32), .int (0 : Int32), .int (1 : Int32)] l_keys [.int (1 : Int32), .int (2 : Int32), .int (0 : Int32)]) :
    Met l Z n0 y2_clear prog_22_method_8_code 2 (Option.none : Option Jvm.ClassFile.FieldType) ({ frames := 0, cells := 0, slots := 0, locals := 0 } : Room) #[(.ref a)] h0 (fun v h => v = none ∧ Keep h0 h [a, r_heap, r_keys, r_places] ∧ GQ Z n0 h a r_heap r_keys r_places (0 : Int32) [.int (2 : Int32), .int (0 : Int32), .int (1 : Int32)] l_keys [.int (-1 : Int32), .int (-1 : Int32), .int (-1 : Int32)]) := by
  refine met_intro (own := c1_GainQueue) (plainFor_of_name pn_com_example_kithgraph_kithgraph_cluster_GainQueue) rfl Z0 ?_
  intro p e s m below meth c T A hnm
  refine Wp.cast (g' := mkF m 0 #[rv a, U0] []) (by first | (simp [entryFrame, mkF, argsToLocals, Value.category, maxLocals, jv, S2, U0, iv, rv]; done) | rfl) ?_
  obtain ⟨E1, F2, F3, F4, F5, V6, V7, V8, ne9, ne10, ne11, ne12, ne13, ne14, ge15, ge16, ge17, ge18⟩ := H
  refine s_iconst (pc' := 1) (z := (0 : Int32)) A d4_0 rfl (by decide) ?_
  refine s_istoreN (pc' := 2) (Ls' := #[rv a, iv 0]) A d4_1 rfl rfl ?_
  refine s_iloadN (pc' := 3) A d4_2 rfl rfl ?_
  refine s_aloadN (pc' := 4) A d4_3 rfl rfl rfl ?_
  refine s_getfield (pc' := 7) (host := "") A (Or.inl (w9 hw)) Via.refl F2 d4_4 rfl fun T A => ?_
  refine s_icmpN (pc' := 10) A d4_7 rfl (by decide) ?_
  refine s_aloadN (pc' := 11) A d4_10 rfl rfl rfl ?_
  refine s_getfield (pc' := 14) (host := "") A (Or.inl (w17 hw)) Via.refl F5 d4_11 rfl fun T A => ?_
  refine s_aloadN (pc' := 15) A d4_14 rfl rfl rfl ?_
  refine s_getfield (pc' := 18) (host := "") A (Or.inl (w12 hw)) Via.refl F3 d4_15 rfl fun T A => ?_
  refine s_iloadN (pc' := 19) A d4_18 rfl rfl ?_
  refine s_iaload (pc' := 20) (i := 0) (v := (.int (2 : Int32))) A V6 (by decide) rfl d4_19 rfl ?_
  refine s_iconst (pc' := 21) (z := (-1 : Int32)) A d4_20 rfl (by decide) ?_
  refine s_iastore (pc' := 22) (i := 2) A V8 (by decide) (Nat.le_of_ble_eq_true rfl) ge18 d4_21 rfl fun T h19 A W20 V21 => ?_
  have V21 : AA Z h19 r_places .int [.int (1 : Int32), .int (2 : Int32), .int (-1 : Int32)] := V21
  refine s_iinc (pc' := 25) (z := (1 : Int32)) (Ls' := #[rv a, iv 1]) A d4_22 rfl rfl (by decide) rfl ?_
  refine s_goto (pc' := 2) A d4_25 (by decide) (by decide) ?_
  refine s_iloadN (pc' := 3) A d4_2 rfl rfl ?_
  refine s_aloadN (pc' := 4) A d4_3 rfl rfl rfl ?_
  have F22 := (F2.other W20 (Or.inl ne11))
  refine s_getfield (pc' := 7) (host := "") A (Or.inl (w9 hw)) Via.refl F22 d4_4 rfl fun T A => ?_
  refine s_icmpN (pc' := 10) A d4_7 rfl (by decide) ?_
  refine s_aloadN (pc' := 11) A d4_10 rfl rfl rfl ?_
  have F23 := (F5.other W20 (Or.inl ne11))
  refine s_getfield (pc' := 14) (host := "") A (Or.inl (w17 hw)) Via.refl F23 d4_11 rfl fun T A => ?_
  refine s_aloadN (pc' := 15) A d4_14 rfl rfl rfl ?_
  have F24 := (F3.other W20 (Or.inl ne11))
  refine s_getfield (pc' := 18) (host := "") A (Or.inl (w12 hw)) Via.refl F24 d4_15 rfl fun T A => ?_
  refine s_iloadN (pc' := 19) A d4_18 rfl rfl ?_
  have V25 := (V6.other W20 ne13)
  refine s_iaload (pc' := 20) (i := 1) (v := (.int (0 : Int32))) A V25 (by decide) rfl d4_19 rfl ?_
  refine s_iconst (pc' := 21) (z := (-1 : Int32)) A d4_20 rfl (by decide) ?_
  refine s_iastore (pc' := 22) (i := 0) A V21 (by decide) (Nat.le_of_ble_eq_true rfl) ge18 d4_21 rfl fun T h26 A W27 V28 => ?_
  have V28 : AA Z h26 r_places .int [.int (-1 : Int32), .int (2 : Int32), .int (-1 : Int32)] := V28
  refine s_iinc (pc' := 25) (z := (2 : Int32)) (Ls' := #[rv a, iv 2]) A d4_22 rfl rfl (by decide) rfl ?_
  refine s_goto (pc' := 2) A d4_25 (by decide) (by decide) ?_
  refine s_iloadN (pc' := 3) A d4_2 rfl rfl ?_
  refine s_aloadN (pc' := 4) A d4_3 rfl rfl rfl ?_
  have F29 := (F22.other W27 (Or.inl ne11))
  refine s_getfield (pc' := 7) (host := "") A (Or.inl (w9 hw)) Via.refl F29 d4_4 rfl fun T A => ?_
  refine s_icmpN (pc' := 10) A d4_7 rfl (by decide) ?_
  refine s_aloadN (pc' := 11) A d4_10 rfl rfl rfl ?_
  have F30 := (F23.other W27 (Or.inl ne11))
  refine s_getfield (pc' := 14) (host := "") A (Or.inl (w17 hw)) Via.refl F30 d4_11 rfl fun T A => ?_
  refine s_aloadN (pc' := 15) A d4_14 rfl rfl rfl ?_
  have F31 := (F24.other W27 (Or.inl ne11))
  refine s_getfield (pc' := 18) (host := "") A (Or.inl (w12 hw)) Via.refl F31 d4_15 rfl fun T A => ?_
  refine s_iloadN (pc' := 19) A d4_18 rfl rfl ?_
  have V32 := (V25.other W27 ne13)
  refine s_iaload (pc' := 20) (i := 2) (v := (.int (1 : Int32))) A V32 (by decide) rfl d4_19 rfl ?_
  refine s_iconst (pc' := 21) (z := (-1 : Int32)) A d4_20 rfl (by decide) ?_
  refine s_iastore (pc' := 22) (i := 1) A V28 (by decide) (Nat.le_of_ble_eq_true rfl) ge18 d4_21 rfl fun T h33 A W34 V35 => ?_
  have V35 : AA Z h33 r_places .int [.int (-1 : Int32), .int (-1 : Int32), .int (-1 : Int32)] := V35
  refine s_iinc (pc' := 25) (z := (3 : Int32)) (Ls' := #[rv a, iv 3]) A d4_22 rfl rfl (by decide) rfl ?_
  refine s_goto (pc' := 2) A d4_25 (by decide) (by decide) ?_
  refine s_iloadN (pc' := 3) A d4_2 rfl rfl ?_
  refine s_aloadN (pc' := 4) A d4_3 rfl rfl rfl ?_
  have F36 := (F29.other W34 (Or.inl ne11))
  refine s_getfield (pc' := 7) (host := "") A (Or.inl (w9 hw)) Via.refl F36 d4_4 rfl fun T A => ?_
  refine s_icmpY (pc' := 28) A d4_7 (by decide) (by decide) (by decide) ?_
  refine s_aloadN (pc' := 29) A d4_28 rfl rfl rfl ?_
  refine s_iconst (pc' := 30) (z := (0 : Int32)) A d4_29 rfl (by decide) ?_
  have E37 := (((E1.wr W20).wr W27).wr W34)
  refine s_putfield (pc' := 33) (host := "") A (Or.inl (w9 hw)) Via.refl F36 E37 (Or.inl (w10 hw)) (w1 hw) (ty := .int) (by decide) rfl rfl ge15 d4_30 rfl fun T h38 A W39 => ?_
  have F40 := F36.same W39
  have K41 := (((((Keep.refl h0 [a, r_heap, r_keys, r_places]).wr W20 (Or.inl (List.mem_of_getElem? (i := 3) rfl))).wr W27 (Or.inl (List.mem_of_getElem? (i := 3) rfl))).wr W34 (Or.inl (List.mem_of_getElem? (i := 3) rfl))).wr W39 (Or.inl (List.mem_of_getElem? (i := 0) rfl)))
  have E42 := (E37.wr W39)
  have F43 := ((F31.other W34 (Or.inl ne11)).other W39 (Or.inr (sn_GainQueue_heap_count hw)))
  have F44 := ((((F4.other W20 (Or.inl ne11)).other W27 (Or.inl ne11)).other W34 (Or.inl ne11)).other W39 (Or.inr (sn_GainQueue_keys_count hw)))
  have F45 := ((F30.other W34 (Or.inl ne11)).other W39 (Or.inr (sn_GainQueue_places_count hw)))
  have V46 := ((V32.other W34 ne13).other W39 (Ne.symm ne9))
  have V47 := ((((V7.other W20 ne14).other W27 ne14).other W34 ne14).other W39 (Ne.symm ne10))
  have V48 := (V35.other W39 (Ne.symm ne11))
  exact r_void A rfl d4_33 (by decide) (by decide) (⟨rfl, K41, ⟨E42, F40, F43, F44, F45, V46, V47, V48, ne9, ne10, ne11, ne12, ne13, ne14, ge15, ge16, ge17, ge18⟩⟩)
set_option maxRecDepth 65536 in
set_option maxHeartbeats 40000000 in
theorem gq_before65 (l : Launch) (Z : State) (a0 : Array Value) (hw : ∀ d ∈ tables_1, d.before a0 Z = true) (n0 : Nat) (h0 : Heap) (Z0 : n0 ≤ h0.size) (a r_heap r_keys r_places : Addr) (x0 : Int64) (x1 : Int64) (x2 : Int64) (l_heap : List Value) (l_places : List Value) (H : GQ Z n0 h0 a r_heap r_keys r_places (3 : Int32) l_heap [.long x0, .long x1, .long x2] l_places) (hk : ¬ x1 < x2) :
    Met l Z n0 y10_before prog_22_method_12_code 7 (Option.some Jvm.ClassFile.FieldType.boolean) ({ frames := 0, cells := 0, slots := 0, locals := 0 } : Room) #[(.ref a), (.int (2 : Int32)), (.int (1 : Int32))] h0 (fun v h => v = some (.int (0 : Int32)) ∧ Keep h0 h [a, r_heap, r_keys, r_places] ∧ GQ Z n0 h a r_heap r_keys r_places (3 : Int32) l_heap [.long x0, .long x1, .long x2] l_places) := by
  refine met_intro (own := c1_GainQueue) (plainFor_of_name pn_com_example_kithgraph_kithgraph_cluster_GainQueue) rfl Z0 ?_
  intro p e s m below meth c T A hnm
  refine Wp.cast (g' := mkF m 0 #[rv a, iv 2, iv 1, U0, U0, U0, U0] []) (by first | (simp [entryFrame, mkF, argsToLocals, Value.category, maxLocals, jv, S2, U0, iv, rv]; done) | rfl) ?_
  obtain ⟨E1, F2, F3, F4, F5, V6, V7, V8, ne9, ne10, ne11, ne12, ne13, ne14, ge15, ge16, ge17, ge18⟩ := H
  refine s_aloadN (pc' := 1) A d12_0 rfl rfl rfl ?_
  refine s_getfield (pc' := 4) (host := "") A (Or.inl (w15 hw)) Via.refl F4 d12_1 rfl fun T A => ?_
  refine s_iloadN (pc' := 5) A d12_4 rfl rfl ?_
  refine s_laload (pc' := 6) (i := 2) (v := (.long x2)) A V7 (by decide) rfl d12_5 rfl ?_
  refine s_lstoreN (pc' := 7) (Ls' := #[rv a, iv 2, iv 1, jv x2, S2, U0, U0]) A d12_6 rfl rfl ?_
  refine s_aloadN (pc' := 8) A d12_7 rfl rfl rfl ?_
  refine s_getfield (pc' := 11) (host := "") A (Or.inl (w15 hw)) Via.refl F4 d12_8 rfl fun T A => ?_
  refine s_iloadN (pc' := 12) A d12_11 rfl rfl ?_
  refine s_laload (pc' := 13) (i := 1) (v := (.long x1)) A V7 (by decide) rfl d12_12 rfl ?_
  refine s_lstore (pc' := 15) (Ls' := #[rv a, iv 2, iv 1, jv x2, S2, jv x1, S2]) A d12_13 rfl rfl ?_
  refine s_lloadN (pc' := 16) A d12_15 rfl rfl ?_
  refine s_lload (pc' := 18) A d12_16 rfl rfl ?_
  refine s_lcmp (pc' := 19) A d12_18 rfl ?_
  refine s_ifN (pc' := 22) A d12_19 rfl ((if0 _ _).trans (flt (fun q => hk ((lw_gt x2 x1).1 q))).2.2.1) ?_
  refine s_lloadN (pc' := 23) A d12_22 rfl rfl ?_
  refine s_lload (pc' := 25) A d12_23 rfl rfl ?_
  refine s_lcmp (pc' := 26) A d12_25 rfl ?_
  by_cases hc26_1 : x2 = x1
  ·
    refine s_ifN (pc' := 29) A d12_26 rfl ((if0 _ _).trans (teq ((lw_eq x2 x1).2 hc26_1)).2) ?_
    refine s_iloadN (pc' := 30) A d12_29 rfl rfl ?_
    refine s_iloadN (pc' := 31) A d12_30 rfl rfl ?_
    refine s_icmpY (pc' := 38) A d12_31 (by decide) (by decide) (by decide) ?_
    refine s_iconst (pc' := 39) (z := (0 : Int32)) A d12_38 rfl (by decide) ?_
    exact r_bool A rfl (by decide) d12_39 (by decide) (by decide) (⟨rfl, (Keep.refl h0 [a, r_heap, r_keys, r_places]), ⟨E1, F2, F3, F4, F5, V6, V7, V8, ne9, ne10, ne11, ne12, ne13, ne14, ge15, ge16, ge17, ge18⟩⟩)
  ·
    refine s_ifY (pc' := 38) A d12_26 ((if0 _ _).trans (feq (fun q => hc26_1 ((lw_eq x2 x1).1 q))).2) (by decide) (by decide) ?_
    refine s_iconst (pc' := 39) (z := (0 : Int32)) A d12_38 rfl (by decide) ?_
    exact r_bool A rfl (by decide) d12_39 (by decide) (by decide) (⟨rfl, (Keep.refl h0 [a, r_heap, r_keys, r_places]), ⟨E1, F2, F3, F4, F5, V6, V7, V8, ne9, ne10, ne11, ne12, ne13, ne14, ge15, ge16, ge17, ge18⟩⟩)
set_option maxRecDepth 65536 in
set_option maxHeartbeats 40000000 in
theorem gq_set66 (l : Launch) (Z : State) (a0 : Array Value) (hw : ∀ d ∈ tables_1, d.before a0 Z = true) (n0 : Nat) (h0 : Heap) (Z0 : n0 ≤ h0.size) (a r_heap r_keys r_places : Addr)  (l_keys : List Value) (H : GQ Z n0 h0 a r_heap r_keys r_places (3 : Int32) [.int (1 : Int32), .int (0 : Int32), .int (2 : Int32)] l_keys [.int (1 : Int32), .int (0 : Int32), .int (2 : Int32)]) :
    Met l Z n0 y5_set prog_22_method_11_code 3 (Option.none : Option Jvm.ClassFile.FieldType) ({ frames := 0, cells := 0, slots := 0, locals := 0 } : Room) #[(.ref a), (.int (2 : Int32)), (.int (2 : Int32))] h0 (fun v h => v = none ∧ Keep h0 h [a, r_heap, r_keys, r_places] ∧ GQ Z n0 h a r_heap r_keys r_places (3 : Int32) [.int (1 : Int32), .int (0 : Int32), .int (2 : Int32)] l_keys [.int (1 : Int32), .int (0 : Int32), .int (2 : Int32)]) := by
  refine met_intro (own := c1_GainQueue) (plainFor_of_name pn_com_example_kithgraph_kithgraph_cluster_GainQueue) rfl Z0 ?_
  intro p e s m below meth c T A hnm
  refine Wp.cast (g' := mkF m 0 #[rv a, iv 2, iv 2] []) (by first | (simp [entryFrame, mkF, argsToLocals, Value.category, maxLocals, jv, S2, U0, iv, rv]; done) | rfl) ?_
  obtain ⟨E1, F2, F3, F4, F5, V6, V7, V8, ne9, ne10, ne11, ne12, ne13, ne14, ge15, ge16, ge17, ge18⟩ := H
  refine s_aloadN (pc' := 1) A d9_0 rfl rfl rfl ?_
  refine s_getfield (pc' := 4) (host := "") A (Or.inl (w12 hw)) Via.refl F3 d9_1 rfl fun T A => ?_
  refine s_iloadN (pc' := 5) A d9_4 rfl rfl ?_
  refine s_iloadN (pc' := 6) A d9_5 rfl rfl ?_
  refine s_iastore (pc' := 7) (i := 2) A V6 (by decide) (Nat.le_of_ble_eq_true rfl) ge16 d9_6 rfl fun T h19 A W20 V21 => ?_
  have V21 : AA Z h19 r_heap .int [.int (1 : Int32), .int (0 : Int32), .int (2 : Int32)] := V21
  refine s_aloadN (pc' := 8) A d9_7 rfl rfl rfl ?_
  have F22 := (F5.other W20 (Or.inl ne9))
  refine s_getfield (pc' := 11) (host := "") A (Or.inl (w17 hw)) Via.refl F22 d9_8 rfl fun T A => ?_
  refine s_iloadN (pc' := 12) A d9_11 rfl rfl ?_
  refine s_iloadN (pc' := 13) A d9_12 rfl rfl ?_
  have V23 := (V8.other W20 (Ne.symm ne13))
  refine s_iastore (pc' := 14) (i := 2) A V23 (by decide) (Nat.le_of_ble_eq_true rfl) ge18 d9_13 rfl fun T h24 A W25 V26 => ?_
  have V26 : AA Z h24 r_places .int [.int (1 : Int32), .int (0 : Int32), .int (2 : Int32)] := V26
  have K27 := (((Keep.refl h0 [a, r_heap, r_keys, r_places]).wr W20 (Or.inl (List.mem_of_getElem? (i := 1) rfl))).wr W25 (Or.inl (List.mem_of_getElem? (i := 3) rfl)))
  have E28 := ((E1.wr W20).wr W25)
  have F29 := ((F2.other W20 (Or.inl ne9)).other W25 (Or.inl ne11))
  have F30 := ((F3.other W20 (Or.inl ne9)).other W25 (Or.inl ne11))
  have F31 := ((F4.other W20 (Or.inl ne9)).other W25 (Or.inl ne11))
  have F32 := (F22.other W25 (Or.inl ne11))
  have V33 := (V21.other W25 ne13)
  have V34 := ((V7.other W20 (Ne.symm ne12)).other W25 ne14)
  exact r_void A rfl d9_14 (by decide) (by decide) (⟨rfl, K27, ⟨E28, F29, F30, F31, F32, V33, V34, V26, ne9, ne10, ne11, ne12, ne13, ne14, ge15, ge16, ge17, ge18⟩⟩)
set_option maxRecDepth 65536 in
set_option maxHeartbeats 40000000 in
theorem gq_up64 (l : Launch) (Z : State) (a0 : Array Value) (hw : ∀ d ∈ tables_1, d.before a0 Z = true) (n0 : Nat) (h0 : Heap) (Z0 : n0 ≤ h0.size) (a r_heap r_keys r_places : Addr) (x0 : Int64) (x1 : Int64) (x2 : Int64) (H : GQ Z n0 h0 a r_heap r_keys r_places (3 : Int32) [.int (1 : Int32), .int (0 : Int32), .int (2 : Int32)] [.long x0, .long x1, .long x2] [.int (1 : Int32), .int (0 : Int32), .int (2 : Int32)]) (hk : ¬ x1 < x2) :
    Met l Z n0 y6_up prog_22_method_9_code 4 (Option.none : Option Jvm.ClassFile.FieldType) ({ frames := 1, cells := 0, slots := 0, locals := 18 } : Room) #[(.ref a), (.int (2 : Int32))] h0 (fun v h => v = none ∧ Keep h0 h [a, r_heap, r_keys, r_places] ∧ GQ Z n0 h a r_heap r_keys r_places (3 : Int32) [.int (1 : Int32), .int (0 : Int32), .int (2 : Int32)] [.long x0, .long x1, .long x2] [.int (1 : Int32), .int (0 : Int32), .int (2 : Int32)]) := by
  refine met_intro (own := c1_GainQueue) (plainFor_of_name pn_com_example_kithgraph_kithgraph_cluster_GainQueue) rfl Z0 ?_
  intro p e s m below meth c T A hnm
  refine Wp.cast (g' := mkF m 0 #[rv a, iv 2, U0, U0] []) (by first | (simp [entryFrame, mkF, argsToLocals, Value.category, maxLocals, jv, S2, U0, iv, rv]; done) | rfl) ?_
  obtain ⟨E1, F2, F3, F4, F5, V6, V7, V8, ne9, ne10, ne11, ne12, ne13, ne14, ge15, ge16, ge17, ge18⟩ := H
  refine s_aloadN (pc' := 1) A d8_0 rfl rfl rfl ?_
  refine s_getfield (pc' := 4) (host := "") A (Or.inl (w12 hw)) Via.refl F3 d8_1 rfl fun T A => ?_
  refine s_iloadN (pc' := 5) A d8_4 rfl rfl ?_
  refine s_iaload (pc' := 6) (i := 2) (v := (.int (2 : Int32))) A V6 (by decide) rfl d8_5 rfl ?_
  refine s_istoreN (pc' := 7) (Ls' := #[rv a, iv 2, iv 2, U0]) A d8_6 rfl rfl ?_
  refine s_iloadN (pc' := 8) A d8_7 rfl rfl ?_
  refine s_ifN (pc' := 11) A d8_8 rfl (by decide) ?_
  refine s_iloadN (pc' := 12) A d8_11 rfl rfl ?_
  refine s_iconst (pc' := 13) (z := (1 : Int32)) A d8_12 rfl (by decide) ?_
  refine s_isub (pc' := 14) (z := (1 : Int32)) A d8_13 rfl (by decide) ?_
  refine s_iconst (pc' := 15) (z := (2 : Int32)) A d8_14 rfl (by decide) ?_
  refine s_idiv (pc' := 16) (z := (0 : Int32)) A d8_15 rfl (by decide) (by decide) ?_
  refine s_istoreN (pc' := 17) (Ls' := #[rv a, iv 2, iv 2, iv 0]) A d8_16 rfl rfl ?_
  refine s_aloadN (pc' := 18) A d8_17 rfl rfl rfl ?_
  refine s_iloadN (pc' := 19) A d8_18 rfl rfl ?_
  refine s_aloadN (pc' := 20) A d8_19 rfl rfl rfl ?_
  refine s_getfield (pc' := 23) (host := "") A (Or.inl (w12 hw)) Via.refl F3 d8_20 rfl fun T A => ?_
  refine s_iloadN (pc' := 24) A d8_23 rfl rfl ?_
  refine s_iaload (pc' := 25) (i := 0) (v := (.int (1 : Int32))) A V6 (by decide) rfl d8_24 rfl ?_
  refine s_private (pc' := 28) (y := y10_before) (argsL := [(.int (2 : Int32)), (.int (1 : Int32))]) (rest := []) A E1 (gq_before65 l Z a0 hw n0 h0 A.size a r_heap r_keys r_places x0 x1 x2 [.int (1 : Int32), .int (0 : Int32), .int (2 : Int32)] [.int (1 : Int32), .int (0 : Int32), .int (2 : Int32)] ⟨E1, F2, F3, F4, F5, V6, V7, V8, ne9, ne10, ne11, ne12, ne13, ne14, ge15, ge16, ge17, ge18⟩ hk) (w63 hw) (w64 hw) (w1 hw) (w65 hw) (w2 hw) (w66 hw) (by decide) pd__II_Z rfl (W := 0) (by decide) (by decide) (Nat.le_of_eq rfl) (by decide) (by decide) rfl rfl d8_25 rfl fun T h21 v22 A Q23 => ?_
  obtain ⟨rfl, K19, H20⟩ := Q23
  obtain ⟨E24, F25, F26, F27, F28, V29, V30, V31, ne32, ne33, ne34, ne35, ne36, ne37, ge38, ge39, ge40, ge41⟩ := H20
  refine Wp.stk (st' := [(.int (0 : Int32))]) rfl ?_
  refine s_ifN (pc' := 31) A d8_28 rfl (by decide) ?_
  refine s_goto (pc' := 50) A d8_31 (by decide) (by decide) ?_
  refine s_aloadN (pc' := 51) A d8_50 rfl rfl rfl ?_
  refine s_iloadN (pc' := 52) A d8_51 rfl rfl ?_
  refine s_iloadN (pc' := 53) A d8_52 rfl rfl ?_
  refine s_private (pc' := 56) (y := y5_set) (argsL := [(.int (2 : Int32)), (.int (2 : Int32))]) (rest := []) A E24 (gq_set66 l Z a0 hw n0 h21 A.size a r_heap r_keys r_places [.long x0, .long x1, .long x2] ⟨E24, F25, F26, F27, F28, V29, V30, V31, ne32, ne33, ne34, ne35, ne36, ne37, ge38, ge39, ge40, ge41⟩) (w49 hw) (w50 hw) (w1 hw) (w51 hw) (w2 hw) (w52 hw) (by decide) pd__II_V rfl (W := 0) (by decide) (by decide) (Nat.le_of_eq rfl) (by decide) (by decide) rfl rfl d8_53 rfl fun T h44 v45 A Q46 => ?_
  obtain ⟨rfl, K42, H43⟩ := Q46
  obtain ⟨E47, F48, F49, F50, F51, V52, V53, V54, ne55, ne56, ne57, ne58, ne59, ne60, ge61, ge62, ge63, ge64⟩ := H43
  refine Wp.stk (st' := []) rfl ?_
  have K65 := (((Keep.refl h0 [a, r_heap, r_keys, r_places]).trans K19 (allS (Or.inl (List.mem_of_getElem? (i := 0) rfl)) (allS (Or.inl (List.mem_of_getElem? (i := 1) rfl)) (allS (Or.inl (List.mem_of_getElem? (i := 2) rfl)) (allS (Or.inl (List.mem_of_getElem? (i := 3) rfl)) all0))))).trans K42 (allS (Or.inl (List.mem_of_getElem? (i := 0) rfl)) (allS (Or.inl (List.mem_of_getElem? (i := 1) rfl)) (allS (Or.inl (List.mem_of_getElem? (i := 2) rfl)) (allS (Or.inl (List.mem_of_getElem? (i := 3) rfl)) all0)))))
  exact r_void A rfl d8_56 (by decide) (by decide) (⟨rfl, K65, ⟨E47, F48, F49, F50, F51, V52, V53, V54, ne55, ne56, ne57, ne58, ne59, ne60, ge61, ge62, ge63, ge64⟩⟩)
set_option maxRecDepth 65536 in
set_option maxHeartbeats 40000000 in
theorem gq_put63 (l : Launch) (Z : State) (a0 : Array Value) (hw : ∀ d ∈ tables_1, d.before a0 Z = true) (n0 : Nat) (h0 : Heap) (Z0 : n0 ≤ h0.size) (a r_heap r_keys r_places : Addr) (x0 : Int64) (x1 : Int64) (x2 : Int64) (H : GQ Z n0 h0 a r_heap r_keys r_places (2 : Int32) [.int (1 : Int32), .int (0 : Int32), .int (0 : Int32)] [.long x0, .long x1, .long (0 : Int64)] [.int (1 : Int32), .int (0 : Int32), .int (-1 : Int32)]) (hk : ¬ x1 < x2) :
    Met l Z n0 y7_put prog_22_method_4_code 6 (Option.none : Option Jvm.ClassFile.FieldType) ({ frames := 2, cells := 0, slots := 0, locals := 33 } : Room) #[(.ref a), (.int (2 : Int32)), (.long x2)] h0 (fun v h => v = none ∧ Keep h0 h [a, r_heap, r_keys, r_places] ∧ GQ Z n0 h a r_heap r_keys r_places (3 : Int32) [.int (1 : Int32), .int (0 : Int32), .int (2 : Int32)] [.long x0, .long x1, .long x2] [.int (1 : Int32), .int (0 : Int32), .int (2 : Int32)]) := by
  refine met_intro (own := c1_GainQueue) (plainFor_of_name pn_com_example_kithgraph_kithgraph_cluster_GainQueue) rfl Z0 ?_
  intro p e s m below meth c T A hnm
  refine Wp.cast (g' := mkF m 0 #[rv a, iv 2, jv x2, S2, U0, U0] []) (by first | (simp [entryFrame, mkF, argsToLocals, Value.category, maxLocals, jv, S2, U0, iv, rv]; done) | rfl) ?_
  obtain ⟨E1, F2, F3, F4, F5, V6, V7, V8, ne9, ne10, ne11, ne12, ne13, ne14, ge15, ge16, ge17, ge18⟩ := H
  refine s_aloadN (pc' := 1) A d7_0 rfl rfl rfl ?_
  refine s_iloadN (pc' := 2) A d7_1 rfl rfl ?_
  refine s_virtual (pc' := 5) (y := y4_contains) (argsL := [(.int (2 : Int32))]) (rest := []) (z := y4_contains) A E1 (gq_contains57 l Z a0 hw n0 h0 A.size a r_heap r_keys r_places [.int (1 : Int32), .int (0 : Int32), .int (0 : Int32)] [.long x0, .long x1, .long (0 : Int64)] ⟨E1, F2, F3, F4, F5, V6, V7, V8, ne9, ne10, ne11, ne12, ne13, ne14, ge15, ge16, ge17, ge18⟩) (w44 hw) (w34 hw) (nf_same (C := "") (w36 hw)) (w36 hw) (w35 hw) (w2 hw) (w37 hw) (by decide) pd__I_Z rfl (W := 0) (by decide) (by decide) (Nat.le_of_eq rfl) (by decide) (by decide) rfl rfl d7_2 rfl fun T h21 v22 A Q23 => ?_
  obtain ⟨rfl, K19, H20⟩ := Q23
  obtain ⟨E24, F25, F26, F27, F28, V29, V30, V31, ne32, ne33, ne34, ne35, ne36, ne37, ge38, ge39, ge40, ge41⟩ := H20
  refine Wp.stk (st' := [(.int (0 : Int32))]) rfl ?_
  refine s_ifY (pc' := 56) A d7_5 (by decide) (by decide) (by decide) ?_
  refine s_aloadN (pc' := 57) A d7_56 rfl rfl rfl ?_
  refine s_getfield (pc' := 60) (host := "") A (Or.inl (w15 hw)) Via.refl F27 d7_57 rfl fun T A => ?_
  refine s_iloadN (pc' := 61) A d7_60 rfl rfl ?_
  refine s_lloadN (pc' := 62) A d7_61 rfl rfl ?_
  refine s_lastore (pc' := 63) (i := 2) A V30 (by decide) (Nat.le_of_ble_eq_true rfl) ge40 d7_62 rfl fun T h42 A W43 V44 => ?_
  have V44 : AA Z h42 r_keys .long [.long x0, .long x1, .long x2] := V44
  refine s_aloadN (pc' := 64) A d7_63 rfl rfl rfl ?_
  have F45 := (F26.other W43 (Or.inl ne33))
  refine s_getfield (pc' := 67) (host := "") A (Or.inl (w12 hw)) Via.refl F45 d7_64 rfl fun T A => ?_
  refine s_aloadN (pc' := 68) A d7_67 rfl rfl rfl ?_
  have F46 := (F25.other W43 (Or.inl ne33))
  refine s_getfield (pc' := 71) (host := "") A (Or.inl (w9 hw)) Via.refl F46 d7_68 rfl fun T A => ?_
  refine s_iloadN (pc' := 72) A d7_71 rfl rfl ?_
  have V47 := (V29.other W43 ne35)
  refine s_iastore (pc' := 73) (i := 2) A V47 (by decide) (Nat.le_of_ble_eq_true rfl) ge39 d7_72 rfl fun T h48 A W49 V50 => ?_
  have V50 : AA Z h48 r_heap .int [.int (1 : Int32), .int (0 : Int32), .int (2 : Int32)] := V50
  refine s_aloadN (pc' := 74) A d7_73 rfl rfl rfl ?_
  have F51 := ((F28.other W43 (Or.inl ne33)).other W49 (Or.inl ne32))
  refine s_getfield (pc' := 77) (host := "") A (Or.inl (w17 hw)) Via.refl F51 d7_74 rfl fun T A => ?_
  refine s_iloadN (pc' := 78) A d7_77 rfl rfl ?_
  refine s_aloadN (pc' := 79) A d7_78 rfl rfl rfl ?_
  have F52 := (F46.other W49 (Or.inl ne32))
  refine s_getfield (pc' := 82) (host := "") A (Or.inl (w9 hw)) Via.refl F52 d7_79 rfl fun T A => ?_
  have V53 := ((V31.other W43 (Ne.symm ne37)).other W49 (Ne.symm ne36))
  refine s_iastore (pc' := 83) (i := 2) A V53 (by decide) (Nat.le_of_ble_eq_true rfl) ge41 d7_82 rfl fun T h54 A W55 V56 => ?_
  have V56 : AA Z h54 r_places .int [.int (1 : Int32), .int (0 : Int32), .int (2 : Int32)] := V56
  refine s_aloadN (pc' := 84) A d7_83 rfl rfl rfl ?_
  refine s_dup (pc' := 85) A d7_84 rfl rfl ?_
  have F57 := (F52.other W55 (Or.inl ne34))
  refine s_getfield (pc' := 88) (host := "") A (Or.inl (w9 hw)) Via.refl F57 d7_85 rfl fun T A => ?_
  refine s_iconst (pc' := 89) (z := (1 : Int32)) A d7_88 rfl (by decide) ?_
  refine s_iadd (pc' := 90) (z := (3 : Int32)) A d7_89 rfl (by decide) ?_
  have E58 := (((E24.wr W43).wr W49).wr W55)
  refine s_putfield (pc' := 93) (host := "") A (Or.inl (w9 hw)) Via.refl F57 E58 (Or.inl (w10 hw)) (w1 hw) (ty := .int) (by decide) rfl rfl ge38 d7_90 rfl fun T h59 A W60 => ?_
  have F61 := F57.same W60
  refine s_aloadN (pc' := 94) A d7_93 rfl rfl rfl ?_
  refine s_aloadN (pc' := 95) A d7_94 rfl rfl rfl ?_
  refine s_getfield (pc' := 98) (host := "") A (Or.inl (w9 hw)) Via.refl F61 d7_95 rfl fun T A => ?_
  refine s_iconst (pc' := 99) (z := (1 : Int32)) A d7_98 rfl (by decide) ?_
  refine s_isub (pc' := 100) (z := (2 : Int32)) A d7_99 rfl (by decide) ?_
  have E62 := (E58.wr W60)
  have F63 := (((F45.other W49 (Or.inl ne32)).other W55 (Or.inl ne34)).other W60 (Or.inr (sn_GainQueue_heap_count hw)))
  have F64 := ((((F27.other W43 (Or.inl ne33)).other W49 (Or.inl ne32)).other W55 (Or.inl ne34)).other W60 (Or.inr (sn_GainQueue_keys_count hw)))
  have F65 := ((F51.other W55 (Or.inl ne34)).other W60 (Or.inr (sn_GainQueue_places_count hw)))
  have V66 := ((V50.other W55 ne36).other W60 (Ne.symm ne32))
  have V67 := (((V44.other W49 (Ne.symm ne35)).other W55 ne37).other W60 (Ne.symm ne33))
  have V68 := (V56.other W60 (Ne.symm ne34))
  refine s_private (pc' := 103) (y := y6_up) (argsL := [(.int (2 : Int32))]) (rest := []) A E62 (gq_up64 l Z a0 hw n0 h59 A.size a r_heap r_keys r_places x0 x1 x2 ⟨E62, F61, F63, F64, F65, V66, V67, V68, ne32, ne33, ne34, ne35, ne36, ne37, ge38, ge39, ge40, ge41⟩ hk) (w45 hw) (w46 hw) (w1 hw) (w47 hw) (w2 hw) (w48 hw) (by decide) pd__I_V rfl (W := 0) (by decide) (by decide) (Nat.le_of_eq rfl) (by decide) (by decide) rfl rfl d7_100 rfl fun T h71 v72 A Q73 => ?_
  obtain ⟨rfl, K69, H70⟩ := Q73
  obtain ⟨E74, F75, F76, F77, F78, V79, V80, V81, ne82, ne83, ne84, ne85, ne86, ne87, ge88, ge89, ge90, ge91⟩ := H70
  refine Wp.stk (st' := []) rfl ?_
  have K92 := (((((((Keep.refl h0 [a, r_heap, r_keys, r_places]).trans K19 (allS (Or.inl (List.mem_of_getElem? (i := 0) rfl)) (allS (Or.inl (List.mem_of_getElem? (i := 1) rfl)) (allS (Or.inl (List.mem_of_getElem? (i := 2) rfl)) (allS (Or.inl (List.mem_of_getElem? (i := 3) rfl)) all0))))).wr W43 (Or.inl (List.mem_of_getElem? (i := 2) rfl))).wr W49 (Or.inl (List.mem_of_getElem? (i := 1) rfl))).wr W55 (Or.inl (List.mem_of_getElem? (i := 3) rfl))).wr W60 (Or.inl (List.mem_of_getElem? (i := 0) rfl))).trans K69 (allS (Or.inl (List.mem_of_getElem? (i := 0) rfl)) (allS (Or.inl (List.mem_of_getElem? (i := 1) rfl)) (allS (Or.inl (List.mem_of_getElem? (i := 2) rfl)) (allS (Or.inl (List.mem_of_getElem? (i := 3) rfl)) all0)))))
  exact r_void A rfl d7_103 (by decide) (by decide) (⟨rfl, K92, ⟨E74, F75, F76, F77, F78, V79, V80, V81, ne82, ne83, ne84, ne85, ne86, ne87, ge88, ge89, ge90, ge91⟩⟩)
set_option maxRecDepth 65536 in
set_option maxHeartbeats 40000000 in
theorem gq_clear67 (l : Launch) (Z : State) (a0 : Array Value) (hw : ∀ d ∈ tables_1, d.before a0 Z = true) (n0 : Nat) (h0 : Heap) (Z0 : n0 ≤ h0.size) (a r_heap r_keys r_places : Addr)  (l_keys : List Value) (H : GQ Z n0 h0 a r_heap r_keys r_places (3 : Int32) [.int (1 : Int32), .int (0 : Int32), .int (2 : Int32)] l_keys [.int (1 : Int32), .int (0 : Int32), .int (2 : Int32)]) :
    Met l Z n0 y2_clear prog_22_method_8_code 2 (Option.none : Option Jvm.ClassFile.FieldType) ({ frames := 0, cells := 0, slots := 0, locals := 0 } : Room) #[(.ref a)] h0 (fun v h => v = none ∧ Keep h0 h [a, r_heap, r_keys, r_places] ∧ GQ Z n0 h a r_heap r_keys r_places (0 : Int32) [.int (1 : Int32), .int (0 : Int32), .int (2 : Int32)] l_keys [.int (-1 : Int32), .int (-1 : Int32), .int (-1 : Int32)]) := by
  refine met_intro (own := c1_GainQueue) (plainFor_of_name pn_com_example_kithgraph_kithgraph_cluster_GainQueue) rfl Z0 ?_
  intro p e s m below meth c T A hnm
  refine Wp.cast (g' := mkF m 0 #[rv a, U0] []) (by first | (simp [entryFrame, mkF, argsToLocals, Value.category, maxLocals, jv, S2, U0, iv, rv]; done) | rfl) ?_
  obtain ⟨E1, F2, F3, F4, F5, V6, V7, V8, ne9, ne10, ne11, ne12, ne13, ne14, ge15, ge16, ge17, ge18⟩ := H
  refine s_iconst (pc' := 1) (z := (0 : Int32)) A d4_0 rfl (by decide) ?_
  refine s_istoreN (pc' := 2) (Ls' := #[rv a, iv 0]) A d4_1 rfl rfl ?_
  refine s_iloadN (pc' := 3) A d4_2 rfl rfl ?_
  refine s_aloadN (pc' := 4) A d4_3 rfl rfl rfl ?_
  refine s_getfield (pc' := 7) (host := "") A (Or.inl (w9 hw)) Via.refl F2 d4_4 rfl fun T A => ?_
  refine s_icmpN (pc' := 10) A d4_7 rfl (by decide) ?_
  refine s_aloadN (pc' := 11) A d4_10 rfl rfl rfl ?_
  refine s_getfield (pc' := 14) (host := "") A (Or.inl (w17 hw)) Via.refl F5 d4_11 rfl fun T A => ?_
  refine s_aloadN (pc' := 15) A d4_14 rfl rfl rfl ?_
  refine s_getfield (pc' := 18) (host := "") A (Or.inl (w12 hw)) Via.refl F3 d4_15 rfl fun T A => ?_
  refine s_iloadN (pc' := 19) A d4_18 rfl rfl ?_
  refine s_iaload (pc' := 20) (i := 0) (v := (.int (1 : Int32))) A V6 (by decide) rfl d4_19 rfl ?_
  refine s_iconst (pc' := 21) (z := (-1 : Int32)) A d4_20 rfl (by decide) ?_
  refine s_iastore (pc' := 22) (i := 1) A V8 (by decide) (Nat.le_of_ble_eq_true rfl) ge18 d4_21 rfl fun T h19 A W20 V21 => ?_
  have V21 : AA Z h19 r_places .int [.int (1 : Int32), .int (-1 : Int32), .int (2 : Int32)] := V21
  refine s_iinc (pc' := 25) (z := (1 : Int32)) (Ls' := #[rv a, iv 1]) A d4_22 rfl rfl (by decide) rfl ?_
  refine s_goto (pc' := 2) A d4_25 (by decide) (by decide) ?_
  refine s_iloadN (pc' := 3) A d4_2 rfl rfl ?_
  refine s_aloadN (pc' := 4) A d4_3 rfl rfl rfl ?_
  have F22 := (F2.other W20 (Or.inl ne11))
  refine s_getfield (pc' := 7) (host := "") A (Or.inl (w9 hw)) Via.refl F22 d4_4 rfl fun T A => ?_
  refine s_icmpN (pc' := 10) A d4_7 rfl (by decide) ?_
  refine s_aloadN (pc' := 11) A d4_10 rfl rfl rfl ?_
  have F23 := (F5.other W20 (Or.inl ne11))
  refine s_getfield (pc' := 14) (host := "") A (Or.inl (w17 hw)) Via.refl F23 d4_11 rfl fun T A => ?_
  refine s_aloadN (pc' := 15) A d4_14 rfl rfl rfl ?_
  have F24 := (F3.other W20 (Or.inl ne11))
  refine s_getfield (pc' := 18) (host := "") A (Or.inl (w12 hw)) Via.refl F24 d4_15 rfl fun T A => ?_
  refine s_iloadN (pc' := 19) A d4_18 rfl rfl ?_
  have V25 := (V6.other W20 ne13)
  refine s_iaload (pc' := 20) (i := 1) (v := (.int (0 : Int32))) A V25 (by decide) rfl d4_19 rfl ?_
  refine s_iconst (pc' := 21) (z := (-1 : Int32)) A d4_20 rfl (by decide) ?_
  refine s_iastore (pc' := 22) (i := 0) A V21 (by decide) (Nat.le_of_ble_eq_true rfl) ge18 d4_21 rfl fun T h26 A W27 V28 => ?_
  have V28 : AA Z h26 r_places .int [.int (-1 : Int32), .int (-1 : Int32), .int (2 : Int32)] := V28
  refine s_iinc (pc' := 25) (z := (2 : Int32)) (Ls' := #[rv a, iv 2]) A d4_22 rfl rfl (by decide) rfl ?_
  refine s_goto (pc' := 2) A d4_25 (by decide) (by decide) ?_
  refine s_iloadN (pc' := 3) A d4_2 rfl rfl ?_
  refine s_aloadN (pc' := 4) A d4_3 rfl rfl rfl ?_
  have F29 := (F22.other W27 (Or.inl ne11))
  refine s_getfield (pc' := 7) (host := "") A (Or.inl (w9 hw)) Via.refl F29 d4_4 rfl fun T A => ?_
  refine s_icmpN (pc' := 10) A d4_7 rfl (by decide) ?_
  refine s_aloadN (pc' := 11) A d4_10 rfl rfl rfl ?_
  have F30 := (F23.other W27 (Or.inl ne11))
  refine s_getfield (pc' := 14) (host := "") A (Or.inl (w17 hw)) Via.refl F30 d4_11 rfl fun T A => ?_
  refine s_aloadN (pc' := 15) A d4_14 rfl rfl rfl ?_
  have F31 := (F24.other W27 (Or.inl ne11))
  refine s_getfield (pc' := 18) (host := "") A (Or.inl (w12 hw)) Via.refl F31 d4_15 rfl fun T A => ?_
  refine s_iloadN (pc' := 19) A d4_18 rfl rfl ?_
  have V32 := (V25.other W27 ne13)
  refine s_iaload (pc' := 20) (i := 2) (v := (.int (2 : Int32))) A V32 (by decide) rfl d4_19 rfl ?_
  refine s_iconst (pc' := 21) (z := (-1 : Int32)) A d4_20 rfl (by decide) ?_
  refine s_iastore (pc' := 22) (i := 2) A V28 (by decide) (Nat.le_of_ble_eq_true rfl) ge18 d4_21 rfl fun T h33 A W34 V35 => ?_
  have V35 : AA Z h33 r_places .int [.int (-1 : Int32), .int (-1 : Int32), .int (-1 : Int32)] := V35
  refine s_iinc (pc' := 25) (z := (3 : Int32)) (Ls' := #[rv a, iv 3]) A d4_22 rfl rfl (by decide) rfl ?_
  refine s_goto (pc' := 2) A d4_25 (by decide) (by decide) ?_
  refine s_iloadN (pc' := 3) A d4_2 rfl rfl ?_
  refine s_aloadN (pc' := 4) A d4_3 rfl rfl rfl ?_
  have F36 := (F29.other W34 (Or.inl ne11))
  refine s_getfield (pc' := 7) (host := "") A (Or.inl (w9 hw)) Via.refl F36 d4_4 rfl fun T A => ?_
  refine s_icmpY (pc' := 28) A d4_7 (by decide) (by decide) (by decide) ?_
  refine s_aloadN (pc' := 29) A d4_28 rfl rfl rfl ?_
  refine s_iconst (pc' := 30) (z := (0 : Int32)) A d4_29 rfl (by decide) ?_
  have E37 := (((E1.wr W20).wr W27).wr W34)
  refine s_putfield (pc' := 33) (host := "") A (Or.inl (w9 hw)) Via.refl F36 E37 (Or.inl (w10 hw)) (w1 hw) (ty := .int) (by decide) rfl rfl ge15 d4_30 rfl fun T h38 A W39 => ?_
  have F40 := F36.same W39
  have K41 := (((((Keep.refl h0 [a, r_heap, r_keys, r_places]).wr W20 (Or.inl (List.mem_of_getElem? (i := 3) rfl))).wr W27 (Or.inl (List.mem_of_getElem? (i := 3) rfl))).wr W34 (Or.inl (List.mem_of_getElem? (i := 3) rfl))).wr W39 (Or.inl (List.mem_of_getElem? (i := 0) rfl)))
  have E42 := (E37.wr W39)
  have F43 := ((F31.other W34 (Or.inl ne11)).other W39 (Or.inr (sn_GainQueue_heap_count hw)))
  have F44 := ((((F4.other W20 (Or.inl ne11)).other W27 (Or.inl ne11)).other W34 (Or.inl ne11)).other W39 (Or.inr (sn_GainQueue_keys_count hw)))
  have F45 := ((F30.other W34 (Or.inl ne11)).other W39 (Or.inr (sn_GainQueue_places_count hw)))
  have V46 := ((V32.other W34 ne13).other W39 (Ne.symm ne9))
  have V47 := ((((V7.other W20 ne14).other W27 ne14).other W34 ne14).other W39 (Ne.symm ne10))
  have V48 := (V35.other W39 (Ne.symm ne11))
  exact r_void A rfl d4_33 (by decide) (by decide) (⟨rfl, K41, ⟨E42, F40, F43, F44, F45, V46, V47, V48, ne9, ne10, ne11, ne12, ne13, ne14, ge15, ge16, ge17, ge18⟩⟩)
set_option maxRecDepth 65536 in
set_option maxHeartbeats 40000000 in
theorem gq_before70 (l : Launch) (Z : State) (a0 : Array Value) (hw : ∀ d ∈ tables_1, d.before a0 Z = true) (n0 : Nat) (h0 : Heap) (Z0 : n0 ≤ h0.size) (a r_heap r_keys r_places : Addr) (x0 : Int64) (x1 : Int64) (l_heap : List Value) (l_places : List Value) (H : GQ Z n0 h0 a r_heap r_keys r_places (2 : Int32) l_heap [.long x0, .long x1, .long (0 : Int64)] l_places) (hk : ¬ x0 < x1) :
    Met l Z n0 y10_before prog_22_method_12_code 7 (Option.some Jvm.ClassFile.FieldType.boolean) ({ frames := 0, cells := 0, slots := 0, locals := 0 } : Room) #[(.ref a), (.int (1 : Int32)), (.int (0 : Int32))] h0 (fun v h => v = some (.int (0 : Int32)) ∧ Keep h0 h [a, r_heap, r_keys, r_places] ∧ GQ Z n0 h a r_heap r_keys r_places (2 : Int32) l_heap [.long x0, .long x1, .long (0 : Int64)] l_places) := by
  refine met_intro (own := c1_GainQueue) (plainFor_of_name pn_com_example_kithgraph_kithgraph_cluster_GainQueue) rfl Z0 ?_
  intro p e s m below meth c T A hnm
  refine Wp.cast (g' := mkF m 0 #[rv a, iv 1, iv 0, U0, U0, U0, U0] []) (by first | (simp [entryFrame, mkF, argsToLocals, Value.category, maxLocals, jv, S2, U0, iv, rv]; done) | rfl) ?_
  obtain ⟨E1, F2, F3, F4, F5, V6, V7, V8, ne9, ne10, ne11, ne12, ne13, ne14, ge15, ge16, ge17, ge18⟩ := H
  refine s_aloadN (pc' := 1) A d12_0 rfl rfl rfl ?_
  refine s_getfield (pc' := 4) (host := "") A (Or.inl (w15 hw)) Via.refl F4 d12_1 rfl fun T A => ?_
  refine s_iloadN (pc' := 5) A d12_4 rfl rfl ?_
  refine s_laload (pc' := 6) (i := 1) (v := (.long x1)) A V7 (by decide) rfl d12_5 rfl ?_
  refine s_lstoreN (pc' := 7) (Ls' := #[rv a, iv 1, iv 0, jv x1, S2, U0, U0]) A d12_6 rfl rfl ?_
  refine s_aloadN (pc' := 8) A d12_7 rfl rfl rfl ?_
  refine s_getfield (pc' := 11) (host := "") A (Or.inl (w15 hw)) Via.refl F4 d12_8 rfl fun T A => ?_
  refine s_iloadN (pc' := 12) A d12_11 rfl rfl ?_
  refine s_laload (pc' := 13) (i := 0) (v := (.long x0)) A V7 (by decide) rfl d12_12 rfl ?_
  refine s_lstore (pc' := 15) (Ls' := #[rv a, iv 1, iv 0, jv x1, S2, jv x0, S2]) A d12_13 rfl rfl ?_
  refine s_lloadN (pc' := 16) A d12_15 rfl rfl ?_
  refine s_lload (pc' := 18) A d12_16 rfl rfl ?_
  refine s_lcmp (pc' := 19) A d12_18 rfl ?_
  refine s_ifN (pc' := 22) A d12_19 rfl ((if0 _ _).trans (flt (fun q => hk ((lw_gt x1 x0).1 q))).2.2.1) ?_
  refine s_lloadN (pc' := 23) A d12_22 rfl rfl ?_
  refine s_lload (pc' := 25) A d12_23 rfl rfl ?_
  refine s_lcmp (pc' := 26) A d12_25 rfl ?_
  by_cases hc26_1 : x1 = x0
  ·
    refine s_ifN (pc' := 29) A d12_26 rfl ((if0 _ _).trans (teq ((lw_eq x1 x0).2 hc26_1)).2) ?_
    refine s_iloadN (pc' := 30) A d12_29 rfl rfl ?_
    refine s_iloadN (pc' := 31) A d12_30 rfl rfl ?_
    refine s_icmpY (pc' := 38) A d12_31 (by decide) (by decide) (by decide) ?_
    refine s_iconst (pc' := 39) (z := (0 : Int32)) A d12_38 rfl (by decide) ?_
    exact r_bool A rfl (by decide) d12_39 (by decide) (by decide) (⟨rfl, (Keep.refl h0 [a, r_heap, r_keys, r_places]), ⟨E1, F2, F3, F4, F5, V6, V7, V8, ne9, ne10, ne11, ne12, ne13, ne14, ge15, ge16, ge17, ge18⟩⟩)
  ·
    refine s_ifY (pc' := 38) A d12_26 ((if0 _ _).trans (feq (fun q => hc26_1 ((lw_eq x1 x0).1 q))).2) (by decide) (by decide) ?_
    refine s_iconst (pc' := 39) (z := (0 : Int32)) A d12_38 rfl (by decide) ?_
    exact r_bool A rfl (by decide) d12_39 (by decide) (by decide) (⟨rfl, (Keep.refl h0 [a, r_heap, r_keys, r_places]), ⟨E1, F2, F3, F4, F5, V6, V7, V8, ne9, ne10, ne11, ne12, ne13, ne14, ge15, ge16, ge17, ge18⟩⟩)
set_option maxRecDepth 65536 in
set_option maxHeartbeats 40000000 in
theorem gq_set71 (l : Launch) (Z : State) (a0 : Array Value) (hw : ∀ d ∈ tables_1, d.before a0 Z = true) (n0 : Nat) (h0 : Heap) (Z0 : n0 ≤ h0.size) (a r_heap r_keys r_places : Addr)  (l_keys : List Value) (H : GQ Z n0 h0 a r_heap r_keys r_places (2 : Int32) [.int (0 : Int32), .int (1 : Int32), .int (0 : Int32)] l_keys [.int (0 : Int32), .int (1 : Int32), .int (-1 : Int32)]) :
    Met l Z n0 y5_set prog_22_method_11_code 3 (Option.none : Option Jvm.ClassFile.FieldType) ({ frames := 0, cells := 0, slots := 0, locals := 0 } : Room) #[(.ref a), (.int (1 : Int32)), (.int (1 : Int32))] h0 (fun v h => v = none ∧ Keep h0 h [a, r_heap, r_keys, r_places] ∧ GQ Z n0 h a r_heap r_keys r_places (2 : Int32) [.int (0 : Int32), .int (1 : Int32), .int (0 : Int32)] l_keys [.int (0 : Int32), .int (1 : Int32), .int (-1 : Int32)]) := by
  refine met_intro (own := c1_GainQueue) (plainFor_of_name pn_com_example_kithgraph_kithgraph_cluster_GainQueue) rfl Z0 ?_
  intro p e s m below meth c T A hnm
  refine Wp.cast (g' := mkF m 0 #[rv a, iv 1, iv 1] []) (by first | (simp [entryFrame, mkF, argsToLocals, Value.category, maxLocals, jv, S2, U0, iv, rv]; done) | rfl) ?_
  obtain ⟨E1, F2, F3, F4, F5, V6, V7, V8, ne9, ne10, ne11, ne12, ne13, ne14, ge15, ge16, ge17, ge18⟩ := H
  refine s_aloadN (pc' := 1) A d9_0 rfl rfl rfl ?_
  refine s_getfield (pc' := 4) (host := "") A (Or.inl (w12 hw)) Via.refl F3 d9_1 rfl fun T A => ?_
  refine s_iloadN (pc' := 5) A d9_4 rfl rfl ?_
  refine s_iloadN (pc' := 6) A d9_5 rfl rfl ?_
  refine s_iastore (pc' := 7) (i := 1) A V6 (by decide) (Nat.le_of_ble_eq_true rfl) ge16 d9_6 rfl fun T h19 A W20 V21 => ?_
  have V21 : AA Z h19 r_heap .int [.int (0 : Int32), .int (1 : Int32), .int (0 : Int32)] := V21
  refine s_aloadN (pc' := 8) A d9_7 rfl rfl rfl ?_
  have F22 := (F5.other W20 (Or.inl ne9))
  refine s_getfield (pc' := 11) (host := "") A (Or.inl (w17 hw)) Via.refl F22 d9_8 rfl fun T A => ?_
  refine s_iloadN (pc' := 12) A d9_11 rfl rfl ?_
  refine s_iloadN (pc' := 13) A d9_12 rfl rfl ?_
  have V23 := (V8.other W20 (Ne.symm ne13))
  refine s_iastore (pc' := 14) (i := 1) A V23 (by decide) (Nat.le_of_ble_eq_true rfl) ge18 d9_13 rfl fun T h24 A W25 V26 => ?_
  have V26 : AA Z h24 r_places .int [.int (0 : Int32), .int (1 : Int32), .int (-1 : Int32)] := V26
  have K27 := (((Keep.refl h0 [a, r_heap, r_keys, r_places]).wr W20 (Or.inl (List.mem_of_getElem? (i := 1) rfl))).wr W25 (Or.inl (List.mem_of_getElem? (i := 3) rfl)))
  have E28 := ((E1.wr W20).wr W25)
  have F29 := ((F2.other W20 (Or.inl ne9)).other W25 (Or.inl ne11))
  have F30 := ((F3.other W20 (Or.inl ne9)).other W25 (Or.inl ne11))
  have F31 := ((F4.other W20 (Or.inl ne9)).other W25 (Or.inl ne11))
  have F32 := (F22.other W25 (Or.inl ne11))
  have V33 := (V21.other W25 ne13)
  have V34 := ((V7.other W20 (Ne.symm ne12)).other W25 ne14)
  exact r_void A rfl d9_14 (by decide) (by decide) (⟨rfl, K27, ⟨E28, F29, F30, F31, F32, V33, V34, V26, ne9, ne10, ne11, ne12, ne13, ne14, ge15, ge16, ge17, ge18⟩⟩)
set_option maxRecDepth 65536 in
set_option maxHeartbeats 40000000 in
theorem gq_up69 (l : Launch) (Z : State) (a0 : Array Value) (hw : ∀ d ∈ tables_1, d.before a0 Z = true) (n0 : Nat) (h0 : Heap) (Z0 : n0 ≤ h0.size) (a r_heap r_keys r_places : Addr) (x0 : Int64) (x1 : Int64) (H : GQ Z n0 h0 a r_heap r_keys r_places (2 : Int32) [.int (0 : Int32), .int (1 : Int32), .int (0 : Int32)] [.long x0, .long x1, .long (0 : Int64)] [.int (0 : Int32), .int (1 : Int32), .int (-1 : Int32)]) (hk : ¬ x0 < x1) :
    Met l Z n0 y6_up prog_22_method_9_code 4 (Option.none : Option Jvm.ClassFile.FieldType) ({ frames := 1, cells := 0, slots := 0, locals := 18 } : Room) #[(.ref a), (.int (1 : Int32))] h0 (fun v h => v = none ∧ Keep h0 h [a, r_heap, r_keys, r_places] ∧ GQ Z n0 h a r_heap r_keys r_places (2 : Int32) [.int (0 : Int32), .int (1 : Int32), .int (0 : Int32)] [.long x0, .long x1, .long (0 : Int64)] [.int (0 : Int32), .int (1 : Int32), .int (-1 : Int32)]) := by
  refine met_intro (own := c1_GainQueue) (plainFor_of_name pn_com_example_kithgraph_kithgraph_cluster_GainQueue) rfl Z0 ?_
  intro p e s m below meth c T A hnm
  refine Wp.cast (g' := mkF m 0 #[rv a, iv 1, U0, U0] []) (by first | (simp [entryFrame, mkF, argsToLocals, Value.category, maxLocals, jv, S2, U0, iv, rv]; done) | rfl) ?_
  obtain ⟨E1, F2, F3, F4, F5, V6, V7, V8, ne9, ne10, ne11, ne12, ne13, ne14, ge15, ge16, ge17, ge18⟩ := H
  refine s_aloadN (pc' := 1) A d8_0 rfl rfl rfl ?_
  refine s_getfield (pc' := 4) (host := "") A (Or.inl (w12 hw)) Via.refl F3 d8_1 rfl fun T A => ?_
  refine s_iloadN (pc' := 5) A d8_4 rfl rfl ?_
  refine s_iaload (pc' := 6) (i := 1) (v := (.int (1 : Int32))) A V6 (by decide) rfl d8_5 rfl ?_
  refine s_istoreN (pc' := 7) (Ls' := #[rv a, iv 1, iv 1, U0]) A d8_6 rfl rfl ?_
  refine s_iloadN (pc' := 8) A d8_7 rfl rfl ?_
  refine s_ifN (pc' := 11) A d8_8 rfl (by decide) ?_
  refine s_iloadN (pc' := 12) A d8_11 rfl rfl ?_
  refine s_iconst (pc' := 13) (z := (1 : Int32)) A d8_12 rfl (by decide) ?_
  refine s_isub (pc' := 14) (z := (0 : Int32)) A d8_13 rfl (by decide) ?_
  refine s_iconst (pc' := 15) (z := (2 : Int32)) A d8_14 rfl (by decide) ?_
  refine s_idiv (pc' := 16) (z := (0 : Int32)) A d8_15 rfl (by decide) (by decide) ?_
  refine s_istoreN (pc' := 17) (Ls' := #[rv a, iv 1, iv 1, iv 0]) A d8_16 rfl rfl ?_
  refine s_aloadN (pc' := 18) A d8_17 rfl rfl rfl ?_
  refine s_iloadN (pc' := 19) A d8_18 rfl rfl ?_
  refine s_aloadN (pc' := 20) A d8_19 rfl rfl rfl ?_
  refine s_getfield (pc' := 23) (host := "") A (Or.inl (w12 hw)) Via.refl F3 d8_20 rfl fun T A => ?_
  refine s_iloadN (pc' := 24) A d8_23 rfl rfl ?_
  refine s_iaload (pc' := 25) (i := 0) (v := (.int (0 : Int32))) A V6 (by decide) rfl d8_24 rfl ?_
  refine s_private (pc' := 28) (y := y10_before) (argsL := [(.int (1 : Int32)), (.int (0 : Int32))]) (rest := []) A E1 (gq_before70 l Z a0 hw n0 h0 A.size a r_heap r_keys r_places x0 x1 [.int (0 : Int32), .int (1 : Int32), .int (0 : Int32)] [.int (0 : Int32), .int (1 : Int32), .int (-1 : Int32)] ⟨E1, F2, F3, F4, F5, V6, V7, V8, ne9, ne10, ne11, ne12, ne13, ne14, ge15, ge16, ge17, ge18⟩ hk) (w63 hw) (w64 hw) (w1 hw) (w65 hw) (w2 hw) (w66 hw) (by decide) pd__II_Z rfl (W := 0) (by decide) (by decide) (Nat.le_of_eq rfl) (by decide) (by decide) rfl rfl d8_25 rfl fun T h21 v22 A Q23 => ?_
  obtain ⟨rfl, K19, H20⟩ := Q23
  obtain ⟨E24, F25, F26, F27, F28, V29, V30, V31, ne32, ne33, ne34, ne35, ne36, ne37, ge38, ge39, ge40, ge41⟩ := H20
  refine Wp.stk (st' := [(.int (0 : Int32))]) rfl ?_
  refine s_ifN (pc' := 31) A d8_28 rfl (by decide) ?_
  refine s_goto (pc' := 50) A d8_31 (by decide) (by decide) ?_
  refine s_aloadN (pc' := 51) A d8_50 rfl rfl rfl ?_
  refine s_iloadN (pc' := 52) A d8_51 rfl rfl ?_
  refine s_iloadN (pc' := 53) A d8_52 rfl rfl ?_
  refine s_private (pc' := 56) (y := y5_set) (argsL := [(.int (1 : Int32)), (.int (1 : Int32))]) (rest := []) A E24 (gq_set71 l Z a0 hw n0 h21 A.size a r_heap r_keys r_places [.long x0, .long x1, .long (0 : Int64)] ⟨E24, F25, F26, F27, F28, V29, V30, V31, ne32, ne33, ne34, ne35, ne36, ne37, ge38, ge39, ge40, ge41⟩) (w49 hw) (w50 hw) (w1 hw) (w51 hw) (w2 hw) (w52 hw) (by decide) pd__II_V rfl (W := 0) (by decide) (by decide) (Nat.le_of_eq rfl) (by decide) (by decide) rfl rfl d8_53 rfl fun T h44 v45 A Q46 => ?_
  obtain ⟨rfl, K42, H43⟩ := Q46
  obtain ⟨E47, F48, F49, F50, F51, V52, V53, V54, ne55, ne56, ne57, ne58, ne59, ne60, ge61, ge62, ge63, ge64⟩ := H43
  refine Wp.stk (st' := []) rfl ?_
  have K65 := (((Keep.refl h0 [a, r_heap, r_keys, r_places]).trans K19 (allS (Or.inl (List.mem_of_getElem? (i := 0) rfl)) (allS (Or.inl (List.mem_of_getElem? (i := 1) rfl)) (allS (Or.inl (List.mem_of_getElem? (i := 2) rfl)) (allS (Or.inl (List.mem_of_getElem? (i := 3) rfl)) all0))))).trans K42 (allS (Or.inl (List.mem_of_getElem? (i := 0) rfl)) (allS (Or.inl (List.mem_of_getElem? (i := 1) rfl)) (allS (Or.inl (List.mem_of_getElem? (i := 2) rfl)) (allS (Or.inl (List.mem_of_getElem? (i := 3) rfl)) all0)))))
  exact r_void A rfl d8_56 (by decide) (by decide) (⟨rfl, K65, ⟨E47, F48, F49, F50, F51, V52, V53, V54, ne55, ne56, ne57, ne58, ne59, ne60, ge61, ge62, ge63, ge64⟩⟩)
set_option maxRecDepth 65536 in
set_option maxHeartbeats 40000000 in
theorem gq_put68 (l : Launch) (Z : State) (a0 : Array Value) (hw : ∀ d ∈ tables_1, d.before a0 Z = true) (n0 : Nat) (h0 : Heap) (Z0 : n0 ≤ h0.size) (a r_heap r_keys r_places : Addr) (x0 : Int64) (x1 : Int64) (H : GQ Z n0 h0 a r_heap r_keys r_places (1 : Int32) [.int (0 : Int32), .int (0 : Int32), .int (0 : Int32)] [.long x0, .long (0 : Int64), .long (0 : Int64)] [.int (0 : Int32), .int (-1 : Int32), .int (-1 : Int32)]) (hk : ¬ x0 < x1) :
    Met l Z n0 y7_put prog_22_method_4_code 6 (Option.none : Option Jvm.ClassFile.FieldType) ({ frames := 2, cells := 0, slots := 0, locals := 33 } : Room) #[(.ref a), (.int (1 : Int32)), (.long x1)] h0 (fun v h => v = none ∧ Keep h0 h [a, r_heap, r_keys, r_places] ∧ GQ Z n0 h a r_heap r_keys r_places (2 : Int32) [.int (0 : Int32), .int (1 : Int32), .int (0 : Int32)] [.long x0, .long x1, .long (0 : Int64)] [.int (0 : Int32), .int (1 : Int32), .int (-1 : Int32)]) := by
  refine met_intro (own := c1_GainQueue) (plainFor_of_name pn_com_example_kithgraph_kithgraph_cluster_GainQueue) rfl Z0 ?_
  intro p e s m below meth c T A hnm
  refine Wp.cast (g' := mkF m 0 #[rv a, iv 1, jv x1, S2, U0, U0] []) (by first | (simp [entryFrame, mkF, argsToLocals, Value.category, maxLocals, jv, S2, U0, iv, rv]; done) | rfl) ?_
  obtain ⟨E1, F2, F3, F4, F5, V6, V7, V8, ne9, ne10, ne11, ne12, ne13, ne14, ge15, ge16, ge17, ge18⟩ := H
  refine s_aloadN (pc' := 1) A d7_0 rfl rfl rfl ?_
  refine s_iloadN (pc' := 2) A d7_1 rfl rfl ?_
  refine s_virtual (pc' := 5) (y := y4_contains) (argsL := [(.int (1 : Int32))]) (rest := []) (z := y4_contains) A E1 (gq_contains50 l Z a0 hw n0 h0 A.size a r_heap r_keys r_places [.int (0 : Int32), .int (0 : Int32), .int (0 : Int32)] [.long x0, .long (0 : Int64), .long (0 : Int64)] ⟨E1, F2, F3, F4, F5, V6, V7, V8, ne9, ne10, ne11, ne12, ne13, ne14, ge15, ge16, ge17, ge18⟩) (w44 hw) (w34 hw) (nf_same (C := "") (w36 hw)) (w36 hw) (w35 hw) (w2 hw) (w37 hw) (by decide) pd__I_Z rfl (W := 0) (by decide) (by decide) (Nat.le_of_eq rfl) (by decide) (by decide) rfl rfl d7_2 rfl fun T h21 v22 A Q23 => ?_
  obtain ⟨rfl, K19, H20⟩ := Q23
  obtain ⟨E24, F25, F26, F27, F28, V29, V30, V31, ne32, ne33, ne34, ne35, ne36, ne37, ge38, ge39, ge40, ge41⟩ := H20
  refine Wp.stk (st' := [(.int (0 : Int32))]) rfl ?_
  refine s_ifY (pc' := 56) A d7_5 (by decide) (by decide) (by decide) ?_
  refine s_aloadN (pc' := 57) A d7_56 rfl rfl rfl ?_
  refine s_getfield (pc' := 60) (host := "") A (Or.inl (w15 hw)) Via.refl F27 d7_57 rfl fun T A => ?_
  refine s_iloadN (pc' := 61) A d7_60 rfl rfl ?_
  refine s_lloadN (pc' := 62) A d7_61 rfl rfl ?_
  refine s_lastore (pc' := 63) (i := 1) A V30 (by decide) (Nat.le_of_ble_eq_true rfl) ge40 d7_62 rfl fun T h42 A W43 V44 => ?_
  have V44 : AA Z h42 r_keys .long [.long x0, .long x1, .long (0 : Int64)] := V44
  refine s_aloadN (pc' := 64) A d7_63 rfl rfl rfl ?_
  have F45 := (F26.other W43 (Or.inl ne33))
  refine s_getfield (pc' := 67) (host := "") A (Or.inl (w12 hw)) Via.refl F45 d7_64 rfl fun T A => ?_
  refine s_aloadN (pc' := 68) A d7_67 rfl rfl rfl ?_
  have F46 := (F25.other W43 (Or.inl ne33))
  refine s_getfield (pc' := 71) (host := "") A (Or.inl (w9 hw)) Via.refl F46 d7_68 rfl fun T A => ?_
  refine s_iloadN (pc' := 72) A d7_71 rfl rfl ?_
  have V47 := (V29.other W43 ne35)
  refine s_iastore (pc' := 73) (i := 1) A V47 (by decide) (Nat.le_of_ble_eq_true rfl) ge39 d7_72 rfl fun T h48 A W49 V50 => ?_
  have V50 : AA Z h48 r_heap .int [.int (0 : Int32), .int (1 : Int32), .int (0 : Int32)] := V50
  refine s_aloadN (pc' := 74) A d7_73 rfl rfl rfl ?_
  have F51 := ((F28.other W43 (Or.inl ne33)).other W49 (Or.inl ne32))
  refine s_getfield (pc' := 77) (host := "") A (Or.inl (w17 hw)) Via.refl F51 d7_74 rfl fun T A => ?_
  refine s_iloadN (pc' := 78) A d7_77 rfl rfl ?_
  refine s_aloadN (pc' := 79) A d7_78 rfl rfl rfl ?_
  have F52 := (F46.other W49 (Or.inl ne32))
  refine s_getfield (pc' := 82) (host := "") A (Or.inl (w9 hw)) Via.refl F52 d7_79 rfl fun T A => ?_
  have V53 := ((V31.other W43 (Ne.symm ne37)).other W49 (Ne.symm ne36))
  refine s_iastore (pc' := 83) (i := 1) A V53 (by decide) (Nat.le_of_ble_eq_true rfl) ge41 d7_82 rfl fun T h54 A W55 V56 => ?_
  have V56 : AA Z h54 r_places .int [.int (0 : Int32), .int (1 : Int32), .int (-1 : Int32)] := V56
  refine s_aloadN (pc' := 84) A d7_83 rfl rfl rfl ?_
  refine s_dup (pc' := 85) A d7_84 rfl rfl ?_
  have F57 := (F52.other W55 (Or.inl ne34))
  refine s_getfield (pc' := 88) (host := "") A (Or.inl (w9 hw)) Via.refl F57 d7_85 rfl fun T A => ?_
  refine s_iconst (pc' := 89) (z := (1 : Int32)) A d7_88 rfl (by decide) ?_
  refine s_iadd (pc' := 90) (z := (2 : Int32)) A d7_89 rfl (by decide) ?_
  have E58 := (((E24.wr W43).wr W49).wr W55)
  refine s_putfield (pc' := 93) (host := "") A (Or.inl (w9 hw)) Via.refl F57 E58 (Or.inl (w10 hw)) (w1 hw) (ty := .int) (by decide) rfl rfl ge38 d7_90 rfl fun T h59 A W60 => ?_
  have F61 := F57.same W60
  refine s_aloadN (pc' := 94) A d7_93 rfl rfl rfl ?_
  refine s_aloadN (pc' := 95) A d7_94 rfl rfl rfl ?_
  refine s_getfield (pc' := 98) (host := "") A (Or.inl (w9 hw)) Via.refl F61 d7_95 rfl fun T A => ?_
  refine s_iconst (pc' := 99) (z := (1 : Int32)) A d7_98 rfl (by decide) ?_
  refine s_isub (pc' := 100) (z := (1 : Int32)) A d7_99 rfl (by decide) ?_
  have E62 := (E58.wr W60)
  have F63 := (((F45.other W49 (Or.inl ne32)).other W55 (Or.inl ne34)).other W60 (Or.inr (sn_GainQueue_heap_count hw)))
  have F64 := ((((F27.other W43 (Or.inl ne33)).other W49 (Or.inl ne32)).other W55 (Or.inl ne34)).other W60 (Or.inr (sn_GainQueue_keys_count hw)))
  have F65 := ((F51.other W55 (Or.inl ne34)).other W60 (Or.inr (sn_GainQueue_places_count hw)))
  have V66 := ((V50.other W55 ne36).other W60 (Ne.symm ne32))
  have V67 := (((V44.other W49 (Ne.symm ne35)).other W55 ne37).other W60 (Ne.symm ne33))
  have V68 := (V56.other W60 (Ne.symm ne34))
  refine s_private (pc' := 103) (y := y6_up) (argsL := [(.int (1 : Int32))]) (rest := []) A E62 (gq_up69 l Z a0 hw n0 h59 A.size a r_heap r_keys r_places x0 x1 ⟨E62, F61, F63, F64, F65, V66, V67, V68, ne32, ne33, ne34, ne35, ne36, ne37, ge38, ge39, ge40, ge41⟩ hk) (w45 hw) (w46 hw) (w1 hw) (w47 hw) (w2 hw) (w48 hw) (by decide) pd__I_V rfl (W := 0) (by decide) (by decide) (Nat.le_of_eq rfl) (by decide) (by decide) rfl rfl d7_100 rfl fun T h71 v72 A Q73 => ?_
  obtain ⟨rfl, K69, H70⟩ := Q73
  obtain ⟨E74, F75, F76, F77, F78, V79, V80, V81, ne82, ne83, ne84, ne85, ne86, ne87, ge88, ge89, ge90, ge91⟩ := H70
  refine Wp.stk (st' := []) rfl ?_
  have K92 := (((((((Keep.refl h0 [a, r_heap, r_keys, r_places]).trans K19 (allS (Or.inl (List.mem_of_getElem? (i := 0) rfl)) (allS (Or.inl (List.mem_of_getElem? (i := 1) rfl)) (allS (Or.inl (List.mem_of_getElem? (i := 2) rfl)) (allS (Or.inl (List.mem_of_getElem? (i := 3) rfl)) all0))))).wr W43 (Or.inl (List.mem_of_getElem? (i := 2) rfl))).wr W49 (Or.inl (List.mem_of_getElem? (i := 1) rfl))).wr W55 (Or.inl (List.mem_of_getElem? (i := 3) rfl))).wr W60 (Or.inl (List.mem_of_getElem? (i := 0) rfl))).trans K69 (allS (Or.inl (List.mem_of_getElem? (i := 0) rfl)) (allS (Or.inl (List.mem_of_getElem? (i := 1) rfl)) (allS (Or.inl (List.mem_of_getElem? (i := 2) rfl)) (allS (Or.inl (List.mem_of_getElem? (i := 3) rfl)) all0)))))
  exact r_void A rfl d7_103 (by decide) (by decide) (⟨rfl, K92, ⟨E74, F75, F76, F77, F78, V79, V80, V81, ne82, ne83, ne84, ne85, ne86, ne87, ge88, ge89, ge90, ge91⟩⟩)
set_option maxRecDepth 65536 in
set_option maxHeartbeats 40000000 in
theorem gq_clear72 (l : Launch) (Z : State) (a0 : Array Value) (hw : ∀ d ∈ tables_1, d.before a0 Z = true) (n0 : Nat) (h0 : Heap) (Z0 : n0 ≤ h0.size) (a r_heap r_keys r_places : Addr)  (l_keys : List Value) (H : GQ Z n0 h0 a r_heap r_keys r_places (2 : Int32) [.int (0 : Int32), .int (1 : Int32), .int (0 : Int32)] l_keys [.int (0 : Int32), .int (1 : Int32), .int (-1 : Int32)]) :
    Met l Z n0 y2_clear prog_22_method_8_code 2 (Option.none : Option Jvm.ClassFile.FieldType) ({ frames := 0, cells := 0, slots := 0, locals := 0 } : Room) #[(.ref a)] h0 (fun v h => v = none ∧ Keep h0 h [a, r_heap, r_keys, r_places] ∧ GQ Z n0 h a r_heap r_keys r_places (0 : Int32) [.int (0 : Int32), .int (1 : Int32), .int (0 : Int32)] l_keys [.int (-1 : Int32), .int (-1 : Int32), .int (-1 : Int32)]) := by
  refine met_intro (own := c1_GainQueue) (plainFor_of_name pn_com_example_kithgraph_kithgraph_cluster_GainQueue) rfl Z0 ?_
  intro p e s m below meth c T A hnm
  refine Wp.cast (g' := mkF m 0 #[rv a, U0] []) (by first | (simp [entryFrame, mkF, argsToLocals, Value.category, maxLocals, jv, S2, U0, iv, rv]; done) | rfl) ?_
  obtain ⟨E1, F2, F3, F4, F5, V6, V7, V8, ne9, ne10, ne11, ne12, ne13, ne14, ge15, ge16, ge17, ge18⟩ := H
  refine s_iconst (pc' := 1) (z := (0 : Int32)) A d4_0 rfl (by decide) ?_
  refine s_istoreN (pc' := 2) (Ls' := #[rv a, iv 0]) A d4_1 rfl rfl ?_
  refine s_iloadN (pc' := 3) A d4_2 rfl rfl ?_
  refine s_aloadN (pc' := 4) A d4_3 rfl rfl rfl ?_
  refine s_getfield (pc' := 7) (host := "") A (Or.inl (w9 hw)) Via.refl F2 d4_4 rfl fun T A => ?_
  refine s_icmpN (pc' := 10) A d4_7 rfl (by decide) ?_
  refine s_aloadN (pc' := 11) A d4_10 rfl rfl rfl ?_
  refine s_getfield (pc' := 14) (host := "") A (Or.inl (w17 hw)) Via.refl F5 d4_11 rfl fun T A => ?_
  refine s_aloadN (pc' := 15) A d4_14 rfl rfl rfl ?_
  refine s_getfield (pc' := 18) (host := "") A (Or.inl (w12 hw)) Via.refl F3 d4_15 rfl fun T A => ?_
  refine s_iloadN (pc' := 19) A d4_18 rfl rfl ?_
  refine s_iaload (pc' := 20) (i := 0) (v := (.int (0 : Int32))) A V6 (by decide) rfl d4_19 rfl ?_
  refine s_iconst (pc' := 21) (z := (-1 : Int32)) A d4_20 rfl (by decide) ?_
  refine s_iastore (pc' := 22) (i := 0) A V8 (by decide) (Nat.le_of_ble_eq_true rfl) ge18 d4_21 rfl fun T h19 A W20 V21 => ?_
  have V21 : AA Z h19 r_places .int [.int (-1 : Int32), .int (1 : Int32), .int (-1 : Int32)] := V21
  refine s_iinc (pc' := 25) (z := (1 : Int32)) (Ls' := #[rv a, iv 1]) A d4_22 rfl rfl (by decide) rfl ?_
  refine s_goto (pc' := 2) A d4_25 (by decide) (by decide) ?_
  refine s_iloadN (pc' := 3) A d4_2 rfl rfl ?_
  refine s_aloadN (pc' := 4) A d4_3 rfl rfl rfl ?_
  have F22 := (F2.other W20 (Or.inl ne11))
  refine s_getfield (pc' := 7) (host := "") A (Or.inl (w9 hw)) Via.refl F22 d4_4 rfl fun T A => ?_
  refine s_icmpN (pc' := 10) A d4_7 rfl (by decide) ?_
  refine s_aloadN (pc' := 11) A d4_10 rfl rfl rfl ?_
  have F23 := (F5.other W20 (Or.inl ne11))
  refine s_getfield (pc' := 14) (host := "") A (Or.inl (w17 hw)) Via.refl F23 d4_11 rfl fun T A => ?_
  refine s_aloadN (pc' := 15) A d4_14 rfl rfl rfl ?_
  have F24 := (F3.other W20 (Or.inl ne11))
  refine s_getfield (pc' := 18) (host := "") A (Or.inl (w12 hw)) Via.refl F24 d4_15 rfl fun T A => ?_
  refine s_iloadN (pc' := 19) A d4_18 rfl rfl ?_
  have V25 := (V6.other W20 ne13)
  refine s_iaload (pc' := 20) (i := 1) (v := (.int (1 : Int32))) A V25 (by decide) rfl d4_19 rfl ?_
  refine s_iconst (pc' := 21) (z := (-1 : Int32)) A d4_20 rfl (by decide) ?_
  refine s_iastore (pc' := 22) (i := 1) A V21 (by decide) (Nat.le_of_ble_eq_true rfl) ge18 d4_21 rfl fun T h26 A W27 V28 => ?_
  have V28 : AA Z h26 r_places .int [.int (-1 : Int32), .int (-1 : Int32), .int (-1 : Int32)] := V28
  refine s_iinc (pc' := 25) (z := (2 : Int32)) (Ls' := #[rv a, iv 2]) A d4_22 rfl rfl (by decide) rfl ?_
  refine s_goto (pc' := 2) A d4_25 (by decide) (by decide) ?_
  refine s_iloadN (pc' := 3) A d4_2 rfl rfl ?_
  refine s_aloadN (pc' := 4) A d4_3 rfl rfl rfl ?_
  have F29 := (F22.other W27 (Or.inl ne11))
  refine s_getfield (pc' := 7) (host := "") A (Or.inl (w9 hw)) Via.refl F29 d4_4 rfl fun T A => ?_
  refine s_icmpY (pc' := 28) A d4_7 (by decide) (by decide) (by decide) ?_
  refine s_aloadN (pc' := 29) A d4_28 rfl rfl rfl ?_
  refine s_iconst (pc' := 30) (z := (0 : Int32)) A d4_29 rfl (by decide) ?_
  have E30 := ((E1.wr W20).wr W27)
  refine s_putfield (pc' := 33) (host := "") A (Or.inl (w9 hw)) Via.refl F29 E30 (Or.inl (w10 hw)) (w1 hw) (ty := .int) (by decide) rfl rfl ge15 d4_30 rfl fun T h31 A W32 => ?_
  have F33 := F29.same W32
  have K34 := ((((Keep.refl h0 [a, r_heap, r_keys, r_places]).wr W20 (Or.inl (List.mem_of_getElem? (i := 3) rfl))).wr W27 (Or.inl (List.mem_of_getElem? (i := 3) rfl))).wr W32 (Or.inl (List.mem_of_getElem? (i := 0) rfl)))
  have E35 := (E30.wr W32)
  have F36 := ((F24.other W27 (Or.inl ne11)).other W32 (Or.inr (sn_GainQueue_heap_count hw)))
  have F37 := (((F4.other W20 (Or.inl ne11)).other W27 (Or.inl ne11)).other W32 (Or.inr (sn_GainQueue_keys_count hw)))
  have F38 := ((F23.other W27 (Or.inl ne11)).other W32 (Or.inr (sn_GainQueue_places_count hw)))
  have V39 := ((V25.other W27 ne13).other W32 (Ne.symm ne9))
  have V40 := (((V7.other W20 ne14).other W27 ne14).other W32 (Ne.symm ne10))
  have V41 := (V28.other W32 (Ne.symm ne11))
  exact r_void A rfl d4_33 (by decide) (by decide) (⟨rfl, K34, ⟨E35, F33, F36, F37, F38, V39, V40, V41, ne9, ne10, ne11, ne12, ne13, ne14, ge15, ge16, ge17, ge18⟩⟩)
set_option maxRecDepth 65536 in
set_option maxHeartbeats 40000000 in
theorem gq_contains74 (l : Launch) (Z : State) (a0 : Array Value) (hw : ∀ d ∈ tables_1, d.before a0 Z = true) (n0 : Nat) (h0 : Heap) (Z0 : n0 ≤ h0.size) (a r_heap r_keys r_places : Addr)  (l_heap : List Value) (l_keys : List Value) (H : GQ Z n0 h0 a r_heap r_keys r_places (2 : Int32) l_heap l_keys [.int (0 : Int32), .int (1 : Int32), .int (-1 : Int32)]) :
    Met l Z n0 y4_contains prog_22_method_3_code 2 (Option.some Jvm.ClassFile.FieldType.boolean) ({ frames := 0, cells := 0, slots := 0, locals := 0 } : Room) #[(.ref a), (.int (2 : Int32))] h0 (fun v h => v = some (.int (0 : Int32)) ∧ Keep h0 h [a, r_heap, r_keys, r_places] ∧ GQ Z n0 h a r_heap r_keys r_places (2 : Int32) l_heap l_keys [.int (0 : Int32), .int (1 : Int32), .int (-1 : Int32)]) := by
  refine met_intro (own := c1_GainQueue) (plainFor_of_name pn_com_example_kithgraph_kithgraph_cluster_GainQueue) rfl Z0 ?_
  intro p e s m below meth c T A hnm
  refine Wp.cast (g' := mkF m 0 #[rv a, iv 2] []) (by first | (simp [entryFrame, mkF, argsToLocals, Value.category, maxLocals, jv, S2, U0, iv, rv]; done) | rfl) ?_
  obtain ⟨E1, F2, F3, F4, F5, V6, V7, V8, ne9, ne10, ne11, ne12, ne13, ne14, ge15, ge16, ge17, ge18⟩ := H
  refine s_aloadN (pc' := 1) A d6_0 rfl rfl rfl ?_
  refine s_getfield (pc' := 4) (host := "") A (Or.inl (w17 hw)) Via.refl F5 d6_1 rfl fun T A => ?_
  refine s_iloadN (pc' := 5) A d6_4 rfl rfl ?_
  refine s_iaload (pc' := 6) (i := 2) (v := (.int (-1 : Int32))) A V8 (by decide) rfl d6_5 rfl ?_
  refine s_iconst (pc' := 7) (z := (-1 : Int32)) A d6_6 rfl (by decide) ?_
  refine s_icmpY (pc' := 14) A d6_7 (by decide) (by decide) (by decide) ?_
  refine s_iconst (pc' := 15) (z := (0 : Int32)) A d6_14 rfl (by decide) ?_
  exact r_bool A rfl (by decide) d6_15 (by decide) (by decide) (⟨rfl, (Keep.refl h0 [a, r_heap, r_keys, r_places]), ⟨E1, F2, F3, F4, F5, V6, V7, V8, ne9, ne10, ne11, ne12, ne13, ne14, ge15, ge16, ge17, ge18⟩⟩)
set_option maxRecDepth 65536 in
set_option maxHeartbeats 40000000 in
theorem gq_before76 (l : Launch) (Z : State) (a0 : Array Value) (hw : ∀ d ∈ tables_1, d.before a0 Z = true) (n0 : Nat) (h0 : Heap) (Z0 : n0 ≤ h0.size) (a r_heap r_keys r_places : Addr) (x0 : Int64) (x1 : Int64) (x2 : Int64) (l_heap : List Value) (l_places : List Value) (H : GQ Z n0 h0 a r_heap r_keys r_places (3 : Int32) l_heap [.long x0, .long x1, .long x2] l_places) (hk : x0 < x2) :
    Met l Z n0 y10_before prog_22_method_12_code 7 (Option.some Jvm.ClassFile.FieldType.boolean) ({ frames := 0, cells := 0, slots := 0, locals := 0 } : Room) #[(.ref a), (.int (2 : Int32)), (.int (0 : Int32))] h0 (fun v h => v = some (.int (1 : Int32)) ∧ Keep h0 h [a, r_heap, r_keys, r_places] ∧ GQ Z n0 h a r_heap r_keys r_places (3 : Int32) l_heap [.long x0, .long x1, .long x2] l_places) := by
  refine met_intro (own := c1_GainQueue) (plainFor_of_name pn_com_example_kithgraph_kithgraph_cluster_GainQueue) rfl Z0 ?_
  intro p e s m below meth c T A hnm
  refine Wp.cast (g' := mkF m 0 #[rv a, iv 2, iv 0, U0, U0, U0, U0] []) (by first | (simp [entryFrame, mkF, argsToLocals, Value.category, maxLocals, jv, S2, U0, iv, rv]; done) | rfl) ?_
  obtain ⟨E1, F2, F3, F4, F5, V6, V7, V8, ne9, ne10, ne11, ne12, ne13, ne14, ge15, ge16, ge17, ge18⟩ := H
  refine s_aloadN (pc' := 1) A d12_0 rfl rfl rfl ?_
  refine s_getfield (pc' := 4) (host := "") A (Or.inl (w15 hw)) Via.refl F4 d12_1 rfl fun T A => ?_
  refine s_iloadN (pc' := 5) A d12_4 rfl rfl ?_
  refine s_laload (pc' := 6) (i := 2) (v := (.long x2)) A V7 (by decide) rfl d12_5 rfl ?_
  refine s_lstoreN (pc' := 7) (Ls' := #[rv a, iv 2, iv 0, jv x2, S2, U0, U0]) A d12_6 rfl rfl ?_
  refine s_aloadN (pc' := 8) A d12_7 rfl rfl rfl ?_
  refine s_getfield (pc' := 11) (host := "") A (Or.inl (w15 hw)) Via.refl F4 d12_8 rfl fun T A => ?_
  refine s_iloadN (pc' := 12) A d12_11 rfl rfl ?_
  refine s_laload (pc' := 13) (i := 0) (v := (.long x0)) A V7 (by decide) rfl d12_12 rfl ?_
  refine s_lstore (pc' := 15) (Ls' := #[rv a, iv 2, iv 0, jv x2, S2, jv x0, S2]) A d12_13 rfl rfl ?_
  refine s_lloadN (pc' := 16) A d12_15 rfl rfl ?_
  refine s_lload (pc' := 18) A d12_16 rfl rfl ?_
  refine s_lcmp (pc' := 19) A d12_18 rfl ?_
  refine s_ifY (pc' := 34) A d12_19 ((if0 _ _).trans (tlt ((lw_gt x2 x0).2 hk)).2.2.1) (by decide) (by decide) ?_
  refine s_iconst (pc' := 35) (z := (1 : Int32)) A d12_34 rfl (by decide) ?_
  refine s_goto (pc' := 39) A d12_35 (by decide) (by decide) ?_
  exact r_bool A rfl (by decide) d12_39 (by decide) (by decide) (⟨rfl, (Keep.refl h0 [a, r_heap, r_keys, r_places]), ⟨E1, F2, F3, F4, F5, V6, V7, V8, ne9, ne10, ne11, ne12, ne13, ne14, ge15, ge16, ge17, ge18⟩⟩)
set_option maxRecDepth 65536 in
set_option maxHeartbeats 40000000 in
theorem gq_set77 (l : Launch) (Z : State) (a0 : Array Value) (hw : ∀ d ∈ tables_1, d.before a0 Z = true) (n0 : Nat) (h0 : Heap) (Z0 : n0 ≤ h0.size) (a r_heap r_keys r_places : Addr)  (l_keys : List Value) (H : GQ Z n0 h0 a r_heap r_keys r_places (3 : Int32) [.int (0 : Int32), .int (1 : Int32), .int (2 : Int32)] l_keys [.int (0 : Int32), .int (1 : Int32), .int (2 : Int32)]) :
    Met l Z n0 y5_set prog_22_method_11_code 3 (Option.none : Option Jvm.ClassFile.FieldType) ({ frames := 0, cells := 0, slots := 0, locals := 0 } : Room) #[(.ref a), (.int (2 : Int32)), (.int (0 : Int32))] h0 (fun v h => v = none ∧ Keep h0 h [a, r_heap, r_keys, r_places] ∧ GQ Z n0 h a r_heap r_keys r_places (3 : Int32) [.int (0 : Int32), .int (1 : Int32), .int (0 : Int32)] l_keys [.int (2 : Int32), .int (1 : Int32), .int (2 : Int32)]) := by
  refine met_intro (own := c1_GainQueue) (plainFor_of_name pn_com_example_kithgraph_kithgraph_cluster_GainQueue) rfl Z0 ?_
  intro p e s m below meth c T A hnm
  refine Wp.cast (g' := mkF m 0 #[rv a, iv 2, iv 0] []) (by first | (simp [entryFrame, mkF, argsToLocals, Value.category, maxLocals, jv, S2, U0, iv, rv]; done) | rfl) ?_
  obtain ⟨E1, F2, F3, F4, F5, V6, V7, V8, ne9, ne10, ne11, ne12, ne13, ne14, ge15, ge16, ge17, ge18⟩ := H
  refine s_aloadN (pc' := 1) A d9_0 rfl rfl rfl ?_
  refine s_getfield (pc' := 4) (host := "") A (Or.inl (w12 hw)) Via.refl F3 d9_1 rfl fun T A => ?_
  refine s_iloadN (pc' := 5) A d9_4 rfl rfl ?_
  refine s_iloadN (pc' := 6) A d9_5 rfl rfl ?_
  refine s_iastore (pc' := 7) (i := 2) A V6 (by decide) (Nat.le_of_ble_eq_true rfl) ge16 d9_6 rfl fun T h19 A W20 V21 => ?_
  have V21 : AA Z h19 r_heap .int [.int (0 : Int32), .int (1 : Int32), .int (0 : Int32)] := V21
  refine s_aloadN (pc' := 8) A d9_7 rfl rfl rfl ?_
  have F22 := (F5.other W20 (Or.inl ne9))
  refine s_getfield (pc' := 11) (host := "") A (Or.inl (w17 hw)) Via.refl F22 d9_8 rfl fun T A => ?_
  refine s_iloadN (pc' := 12) A d9_11 rfl rfl ?_
  refine s_iloadN (pc' := 13) A d9_12 rfl rfl ?_
  have V23 := (V8.other W20 (Ne.symm ne13))
  refine s_iastore (pc' := 14) (i := 0) A V23 (by decide) (Nat.le_of_ble_eq_true rfl) ge18 d9_13 rfl fun T h24 A W25 V26 => ?_
  have V26 : AA Z h24 r_places .int [.int (2 : Int32), .int (1 : Int32), .int (2 : Int32)] := V26
  have K27 := (((Keep.refl h0 [a, r_heap, r_keys, r_places]).wr W20 (Or.inl (List.mem_of_getElem? (i := 1) rfl))).wr W25 (Or.inl (List.mem_of_getElem? (i := 3) rfl)))
  have E28 := ((E1.wr W20).wr W25)
  have F29 := ((F2.other W20 (Or.inl ne9)).other W25 (Or.inl ne11))
  have F30 := ((F3.other W20 (Or.inl ne9)).other W25 (Or.inl ne11))
  have F31 := ((F4.other W20 (Or.inl ne9)).other W25 (Or.inl ne11))
  have F32 := (F22.other W25 (Or.inl ne11))
  have V33 := (V21.other W25 ne13)
  have V34 := ((V7.other W20 (Ne.symm ne12)).other W25 ne14)
  exact r_void A rfl d9_14 (by decide) (by decide) (⟨rfl, K27, ⟨E28, F29, F30, F31, F32, V33, V34, V26, ne9, ne10, ne11, ne12, ne13, ne14, ge15, ge16, ge17, ge18⟩⟩)
set_option maxRecDepth 65536 in
set_option maxHeartbeats 40000000 in
theorem gq_set78 (l : Launch) (Z : State) (a0 : Array Value) (hw : ∀ d ∈ tables_1, d.before a0 Z = true) (n0 : Nat) (h0 : Heap) (Z0 : n0 ≤ h0.size) (a r_heap r_keys r_places : Addr)  (l_keys : List Value) (H : GQ Z n0 h0 a r_heap r_keys r_places (3 : Int32) [.int (0 : Int32), .int (1 : Int32), .int (0 : Int32)] l_keys [.int (2 : Int32), .int (1 : Int32), .int (2 : Int32)]) :
    Met l Z n0 y5_set prog_22_method_11_code 3 (Option.none : Option Jvm.ClassFile.FieldType) ({ frames := 0, cells := 0, slots := 0, locals := 0 } : Room) #[(.ref a), (.int (0 : Int32)), (.int (2 : Int32))] h0 (fun v h => v = none ∧ Keep h0 h [a, r_heap, r_keys, r_places] ∧ GQ Z n0 h a r_heap r_keys r_places (3 : Int32) [.int (2 : Int32), .int (1 : Int32), .int (0 : Int32)] l_keys [.int (2 : Int32), .int (1 : Int32), .int (0 : Int32)]) := by
  refine met_intro (own := c1_GainQueue) (plainFor_of_name pn_com_example_kithgraph_kithgraph_cluster_GainQueue) rfl Z0 ?_
  intro p e s m below meth c T A hnm
  refine Wp.cast (g' := mkF m 0 #[rv a, iv 0, iv 2] []) (by first | (simp [entryFrame, mkF, argsToLocals, Value.category, maxLocals, jv, S2, U0, iv, rv]; done) | rfl) ?_
  obtain ⟨E1, F2, F3, F4, F5, V6, V7, V8, ne9, ne10, ne11, ne12, ne13, ne14, ge15, ge16, ge17, ge18⟩ := H
  refine s_aloadN (pc' := 1) A d9_0 rfl rfl rfl ?_
  refine s_getfield (pc' := 4) (host := "") A (Or.inl (w12 hw)) Via.refl F3 d9_1 rfl fun T A => ?_
  refine s_iloadN (pc' := 5) A d9_4 rfl rfl ?_
  refine s_iloadN (pc' := 6) A d9_5 rfl rfl ?_
  refine s_iastore (pc' := 7) (i := 0) A V6 (by decide) (Nat.le_of_ble_eq_true rfl) ge16 d9_6 rfl fun T h19 A W20 V21 => ?_
  have V21 : AA Z h19 r_heap .int [.int (2 : Int32), .int (1 : Int32), .int (0 : Int32)] := V21
  refine s_aloadN (pc' := 8) A d9_7 rfl rfl rfl ?_
  have F22 := (F5.other W20 (Or.inl ne9))
  refine s_getfield (pc' := 11) (host := "") A (Or.inl (w17 hw)) Via.refl F22 d9_8 rfl fun T A => ?_
  refine s_iloadN (pc' := 12) A d9_11 rfl rfl ?_
  refine s_iloadN (pc' := 13) A d9_12 rfl rfl ?_
  have V23 := (V8.other W20 (Ne.symm ne13))
  refine s_iastore (pc' := 14) (i := 2) A V23 (by decide) (Nat.le_of_ble_eq_true rfl) ge18 d9_13 rfl fun T h24 A W25 V26 => ?_
  have V26 : AA Z h24 r_places .int [.int (2 : Int32), .int (1 : Int32), .int (0 : Int32)] := V26
  have K27 := (((Keep.refl h0 [a, r_heap, r_keys, r_places]).wr W20 (Or.inl (List.mem_of_getElem? (i := 1) rfl))).wr W25 (Or.inl (List.mem_of_getElem? (i := 3) rfl)))
  have E28 := ((E1.wr W20).wr W25)
  have F29 := ((F2.other W20 (Or.inl ne9)).other W25 (Or.inl ne11))
  have F30 := ((F3.other W20 (Or.inl ne9)).other W25 (Or.inl ne11))
  have F31 := ((F4.other W20 (Or.inl ne9)).other W25 (Or.inl ne11))
  have F32 := (F22.other W25 (Or.inl ne11))
  have V33 := (V21.other W25 ne13)
  have V34 := ((V7.other W20 (Ne.symm ne12)).other W25 ne14)
  exact r_void A rfl d9_14 (by decide) (by decide) (⟨rfl, K27, ⟨E28, F29, F30, F31, F32, V33, V34, V26, ne9, ne10, ne11, ne12, ne13, ne14, ge15, ge16, ge17, ge18⟩⟩)
set_option maxRecDepth 65536 in
set_option maxHeartbeats 40000000 in
theorem gq_up75 (l : Launch) (Z : State) (a0 : Array Value) (hw : ∀ d ∈ tables_1, d.before a0 Z = true) (n0 : Nat) (h0 : Heap) (Z0 : n0 ≤ h0.size) (a r_heap r_keys r_places : Addr) (x0 : Int64) (x1 : Int64) (x2 : Int64) (H : GQ Z n0 h0 a r_heap r_keys r_places (3 : Int32) [.int (0 : Int32), .int (1 : Int32), .int (2 : Int32)] [.long x0, .long x1, .long x2] [.int (0 : Int32), .int (1 : Int32), .int (2 : Int32)]) (hk : x0 < x2) :
    Met l Z n0 y6_up prog_22_method_9_code 4 (Option.none : Option Jvm.ClassFile.FieldType) ({ frames := 1, cells := 0, slots := 0, locals := 18 } : Room) #[(.ref a), (.int (2 : Int32))] h0 (fun v h => v = none ∧ Keep h0 h [a, r_heap, r_keys, r_places] ∧ GQ Z n0 h a r_heap r_keys r_places (3 : Int32) [.int (2 : Int32), .int (1 : Int32), .int (0 : Int32)] [.long x0, .long x1, .long x2] [.int (2 : Int32), .int (1 : Int32), .int (0 : Int32)]) := by
  refine met_intro (own := c1_GainQueue) (plainFor_of_name pn_com_example_kithgraph_kithgraph_cluster_GainQueue) rfl Z0 ?_
  intro p e s m below meth c T A hnm
  refine Wp.cast (g' := mkF m 0 #[rv a, iv 2, U0, U0] []) (by first | (simp [entryFrame, mkF, argsToLocals, Value.category, maxLocals, jv, S2, U0, iv, rv]; done) | rfl) ?_
  obtain ⟨E1, F2, F3, F4, F5, V6, V7, V8, ne9, ne10, ne11, ne12, ne13, ne14, ge15, ge16, ge17, ge18⟩ := H
  refine s_aloadN (pc' := 1) A d8_0 rfl rfl rfl ?_
  refine s_getfield (pc' := 4) (host := "") A (Or.inl (w12 hw)) Via.refl F3 d8_1 rfl fun T A => ?_
  refine s_iloadN (pc' := 5) A d8_4 rfl rfl ?_
  refine s_iaload (pc' := 6) (i := 2) (v := (.int (2 : Int32))) A V6 (by decide) rfl d8_5 rfl ?_
  refine s_istoreN (pc' := 7) (Ls' := #[rv a, iv 2, iv 2, U0]) A d8_6 rfl rfl ?_
  refine s_iloadN (pc' := 8) A d8_7 rfl rfl ?_
  refine s_ifN (pc' := 11) A d8_8 rfl (by decide) ?_
  refine s_iloadN (pc' := 12) A d8_11 rfl rfl ?_
  refine s_iconst (pc' := 13) (z := (1 : Int32)) A d8_12 rfl (by decide) ?_
  refine s_isub (pc' := 14) (z := (1 : Int32)) A d8_13 rfl (by decide) ?_
  refine s_iconst (pc' := 15) (z := (2 : Int32)) A d8_14 rfl (by decide) ?_
  refine s_idiv (pc' := 16) (z := (0 : Int32)) A d8_15 rfl (by decide) (by decide) ?_
  refine s_istoreN (pc' := 17) (Ls' := #[rv a, iv 2, iv 2, iv 0]) A d8_16 rfl rfl ?_
  refine s_aloadN (pc' := 18) A d8_17 rfl rfl rfl ?_
  refine s_iloadN (pc' := 19) A d8_18 rfl rfl ?_
  refine s_aloadN (pc' := 20) A d8_19 rfl rfl rfl ?_
  refine s_getfield (pc' := 23) (host := "") A (Or.inl (w12 hw)) Via.refl F3 d8_20 rfl fun T A => ?_
  refine s_iloadN (pc' := 24) A d8_23 rfl rfl ?_
  refine s_iaload (pc' := 25) (i := 0) (v := (.int (0 : Int32))) A V6 (by decide) rfl d8_24 rfl ?_
  refine s_private (pc' := 28) (y := y10_before) (argsL := [(.int (2 : Int32)), (.int (0 : Int32))]) (rest := []) A E1 (gq_before76 l Z a0 hw n0 h0 A.size a r_heap r_keys r_places x0 x1 x2 [.int (0 : Int32), .int (1 : Int32), .int (2 : Int32)] [.int (0 : Int32), .int (1 : Int32), .int (2 : Int32)] ⟨E1, F2, F3, F4, F5, V6, V7, V8, ne9, ne10, ne11, ne12, ne13, ne14, ge15, ge16, ge17, ge18⟩ hk) (w63 hw) (w64 hw) (w1 hw) (w65 hw) (w2 hw) (w66 hw) (by decide) pd__II_Z rfl (W := 0) (by decide) (by decide) (Nat.le_of_eq rfl) (by decide) (by decide) rfl rfl d8_25 rfl fun T h21 v22 A Q23 => ?_
  obtain ⟨rfl, K19, H20⟩ := Q23
  obtain ⟨E24, F25, F26, F27, F28, V29, V30, V31, ne32, ne33, ne34, ne35, ne36, ne37, ge38, ge39, ge40, ge41⟩ := H20
  refine Wp.stk (st' := [(.int (1 : Int32))]) rfl ?_
  refine s_ifY (pc' := 34) A d8_28 (by decide) (by decide) (by decide) ?_
  refine s_aloadN (pc' := 35) A d8_34 rfl rfl rfl ?_
  refine s_iloadN (pc' := 36) A d8_35 rfl rfl ?_
  refine s_aloadN (pc' := 37) A d8_36 rfl rfl rfl ?_
  refine s_getfield (pc' := 40) (host := "") A (Or.inl (w12 hw)) Via.refl F26 d8_37 rfl fun T A => ?_
  refine s_iloadN (pc' := 41) A d8_40 rfl rfl ?_
  refine s_iaload (pc' := 42) (i := 0) (v := (.int (0 : Int32))) A V29 (by decide) rfl d8_41 rfl ?_
  refine s_private (pc' := 45) (y := y5_set) (argsL := [(.int (2 : Int32)), (.int (0 : Int32))]) (rest := []) A E24 (gq_set77 l Z a0 hw n0 h21 A.size a r_heap r_keys r_places [.long x0, .long x1, .long x2] ⟨E24, F25, F26, F27, F28, V29, V30, V31, ne32, ne33, ne34, ne35, ne36, ne37, ge38, ge39, ge40, ge41⟩) (w49 hw) (w50 hw) (w1 hw) (w51 hw) (w2 hw) (w52 hw) (by decide) pd__II_V rfl (W := 0) (by decide) (by decide) (Nat.le_of_eq rfl) (by decide) (by decide) rfl rfl d8_42 rfl fun T h44 v45 A Q46 => ?_
  obtain ⟨rfl, K42, H43⟩ := Q46
  obtain ⟨E47, F48, F49, F50, F51, V52, V53, V54, ne55, ne56, ne57, ne58, ne59, ne60, ge61, ge62, ge63, ge64⟩ := H43
  refine Wp.stk (st' := []) rfl ?_
  refine s_iloadN (pc' := 46) A d8_45 rfl rfl ?_
  refine s_istoreN (pc' := 47) (Ls' := #[rv a, iv 0, iv 2, iv 0]) A d8_46 rfl rfl ?_
  refine s_goto (pc' := 7) A d8_47 (by decide) (by decide) ?_
  refine s_iloadN (pc' := 8) A d8_7 rfl rfl ?_
  refine s_ifY (pc' := 50) A d8_8 (by decide) (by decide) (by decide) ?_
  refine s_aloadN (pc' := 51) A d8_50 rfl rfl rfl ?_
  refine s_iloadN (pc' := 52) A d8_51 rfl rfl ?_
  refine s_iloadN (pc' := 53) A d8_52 rfl rfl ?_
  refine s_private (pc' := 56) (y := y5_set) (argsL := [(.int (0 : Int32)), (.int (2 : Int32))]) (rest := []) A E47 (gq_set78 l Z a0 hw n0 h44 A.size a r_heap r_keys r_places [.long x0, .long x1, .long x2] ⟨E47, F48, F49, F50, F51, V52, V53, V54, ne55, ne56, ne57, ne58, ne59, ne60, ge61, ge62, ge63, ge64⟩) (w49 hw) (w50 hw) (w1 hw) (w51 hw) (w2 hw) (w52 hw) (by decide) pd__II_V rfl (W := 0) (by decide) (by decide) (Nat.le_of_eq rfl) (by decide) (by decide) rfl rfl d8_53 rfl fun T h67 v68 A Q69 => ?_
  obtain ⟨rfl, K65, H66⟩ := Q69
  obtain ⟨E70, F71, F72, F73, F74, V75, V76, V77, ne78, ne79, ne80, ne81, ne82, ne83, ge84, ge85, ge86, ge87⟩ := H66
  refine Wp.stk (st' := []) rfl ?_
  have K88 := ((((Keep.refl h0 [a, r_heap, r_keys, r_places]).trans K19 (allS (Or.inl (List.mem_of_getElem? (i := 0) rfl)) (allS (Or.inl (List.mem_of_getElem? (i := 1) rfl)) (allS (Or.inl (List.mem_of_getElem? (i := 2) rfl)) (allS (Or.inl (List.mem_of_getElem? (i := 3) rfl)) all0))))).trans K42 (allS (Or.inl (List.mem_of_getElem? (i := 0) rfl)) (allS (Or.inl (List.mem_of_getElem? (i := 1) rfl)) (allS (Or.inl (List.mem_of_getElem? (i := 2) rfl)) (allS (Or.inl (List.mem_of_getElem? (i := 3) rfl)) all0))))).trans K65 (allS (Or.inl (List.mem_of_getElem? (i := 0) rfl)) (allS (Or.inl (List.mem_of_getElem? (i := 1) rfl)) (allS (Or.inl (List.mem_of_getElem? (i := 2) rfl)) (allS (Or.inl (List.mem_of_getElem? (i := 3) rfl)) all0)))))
  exact r_void A rfl d8_56 (by decide) (by decide) (⟨rfl, K88, ⟨E70, F71, F72, F73, F74, V75, V76, V77, ne78, ne79, ne80, ne81, ne82, ne83, ge84, ge85, ge86, ge87⟩⟩)
set_option maxRecDepth 65536 in
set_option maxHeartbeats 40000000 in
theorem gq_put73 (l : Launch) (Z : State) (a0 : Array Value) (hw : ∀ d ∈ tables_1, d.before a0 Z = true) (n0 : Nat) (h0 : Heap) (Z0 : n0 ≤ h0.size) (a r_heap r_keys r_places : Addr) (x0 : Int64) (x1 : Int64) (x2 : Int64) (H : GQ Z n0 h0 a r_heap r_keys r_places (2 : Int32) [.int (0 : Int32), .int (1 : Int32), .int (0 : Int32)] [.long x0, .long x1, .long (0 : Int64)] [.int (0 : Int32), .int (1 : Int32), .int (-1 : Int32)]) (hk : x0 < x2) :
    Met l Z n0 y7_put prog_22_method_4_code 6 (Option.none : Option Jvm.ClassFile.FieldType) ({ frames := 2, cells := 0, slots := 0, locals := 33 } : Room) #[(.ref a), (.int (2 : Int32)), (.long x2)] h0 (fun v h => v = none ∧ Keep h0 h [a, r_heap, r_keys, r_places] ∧ GQ Z n0 h a r_heap r_keys r_places (3 : Int32) [.int (2 : Int32), .int (1 : Int32), .int (0 : Int32)] [.long x0, .long x1, .long x2] [.int (2 : Int32), .int (1 : Int32), .int (0 : Int32)]) := by
  refine met_intro (own := c1_GainQueue) (plainFor_of_name pn_com_example_kithgraph_kithgraph_cluster_GainQueue) rfl Z0 ?_
  intro p e s m below meth c T A hnm
  refine Wp.cast (g' := mkF m 0 #[rv a, iv 2, jv x2, S2, U0, U0] []) (by first | (simp [entryFrame, mkF, argsToLocals, Value.category, maxLocals, jv, S2, U0, iv, rv]; done) | rfl) ?_
  obtain ⟨E1, F2, F3, F4, F5, V6, V7, V8, ne9, ne10, ne11, ne12, ne13, ne14, ge15, ge16, ge17, ge18⟩ := H
  refine s_aloadN (pc' := 1) A d7_0 rfl rfl rfl ?_
  refine s_iloadN (pc' := 2) A d7_1 rfl rfl ?_
  refine s_virtual (pc' := 5) (y := y4_contains) (argsL := [(.int (2 : Int32))]) (rest := []) (z := y4_contains) A E1 (gq_contains74 l Z a0 hw n0 h0 A.size a r_heap r_keys r_places [.int (0 : Int32), .int (1 : Int32), .int (0 : Int32)] [.long x0, .long x1, .long (0 : Int64)] ⟨E1, F2, F3, F4, F5, V6, V7, V8, ne9, ne10, ne11, ne12, ne13, ne14, ge15, ge16, ge17, ge18⟩) (w44 hw) (w34 hw) (nf_same (C := "") (w36 hw)) (w36 hw) (w35 hw) (w2 hw) (w37 hw) (by decide) pd__I_Z rfl (W := 0) (by decide) (by decide) (Nat.le_of_eq rfl) (by decide) (by decide) rfl rfl d7_2 rfl fun T h21 v22 A Q23 => ?_
  obtain ⟨rfl, K19, H20⟩ := Q23
  obtain ⟨E24, F25, F26, F27, F28, V29, V30, V31, ne32, ne33, ne34, ne35, ne36, ne37, ge38, ge39, ge40, ge41⟩ := H20
  refine Wp.stk (st' := [(.int (0 : Int32))]) rfl ?_
  refine s_ifY (pc' := 56) A d7_5 (by decide) (by decide) (by decide) ?_
  refine s_aloadN (pc' := 57) A d7_56 rfl rfl rfl ?_
  refine s_getfield (pc' := 60) (host := "") A (Or.inl (w15 hw)) Via.refl F27 d7_57 rfl fun T A => ?_
  refine s_iloadN (pc' := 61) A d7_60 rfl rfl ?_
  refine s_lloadN (pc' := 62) A d7_61 rfl rfl ?_
  refine s_lastore (pc' := 63) (i := 2) A V30 (by decide) (Nat.le_of_ble_eq_true rfl) ge40 d7_62 rfl fun T h42 A W43 V44 => ?_
  have V44 : AA Z h42 r_keys .long [.long x0, .long x1, .long x2] := V44
  refine s_aloadN (pc' := 64) A d7_63 rfl rfl rfl ?_
  have F45 := (F26.other W43 (Or.inl ne33))
  refine s_getfield (pc' := 67) (host := "") A (Or.inl (w12 hw)) Via.refl F45 d7_64 rfl fun T A => ?_
  refine s_aloadN (pc' := 68) A d7_67 rfl rfl rfl ?_
  have F46 := (F25.other W43 (Or.inl ne33))
  refine s_getfield (pc' := 71) (host := "") A (Or.inl (w9 hw)) Via.refl F46 d7_68 rfl fun T A => ?_
  refine s_iloadN (pc' := 72) A d7_71 rfl rfl ?_
  have V47 := (V29.other W43 ne35)
  refine s_iastore (pc' := 73) (i := 2) A V47 (by decide) (Nat.le_of_ble_eq_true rfl) ge39 d7_72 rfl fun T h48 A W49 V50 => ?_
  have V50 : AA Z h48 r_heap .int [.int (0 : Int32), .int (1 : Int32), .int (2 : Int32)] := V50
  refine s_aloadN (pc' := 74) A d7_73 rfl rfl rfl ?_
  have F51 := ((F28.other W43 (Or.inl ne33)).other W49 (Or.inl ne32))
  refine s_getfield (pc' := 77) (host := "") A (Or.inl (w17 hw)) Via.refl F51 d7_74 rfl fun T A => ?_
  refine s_iloadN (pc' := 78) A d7_77 rfl rfl ?_
  refine s_aloadN (pc' := 79) A d7_78 rfl rfl rfl ?_
  have F52 := (F46.other W49 (Or.inl ne32))
  refine s_getfield (pc' := 82) (host := "") A (Or.inl (w9 hw)) Via.refl F52 d7_79 rfl fun T A => ?_
  have V53 := ((V31.other W43 (Ne.symm ne37)).other W49 (Ne.symm ne36))
  refine s_iastore (pc' := 83) (i := 2) A V53 (by decide) (Nat.le_of_ble_eq_true rfl) ge41 d7_82 rfl fun T h54 A W55 V56 => ?_
  have V56 : AA Z h54 r_places .int [.int (0 : Int32), .int (1 : Int32), .int (2 : Int32)] := V56
  refine s_aloadN (pc' := 84) A d7_83 rfl rfl rfl ?_
  refine s_dup (pc' := 85) A d7_84 rfl rfl ?_
  have F57 := (F52.other W55 (Or.inl ne34))
  refine s_getfield (pc' := 88) (host := "") A (Or.inl (w9 hw)) Via.refl F57 d7_85 rfl fun T A => ?_
  refine s_iconst (pc' := 89) (z := (1 : Int32)) A d7_88 rfl (by decide) ?_
  refine s_iadd (pc' := 90) (z := (3 : Int32)) A d7_89 rfl (by decide) ?_
  have E58 := (((E24.wr W43).wr W49).wr W55)
  refine s_putfield (pc' := 93) (host := "") A (Or.inl (w9 hw)) Via.refl F57 E58 (Or.inl (w10 hw)) (w1 hw) (ty := .int) (by decide) rfl rfl ge38 d7_90 rfl fun T h59 A W60 => ?_
  have F61 := F57.same W60
  refine s_aloadN (pc' := 94) A d7_93 rfl rfl rfl ?_
  refine s_aloadN (pc' := 95) A d7_94 rfl rfl rfl ?_
  refine s_getfield (pc' := 98) (host := "") A (Or.inl (w9 hw)) Via.refl F61 d7_95 rfl fun T A => ?_
  refine s_iconst (pc' := 99) (z := (1 : Int32)) A d7_98 rfl (by decide) ?_
  refine s_isub (pc' := 100) (z := (2 : Int32)) A d7_99 rfl (by decide) ?_
  have E62 := (E58.wr W60)
  have F63 := (((F45.other W49 (Or.inl ne32)).other W55 (Or.inl ne34)).other W60 (Or.inr (sn_GainQueue_heap_count hw)))
  have F64 := ((((F27.other W43 (Or.inl ne33)).other W49 (Or.inl ne32)).other W55 (Or.inl ne34)).other W60 (Or.inr (sn_GainQueue_keys_count hw)))
  have F65 := ((F51.other W55 (Or.inl ne34)).other W60 (Or.inr (sn_GainQueue_places_count hw)))
  have V66 := ((V50.other W55 ne36).other W60 (Ne.symm ne32))
  have V67 := (((V44.other W49 (Ne.symm ne35)).other W55 ne37).other W60 (Ne.symm ne33))
  have V68 := (V56.other W60 (Ne.symm ne34))
  refine s_private (pc' := 103) (y := y6_up) (argsL := [(.int (2 : Int32))]) (rest := []) A E62 (gq_up75 l Z a0 hw n0 h59 A.size a r_heap r_keys r_places x0 x1 x2 ⟨E62, F61, F63, F64, F65, V66, V67, V68, ne32, ne33, ne34, ne35, ne36, ne37, ge38, ge39, ge40, ge41⟩ hk) (w45 hw) (w46 hw) (w1 hw) (w47 hw) (w2 hw) (w48 hw) (by decide) pd__I_V rfl (W := 0) (by decide) (by decide) (Nat.le_of_eq rfl) (by decide) (by decide) rfl rfl d7_100 rfl fun T h71 v72 A Q73 => ?_
  obtain ⟨rfl, K69, H70⟩ := Q73
  obtain ⟨E74, F75, F76, F77, F78, V79, V80, V81, ne82, ne83, ne84, ne85, ne86, ne87, ge88, ge89, ge90, ge91⟩ := H70
  refine Wp.stk (st' := []) rfl ?_
  have K92 := (((((((Keep.refl h0 [a, r_heap, r_keys, r_places]).trans K19 (allS (Or.inl (List.mem_of_getElem? (i := 0) rfl)) (allS (Or.inl (List.mem_of_getElem? (i := 1) rfl)) (allS (Or.inl (List.mem_of_getElem? (i := 2) rfl)) (allS (Or.inl (List.mem_of_getElem? (i := 3) rfl)) all0))))).wr W43 (Or.inl (List.mem_of_getElem? (i := 2) rfl))).wr W49 (Or.inl (List.mem_of_getElem? (i := 1) rfl))).wr W55 (Or.inl (List.mem_of_getElem? (i := 3) rfl))).wr W60 (Or.inl (List.mem_of_getElem? (i := 0) rfl))).trans K69 (allS (Or.inl (List.mem_of_getElem? (i := 0) rfl)) (allS (Or.inl (List.mem_of_getElem? (i := 1) rfl)) (allS (Or.inl (List.mem_of_getElem? (i := 2) rfl)) (allS (Or.inl (List.mem_of_getElem? (i := 3) rfl)) all0)))))
  exact r_void A rfl d7_103 (by decide) (by decide) (⟨rfl, K92, ⟨E74, F75, F76, F77, F78, V79, V80, V81, ne82, ne83, ne84, ne85, ne86, ne87, ge88, ge89, ge90, ge91⟩⟩)
set_option maxRecDepth 65536 in
set_option maxHeartbeats 40000000 in
theorem gq_clear79 (l : Launch) (Z : State) (a0 : Array Value) (hw : ∀ d ∈ tables_1, d.before a0 Z = true) (n0 : Nat) (h0 : Heap) (Z0 : n0 ≤ h0.size) (a r_heap r_keys r_places : Addr)  (l_keys : List Value) (H : GQ Z n0 h0 a r_heap r_keys r_places (3 : Int32) [.int (2 : Int32), .int (1 : Int32), .int (0 : Int32)] l_keys [.int (2 : Int32), .int (1 : Int32), .int (0 : Int32)]) :
    Met l Z n0 y2_clear prog_22_method_8_code 2 (Option.none : Option Jvm.ClassFile.FieldType) ({ frames := 0, cells := 0, slots := 0, locals := 0 } : Room) #[(.ref a)] h0 (fun v h => v = none ∧ Keep h0 h [a, r_heap, r_keys, r_places] ∧ GQ Z n0 h a r_heap r_keys r_places (0 : Int32) [.int (2 : Int32), .int (1 : Int32), .int (0 : Int32)] l_keys [.int (-1 : Int32), .int (-1 : Int32), .int (-1 : Int32)]) := by
  refine met_intro (own := c1_GainQueue) (plainFor_of_name pn_com_example_kithgraph_kithgraph_cluster_GainQueue) rfl Z0 ?_
  intro p e s m below meth c T A hnm
  refine Wp.cast (g' := mkF m 0 #[rv a, U0] []) (by first | (simp [entryFrame, mkF, argsToLocals, Value.category, maxLocals, jv, S2, U0, iv, rv]; done) | rfl) ?_
  obtain ⟨E1, F2, F3, F4, F5, V6, V7, V8, ne9, ne10, ne11, ne12, ne13, ne14, ge15, ge16, ge17, ge18⟩ := H
  refine s_iconst (pc' := 1) (z := (0 : Int32)) A d4_0 rfl (by decide) ?_
  refine s_istoreN (pc' := 2) (Ls' := #[rv a, iv 0]) A d4_1 rfl rfl ?_
  refine s_iloadN (pc' := 3) A d4_2 rfl rfl ?_
  refine s_aloadN (pc' := 4) A d4_3 rfl rfl rfl ?_
  refine s_getfield (pc' := 7) (host := "") A (Or.inl (w9 hw)) Via.refl F2 d4_4 rfl fun T A => ?_
  refine s_icmpN (pc' := 10) A d4_7 rfl (by decide) ?_
  refine s_aloadN (pc' := 11) A d4_10 rfl rfl rfl ?_
  refine s_getfield (pc' := 14) (host := "") A (Or.inl (w17 hw)) Via.refl F5 d4_11 rfl fun T A => ?_
  refine s_aloadN (pc' := 15) A d4_14 rfl rfl rfl ?_
  refine s_getfield (pc' := 18) (host := "") A (Or.inl (w12 hw)) Via.refl F3 d4_15 rfl fun T A => ?_
  refine s_iloadN (pc' := 19) A d4_18 rfl rfl ?_
  refine s_iaload (pc' := 20) (i := 0) (v := (.int (2 : Int32))) A V6 (by decide) rfl d4_19 rfl ?_
  refine s_iconst (pc' := 21) (z := (-1 : Int32)) A d4_20 rfl (by decide) ?_
  refine s_iastore (pc' := 22) (i := 2) A V8 (by decide) (Nat.le_of_ble_eq_true rfl) ge18 d4_21 rfl fun T h19 A W20 V21 => ?_
  have V21 : AA Z h19 r_places .int [.int (2 : Int32), .int (1 : Int32), .int (-1 : Int32)] := V21
  refine s_iinc (pc' := 25) (z := (1 : Int32)) (Ls' := #[rv a, iv 1]) A d4_22 rfl rfl (by decide) rfl ?_
  refine s_goto (pc' := 2) A d4_25 (by decide) (by decide) ?_
  refine s_iloadN (pc' := 3) A d4_2 rfl rfl ?_
  refine s_aloadN (pc' := 4) A d4_3 rfl rfl rfl ?_
  have F22 := (F2.other W20 (Or.inl ne11))
  refine s_getfield (pc' := 7) (host := "") A (Or.inl (w9 hw)) Via.refl F22 d4_4 rfl fun T A => ?_
  refine s_icmpN (pc' := 10) A d4_7 rfl (by decide) ?_
  refine s_aloadN (pc' := 11) A d4_10 rfl rfl rfl ?_
  have F23 := (F5.other W20 (Or.inl ne11))
  refine s_getfield (pc' := 14) (host := "") A (Or.inl (w17 hw)) Via.refl F23 d4_11 rfl fun T A => ?_
  refine s_aloadN (pc' := 15) A d4_14 rfl rfl rfl ?_
  have F24 := (F3.other W20 (Or.inl ne11))
  refine s_getfield (pc' := 18) (host := "") A (Or.inl (w12 hw)) Via.refl F24 d4_15 rfl fun T A => ?_
  refine s_iloadN (pc' := 19) A d4_18 rfl rfl ?_
  have V25 := (V6.other W20 ne13)
  refine s_iaload (pc' := 20) (i := 1) (v := (.int (1 : Int32))) A V25 (by decide) rfl d4_19 rfl ?_
  refine s_iconst (pc' := 21) (z := (-1 : Int32)) A d4_20 rfl (by decide) ?_
  refine s_iastore (pc' := 22) (i := 1) A V21 (by decide) (Nat.le_of_ble_eq_true rfl) ge18 d4_21 rfl fun T h26 A W27 V28 => ?_
  have V28 : AA Z h26 r_places .int [.int (2 : Int32), .int (-1 : Int32), .int (-1 : Int32)] := V28
  refine s_iinc (pc' := 25) (z := (2 : Int32)) (Ls' := #[rv a, iv 2]) A d4_22 rfl rfl (by decide) rfl ?_
  refine s_goto (pc' := 2) A d4_25 (by decide) (by decide) ?_
  refine s_iloadN (pc' := 3) A d4_2 rfl rfl ?_
  refine s_aloadN (pc' := 4) A d4_3 rfl rfl rfl ?_
  have F29 := (F22.other W27 (Or.inl ne11))
  refine s_getfield (pc' := 7) (host := "") A (Or.inl (w9 hw)) Via.refl F29 d4_4 rfl fun T A => ?_
  refine s_icmpN (pc' := 10) A d4_7 rfl (by decide) ?_
  refine s_aloadN (pc' := 11) A d4_10 rfl rfl rfl ?_
  have F30 := (F23.other W27 (Or.inl ne11))
  refine s_getfield (pc' := 14) (host := "") A (Or.inl (w17 hw)) Via.refl F30 d4_11 rfl fun T A => ?_
  refine s_aloadN (pc' := 15) A d4_14 rfl rfl rfl ?_
  have F31 := (F24.other W27 (Or.inl ne11))
  refine s_getfield (pc' := 18) (host := "") A (Or.inl (w12 hw)) Via.refl F31 d4_15 rfl fun T A => ?_
  refine s_iloadN (pc' := 19) A d4_18 rfl rfl ?_
  have V32 := (V25.other W27 ne13)
  refine s_iaload (pc' := 20) (i := 2) (v := (.int (0 : Int32))) A V32 (by decide) rfl d4_19 rfl ?_
  refine s_iconst (pc' := 21) (z := (-1 : Int32)) A d4_20 rfl (by decide) ?_
  refine s_iastore (pc' := 22) (i := 0) A V28 (by decide) (Nat.le_of_ble_eq_true rfl) ge18 d4_21 rfl fun T h33 A W34 V35 => ?_
  have V35 : AA Z h33 r_places .int [.int (-1 : Int32), .int (-1 : Int32), .int (-1 : Int32)] := V35
  refine s_iinc (pc' := 25) (z := (3 : Int32)) (Ls' := #[rv a, iv 3]) A d4_22 rfl rfl (by decide) rfl ?_
  refine s_goto (pc' := 2) A d4_25 (by decide) (by decide) ?_
  refine s_iloadN (pc' := 3) A d4_2 rfl rfl ?_
  refine s_aloadN (pc' := 4) A d4_3 rfl rfl rfl ?_
  have F36 := (F29.other W34 (Or.inl ne11))
  refine s_getfield (pc' := 7) (host := "") A (Or.inl (w9 hw)) Via.refl F36 d4_4 rfl fun T A => ?_
  refine s_icmpY (pc' := 28) A d4_7 (by decide) (by decide) (by decide) ?_
  refine s_aloadN (pc' := 29) A d4_28 rfl rfl rfl ?_
  refine s_iconst (pc' := 30) (z := (0 : Int32)) A d4_29 rfl (by decide) ?_
  have E37 := (((E1.wr W20).wr W27).wr W34)
  refine s_putfield (pc' := 33) (host := "") A (Or.inl (w9 hw)) Via.refl F36 E37 (Or.inl (w10 hw)) (w1 hw) (ty := .int) (by decide) rfl rfl ge15 d4_30 rfl fun T h38 A W39 => ?_
  have F40 := F36.same W39
  have K41 := (((((Keep.refl h0 [a, r_heap, r_keys, r_places]).wr W20 (Or.inl (List.mem_of_getElem? (i := 3) rfl))).wr W27 (Or.inl (List.mem_of_getElem? (i := 3) rfl))).wr W34 (Or.inl (List.mem_of_getElem? (i := 3) rfl))).wr W39 (Or.inl (List.mem_of_getElem? (i := 0) rfl)))
  have E42 := (E37.wr W39)
  have F43 := ((F31.other W34 (Or.inl ne11)).other W39 (Or.inr (sn_GainQueue_heap_count hw)))
  have F44 := ((((F4.other W20 (Or.inl ne11)).other W27 (Or.inl ne11)).other W34 (Or.inl ne11)).other W39 (Or.inr (sn_GainQueue_keys_count hw)))
  have F45 := ((F30.other W34 (Or.inl ne11)).other W39 (Or.inr (sn_GainQueue_places_count hw)))
  have V46 := ((V32.other W34 ne13).other W39 (Ne.symm ne9))
  have V47 := ((((V7.other W20 ne14).other W27 ne14).other W34 ne14).other W39 (Ne.symm ne10))
  have V48 := (V35.other W39 (Ne.symm ne11))
  exact r_void A rfl d4_33 (by decide) (by decide) (⟨rfl, K41, ⟨E42, F40, F43, F44, F45, V46, V47, V48, ne9, ne10, ne11, ne12, ne13, ne14, ge15, ge16, ge17, ge18⟩⟩)
set_option maxRecDepth 65536 in
set_option maxHeartbeats 40000000 in
theorem gq_before82 (l : Launch) (Z : State) (a0 : Array Value) (hw : ∀ d ∈ tables_1, d.before a0 Z = true) (n0 : Nat) (h0 : Heap) (Z0 : n0 ≤ h0.size) (a r_heap r_keys r_places : Addr) (x0 : Int64) (x1 : Int64) (x2 : Int64) (l_heap : List Value) (l_places : List Value) (H : GQ Z n0 h0 a r_heap r_keys r_places (3 : Int32) l_heap [.long x0, .long x1, .long x2] l_places) (hk : ¬ x0 < x2) :
    Met l Z n0 y10_before prog_22_method_12_code 7 (Option.some Jvm.ClassFile.FieldType.boolean) ({ frames := 0, cells := 0, slots := 0, locals := 0 } : Room) #[(.ref a), (.int (2 : Int32)), (.int (0 : Int32))] h0 (fun v h => v = some (.int (0 : Int32)) ∧ Keep h0 h [a, r_heap, r_keys, r_places] ∧ GQ Z n0 h a r_heap r_keys r_places (3 : Int32) l_heap [.long x0, .long x1, .long x2] l_places) := by
  refine met_intro (own := c1_GainQueue) (plainFor_of_name pn_com_example_kithgraph_kithgraph_cluster_GainQueue) rfl Z0 ?_
  intro p e s m below meth c T A hnm
  refine Wp.cast (g' := mkF m 0 #[rv a, iv 2, iv 0, U0, U0, U0, U0] []) (by first | (simp [entryFrame, mkF, argsToLocals, Value.category, maxLocals, jv, S2, U0, iv, rv]; done) | rfl) ?_
  obtain ⟨E1, F2, F3, F4, F5, V6, V7, V8, ne9, ne10, ne11, ne12, ne13, ne14, ge15, ge16, ge17, ge18⟩ := H
  refine s_aloadN (pc' := 1) A d12_0 rfl rfl rfl ?_
  refine s_getfield (pc' := 4) (host := "") A (Or.inl (w15 hw)) Via.refl F4 d12_1 rfl fun T A => ?_
  refine s_iloadN (pc' := 5) A d12_4 rfl rfl ?_
  refine s_laload (pc' := 6) (i := 2) (v := (.long x2)) A V7 (by decide) rfl d12_5 rfl ?_
  refine s_lstoreN (pc' := 7) (Ls' := #[rv a, iv 2, iv 0, jv x2, S2, U0, U0]) A d12_6 rfl rfl ?_
  refine s_aloadN (pc' := 8) A d12_7 rfl rfl rfl ?_
  refine s_getfield (pc' := 11) (host := "") A (Or.inl (w15 hw)) Via.refl F4 d12_8 rfl fun T A => ?_
  refine s_iloadN (pc' := 12) A d12_11 rfl rfl ?_
  refine s_laload (pc' := 13) (i := 0) (v := (.long x0)) A V7 (by decide) rfl d12_12 rfl ?_
  refine s_lstore (pc' := 15) (Ls' := #[rv a, iv 2, iv 0, jv x2, S2, jv x0, S2]) A d12_13 rfl rfl ?_
  refine s_lloadN (pc' := 16) A d12_15 rfl rfl ?_
  refine s_lload (pc' := 18) A d12_16 rfl rfl ?_
  refine s_lcmp (pc' := 19) A d12_18 rfl ?_
  refine s_ifN (pc' := 22) A d12_19 rfl ((if0 _ _).trans (flt (fun q => hk ((lw_gt x2 x0).1 q))).2.2.1) ?_
  refine s_lloadN (pc' := 23) A d12_22 rfl rfl ?_
  refine s_lload (pc' := 25) A d12_23 rfl rfl ?_
  refine s_lcmp (pc' := 26) A d12_25 rfl ?_
  by_cases hc26_1 : x2 = x0
  ·
    refine s_ifN (pc' := 29) A d12_26 rfl ((if0 _ _).trans (teq ((lw_eq x2 x0).2 hc26_1)).2) ?_
    refine s_iloadN (pc' := 30) A d12_29 rfl rfl ?_
    refine s_iloadN (pc' := 31) A d12_30 rfl rfl ?_
    refine s_icmpY (pc' := 38) A d12_31 (by decide) (by decide) (by decide) ?_
    refine s_iconst (pc' := 39) (z := (0 : Int32)) A d12_38 rfl (by decide) ?_
    exact r_bool A rfl (by decide) d12_39 (by decide) (by decide) (⟨rfl, (Keep.refl h0 [a, r_heap, r_keys, r_places]), ⟨E1, F2, F3, F4, F5, V6, V7, V8, ne9, ne10, ne11, ne12, ne13, ne14, ge15, ge16, ge17, ge18⟩⟩)
  ·
    refine s_ifY (pc' := 38) A d12_26 ((if0 _ _).trans (feq (fun q => hc26_1 ((lw_eq x2 x0).1 q))).2) (by decide) (by decide) ?_
    refine s_iconst (pc' := 39) (z := (0 : Int32)) A d12_38 rfl (by decide) ?_
    exact r_bool A rfl (by decide) d12_39 (by decide) (by decide) (⟨rfl, (Keep.refl h0 [a, r_heap, r_keys, r_places]), ⟨E1, F2, F3, F4, F5, V6, V7, V8, ne9, ne10, ne11, ne12, ne13, ne14, ge15, ge16, ge17, ge18⟩⟩)
set_option maxRecDepth 65536 in
set_option maxHeartbeats 40000000 in
theorem gq_set83 (l : Launch) (Z : State) (a0 : Array Value) (hw : ∀ d ∈ tables_1, d.before a0 Z = true) (n0 : Nat) (h0 : Heap) (Z0 : n0 ≤ h0.size) (a r_heap r_keys r_places : Addr)  (l_keys : List Value) (H : GQ Z n0 h0 a r_heap r_keys r_places (3 : Int32) [.int (0 : Int32), .int (1 : Int32), .int (2 : Int32)] l_keys [.int (0 : Int32), .int (1 : Int32), .int (2 : Int32)]) :
    Met l Z n0 y5_set prog_22_method_11_code 3 (Option.none : Option Jvm.ClassFile.FieldType) ({ frames := 0, cells := 0, slots := 0, locals := 0 } : Room) #[(.ref a), (.int (2 : Int32)), (.int (2 : Int32))] h0 (fun v h => v = none ∧ Keep h0 h [a, r_heap, r_keys, r_places] ∧ GQ Z n0 h a r_heap r_keys r_places (3 : Int32) [.int (0 : Int32), .int (1 : Int32), .int (2 : Int32)] l_keys [.int (0 : Int32), .int (1 : Int32), .int (2 : Int32)]) := by
  refine met_intro (own := c1_GainQueue) (plainFor_of_name pn_com_example_kithgraph_kithgraph_cluster_GainQueue) rfl Z0 ?_
  intro p e s m below meth c T A hnm
  refine Wp.cast (g' := mkF m 0 #[rv a, iv 2, iv 2] []) (by first | (simp [entryFrame, mkF, argsToLocals, Value.category, maxLocals, jv, S2, U0, iv, rv]; done) | rfl) ?_
  obtain ⟨E1, F2, F3, F4, F5, V6, V7, V8, ne9, ne10, ne11, ne12, ne13, ne14, ge15, ge16, ge17, ge18⟩ := H
  refine s_aloadN (pc' := 1) A d9_0 rfl rfl rfl ?_
  refine s_getfield (pc' := 4) (host := "") A (Or.inl (w12 hw)) Via.refl F3 d9_1 rfl fun T A => ?_
  refine s_iloadN (pc' := 5) A d9_4 rfl rfl ?_
  refine s_iloadN (pc' := 6) A d9_5 rfl rfl ?_
  refine s_iastore (pc' := 7) (i := 2) A V6 (by decide) (Nat.le_of_ble_eq_true rfl) ge16 d9_6 rfl fun T h19 A W20 V21 => ?_
  have V21 : AA Z h19 r_heap .int [.int (0 : Int32), .int (1 : Int32), .int (2 : Int32)] := V21
  refine s_aloadN (pc' := 8) A d9_7 rfl rfl rfl ?_
  have F22 := (F5.other W20 (Or.inl ne9))
  refine s_getfield (pc' := 11) (host := "") A (Or.inl (w17 hw)) Via.refl F22 d9_8 rfl fun T A => ?_
  refine s_iloadN (pc' := 12) A d9_11 rfl rfl ?_
  refine s_iloadN (pc' := 13) A d9_12 rfl rfl ?_
  have V23 := (V8.other W20 (Ne.symm ne13))
  refine s_iastore (pc' := 14) (i := 2) A V23 (by decide) (Nat.le_of_ble_eq_true rfl) ge18 d9_13 rfl fun T h24 A W25 V26 => ?_
  have V26 : AA Z h24 r_places .int [.int (0 : Int32), .int (1 : Int32), .int (2 : Int32)] := V26
  have K27 := (((Keep.refl h0 [a, r_heap, r_keys, r_places]).wr W20 (Or.inl (List.mem_of_getElem? (i := 1) rfl))).wr W25 (Or.inl (List.mem_of_getElem? (i := 3) rfl)))
  have E28 := ((E1.wr W20).wr W25)
  have F29 := ((F2.other W20 (Or.inl ne9)).other W25 (Or.inl ne11))
  have F30 := ((F3.other W20 (Or.inl ne9)).other W25 (Or.inl ne11))
  have F31 := ((F4.other W20 (Or.inl ne9)).other W25 (Or.inl ne11))
  have F32 := (F22.other W25 (Or.inl ne11))
  have V33 := (V21.other W25 ne13)
  have V34 := ((V7.other W20 (Ne.symm ne12)).other W25 ne14)
  exact r_void A rfl d9_14 (by decide) (by decide) (⟨rfl, K27, ⟨E28, F29, F30, F31, F32, V33, V34, V26, ne9, ne10, ne11, ne12, ne13, ne14, ge15, ge16, ge17, ge18⟩⟩)
set_option maxRecDepth 65536 in
set_option maxHeartbeats 40000000 in
theorem gq_up81 (l : Launch) (Z : State) (a0 : Array Value) (hw : ∀ d ∈ tables_1, d.before a0 Z = true) (n0 : Nat) (h0 : Heap) (Z0 : n0 ≤ h0.size) (a r_heap r_keys r_places : Addr) (x0 : Int64) (x1 : Int64) (x2 : Int64) (H : GQ Z n0 h0 a r_heap r_keys r_places (3 : Int32) [.int (0 : Int32), .int (1 : Int32), .int (2 : Int32)] [.long x0, .long x1, .long x2] [.int (0 : Int32), .int (1 : Int32), .int (2 : Int32)]) (hk : ¬ x0 < x2) :
    Met l Z n0 y6_up prog_22_method_9_code 4 (Option.none : Option Jvm.ClassFile.FieldType) ({ frames := 1, cells := 0, slots := 0, locals := 18 } : Room) #[(.ref a), (.int (2 : Int32))] h0 (fun v h => v = none ∧ Keep h0 h [a, r_heap, r_keys, r_places] ∧ GQ Z n0 h a r_heap r_keys r_places (3 : Int32) [.int (0 : Int32), .int (1 : Int32), .int (2 : Int32)] [.long x0, .long x1, .long x2] [.int (0 : Int32), .int (1 : Int32), .int (2 : Int32)]) := by
  refine met_intro (own := c1_GainQueue) (plainFor_of_name pn_com_example_kithgraph_kithgraph_cluster_GainQueue) rfl Z0 ?_
  intro p e s m below meth c T A hnm
  refine Wp.cast (g' := mkF m 0 #[rv a, iv 2, U0, U0] []) (by first | (simp [entryFrame, mkF, argsToLocals, Value.category, maxLocals, jv, S2, U0, iv, rv]; done) | rfl) ?_
  obtain ⟨E1, F2, F3, F4, F5, V6, V7, V8, ne9, ne10, ne11, ne12, ne13, ne14, ge15, ge16, ge17, ge18⟩ := H
  refine s_aloadN (pc' := 1) A d8_0 rfl rfl rfl ?_
  refine s_getfield (pc' := 4) (host := "") A (Or.inl (w12 hw)) Via.refl F3 d8_1 rfl fun T A => ?_
  refine s_iloadN (pc' := 5) A d8_4 rfl rfl ?_
  refine s_iaload (pc' := 6) (i := 2) (v := (.int (2 : Int32))) A V6 (by decide) rfl d8_5 rfl ?_
  refine s_istoreN (pc' := 7) (Ls' := #[rv a, iv 2, iv 2, U0]) A d8_6 rfl rfl ?_
  refine s_iloadN (pc' := 8) A d8_7 rfl rfl ?_
  refine s_ifN (pc' := 11) A d8_8 rfl (by decide) ?_
  refine s_iloadN (pc' := 12) A d8_11 rfl rfl ?_
  refine s_iconst (pc' := 13) (z := (1 : Int32)) A d8_12 rfl (by decide) ?_
  refine s_isub (pc' := 14) (z := (1 : Int32)) A d8_13 rfl (by decide) ?_
  refine s_iconst (pc' := 15) (z := (2 : Int32)) A d8_14 rfl (by decide) ?_
  refine s_idiv (pc' := 16) (z := (0 : Int32)) A d8_15 rfl (by decide) (by decide) ?_
  refine s_istoreN (pc' := 17) (Ls' := #[rv a, iv 2, iv 2, iv 0]) A d8_16 rfl rfl ?_
  refine s_aloadN (pc' := 18) A d8_17 rfl rfl rfl ?_
  refine s_iloadN (pc' := 19) A d8_18 rfl rfl ?_
  refine s_aloadN (pc' := 20) A d8_19 rfl rfl rfl ?_
  refine s_getfield (pc' := 23) (host := "") A (Or.inl (w12 hw)) Via.refl F3 d8_20 rfl fun T A => ?_
  refine s_iloadN (pc' := 24) A d8_23 rfl rfl ?_
  refine s_iaload (pc' := 25) (i := 0) (v := (.int (0 : Int32))) A V6 (by decide) rfl d8_24 rfl ?_
  refine s_private (pc' := 28) (y := y10_before) (argsL := [(.int (2 : Int32)), (.int (0 : Int32))]) (rest := []) A E1 (gq_before82 l Z a0 hw n0 h0 A.size a r_heap r_keys r_places x0 x1 x2 [.int (0 : Int32), .int (1 : Int32), .int (2 : Int32)] [.int (0 : Int32), .int (1 : Int32), .int (2 : Int32)] ⟨E1, F2, F3, F4, F5, V6, V7, V8, ne9, ne10, ne11, ne12, ne13, ne14, ge15, ge16, ge17, ge18⟩ hk) (w63 hw) (w64 hw) (w1 hw) (w65 hw) (w2 hw) (w66 hw) (by decide) pd__II_Z rfl (W := 0) (by decide) (by decide) (Nat.le_of_eq rfl) (by decide) (by decide) rfl rfl d8_25 rfl fun T h21 v22 A Q23 => ?_
  obtain ⟨rfl, K19, H20⟩ := Q23
  obtain ⟨E24, F25, F26, F27, F28, V29, V30, V31, ne32, ne33, ne34, ne35, ne36, ne37, ge38, ge39, ge40, ge41⟩ := H20
  refine Wp.stk (st' := [(.int (0 : Int32))]) rfl ?_
  refine s_ifN (pc' := 31) A d8_28 rfl (by decide) ?_
  refine s_goto (pc' := 50) A d8_31 (by decide) (by decide) ?_
  refine s_aloadN (pc' := 51) A d8_50 rfl rfl rfl ?_
  refine s_iloadN (pc' := 52) A d8_51 rfl rfl ?_
  refine s_iloadN (pc' := 53) A d8_52 rfl rfl ?_
  refine s_private (pc' := 56) (y := y5_set) (argsL := [(.int (2 : Int32)), (.int (2 : Int32))]) (rest := []) A E24 (gq_set83 l Z a0 hw n0 h21 A.size a r_heap r_keys r_places [.long x0, .long x1, .long x2] ⟨E24, F25, F26, F27, F28, V29, V30, V31, ne32, ne33, ne34, ne35, ne36, ne37, ge38, ge39, ge40, ge41⟩) (w49 hw) (w50 hw) (w1 hw) (w51 hw) (w2 hw) (w52 hw) (by decide) pd__II_V rfl (W := 0) (by decide) (by decide) (Nat.le_of_eq rfl) (by decide) (by decide) rfl rfl d8_53 rfl fun T h44 v45 A Q46 => ?_
  obtain ⟨rfl, K42, H43⟩ := Q46
  obtain ⟨E47, F48, F49, F50, F51, V52, V53, V54, ne55, ne56, ne57, ne58, ne59, ne60, ge61, ge62, ge63, ge64⟩ := H43
  refine Wp.stk (st' := []) rfl ?_
  have K65 := (((Keep.refl h0 [a, r_heap, r_keys, r_places]).trans K19 (allS (Or.inl (List.mem_of_getElem? (i := 0) rfl)) (allS (Or.inl (List.mem_of_getElem? (i := 1) rfl)) (allS (Or.inl (List.mem_of_getElem? (i := 2) rfl)) (allS (Or.inl (List.mem_of_getElem? (i := 3) rfl)) all0))))).trans K42 (allS (Or.inl (List.mem_of_getElem? (i := 0) rfl)) (allS (Or.inl (List.mem_of_getElem? (i := 1) rfl)) (allS (Or.inl (List.mem_of_getElem? (i := 2) rfl)) (allS (Or.inl (List.mem_of_getElem? (i := 3) rfl)) all0)))))
  exact r_void A rfl d8_56 (by decide) (by decide) (⟨rfl, K65, ⟨E47, F48, F49, F50, F51, V52, V53, V54, ne55, ne56, ne57, ne58, ne59, ne60, ge61, ge62, ge63, ge64⟩⟩)
set_option maxRecDepth 65536 in
set_option maxHeartbeats 40000000 in
theorem gq_put80 (l : Launch) (Z : State) (a0 : Array Value) (hw : ∀ d ∈ tables_1, d.before a0 Z = true) (n0 : Nat) (h0 : Heap) (Z0 : n0 ≤ h0.size) (a r_heap r_keys r_places : Addr) (x0 : Int64) (x1 : Int64) (x2 : Int64) (H : GQ Z n0 h0 a r_heap r_keys r_places (2 : Int32) [.int (0 : Int32), .int (1 : Int32), .int (0 : Int32)] [.long x0, .long x1, .long (0 : Int64)] [.int (0 : Int32), .int (1 : Int32), .int (-1 : Int32)]) (hk : ¬ x0 < x2) :
    Met l Z n0 y7_put prog_22_method_4_code 6 (Option.none : Option Jvm.ClassFile.FieldType) ({ frames := 2, cells := 0, slots := 0, locals := 33 } : Room) #[(.ref a), (.int (2 : Int32)), (.long x2)] h0 (fun v h => v = none ∧ Keep h0 h [a, r_heap, r_keys, r_places] ∧ GQ Z n0 h a r_heap r_keys r_places (3 : Int32) [.int (0 : Int32), .int (1 : Int32), .int (2 : Int32)] [.long x0, .long x1, .long x2] [.int (0 : Int32), .int (1 : Int32), .int (2 : Int32)]) := by
  refine met_intro (own := c1_GainQueue) (plainFor_of_name pn_com_example_kithgraph_kithgraph_cluster_GainQueue) rfl Z0 ?_
  intro p e s m below meth c T A hnm
  refine Wp.cast (g' := mkF m 0 #[rv a, iv 2, jv x2, S2, U0, U0] []) (by first | (simp [entryFrame, mkF, argsToLocals, Value.category, maxLocals, jv, S2, U0, iv, rv]; done) | rfl) ?_
  obtain ⟨E1, F2, F3, F4, F5, V6, V7, V8, ne9, ne10, ne11, ne12, ne13, ne14, ge15, ge16, ge17, ge18⟩ := H
  refine s_aloadN (pc' := 1) A d7_0 rfl rfl rfl ?_
  refine s_iloadN (pc' := 2) A d7_1 rfl rfl ?_
  refine s_virtual (pc' := 5) (y := y4_contains) (argsL := [(.int (2 : Int32))]) (rest := []) (z := y4_contains) A E1 (gq_contains74 l Z a0 hw n0 h0 A.size a r_heap r_keys r_places [.int (0 : Int32), .int (1 : Int32), .int (0 : Int32)] [.long x0, .long x1, .long (0 : Int64)] ⟨E1, F2, F3, F4, F5, V6, V7, V8, ne9, ne10, ne11, ne12, ne13, ne14, ge15, ge16, ge17, ge18⟩) (w44 hw) (w34 hw) (nf_same (C := "") (w36 hw)) (w36 hw) (w35 hw) (w2 hw) (w37 hw) (by decide) pd__I_Z rfl (W := 0) (by decide) (by decide) (Nat.le_of_eq rfl) (by decide) (by decide) rfl rfl d7_2 rfl fun T h21 v22 A Q23 => ?_
  obtain ⟨rfl, K19, H20⟩ := Q23
  obtain ⟨E24, F25, F26, F27, F28, V29, V30, V31, ne32, ne33, ne34, ne35, ne36, ne37, ge38, ge39, ge40, ge41⟩ := H20
  refine Wp.stk (st' := [(.int (0 : Int32))]) rfl ?_
  refine s_ifY (pc' := 56) A d7_5 (by decide) (by decide) (by decide) ?_
  refine s_aloadN (pc' := 57) A d7_56 rfl rfl rfl ?_
  refine s_getfield (pc' := 60) (host := "") A (Or.inl (w15 hw)) Via.refl F27 d7_57 rfl fun T A => ?_
  refine s_iloadN (pc' := 61) A d7_60 rfl rfl ?_
  refine s_lloadN (pc' := 62) A d7_61 rfl rfl ?_
  refine s_lastore (pc' := 63) (i := 2) A V30 (by decide) (Nat.le_of_ble_eq_true rfl) ge40 d7_62 rfl fun T h42 A W43 V44 => ?_
  have V44 : AA Z h42 r_keys .long [.long x0, .long x1, .long x2] := V44
  refine s_aloadN (pc' := 64) A d7_63 rfl rfl rfl ?_
  have F45 := (F26.other W43 (Or.inl ne33))
  refine s_getfield (pc' := 67) (host := "") A (Or.inl (w12 hw)) Via.refl F45 d7_64 rfl fun T A => ?_
  refine s_aloadN (pc' := 68) A d7_67 rfl rfl rfl ?_
  have F46 := (F25.other W43 (Or.inl ne33))
  refine s_getfield (pc' := 71) (host := "") A (Or.inl (w9 hw)) Via.refl F46 d7_68 rfl fun T A => ?_
  refine s_iloadN (pc' := 72) A d7_71 rfl rfl ?_
  have V47 := (V29.other W43 ne35)
  refine s_iastore (pc' := 73) (i := 2) A V47 (by decide) (Nat.le_of_ble_eq_true rfl) ge39 d7_72 rfl fun T h48 A W49 V50 => ?_
  have V50 : AA Z h48 r_heap .int [.int (0 : Int32), .int (1 : Int32), .int (2 : Int32)] := V50
  refine s_aloadN (pc' := 74) A d7_73 rfl rfl rfl ?_
  have F51 := ((F28.other W43 (Or.inl ne33)).other W49 (Or.inl ne32))
  refine s_getfield (pc' := 77) (host := "") A (Or.inl (w17 hw)) Via.refl F51 d7_74 rfl fun T A => ?_
  refine s_iloadN (pc' := 78) A d7_77 rfl rfl ?_
  refine s_aloadN (pc' := 79) A d7_78 rfl rfl rfl ?_
  have F52 := (F46.other W49 (Or.inl ne32))
  refine s_getfield (pc' := 82) (host := "") A (Or.inl (w9 hw)) Via.refl F52 d7_79 rfl fun T A => ?_
  have V53 := ((V31.other W43 (Ne.symm ne37)).other W49 (Ne.symm ne36))
  refine s_iastore (pc' := 83) (i := 2) A V53 (by decide) (Nat.le_of_ble_eq_true rfl) ge41 d7_82 rfl fun T h54 A W55 V56 => ?_
  have V56 : AA Z h54 r_places .int [.int (0 : Int32), .int (1 : Int32), .int (2 : Int32)] := V56
  refine s_aloadN (pc' := 84) A d7_83 rfl rfl rfl ?_
  refine s_dup (pc' := 85) A d7_84 rfl rfl ?_
  have F57 := (F52.other W55 (Or.inl ne34))
  refine s_getfield (pc' := 88) (host := "") A (Or.inl (w9 hw)) Via.refl F57 d7_85 rfl fun T A => ?_
  refine s_iconst (pc' := 89) (z := (1 : Int32)) A d7_88 rfl (by decide) ?_
  refine s_iadd (pc' := 90) (z := (3 : Int32)) A d7_89 rfl (by decide) ?_
  have E58 := (((E24.wr W43).wr W49).wr W55)
  refine s_putfield (pc' := 93) (host := "") A (Or.inl (w9 hw)) Via.refl F57 E58 (Or.inl (w10 hw)) (w1 hw) (ty := .int) (by decide) rfl rfl ge38 d7_90 rfl fun T h59 A W60 => ?_
  have F61 := F57.same W60
  refine s_aloadN (pc' := 94) A d7_93 rfl rfl rfl ?_
  refine s_aloadN (pc' := 95) A d7_94 rfl rfl rfl ?_
  refine s_getfield (pc' := 98) (host := "") A (Or.inl (w9 hw)) Via.refl F61 d7_95 rfl fun T A => ?_
  refine s_iconst (pc' := 99) (z := (1 : Int32)) A d7_98 rfl (by decide) ?_
  refine s_isub (pc' := 100) (z := (2 : Int32)) A d7_99 rfl (by decide) ?_
  have E62 := (E58.wr W60)
  have F63 := (((F45.other W49 (Or.inl ne32)).other W55 (Or.inl ne34)).other W60 (Or.inr (sn_GainQueue_heap_count hw)))
  have F64 := ((((F27.other W43 (Or.inl ne33)).other W49 (Or.inl ne32)).other W55 (Or.inl ne34)).other W60 (Or.inr (sn_GainQueue_keys_count hw)))
  have F65 := ((F51.other W55 (Or.inl ne34)).other W60 (Or.inr (sn_GainQueue_places_count hw)))
  have V66 := ((V50.other W55 ne36).other W60 (Ne.symm ne32))
  have V67 := (((V44.other W49 (Ne.symm ne35)).other W55 ne37).other W60 (Ne.symm ne33))
  have V68 := (V56.other W60 (Ne.symm ne34))
  refine s_private (pc' := 103) (y := y6_up) (argsL := [(.int (2 : Int32))]) (rest := []) A E62 (gq_up81 l Z a0 hw n0 h59 A.size a r_heap r_keys r_places x0 x1 x2 ⟨E62, F61, F63, F64, F65, V66, V67, V68, ne32, ne33, ne34, ne35, ne36, ne37, ge38, ge39, ge40, ge41⟩ hk) (w45 hw) (w46 hw) (w1 hw) (w47 hw) (w2 hw) (w48 hw) (by decide) pd__I_V rfl (W := 0) (by decide) (by decide) (Nat.le_of_eq rfl) (by decide) (by decide) rfl rfl d7_100 rfl fun T h71 v72 A Q73 => ?_
  obtain ⟨rfl, K69, H70⟩ := Q73
  obtain ⟨E74, F75, F76, F77, F78, V79, V80, V81, ne82, ne83, ne84, ne85, ne86, ne87, ge88, ge89, ge90, ge91⟩ := H70
  refine Wp.stk (st' := []) rfl ?_
  have K92 := (((((((Keep.refl h0 [a, r_heap, r_keys, r_places]).trans K19 (allS (Or.inl (List.mem_of_getElem? (i := 0) rfl)) (allS (Or.inl (List.mem_of_getElem? (i := 1) rfl)) (allS (Or.inl (List.mem_of_getElem? (i := 2) rfl)) (allS (Or.inl (List.mem_of_getElem? (i := 3) rfl)) all0))))).wr W43 (Or.inl (List.mem_of_getElem? (i := 2) rfl))).wr W49 (Or.inl (List.mem_of_getElem? (i := 1) rfl))).wr W55 (Or.inl (List.mem_of_getElem? (i := 3) rfl))).wr W60 (Or.inl (List.mem_of_getElem? (i := 0) rfl))).trans K69 (allS (Or.inl (List.mem_of_getElem? (i := 0) rfl)) (allS (Or.inl (List.mem_of_getElem? (i := 1) rfl)) (allS (Or.inl (List.mem_of_getElem? (i := 2) rfl)) (allS (Or.inl (List.mem_of_getElem? (i := 3) rfl)) all0)))))
  exact r_void A rfl d7_103 (by decide) (by decide) (⟨rfl, K92, ⟨E74, F75, F76, F77, F78, V79, V80, V81, ne82, ne83, ne84, ne85, ne86, ne87, ge88, ge89, ge90, ge91⟩⟩)
set_option maxRecDepth 65536 in
set_option maxHeartbeats 40000000 in
theorem gq_clear84 (l : Launch) (Z : State) (a0 : Array Value) (hw : ∀ d ∈ tables_1, d.before a0 Z = true) (n0 : Nat) (h0 : Heap) (Z0 : n0 ≤ h0.size) (a r_heap r_keys r_places : Addr)  (l_keys : List Value) (H : GQ Z n0 h0 a r_heap r_keys r_places (3 : Int32) [.int (0 : Int32), .int (1 : Int32), .int (2 : Int32)] l_keys [.int (0 : Int32), .int (1 : Int32), .int (2 : Int32)]) :
    Met l Z n0 y2_clear prog_22_method_8_code 2 (Option.none : Option Jvm.ClassFile.FieldType) ({ frames := 0, cells := 0, slots := 0, locals := 0 } : Room) #[(.ref a)] h0 (fun v h => v = none ∧ Keep h0 h [a, r_heap, r_keys, r_places] ∧ GQ Z n0 h a r_heap r_keys r_places (0 : Int32) [.int (0 : Int32), .int (1 : Int32), .int (2 : Int32)] l_keys [.int (-1 : Int32), .int (-1 : Int32), .int (-1 : Int32)]) := by
  refine met_intro (own := c1_GainQueue) (plainFor_of_name pn_com_example_kithgraph_kithgraph_cluster_GainQueue) rfl Z0 ?_
  intro p e s m below meth c T A hnm
  refine Wp.cast (g' := mkF m 0 #[rv a, U0] []) (by first | (simp [entryFrame, mkF, argsToLocals, Value.category, maxLocals, jv, S2, U0, iv, rv]; done) | rfl) ?_
  obtain ⟨E1, F2, F3, F4, F5, V6, V7, V8, ne9, ne10, ne11, ne12, ne13, ne14, ge15, ge16, ge17, ge18⟩ := H
  refine s_iconst (pc' := 1) (z := (0 : Int32)) A d4_0 rfl (by decide) ?_
  refine s_istoreN (pc' := 2) (Ls' := #[rv a, iv 0]) A d4_1 rfl rfl ?_
  refine s_iloadN (pc' := 3) A d4_2 rfl rfl ?_
  refine s_aloadN (pc' := 4) A d4_3 rfl rfl rfl ?_
  refine s_getfield (pc' := 7) (host := "") A (Or.inl (w9 hw)) Via.refl F2 d4_4 rfl fun T A => ?_
  refine s_icmpN (pc' := 10) A d4_7 rfl (by decide) ?_
  refine s_aloadN (pc' := 11) A d4_10 rfl rfl rfl ?_
  refine s_getfield (pc' := 14) (host := "") A (Or.inl (w17 hw)) Via.refl F5 d4_11 rfl fun T A => ?_
  refine s_aloadN (pc' := 15) A d4_14 rfl rfl rfl ?_
  refine s_getfield (pc' := 18) (host := "") A (Or.inl (w12 hw)) Via.refl F3 d4_15 rfl fun T A => ?_
  refine s_iloadN (pc' := 19) A d4_18 rfl rfl ?_
  refine s_iaload (pc' := 20) (i := 0) (v := (.int (0 : Int32))) A V6 (by decide) rfl d4_19 rfl ?_
  refine s_iconst (pc' := 21) (z := (-1 : Int32)) A d4_20 rfl (by decide) ?_
  refine s_iastore (pc' := 22) (i := 0) A V8 (by decide) (Nat.le_of_ble_eq_true rfl) ge18 d4_21 rfl fun T h19 A W20 V21 => ?_
  have V21 : AA Z h19 r_places .int [.int (-1 : Int32), .int (1 : Int32), .int (2 : Int32)] := V21
  refine s_iinc (pc' := 25) (z := (1 : Int32)) (Ls' := #[rv a, iv 1]) A d4_22 rfl rfl (by decide) rfl ?_
  refine s_goto (pc' := 2) A d4_25 (by decide) (by decide) ?_
  refine s_iloadN (pc' := 3) A d4_2 rfl rfl ?_
  refine s_aloadN (pc' := 4) A d4_3 rfl rfl rfl ?_
  have F22 := (F2.other W20 (Or.inl ne11))
  refine s_getfield (pc' := 7) (host := "") A (Or.inl (w9 hw)) Via.refl F22 d4_4 rfl fun T A => ?_
  refine s_icmpN (pc' := 10) A d4_7 rfl (by decide) ?_
  refine s_aloadN (pc' := 11) A d4_10 rfl rfl rfl ?_
  have F23 := (F5.other W20 (Or.inl ne11))
  refine s_getfield (pc' := 14) (host := "") A (Or.inl (w17 hw)) Via.refl F23 d4_11 rfl fun T A => ?_
  refine s_aloadN (pc' := 15) A d4_14 rfl rfl rfl ?_
  have F24 := (F3.other W20 (Or.inl ne11))
  refine s_getfield (pc' := 18) (host := "") A (Or.inl (w12 hw)) Via.refl F24 d4_15 rfl fun T A => ?_
  refine s_iloadN (pc' := 19) A d4_18 rfl rfl ?_
  have V25 := (V6.other W20 ne13)
  refine s_iaload (pc' := 20) (i := 1) (v := (.int (1 : Int32))) A V25 (by decide) rfl d4_19 rfl ?_
  refine s_iconst (pc' := 21) (z := (-1 : Int32)) A d4_20 rfl (by decide) ?_
  refine s_iastore (pc' := 22) (i := 1) A V21 (by decide) (Nat.le_of_ble_eq_true rfl) ge18 d4_21 rfl fun T h26 A W27 V28 => ?_
  have V28 : AA Z h26 r_places .int [.int (-1 : Int32), .int (-1 : Int32), .int (2 : Int32)] := V28
  refine s_iinc (pc' := 25) (z := (2 : Int32)) (Ls' := #[rv a, iv 2]) A d4_22 rfl rfl (by decide) rfl ?_
  refine s_goto (pc' := 2) A d4_25 (by decide) (by decide) ?_
  refine s_iloadN (pc' := 3) A d4_2 rfl rfl ?_
  refine s_aloadN (pc' := 4) A d4_3 rfl rfl rfl ?_
  have F29 := (F22.other W27 (Or.inl ne11))
  refine s_getfield (pc' := 7) (host := "") A (Or.inl (w9 hw)) Via.refl F29 d4_4 rfl fun T A => ?_
  refine s_icmpN (pc' := 10) A d4_7 rfl (by decide) ?_
  refine s_aloadN (pc' := 11) A d4_10 rfl rfl rfl ?_
  have F30 := (F23.other W27 (Or.inl ne11))
  refine s_getfield (pc' := 14) (host := "") A (Or.inl (w17 hw)) Via.refl F30 d4_11 rfl fun T A => ?_
  refine s_aloadN (pc' := 15) A d4_14 rfl rfl rfl ?_
  have F31 := (F24.other W27 (Or.inl ne11))
  refine s_getfield (pc' := 18) (host := "") A (Or.inl (w12 hw)) Via.refl F31 d4_15 rfl fun T A => ?_
  refine s_iloadN (pc' := 19) A d4_18 rfl rfl ?_
  have V32 := (V25.other W27 ne13)
  refine s_iaload (pc' := 20) (i := 2) (v := (.int (2 : Int32))) A V32 (by decide) rfl d4_19 rfl ?_
  refine s_iconst (pc' := 21) (z := (-1 : Int32)) A d4_20 rfl (by decide) ?_
  refine s_iastore (pc' := 22) (i := 2) A V28 (by decide) (Nat.le_of_ble_eq_true rfl) ge18 d4_21 rfl fun T h33 A W34 V35 => ?_
  have V35 : AA Z h33 r_places .int [.int (-1 : Int32), .int (-1 : Int32), .int (-1 : Int32)] := V35
  refine s_iinc (pc' := 25) (z := (3 : Int32)) (Ls' := #[rv a, iv 3]) A d4_22 rfl rfl (by decide) rfl ?_
  refine s_goto (pc' := 2) A d4_25 (by decide) (by decide) ?_
  refine s_iloadN (pc' := 3) A d4_2 rfl rfl ?_
  refine s_aloadN (pc' := 4) A d4_3 rfl rfl rfl ?_
  have F36 := (F29.other W34 (Or.inl ne11))
  refine s_getfield (pc' := 7) (host := "") A (Or.inl (w9 hw)) Via.refl F36 d4_4 rfl fun T A => ?_
  refine s_icmpY (pc' := 28) A d4_7 (by decide) (by decide) (by decide) ?_
  refine s_aloadN (pc' := 29) A d4_28 rfl rfl rfl ?_
  refine s_iconst (pc' := 30) (z := (0 : Int32)) A d4_29 rfl (by decide) ?_
  have E37 := (((E1.wr W20).wr W27).wr W34)
  refine s_putfield (pc' := 33) (host := "") A (Or.inl (w9 hw)) Via.refl F36 E37 (Or.inl (w10 hw)) (w1 hw) (ty := .int) (by decide) rfl rfl ge15 d4_30 rfl fun T h38 A W39 => ?_
  have F40 := F36.same W39
  have K41 := (((((Keep.refl h0 [a, r_heap, r_keys, r_places]).wr W20 (Or.inl (List.mem_of_getElem? (i := 3) rfl))).wr W27 (Or.inl (List.mem_of_getElem? (i := 3) rfl))).wr W34 (Or.inl (List.mem_of_getElem? (i := 3) rfl))).wr W39 (Or.inl (List.mem_of_getElem? (i := 0) rfl)))
  have E42 := (E37.wr W39)
  have F43 := ((F31.other W34 (Or.inl ne11)).other W39 (Or.inr (sn_GainQueue_heap_count hw)))
  have F44 := ((((F4.other W20 (Or.inl ne11)).other W27 (Or.inl ne11)).other W34 (Or.inl ne11)).other W39 (Or.inr (sn_GainQueue_keys_count hw)))
  have F45 := ((F30.other W34 (Or.inl ne11)).other W39 (Or.inr (sn_GainQueue_places_count hw)))
  have V46 := ((V32.other W34 ne13).other W39 (Ne.symm ne9))
  have V47 := ((((V7.other W20 ne14).other W27 ne14).other W34 ne14).other W39 (Ne.symm ne10))
  have V48 := (V35.other W39 (Ne.symm ne11))
  exact r_void A rfl d4_33 (by decide) (by decide) (⟨rfl, K41, ⟨E42, F40, F43, F44, F45, V46, V47, V48, ne9, ne10, ne11, ne12, ne13, ne14, ge15, ge16, ge17, ge18⟩⟩)
set_option maxRecDepth 65536 in
set_option maxHeartbeats 40000000 in
theorem rm0 (l : Launch) (Z : State) (a0 : Array Value) (hw : ∀ d ∈ tables_1, d.before a0 Z = true) (n0 : Nat) (h0 : Heap) (Z0 : n0 ≤ h0.size) (q0 : Int32) (q1 q2 q3 : Int64) (q4 : Int32) (q5 : Int64)  :
    Met l Z n0 x code maxLocals ret room_1 #[(.int q0), (.long q1), (.long q2), (.long q3), (.int q4), (.long q5)] h0 (fun v h => v = some (.int 1)) := by
  refine met_intro (own := c2_GainQueueClearPinLaw) (plainFor_of_name pn_com_example_kithgraph_kithgraph_cluster_GainQueueClearPinLaw) rfl Z0 ?_
  intro p e s m below meth c T A hnm
  refine Wp.cast (g' := mkF m 0 #[iv q0, jv q1, S2, jv q2, S2, jv q3, S2, iv q4, jv q5, S2, U0, U0, U0, U0] []) (by first | (simp [entryFrame, mkF, argsToLocals, Value.category, maxLocals, jv, S2, U0, iv, rv]; done) | rfl) ?_
  refine s_new (pc' := 3) A (w0 hw) (w1 hw) (w2 hw) (by decide) (by decide) at_0 rfl fun T h1 b2 A g3 ge4 X5 E6 D7 => ?_
  have F8 : Fld Z h1 b2 "com/example/kithgraph/kithgraph/cluster/GainQueue" "count" "I" (.int (0 : Int32)) := D7 (Or.inl (w10 hw)) (ty := .int) (by decide)
  have F9 : Fld Z h1 b2 "com/example/kithgraph/kithgraph/cluster/GainQueue" "heap" "[I" .null := D7 (Or.inr (w13 hw)) (ty := (.array .int)) (by decide)
  have F10 : Fld Z h1 b2 "com/example/kithgraph/kithgraph/cluster/GainQueue" "keys" "[J" .null := D7 (Or.inr (w16 hw)) (ty := (.array .long)) (by decide)
  have F11 : Fld Z h1 b2 "com/example/kithgraph/kithgraph/cluster/GainQueue" "places" "[I" .null := D7 (Or.inr (w18 hw)) (ty := (.array .int)) (by decide)
  refine s_dup (pc' := 4) A at_3 rfl rfl ?_
  refine s_iconst (pc' := 5) (z := (3 : Int32)) A at_4 rfl (by decide) ?_
  refine s_special (pc' := 8) (y := y1_init) (argsL := [(.int (3 : Int32))]) (rest := [(.ref b2)]) A (gq_new1 l Z a0 hw n0 h1 A.size b2 E6 F8 F9 F10 F11 ge4) rfl (w3 hw) (w4 hw) (w2 hw) (w5 hw) (by decide) pd__I_V rfl (W := 1) (by decide) (by decide) (Nat.le_of_eq rfl) (by decide) (by decide) rfl rfl at_5 rfl fun T h20 v21 A Q22 => ?_
  obtain ⟨rfl, K15, r12, r13, r14, H16, bo17, bo18, bo19⟩ := Q22
  have ne23 : b2 ≠ r12 := Nat.ne_of_lt (Nat.lt_of_lt_of_le E6.lt bo17)
  have ne24 : b2 ≠ r13 := Nat.ne_of_lt (Nat.lt_of_lt_of_le E6.lt bo18)
  have ne25 : b2 ≠ r14 := Nat.ne_of_lt (Nat.lt_of_lt_of_le E6.lt bo19)
  obtain ⟨E26, F27, F28, F29, F30, V31, V32, V33, ne34, ne35, ne36, ne37, ne38, ne39, ge40, ge41, ge42, ge43⟩ := H16
  refine Wp.stk (st' := [(.ref b2)]) rfl ?_
  refine s_astore (pc' := 10) (Ls' := #[iv q0, jv q1, S2, jv q2, S2, jv q3, S2, iv q4, jv q5, S2, rv b2, U0, U0, U0]) A at_8 rfl rfl rfl ?_
  refine s_iloadN (pc' := 11) A at_10 rfl rfl ?_
  refine s_iconst (pc' := 12) (z := (1 : Int32)) A at_11 rfl (by decide) ?_
  refine s_iand (pc' := 13) (z := (q0 &&& (1 : Int32))) A at_12 rfl rfl ?_
  by_cases hc13_1 : (q0 &&& (1 : Int32)) = (0 : Int32)
  ·
    refine s_ifY (pc' := 23) A at_13 ((if0 _ _).trans (teq hc13_1).1) (by decide) (by decide) ?_
    refine s_iloadN (pc' := 24) A at_23 rfl rfl ?_
    refine s_iconst (pc' := 25) (z := (2 : Int32)) A at_24 rfl (by decide) ?_
    refine s_iand (pc' := 26) (z := (q0 &&& (2 : Int32))) A at_25 rfl rfl ?_
    by_cases hc26_1 : (q0 &&& (2 : Int32)) = (0 : Int32)
    ·
      refine s_ifY (pc' := 36) A at_26 ((if0 _ _).trans (teq hc26_1).1) (by decide) (by decide) ?_
      refine s_iloadN (pc' := 37) A at_36 rfl rfl ?_
      refine s_iconst (pc' := 38) (z := (4 : Int32)) A at_37 rfl (by decide) ?_
      refine s_iand (pc' := 39) (z := (q0 &&& (4 : Int32))) A at_38 rfl rfl ?_
      by_cases hc39_1 : (q0 &&& (4 : Int32)) = (0 : Int32)
      ·
        refine s_ifY (pc' := 50) A at_39 ((if0 _ _).trans (teq hc39_1).1) (by decide) (by decide) ?_
        refine s_aload (pc' := 52) A at_50 rfl rfl rfl ?_
        refine s_virtual (pc' := 55) (y := y2_clear) (argsL := []) (rest := []) (z := y2_clear) A E26 (gq_clear2 l Z a0 hw n0 h20 A.size b2 r12 r13 r14 [.long (0 : Int64), .long (0 : Int64), .long (0 : Int64)] ⟨E26, F27, F28, F29, F30, V31, V32, V33, ne34, ne35, ne36, ne37, ne38, ne39, ge40, ge41, ge42, ge43⟩) (w23 hw) (w24 hw) (nf_same (C := "") (w26 hw)) (w26 hw) (w25 hw) (w2 hw) (w27 hw) (by decide) pd___V rfl (W := 0) (by decide) (by decide) (Nat.le_of_eq rfl) (by decide) (by decide) rfl rfl at_52 rfl fun T h46 v47 A Q48 => ?_
        obtain ⟨rfl, K44, H45⟩ := Q48
        obtain ⟨E49, F50, F51, F52, F53, V54, V55, V56, ne57, ne58, ne59, ne60, ne61, ne62, ge63, ge64, ge65, ge66⟩ := H45
        refine Wp.stk (st' := []) rfl ?_
        refine s_aload (pc' := 57) A at_55 rfl rfl rfl ?_
        refine s_virtual (pc' := 60) (y := y3_isEmpty) (argsL := []) (rest := []) (z := y3_isEmpty) A E49 (gq_isEmpty3 l Z a0 hw n0 h46 A.size b2 r12 r13 r14 [.int (0 : Int32), .int (0 : Int32), .int (0 : Int32)] [.long (0 : Int64), .long (0 : Int64), .long (0 : Int64)] [.int (-1 : Int32), .int (-1 : Int32), .int (-1 : Int32)] ⟨E49, F50, F51, F52, F53, V54, V55, V56, ne57, ne58, ne59, ne60, ne61, ne62, ge63, ge64, ge65, ge66⟩) (w28 hw) (w29 hw) (nf_same (C := "") (w31 hw)) (w31 hw) (w30 hw) (w2 hw) (w32 hw) (by decide) pd___Z rfl (W := 0) (by decide) (by decide) (Nat.le_of_eq rfl) (by decide) (by decide) rfl rfl at_57 rfl fun T h69 v70 A Q71 => ?_
        obtain ⟨rfl, K67, H68⟩ := Q71
        obtain ⟨E72, F73, F74, F75, F76, V77, V78, V79, ne80, ne81, ne82, ne83, ne84, ne85, ge86, ge87, ge88, ge89⟩ := H68
        refine Wp.stk (st' := [(.int (1 : Int32))]) rfl ?_
        refine s_ifN (pc' := 63) A at_60 rfl (by decide) ?_
        refine s_aload (pc' := 65) A at_63 rfl rfl rfl ?_
        refine s_iconst (pc' := 66) (z := (0 : Int32)) A at_65 rfl (by decide) ?_
        refine s_virtual (pc' := 69) (y := y4_contains) (argsL := [(.int (0 : Int32))]) (rest := []) (z := y4_contains) A E72 (gq_contains4 l Z a0 hw n0 h69 A.size b2 r12 r13 r14 [.int (0 : Int32), .int (0 : Int32), .int (0 : Int32)] [.long (0 : Int64), .long (0 : Int64), .long (0 : Int64)] ⟨E72, F73, F74, F75, F76, V77, V78, V79, ne80, ne81, ne82, ne83, ne84, ne85, ge86, ge87, ge88, ge89⟩) (w33 hw) (w34 hw) (nf_same (C := "") (w36 hw)) (w36 hw) (w35 hw) (w2 hw) (w37 hw) (by decide) pd__I_Z rfl (W := 0) (by decide) (by decide) (Nat.le_of_eq rfl) (by decide) (by decide) rfl rfl at_66 rfl fun T h92 v93 A Q94 => ?_
        obtain ⟨rfl, K90, H91⟩ := Q94
        obtain ⟨E95, F96, F97, F98, F99, V100, V101, V102, ne103, ne104, ne105, ne106, ne107, ne108, ge109, ge110, ge111, ge112⟩ := H91
        refine Wp.stk (st' := [(.int (0 : Int32))]) rfl ?_
        refine s_ifN (pc' := 72) A at_69 rfl (by decide) ?_
        refine s_aload (pc' := 74) A at_72 rfl rfl rfl ?_
        refine s_iconst (pc' := 75) (z := (1 : Int32)) A at_74 rfl (by decide) ?_
        refine s_virtual (pc' := 78) (y := y4_contains) (argsL := [(.int (1 : Int32))]) (rest := []) (z := y4_contains) A E95 (gq_contains5 l Z a0 hw n0 h92 A.size b2 r12 r13 r14 [.int (0 : Int32), .int (0 : Int32), .int (0 : Int32)] [.long (0 : Int64), .long (0 : Int64), .long (0 : Int64)] ⟨E95, F96, F97, F98, F99, V100, V101, V102, ne103, ne104, ne105, ne106, ne107, ne108, ge109, ge110, ge111, ge112⟩) (w33 hw) (w34 hw) (nf_same (C := "") (w36 hw)) (w36 hw) (w35 hw) (w2 hw) (w37 hw) (by decide) pd__I_Z rfl (W := 0) (by decide) (by decide) (Nat.le_of_eq rfl) (by decide) (by decide) rfl rfl at_75 rfl fun T h115 v116 A Q117 => ?_
        obtain ⟨rfl, K113, H114⟩ := Q117
        obtain ⟨E118, F119, F120, F121, F122, V123, V124, V125, ne126, ne127, ne128, ne129, ne130, ne131, ge132, ge133, ge134, ge135⟩ := H114
        refine Wp.stk (st' := [(.int (0 : Int32))]) rfl ?_
        refine s_ifN (pc' := 81) A at_78 rfl (by decide) ?_
        refine s_aload (pc' := 83) A at_81 rfl rfl rfl ?_
        refine s_iconst (pc' := 84) (z := (2 : Int32)) A at_83 rfl (by decide) ?_
        refine s_virtual (pc' := 87) (y := y4_contains) (argsL := [(.int (2 : Int32))]) (rest := []) (z := y4_contains) A E118 (gq_contains6 l Z a0 hw n0 h115 A.size b2 r12 r13 r14 [.int (0 : Int32), .int (0 : Int32), .int (0 : Int32)] [.long (0 : Int64), .long (0 : Int64), .long (0 : Int64)] ⟨E118, F119, F120, F121, F122, V123, V124, V125, ne126, ne127, ne128, ne129, ne130, ne131, ge132, ge133, ge134, ge135⟩) (w33 hw) (w34 hw) (nf_same (C := "") (w36 hw)) (w36 hw) (w35 hw) (w2 hw) (w37 hw) (by decide) pd__I_Z rfl (W := 0) (by decide) (by decide) (Nat.le_of_eq rfl) (by decide) (by decide) rfl rfl at_84 rfl fun T h138 v139 A Q140 => ?_
        obtain ⟨rfl, K136, H137⟩ := Q140
        obtain ⟨E141, F142, F143, F144, F145, V146, V147, V148, ne149, ne150, ne151, ne152, ne153, ne154, ge155, ge156, ge157, ge158⟩ := H137
        refine Wp.stk (st' := [(.int (0 : Int32))]) rfl ?_
        refine s_ifN (pc' := 90) A at_87 rfl (by decide) ?_
        refine s_iconst (pc' := 91) (z := (1 : Int32)) A at_90 rfl (by decide) ?_
        refine s_goto (pc' := 95) A at_91 (by decide) (by decide) ?_
        refine s_istore (pc' := 97) (Ls' := #[iv q0, jv q1, S2, jv q2, S2, jv q3, S2, iv q4, jv q5, S2, rv b2, iv 1, U0, U0]) A at_95 rfl rfl ?_
        refine s_iload (pc' := 99) A at_97 rfl rfl ?_
        refine s_ldcInt (pc' := 101) A at_99 rfl (w38 hw) ?_
        refine s_iand (pc' := 102) (z := (q4 &&& (2147483647 : Int32))) A at_101 rfl rfl ?_
        refine s_iconst (pc' := 103) (z := (3 : Int32)) A at_102 rfl (by decide) ?_
        obtain ⟨pp, hpp⟩ : ∃ z, z = ((q4 &&& (2147483647 : Int32)) % (3 : Int32)) := ⟨_, rfl⟩
        have cp := own_p q4
        rw [← hpp] at cp
        rcases cp with rfl | rfl | rfl
        ·
          refine s_irem (pc' := 104) (z := (0 : Int32)) A at_103 rfl (by decide) hpp.symm ?_
          refine s_istore (pc' := 106) (Ls' := #[iv q0, jv q1, S2, jv q2, S2, jv q3, S2, iv q4, jv q5, S2, rv b2, iv 1, iv 0, U0]) A at_104 rfl rfl ?_
          refine s_aload (pc' := 108) A at_106 rfl rfl rfl ?_
          refine s_iload (pc' := 110) A at_108 rfl rfl ?_
          refine s_lload (pc' := 112) A at_110 rfl rfl ?_
          refine s_virtual (pc' := 115) (y := y7_put) (argsL := [(.int (0 : Int32)), (.long q5)]) (rest := []) (z := y7_put) A E141 (gq_put7 l Z a0 hw n0 h138 A.size b2 r12 r13 r14 (0 : Int32) (0 : Int32) (0 : Int32) (0 : Int64) (0 : Int64) (0 : Int64) q5 ⟨E141, F142, F143, F144, F145, V146, V147, V148, ne149, ne150, ne151, ne152, ne153, ne154, ge155, ge156, ge157, ge158⟩) (w39 hw) (w40 hw) (nf_same (C := "") (w42 hw)) (w42 hw) (w41 hw) (w2 hw) (w43 hw) (by decide) pd__IJ_V rfl (W := 0) (by decide) (by decide) (Nat.le_of_eq rfl) (by decide) (by decide) rfl rfl at_112 rfl fun T h161 v162 A Q163 => ?_
          obtain ⟨rfl, K159, H160⟩ := Q163
          obtain ⟨E164, F165, F166, F167, F168, V169, V170, V171, ne172, ne173, ne174, ne175, ne176, ne177, ge178, ge179, ge180, ge181⟩ := H160
          refine Wp.stk (st' := []) rfl ?_
          refine s_aload (pc' := 117) A at_115 rfl rfl rfl ?_
          refine s_virtual (pc' := 120) (y := y9_poll) (argsL := []) (rest := []) (z := y9_poll) A E164 (gq_poll10 l Z a0 hw n0 h161 A.size b2 r12 r13 r14 (0 : Int32) (0 : Int32) [.long q5, .long (0 : Int64), .long (0 : Int64)] ⟨E164, F165, F166, F167, F168, V169, V170, V171, ne172, ne173, ne174, ne175, ne176, ne177, ge178, ge179, ge180, ge181⟩) (w53 hw) (w54 hw) (nf_same (C := "") (w56 hw)) (w56 hw) (w55 hw) (w2 hw) (w57 hw) (by decide) pd___I rfl (W := 0) (by decide) (by decide) (Nat.le_of_eq rfl) (by decide) (by decide) rfl rfl at_117 rfl fun T h184 v185 A Q186 => ?_
          obtain ⟨rfl, K182, H183⟩ := Q186
          obtain ⟨E187, F188, F189, F190, F191, V192, V193, V194, ne195, ne196, ne197, ne198, ne199, ne200, ge201, ge202, ge203, ge204⟩ := H183
          refine Wp.stk (st' := [(.int (0 : Int32))]) rfl ?_
          refine s_iload (pc' := 122) A at_120 rfl rfl ?_
          refine s_icmpN (pc' := 125) A at_122 rfl (by decide) ?_
          refine s_aload (pc' := 127) A at_125 rfl rfl rfl ?_
          refine s_virtual (pc' := 130) (y := y3_isEmpty) (argsL := []) (rest := []) (z := y3_isEmpty) A E187 (gq_isEmpty3 l Z a0 hw n0 h184 A.size b2 r12 r13 r14 [.int (0 : Int32), .int (0 : Int32), .int (0 : Int32)] [.long q5, .long (0 : Int64), .long (0 : Int64)] [.int (-1 : Int32), .int (-1 : Int32), .int (-1 : Int32)] ⟨E187, F188, F189, F190, F191, V192, V193, V194, ne195, ne196, ne197, ne198, ne199, ne200, ge201, ge202, ge203, ge204⟩) (w28 hw) (w29 hw) (nf_same (C := "") (w31 hw)) (w31 hw) (w30 hw) (w2 hw) (w32 hw) (by decide) pd___Z rfl (W := 0) (by decide) (by decide) (Nat.le_of_eq rfl) (by decide) (by decide) rfl rfl at_127 rfl fun T h207 v208 A Q209 => ?_
          obtain ⟨rfl, K205, H206⟩ := Q209
          obtain ⟨E210, F211, F212, F213, F214, V215, V216, V217, ne218, ne219, ne220, ne221, ne222, ne223, ge224, ge225, ge226, ge227⟩ := H206
          refine Wp.stk (st' := [(.int (1 : Int32))]) rfl ?_
          refine s_ifN (pc' := 133) A at_130 rfl (by decide) ?_
          refine s_iconst (pc' := 134) (z := (1 : Int32)) A at_133 rfl (by decide) ?_
          refine s_goto (pc' := 138) A at_134 (by decide) (by decide) ?_
          refine s_istore (pc' := 140) (Ls' := #[iv q0, jv q1, S2, jv q2, S2, jv q3, S2, iv q4, jv q5, S2, rv b2, iv 1, iv 0, iv 1]) A at_138 rfl rfl ?_
          refine s_iload (pc' := 142) A at_140 rfl rfl ?_
          refine s_ifN (pc' := 145) A at_142 rfl (by decide) ?_
          refine s_iload (pc' := 147) A at_145 rfl rfl ?_
          refine s_ifN (pc' := 150) A at_147 rfl (by decide) ?_
          refine s_iconst (pc' := 151) (z := (1 : Int32)) A at_150 rfl (by decide) ?_
          refine s_goto (pc' := 155) A at_151 (by decide) (by decide) ?_
          exact r_bool A rfl (by decide) at_155 (by decide) (by decide) (rfl)
        ·
          refine s_irem (pc' := 104) (z := (1 : Int32)) A at_103 rfl (by decide) hpp.symm ?_
          refine s_istore (pc' := 106) (Ls' := #[iv q0, jv q1, S2, jv q2, S2, jv q3, S2, iv q4, jv q5, S2, rv b2, iv 1, iv 1, U0]) A at_104 rfl rfl ?_
          refine s_aload (pc' := 108) A at_106 rfl rfl rfl ?_
          refine s_iload (pc' := 110) A at_108 rfl rfl ?_
          refine s_lload (pc' := 112) A at_110 rfl rfl ?_
          refine s_virtual (pc' := 115) (y := y7_put) (argsL := [(.int (1 : Int32)), (.long q5)]) (rest := []) (z := y7_put) A E141 (gq_put12 l Z a0 hw n0 h138 A.size b2 r12 r13 r14 (0 : Int32) (0 : Int32) (0 : Int32) (0 : Int64) (0 : Int64) (0 : Int64) q5 ⟨E141, F142, F143, F144, F145, V146, V147, V148, ne149, ne150, ne151, ne152, ne153, ne154, ge155, ge156, ge157, ge158⟩) (w39 hw) (w40 hw) (nf_same (C := "") (w42 hw)) (w42 hw) (w41 hw) (w2 hw) (w43 hw) (by decide) pd__IJ_V rfl (W := 0) (by decide) (by decide) (Nat.le_of_eq rfl) (by decide) (by decide) rfl rfl at_112 rfl fun T h230 v231 A Q232 => ?_
          obtain ⟨rfl, K228, H229⟩ := Q232
          obtain ⟨E233, F234, F235, F236, F237, V238, V239, V240, ne241, ne242, ne243, ne244, ne245, ne246, ge247, ge248, ge249, ge250⟩ := H229
          refine Wp.stk (st' := []) rfl ?_
          refine s_aload (pc' := 117) A at_115 rfl rfl rfl ?_
          refine s_virtual (pc' := 120) (y := y9_poll) (argsL := []) (rest := []) (z := y9_poll) A E233 (gq_poll15 l Z a0 hw n0 h230 A.size b2 r12 r13 r14 (0 : Int32) (0 : Int32) [.long (0 : Int64), .long q5, .long (0 : Int64)] ⟨E233, F234, F235, F236, F237, V238, V239, V240, ne241, ne242, ne243, ne244, ne245, ne246, ge247, ge248, ge249, ge250⟩) (w53 hw) (w54 hw) (nf_same (C := "") (w56 hw)) (w56 hw) (w55 hw) (w2 hw) (w57 hw) (by decide) pd___I rfl (W := 0) (by decide) (by decide) (Nat.le_of_eq rfl) (by decide) (by decide) rfl rfl at_117 rfl fun T h253 v254 A Q255 => ?_
          obtain ⟨rfl, K251, H252⟩ := Q255
          obtain ⟨E256, F257, F258, F259, F260, V261, V262, V263, ne264, ne265, ne266, ne267, ne268, ne269, ge270, ge271, ge272, ge273⟩ := H252
          refine Wp.stk (st' := [(.int (1 : Int32))]) rfl ?_
          refine s_iload (pc' := 122) A at_120 rfl rfl ?_
          refine s_icmpN (pc' := 125) A at_122 rfl (by decide) ?_
          refine s_aload (pc' := 127) A at_125 rfl rfl rfl ?_
          refine s_virtual (pc' := 130) (y := y3_isEmpty) (argsL := []) (rest := []) (z := y3_isEmpty) A E256 (gq_isEmpty3 l Z a0 hw n0 h253 A.size b2 r12 r13 r14 [.int (1 : Int32), .int (0 : Int32), .int (0 : Int32)] [.long (0 : Int64), .long q5, .long (0 : Int64)] [.int (-1 : Int32), .int (-1 : Int32), .int (-1 : Int32)] ⟨E256, F257, F258, F259, F260, V261, V262, V263, ne264, ne265, ne266, ne267, ne268, ne269, ge270, ge271, ge272, ge273⟩) (w28 hw) (w29 hw) (nf_same (C := "") (w31 hw)) (w31 hw) (w30 hw) (w2 hw) (w32 hw) (by decide) pd___Z rfl (W := 0) (by decide) (by decide) (Nat.le_of_eq rfl) (by decide) (by decide) rfl rfl at_127 rfl fun T h276 v277 A Q278 => ?_
          obtain ⟨rfl, K274, H275⟩ := Q278
          obtain ⟨E279, F280, F281, F282, F283, V284, V285, V286, ne287, ne288, ne289, ne290, ne291, ne292, ge293, ge294, ge295, ge296⟩ := H275
          refine Wp.stk (st' := [(.int (1 : Int32))]) rfl ?_
          refine s_ifN (pc' := 133) A at_130 rfl (by decide) ?_
          refine s_iconst (pc' := 134) (z := (1 : Int32)) A at_133 rfl (by decide) ?_
          refine s_goto (pc' := 138) A at_134 (by decide) (by decide) ?_
          refine s_istore (pc' := 140) (Ls' := #[iv q0, jv q1, S2, jv q2, S2, jv q3, S2, iv q4, jv q5, S2, rv b2, iv 1, iv 1, iv 1]) A at_138 rfl rfl ?_
          refine s_iload (pc' := 142) A at_140 rfl rfl ?_
          refine s_ifN (pc' := 145) A at_142 rfl (by decide) ?_
          refine s_iload (pc' := 147) A at_145 rfl rfl ?_
          refine s_ifN (pc' := 150) A at_147 rfl (by decide) ?_
          refine s_iconst (pc' := 151) (z := (1 : Int32)) A at_150 rfl (by decide) ?_
          refine s_goto (pc' := 155) A at_151 (by decide) (by decide) ?_
          exact r_bool A rfl (by decide) at_155 (by decide) (by decide) (rfl)
        ·
          refine s_irem (pc' := 104) (z := (2 : Int32)) A at_103 rfl (by decide) hpp.symm ?_
          refine s_istore (pc' := 106) (Ls' := #[iv q0, jv q1, S2, jv q2, S2, jv q3, S2, iv q4, jv q5, S2, rv b2, iv 1, iv 2, U0]) A at_104 rfl rfl ?_
          refine s_aload (pc' := 108) A at_106 rfl rfl rfl ?_
          refine s_iload (pc' := 110) A at_108 rfl rfl ?_
          refine s_lload (pc' := 112) A at_110 rfl rfl ?_
          refine s_virtual (pc' := 115) (y := y7_put) (argsL := [(.int (2 : Int32)), (.long q5)]) (rest := []) (z := y7_put) A E141 (gq_put17 l Z a0 hw n0 h138 A.size b2 r12 r13 r14 (0 : Int32) (0 : Int32) (0 : Int32) (0 : Int64) (0 : Int64) (0 : Int64) q5 ⟨E141, F142, F143, F144, F145, V146, V147, V148, ne149, ne150, ne151, ne152, ne153, ne154, ge155, ge156, ge157, ge158⟩) (w39 hw) (w40 hw) (nf_same (C := "") (w42 hw)) (w42 hw) (w41 hw) (w2 hw) (w43 hw) (by decide) pd__IJ_V rfl (W := 0) (by decide) (by decide) (Nat.le_of_eq rfl) (by decide) (by decide) rfl rfl at_112 rfl fun T h299 v300 A Q301 => ?_
          obtain ⟨rfl, K297, H298⟩ := Q301
          obtain ⟨E302, F303, F304, F305, F306, V307, V308, V309, ne310, ne311, ne312, ne313, ne314, ne315, ge316, ge317, ge318, ge319⟩ := H298
          refine Wp.stk (st' := []) rfl ?_
          refine s_aload (pc' := 117) A at_115 rfl rfl rfl ?_
          refine s_virtual (pc' := 120) (y := y9_poll) (argsL := []) (rest := []) (z := y9_poll) A E302 (gq_poll20 l Z a0 hw n0 h299 A.size b2 r12 r13 r14 (0 : Int32) (0 : Int32) [.long (0 : Int64), .long (0 : Int64), .long q5] ⟨E302, F303, F304, F305, F306, V307, V308, V309, ne310, ne311, ne312, ne313, ne314, ne315, ge316, ge317, ge318, ge319⟩) (w53 hw) (w54 hw) (nf_same (C := "") (w56 hw)) (w56 hw) (w55 hw) (w2 hw) (w57 hw) (by decide) pd___I rfl (W := 0) (by decide) (by decide) (Nat.le_of_eq rfl) (by decide) (by decide) rfl rfl at_117 rfl fun T h322 v323 A Q324 => ?_
          obtain ⟨rfl, K320, H321⟩ := Q324
          obtain ⟨E325, F326, F327, F328, F329, V330, V331, V332, ne333, ne334, ne335, ne336, ne337, ne338, ge339, ge340, ge341, ge342⟩ := H321
          refine Wp.stk (st' := [(.int (2 : Int32))]) rfl ?_
          refine s_iload (pc' := 122) A at_120 rfl rfl ?_
          refine s_icmpN (pc' := 125) A at_122 rfl (by decide) ?_
          refine s_aload (pc' := 127) A at_125 rfl rfl rfl ?_
          refine s_virtual (pc' := 130) (y := y3_isEmpty) (argsL := []) (rest := []) (z := y3_isEmpty) A E325 (gq_isEmpty3 l Z a0 hw n0 h322 A.size b2 r12 r13 r14 [.int (2 : Int32), .int (0 : Int32), .int (0 : Int32)] [.long (0 : Int64), .long (0 : Int64), .long q5] [.int (-1 : Int32), .int (-1 : Int32), .int (-1 : Int32)] ⟨E325, F326, F327, F328, F329, V330, V331, V332, ne333, ne334, ne335, ne336, ne337, ne338, ge339, ge340, ge341, ge342⟩) (w28 hw) (w29 hw) (nf_same (C := "") (w31 hw)) (w31 hw) (w30 hw) (w2 hw) (w32 hw) (by decide) pd___Z rfl (W := 0) (by decide) (by decide) (Nat.le_of_eq rfl) (by decide) (by decide) rfl rfl at_127 rfl fun T h345 v346 A Q347 => ?_
          obtain ⟨rfl, K343, H344⟩ := Q347
          obtain ⟨E348, F349, F350, F351, F352, V353, V354, V355, ne356, ne357, ne358, ne359, ne360, ne361, ge362, ge363, ge364, ge365⟩ := H344
          refine Wp.stk (st' := [(.int (1 : Int32))]) rfl ?_
          refine s_ifN (pc' := 133) A at_130 rfl (by decide) ?_
          refine s_iconst (pc' := 134) (z := (1 : Int32)) A at_133 rfl (by decide) ?_
          refine s_goto (pc' := 138) A at_134 (by decide) (by decide) ?_
          refine s_istore (pc' := 140) (Ls' := #[iv q0, jv q1, S2, jv q2, S2, jv q3, S2, iv q4, jv q5, S2, rv b2, iv 1, iv 2, iv 1]) A at_138 rfl rfl ?_
          refine s_iload (pc' := 142) A at_140 rfl rfl ?_
          refine s_ifN (pc' := 145) A at_142 rfl (by decide) ?_
          refine s_iload (pc' := 147) A at_145 rfl rfl ?_
          refine s_ifN (pc' := 150) A at_147 rfl (by decide) ?_
          refine s_iconst (pc' := 151) (z := (1 : Int32)) A at_150 rfl (by decide) ?_
          refine s_goto (pc' := 155) A at_151 (by decide) (by decide) ?_
          exact r_bool A rfl (by decide) at_155 (by decide) (by decide) (rfl)
      ·
        refine s_ifN (pc' := 42) A at_39 rfl ((if0 _ _).trans (feq hc39_1).1) ?_
        refine s_aload (pc' := 44) A at_42 rfl rfl rfl ?_
        refine s_iconst (pc' := 45) (z := (2 : Int32)) A at_44 rfl (by decide) ?_
        refine s_lload (pc' := 47) A at_45 rfl rfl ?_
        refine s_virtual (pc' := 50) (y := y7_put) (argsL := [(.int (2 : Int32)), (.long q3)]) (rest := []) (z := y7_put) A E26 (gq_put17 l Z a0 hw n0 h20 A.size b2 r12 r13 r14 (0 : Int32) (0 : Int32) (0 : Int32) (0 : Int64) (0 : Int64) (0 : Int64) q3 ⟨E26, F27, F28, F29, F30, V31, V32, V33, ne34, ne35, ne36, ne37, ne38, ne39, ge40, ge41, ge42, ge43⟩) (w39 hw) (w40 hw) (nf_same (C := "") (w42 hw)) (w42 hw) (w41 hw) (w2 hw) (w43 hw) (by decide) pd__IJ_V rfl (W := 0) (by decide) (by decide) (Nat.le_of_eq rfl) (by decide) (by decide) rfl rfl at_47 rfl fun T h368 v369 A Q370 => ?_
        obtain ⟨rfl, K366, H367⟩ := Q370
        obtain ⟨E371, F372, F373, F374, F375, V376, V377, V378, ne379, ne380, ne381, ne382, ne383, ne384, ge385, ge386, ge387, ge388⟩ := H367
        refine Wp.stk (st' := []) rfl ?_
        refine s_aload (pc' := 52) A at_50 rfl rfl rfl ?_
        refine s_virtual (pc' := 55) (y := y2_clear) (argsL := []) (rest := []) (z := y2_clear) A E371 (gq_clear22 l Z a0 hw n0 h368 A.size b2 r12 r13 r14 [.long (0 : Int64), .long (0 : Int64), .long q3] ⟨E371, F372, F373, F374, F375, V376, V377, V378, ne379, ne380, ne381, ne382, ne383, ne384, ge385, ge386, ge387, ge388⟩) (w23 hw) (w24 hw) (nf_same (C := "") (w26 hw)) (w26 hw) (w25 hw) (w2 hw) (w27 hw) (by decide) pd___V rfl (W := 0) (by decide) (by decide) (Nat.le_of_eq rfl) (by decide) (by decide) rfl rfl at_52 rfl fun T h391 v392 A Q393 => ?_
        obtain ⟨rfl, K389, H390⟩ := Q393
        obtain ⟨E394, F395, F396, F397, F398, V399, V400, V401, ne402, ne403, ne404, ne405, ne406, ne407, ge408, ge409, ge410, ge411⟩ := H390
        refine Wp.stk (st' := []) rfl ?_
        refine s_aload (pc' := 57) A at_55 rfl rfl rfl ?_
        refine s_virtual (pc' := 60) (y := y3_isEmpty) (argsL := []) (rest := []) (z := y3_isEmpty) A E394 (gq_isEmpty3 l Z a0 hw n0 h391 A.size b2 r12 r13 r14 [.int (2 : Int32), .int (0 : Int32), .int (0 : Int32)] [.long (0 : Int64), .long (0 : Int64), .long q3] [.int (-1 : Int32), .int (-1 : Int32), .int (-1 : Int32)] ⟨E394, F395, F396, F397, F398, V399, V400, V401, ne402, ne403, ne404, ne405, ne406, ne407, ge408, ge409, ge410, ge411⟩) (w28 hw) (w29 hw) (nf_same (C := "") (w31 hw)) (w31 hw) (w30 hw) (w2 hw) (w32 hw) (by decide) pd___Z rfl (W := 0) (by decide) (by decide) (Nat.le_of_eq rfl) (by decide) (by decide) rfl rfl at_57 rfl fun T h414 v415 A Q416 => ?_
        obtain ⟨rfl, K412, H413⟩ := Q416
        obtain ⟨E417, F418, F419, F420, F421, V422, V423, V424, ne425, ne426, ne427, ne428, ne429, ne430, ge431, ge432, ge433, ge434⟩ := H413
        refine Wp.stk (st' := [(.int (1 : Int32))]) rfl ?_
        refine s_ifN (pc' := 63) A at_60 rfl (by decide) ?_
        refine s_aload (pc' := 65) A at_63 rfl rfl rfl ?_
        refine s_iconst (pc' := 66) (z := (0 : Int32)) A at_65 rfl (by decide) ?_
        refine s_virtual (pc' := 69) (y := y4_contains) (argsL := [(.int (0 : Int32))]) (rest := []) (z := y4_contains) A E417 (gq_contains4 l Z a0 hw n0 h414 A.size b2 r12 r13 r14 [.int (2 : Int32), .int (0 : Int32), .int (0 : Int32)] [.long (0 : Int64), .long (0 : Int64), .long q3] ⟨E417, F418, F419, F420, F421, V422, V423, V424, ne425, ne426, ne427, ne428, ne429, ne430, ge431, ge432, ge433, ge434⟩) (w33 hw) (w34 hw) (nf_same (C := "") (w36 hw)) (w36 hw) (w35 hw) (w2 hw) (w37 hw) (by decide) pd__I_Z rfl (W := 0) (by decide) (by decide) (Nat.le_of_eq rfl) (by decide) (by decide) rfl rfl at_66 rfl fun T h437 v438 A Q439 => ?_
        obtain ⟨rfl, K435, H436⟩ := Q439
        obtain ⟨E440, F441, F442, F443, F444, V445, V446, V447, ne448, ne449, ne450, ne451, ne452, ne453, ge454, ge455, ge456, ge457⟩ := H436
        refine Wp.stk (st' := [(.int (0 : Int32))]) rfl ?_
        refine s_ifN (pc' := 72) A at_69 rfl (by decide) ?_
        refine s_aload (pc' := 74) A at_72 rfl rfl rfl ?_
        refine s_iconst (pc' := 75) (z := (1 : Int32)) A at_74 rfl (by decide) ?_
        refine s_virtual (pc' := 78) (y := y4_contains) (argsL := [(.int (1 : Int32))]) (rest := []) (z := y4_contains) A E440 (gq_contains5 l Z a0 hw n0 h437 A.size b2 r12 r13 r14 [.int (2 : Int32), .int (0 : Int32), .int (0 : Int32)] [.long (0 : Int64), .long (0 : Int64), .long q3] ⟨E440, F441, F442, F443, F444, V445, V446, V447, ne448, ne449, ne450, ne451, ne452, ne453, ge454, ge455, ge456, ge457⟩) (w33 hw) (w34 hw) (nf_same (C := "") (w36 hw)) (w36 hw) (w35 hw) (w2 hw) (w37 hw) (by decide) pd__I_Z rfl (W := 0) (by decide) (by decide) (Nat.le_of_eq rfl) (by decide) (by decide) rfl rfl at_75 rfl fun T h460 v461 A Q462 => ?_
        obtain ⟨rfl, K458, H459⟩ := Q462
        obtain ⟨E463, F464, F465, F466, F467, V468, V469, V470, ne471, ne472, ne473, ne474, ne475, ne476, ge477, ge478, ge479, ge480⟩ := H459
        refine Wp.stk (st' := [(.int (0 : Int32))]) rfl ?_
        refine s_ifN (pc' := 81) A at_78 rfl (by decide) ?_
        refine s_aload (pc' := 83) A at_81 rfl rfl rfl ?_
        refine s_iconst (pc' := 84) (z := (2 : Int32)) A at_83 rfl (by decide) ?_
        refine s_virtual (pc' := 87) (y := y4_contains) (argsL := [(.int (2 : Int32))]) (rest := []) (z := y4_contains) A E463 (gq_contains6 l Z a0 hw n0 h460 A.size b2 r12 r13 r14 [.int (2 : Int32), .int (0 : Int32), .int (0 : Int32)] [.long (0 : Int64), .long (0 : Int64), .long q3] ⟨E463, F464, F465, F466, F467, V468, V469, V470, ne471, ne472, ne473, ne474, ne475, ne476, ge477, ge478, ge479, ge480⟩) (w33 hw) (w34 hw) (nf_same (C := "") (w36 hw)) (w36 hw) (w35 hw) (w2 hw) (w37 hw) (by decide) pd__I_Z rfl (W := 0) (by decide) (by decide) (Nat.le_of_eq rfl) (by decide) (by decide) rfl rfl at_84 rfl fun T h483 v484 A Q485 => ?_
        obtain ⟨rfl, K481, H482⟩ := Q485
        obtain ⟨E486, F487, F488, F489, F490, V491, V492, V493, ne494, ne495, ne496, ne497, ne498, ne499, ge500, ge501, ge502, ge503⟩ := H482
        refine Wp.stk (st' := [(.int (0 : Int32))]) rfl ?_
        refine s_ifN (pc' := 90) A at_87 rfl (by decide) ?_
        refine s_iconst (pc' := 91) (z := (1 : Int32)) A at_90 rfl (by decide) ?_
        refine s_goto (pc' := 95) A at_91 (by decide) (by decide) ?_
        refine s_istore (pc' := 97) (Ls' := #[iv q0, jv q1, S2, jv q2, S2, jv q3, S2, iv q4, jv q5, S2, rv b2, iv 1, U0, U0]) A at_95 rfl rfl ?_
        refine s_iload (pc' := 99) A at_97 rfl rfl ?_
        refine s_ldcInt (pc' := 101) A at_99 rfl (w38 hw) ?_
        refine s_iand (pc' := 102) (z := (q4 &&& (2147483647 : Int32))) A at_101 rfl rfl ?_
        refine s_iconst (pc' := 103) (z := (3 : Int32)) A at_102 rfl (by decide) ?_
        obtain ⟨pp, hpp⟩ : ∃ z, z = ((q4 &&& (2147483647 : Int32)) % (3 : Int32)) := ⟨_, rfl⟩
        have cp := own_p q4
        rw [← hpp] at cp
        rcases cp with rfl | rfl | rfl
        ·
          refine s_irem (pc' := 104) (z := (0 : Int32)) A at_103 rfl (by decide) hpp.symm ?_
          refine s_istore (pc' := 106) (Ls' := #[iv q0, jv q1, S2, jv q2, S2, jv q3, S2, iv q4, jv q5, S2, rv b2, iv 1, iv 0, U0]) A at_104 rfl rfl ?_
          refine s_aload (pc' := 108) A at_106 rfl rfl rfl ?_
          refine s_iload (pc' := 110) A at_108 rfl rfl ?_
          refine s_lload (pc' := 112) A at_110 rfl rfl ?_
          refine s_virtual (pc' := 115) (y := y7_put) (argsL := [(.int (0 : Int32)), (.long q5)]) (rest := []) (z := y7_put) A E486 (gq_put7 l Z a0 hw n0 h483 A.size b2 r12 r13 r14 (2 : Int32) (0 : Int32) (0 : Int32) (0 : Int64) (0 : Int64) q3 q5 ⟨E486, F487, F488, F489, F490, V491, V492, V493, ne494, ne495, ne496, ne497, ne498, ne499, ge500, ge501, ge502, ge503⟩) (w39 hw) (w40 hw) (nf_same (C := "") (w42 hw)) (w42 hw) (w41 hw) (w2 hw) (w43 hw) (by decide) pd__IJ_V rfl (W := 0) (by decide) (by decide) (Nat.le_of_eq rfl) (by decide) (by decide) rfl rfl at_112 rfl fun T h506 v507 A Q508 => ?_
          obtain ⟨rfl, K504, H505⟩ := Q508
          obtain ⟨E509, F510, F511, F512, F513, V514, V515, V516, ne517, ne518, ne519, ne520, ne521, ne522, ge523, ge524, ge525, ge526⟩ := H505
          refine Wp.stk (st' := []) rfl ?_
          refine s_aload (pc' := 117) A at_115 rfl rfl rfl ?_
          refine s_virtual (pc' := 120) (y := y9_poll) (argsL := []) (rest := []) (z := y9_poll) A E509 (gq_poll10 l Z a0 hw n0 h506 A.size b2 r12 r13 r14 (0 : Int32) (0 : Int32) [.long q5, .long (0 : Int64), .long q3] ⟨E509, F510, F511, F512, F513, V514, V515, V516, ne517, ne518, ne519, ne520, ne521, ne522, ge523, ge524, ge525, ge526⟩) (w53 hw) (w54 hw) (nf_same (C := "") (w56 hw)) (w56 hw) (w55 hw) (w2 hw) (w57 hw) (by decide) pd___I rfl (W := 0) (by decide) (by decide) (Nat.le_of_eq rfl) (by decide) (by decide) rfl rfl at_117 rfl fun T h529 v530 A Q531 => ?_
          obtain ⟨rfl, K527, H528⟩ := Q531
          obtain ⟨E532, F533, F534, F535, F536, V537, V538, V539, ne540, ne541, ne542, ne543, ne544, ne545, ge546, ge547, ge548, ge549⟩ := H528
          refine Wp.stk (st' := [(.int (0 : Int32))]) rfl ?_
          refine s_iload (pc' := 122) A at_120 rfl rfl ?_
          refine s_icmpN (pc' := 125) A at_122 rfl (by decide) ?_
          refine s_aload (pc' := 127) A at_125 rfl rfl rfl ?_
          refine s_virtual (pc' := 130) (y := y3_isEmpty) (argsL := []) (rest := []) (z := y3_isEmpty) A E532 (gq_isEmpty3 l Z a0 hw n0 h529 A.size b2 r12 r13 r14 [.int (0 : Int32), .int (0 : Int32), .int (0 : Int32)] [.long q5, .long (0 : Int64), .long q3] [.int (-1 : Int32), .int (-1 : Int32), .int (-1 : Int32)] ⟨E532, F533, F534, F535, F536, V537, V538, V539, ne540, ne541, ne542, ne543, ne544, ne545, ge546, ge547, ge548, ge549⟩) (w28 hw) (w29 hw) (nf_same (C := "") (w31 hw)) (w31 hw) (w30 hw) (w2 hw) (w32 hw) (by decide) pd___Z rfl (W := 0) (by decide) (by decide) (Nat.le_of_eq rfl) (by decide) (by decide) rfl rfl at_127 rfl fun T h552 v553 A Q554 => ?_
          obtain ⟨rfl, K550, H551⟩ := Q554
          obtain ⟨E555, F556, F557, F558, F559, V560, V561, V562, ne563, ne564, ne565, ne566, ne567, ne568, ge569, ge570, ge571, ge572⟩ := H551
          refine Wp.stk (st' := [(.int (1 : Int32))]) rfl ?_
          refine s_ifN (pc' := 133) A at_130 rfl (by decide) ?_
          refine s_iconst (pc' := 134) (z := (1 : Int32)) A at_133 rfl (by decide) ?_
          refine s_goto (pc' := 138) A at_134 (by decide) (by decide) ?_
          refine s_istore (pc' := 140) (Ls' := #[iv q0, jv q1, S2, jv q2, S2, jv q3, S2, iv q4, jv q5, S2, rv b2, iv 1, iv 0, iv 1]) A at_138 rfl rfl ?_
          refine s_iload (pc' := 142) A at_140 rfl rfl ?_
          refine s_ifN (pc' := 145) A at_142 rfl (by decide) ?_
          refine s_iload (pc' := 147) A at_145 rfl rfl ?_
          refine s_ifN (pc' := 150) A at_147 rfl (by decide) ?_
          refine s_iconst (pc' := 151) (z := (1 : Int32)) A at_150 rfl (by decide) ?_
          refine s_goto (pc' := 155) A at_151 (by decide) (by decide) ?_
          exact r_bool A rfl (by decide) at_155 (by decide) (by decide) (rfl)
        ·
          refine s_irem (pc' := 104) (z := (1 : Int32)) A at_103 rfl (by decide) hpp.symm ?_
          refine s_istore (pc' := 106) (Ls' := #[iv q0, jv q1, S2, jv q2, S2, jv q3, S2, iv q4, jv q5, S2, rv b2, iv 1, iv 1, U0]) A at_104 rfl rfl ?_
          refine s_aload (pc' := 108) A at_106 rfl rfl rfl ?_
          refine s_iload (pc' := 110) A at_108 rfl rfl ?_
          refine s_lload (pc' := 112) A at_110 rfl rfl ?_
          refine s_virtual (pc' := 115) (y := y7_put) (argsL := [(.int (1 : Int32)), (.long q5)]) (rest := []) (z := y7_put) A E486 (gq_put12 l Z a0 hw n0 h483 A.size b2 r12 r13 r14 (2 : Int32) (0 : Int32) (0 : Int32) (0 : Int64) (0 : Int64) q3 q5 ⟨E486, F487, F488, F489, F490, V491, V492, V493, ne494, ne495, ne496, ne497, ne498, ne499, ge500, ge501, ge502, ge503⟩) (w39 hw) (w40 hw) (nf_same (C := "") (w42 hw)) (w42 hw) (w41 hw) (w2 hw) (w43 hw) (by decide) pd__IJ_V rfl (W := 0) (by decide) (by decide) (Nat.le_of_eq rfl) (by decide) (by decide) rfl rfl at_112 rfl fun T h575 v576 A Q577 => ?_
          obtain ⟨rfl, K573, H574⟩ := Q577
          obtain ⟨E578, F579, F580, F581, F582, V583, V584, V585, ne586, ne587, ne588, ne589, ne590, ne591, ge592, ge593, ge594, ge595⟩ := H574
          refine Wp.stk (st' := []) rfl ?_
          refine s_aload (pc' := 117) A at_115 rfl rfl rfl ?_
          refine s_virtual (pc' := 120) (y := y9_poll) (argsL := []) (rest := []) (z := y9_poll) A E578 (gq_poll15 l Z a0 hw n0 h575 A.size b2 r12 r13 r14 (0 : Int32) (0 : Int32) [.long (0 : Int64), .long q5, .long q3] ⟨E578, F579, F580, F581, F582, V583, V584, V585, ne586, ne587, ne588, ne589, ne590, ne591, ge592, ge593, ge594, ge595⟩) (w53 hw) (w54 hw) (nf_same (C := "") (w56 hw)) (w56 hw) (w55 hw) (w2 hw) (w57 hw) (by decide) pd___I rfl (W := 0) (by decide) (by decide) (Nat.le_of_eq rfl) (by decide) (by decide) rfl rfl at_117 rfl fun T h598 v599 A Q600 => ?_
          obtain ⟨rfl, K596, H597⟩ := Q600
          obtain ⟨E601, F602, F603, F604, F605, V606, V607, V608, ne609, ne610, ne611, ne612, ne613, ne614, ge615, ge616, ge617, ge618⟩ := H597
          refine Wp.stk (st' := [(.int (1 : Int32))]) rfl ?_
          refine s_iload (pc' := 122) A at_120 rfl rfl ?_
          refine s_icmpN (pc' := 125) A at_122 rfl (by decide) ?_
          refine s_aload (pc' := 127) A at_125 rfl rfl rfl ?_
          refine s_virtual (pc' := 130) (y := y3_isEmpty) (argsL := []) (rest := []) (z := y3_isEmpty) A E601 (gq_isEmpty3 l Z a0 hw n0 h598 A.size b2 r12 r13 r14 [.int (1 : Int32), .int (0 : Int32), .int (0 : Int32)] [.long (0 : Int64), .long q5, .long q3] [.int (-1 : Int32), .int (-1 : Int32), .int (-1 : Int32)] ⟨E601, F602, F603, F604, F605, V606, V607, V608, ne609, ne610, ne611, ne612, ne613, ne614, ge615, ge616, ge617, ge618⟩) (w28 hw) (w29 hw) (nf_same (C := "") (w31 hw)) (w31 hw) (w30 hw) (w2 hw) (w32 hw) (by decide) pd___Z rfl (W := 0) (by decide) (by decide) (Nat.le_of_eq rfl) (by decide) (by decide) rfl rfl at_127 rfl fun T h621 v622 A Q623 => ?_
          obtain ⟨rfl, K619, H620⟩ := Q623
          obtain ⟨E624, F625, F626, F627, F628, V629, V630, V631, ne632, ne633, ne634, ne635, ne636, ne637, ge638, ge639, ge640, ge641⟩ := H620
          refine Wp.stk (st' := [(.int (1 : Int32))]) rfl ?_
          refine s_ifN (pc' := 133) A at_130 rfl (by decide) ?_
          refine s_iconst (pc' := 134) (z := (1 : Int32)) A at_133 rfl (by decide) ?_
          refine s_goto (pc' := 138) A at_134 (by decide) (by decide) ?_
          refine s_istore (pc' := 140) (Ls' := #[iv q0, jv q1, S2, jv q2, S2, jv q3, S2, iv q4, jv q5, S2, rv b2, iv 1, iv 1, iv 1]) A at_138 rfl rfl ?_
          refine s_iload (pc' := 142) A at_140 rfl rfl ?_
          refine s_ifN (pc' := 145) A at_142 rfl (by decide) ?_
          refine s_iload (pc' := 147) A at_145 rfl rfl ?_
          refine s_ifN (pc' := 150) A at_147 rfl (by decide) ?_
          refine s_iconst (pc' := 151) (z := (1 : Int32)) A at_150 rfl (by decide) ?_
          refine s_goto (pc' := 155) A at_151 (by decide) (by decide) ?_
          exact r_bool A rfl (by decide) at_155 (by decide) (by decide) (rfl)
        ·
          refine s_irem (pc' := 104) (z := (2 : Int32)) A at_103 rfl (by decide) hpp.symm ?_
          refine s_istore (pc' := 106) (Ls' := #[iv q0, jv q1, S2, jv q2, S2, jv q3, S2, iv q4, jv q5, S2, rv b2, iv 1, iv 2, U0]) A at_104 rfl rfl ?_
          refine s_aload (pc' := 108) A at_106 rfl rfl rfl ?_
          refine s_iload (pc' := 110) A at_108 rfl rfl ?_
          refine s_lload (pc' := 112) A at_110 rfl rfl ?_
          refine s_virtual (pc' := 115) (y := y7_put) (argsL := [(.int (2 : Int32)), (.long q5)]) (rest := []) (z := y7_put) A E486 (gq_put17 l Z a0 hw n0 h483 A.size b2 r12 r13 r14 (2 : Int32) (0 : Int32) (0 : Int32) (0 : Int64) (0 : Int64) q3 q5 ⟨E486, F487, F488, F489, F490, V491, V492, V493, ne494, ne495, ne496, ne497, ne498, ne499, ge500, ge501, ge502, ge503⟩) (w39 hw) (w40 hw) (nf_same (C := "") (w42 hw)) (w42 hw) (w41 hw) (w2 hw) (w43 hw) (by decide) pd__IJ_V rfl (W := 0) (by decide) (by decide) (Nat.le_of_eq rfl) (by decide) (by decide) rfl rfl at_112 rfl fun T h644 v645 A Q646 => ?_
          obtain ⟨rfl, K642, H643⟩ := Q646
          obtain ⟨E647, F648, F649, F650, F651, V652, V653, V654, ne655, ne656, ne657, ne658, ne659, ne660, ge661, ge662, ge663, ge664⟩ := H643
          refine Wp.stk (st' := []) rfl ?_
          refine s_aload (pc' := 117) A at_115 rfl rfl rfl ?_
          refine s_virtual (pc' := 120) (y := y9_poll) (argsL := []) (rest := []) (z := y9_poll) A E647 (gq_poll20 l Z a0 hw n0 h644 A.size b2 r12 r13 r14 (0 : Int32) (0 : Int32) [.long (0 : Int64), .long (0 : Int64), .long q5] ⟨E647, F648, F649, F650, F651, V652, V653, V654, ne655, ne656, ne657, ne658, ne659, ne660, ge661, ge662, ge663, ge664⟩) (w53 hw) (w54 hw) (nf_same (C := "") (w56 hw)) (w56 hw) (w55 hw) (w2 hw) (w57 hw) (by decide) pd___I rfl (W := 0) (by decide) (by decide) (Nat.le_of_eq rfl) (by decide) (by decide) rfl rfl at_117 rfl fun T h667 v668 A Q669 => ?_
          obtain ⟨rfl, K665, H666⟩ := Q669
          obtain ⟨E670, F671, F672, F673, F674, V675, V676, V677, ne678, ne679, ne680, ne681, ne682, ne683, ge684, ge685, ge686, ge687⟩ := H666
          refine Wp.stk (st' := [(.int (2 : Int32))]) rfl ?_
          refine s_iload (pc' := 122) A at_120 rfl rfl ?_
          refine s_icmpN (pc' := 125) A at_122 rfl (by decide) ?_
          refine s_aload (pc' := 127) A at_125 rfl rfl rfl ?_
          refine s_virtual (pc' := 130) (y := y3_isEmpty) (argsL := []) (rest := []) (z := y3_isEmpty) A E670 (gq_isEmpty3 l Z a0 hw n0 h667 A.size b2 r12 r13 r14 [.int (2 : Int32), .int (0 : Int32), .int (0 : Int32)] [.long (0 : Int64), .long (0 : Int64), .long q5] [.int (-1 : Int32), .int (-1 : Int32), .int (-1 : Int32)] ⟨E670, F671, F672, F673, F674, V675, V676, V677, ne678, ne679, ne680, ne681, ne682, ne683, ge684, ge685, ge686, ge687⟩) (w28 hw) (w29 hw) (nf_same (C := "") (w31 hw)) (w31 hw) (w30 hw) (w2 hw) (w32 hw) (by decide) pd___Z rfl (W := 0) (by decide) (by decide) (Nat.le_of_eq rfl) (by decide) (by decide) rfl rfl at_127 rfl fun T h690 v691 A Q692 => ?_
          obtain ⟨rfl, K688, H689⟩ := Q692
          obtain ⟨E693, F694, F695, F696, F697, V698, V699, V700, ne701, ne702, ne703, ne704, ne705, ne706, ge707, ge708, ge709, ge710⟩ := H689
          refine Wp.stk (st' := [(.int (1 : Int32))]) rfl ?_
          refine s_ifN (pc' := 133) A at_130 rfl (by decide) ?_
          refine s_iconst (pc' := 134) (z := (1 : Int32)) A at_133 rfl (by decide) ?_
          refine s_goto (pc' := 138) A at_134 (by decide) (by decide) ?_
          refine s_istore (pc' := 140) (Ls' := #[iv q0, jv q1, S2, jv q2, S2, jv q3, S2, iv q4, jv q5, S2, rv b2, iv 1, iv 2, iv 1]) A at_138 rfl rfl ?_
          refine s_iload (pc' := 142) A at_140 rfl rfl ?_
          refine s_ifN (pc' := 145) A at_142 rfl (by decide) ?_
          refine s_iload (pc' := 147) A at_145 rfl rfl ?_
          refine s_ifN (pc' := 150) A at_147 rfl (by decide) ?_
          refine s_iconst (pc' := 151) (z := (1 : Int32)) A at_150 rfl (by decide) ?_
          refine s_goto (pc' := 155) A at_151 (by decide) (by decide) ?_
          exact r_bool A rfl (by decide) at_155 (by decide) (by decide) (rfl)
    ·
      refine s_ifN (pc' := 29) A at_26 rfl ((if0 _ _).trans (feq hc26_1).1) ?_
      refine s_aload (pc' := 31) A at_29 rfl rfl rfl ?_
      refine s_iconst (pc' := 32) (z := (1 : Int32)) A at_31 rfl (by decide) ?_
      refine s_lloadN (pc' := 33) A at_32 rfl rfl ?_
      refine s_virtual (pc' := 36) (y := y7_put) (argsL := [(.int (1 : Int32)), (.long q2)]) (rest := []) (z := y7_put) A E26 (gq_put12 l Z a0 hw n0 h20 A.size b2 r12 r13 r14 (0 : Int32) (0 : Int32) (0 : Int32) (0 : Int64) (0 : Int64) (0 : Int64) q2 ⟨E26, F27, F28, F29, F30, V31, V32, V33, ne34, ne35, ne36, ne37, ne38, ne39, ge40, ge41, ge42, ge43⟩) (w39 hw) (w40 hw) (nf_same (C := "") (w42 hw)) (w42 hw) (w41 hw) (w2 hw) (w43 hw) (by decide) pd__IJ_V rfl (W := 0) (by decide) (by decide) (Nat.le_of_eq rfl) (by decide) (by decide) rfl rfl at_33 rfl fun T h713 v714 A Q715 => ?_
      obtain ⟨rfl, K711, H712⟩ := Q715
      obtain ⟨E716, F717, F718, F719, F720, V721, V722, V723, ne724, ne725, ne726, ne727, ne728, ne729, ge730, ge731, ge732, ge733⟩ := H712
      refine Wp.stk (st' := []) rfl ?_
      refine s_iloadN (pc' := 37) A at_36 rfl rfl ?_
      refine s_iconst (pc' := 38) (z := (4 : Int32)) A at_37 rfl (by decide) ?_
      refine s_iand (pc' := 39) (z := (q0 &&& (4 : Int32))) A at_38 rfl rfl ?_
      by_cases hc39_1 : (q0 &&& (4 : Int32)) = (0 : Int32)
      ·
        refine s_ifY (pc' := 50) A at_39 ((if0 _ _).trans (teq hc39_1).1) (by decide) (by decide) ?_
        refine s_aload (pc' := 52) A at_50 rfl rfl rfl ?_
        refine s_virtual (pc' := 55) (y := y2_clear) (argsL := []) (rest := []) (z := y2_clear) A E716 (gq_clear23 l Z a0 hw n0 h713 A.size b2 r12 r13 r14 [.long (0 : Int64), .long q2, .long (0 : Int64)] ⟨E716, F717, F718, F719, F720, V721, V722, V723, ne724, ne725, ne726, ne727, ne728, ne729, ge730, ge731, ge732, ge733⟩) (w23 hw) (w24 hw) (nf_same (C := "") (w26 hw)) (w26 hw) (w25 hw) (w2 hw) (w27 hw) (by decide) pd___V rfl (W := 0) (by decide) (by decide) (Nat.le_of_eq rfl) (by decide) (by decide) rfl rfl at_52 rfl fun T h736 v737 A Q738 => ?_
        obtain ⟨rfl, K734, H735⟩ := Q738
        obtain ⟨E739, F740, F741, F742, F743, V744, V745, V746, ne747, ne748, ne749, ne750, ne751, ne752, ge753, ge754, ge755, ge756⟩ := H735
        refine Wp.stk (st' := []) rfl ?_
        refine s_aload (pc' := 57) A at_55 rfl rfl rfl ?_
        refine s_virtual (pc' := 60) (y := y3_isEmpty) (argsL := []) (rest := []) (z := y3_isEmpty) A E739 (gq_isEmpty3 l Z a0 hw n0 h736 A.size b2 r12 r13 r14 [.int (1 : Int32), .int (0 : Int32), .int (0 : Int32)] [.long (0 : Int64), .long q2, .long (0 : Int64)] [.int (-1 : Int32), .int (-1 : Int32), .int (-1 : Int32)] ⟨E739, F740, F741, F742, F743, V744, V745, V746, ne747, ne748, ne749, ne750, ne751, ne752, ge753, ge754, ge755, ge756⟩) (w28 hw) (w29 hw) (nf_same (C := "") (w31 hw)) (w31 hw) (w30 hw) (w2 hw) (w32 hw) (by decide) pd___Z rfl (W := 0) (by decide) (by decide) (Nat.le_of_eq rfl) (by decide) (by decide) rfl rfl at_57 rfl fun T h759 v760 A Q761 => ?_
        obtain ⟨rfl, K757, H758⟩ := Q761
        obtain ⟨E762, F763, F764, F765, F766, V767, V768, V769, ne770, ne771, ne772, ne773, ne774, ne775, ge776, ge777, ge778, ge779⟩ := H758
        refine Wp.stk (st' := [(.int (1 : Int32))]) rfl ?_
        refine s_ifN (pc' := 63) A at_60 rfl (by decide) ?_
        refine s_aload (pc' := 65) A at_63 rfl rfl rfl ?_
        refine s_iconst (pc' := 66) (z := (0 : Int32)) A at_65 rfl (by decide) ?_
        refine s_virtual (pc' := 69) (y := y4_contains) (argsL := [(.int (0 : Int32))]) (rest := []) (z := y4_contains) A E762 (gq_contains4 l Z a0 hw n0 h759 A.size b2 r12 r13 r14 [.int (1 : Int32), .int (0 : Int32), .int (0 : Int32)] [.long (0 : Int64), .long q2, .long (0 : Int64)] ⟨E762, F763, F764, F765, F766, V767, V768, V769, ne770, ne771, ne772, ne773, ne774, ne775, ge776, ge777, ge778, ge779⟩) (w33 hw) (w34 hw) (nf_same (C := "") (w36 hw)) (w36 hw) (w35 hw) (w2 hw) (w37 hw) (by decide) pd__I_Z rfl (W := 0) (by decide) (by decide) (Nat.le_of_eq rfl) (by decide) (by decide) rfl rfl at_66 rfl fun T h782 v783 A Q784 => ?_
        obtain ⟨rfl, K780, H781⟩ := Q784
        obtain ⟨E785, F786, F787, F788, F789, V790, V791, V792, ne793, ne794, ne795, ne796, ne797, ne798, ge799, ge800, ge801, ge802⟩ := H781
        refine Wp.stk (st' := [(.int (0 : Int32))]) rfl ?_
        refine s_ifN (pc' := 72) A at_69 rfl (by decide) ?_
        refine s_aload (pc' := 74) A at_72 rfl rfl rfl ?_
        refine s_iconst (pc' := 75) (z := (1 : Int32)) A at_74 rfl (by decide) ?_
        refine s_virtual (pc' := 78) (y := y4_contains) (argsL := [(.int (1 : Int32))]) (rest := []) (z := y4_contains) A E785 (gq_contains5 l Z a0 hw n0 h782 A.size b2 r12 r13 r14 [.int (1 : Int32), .int (0 : Int32), .int (0 : Int32)] [.long (0 : Int64), .long q2, .long (0 : Int64)] ⟨E785, F786, F787, F788, F789, V790, V791, V792, ne793, ne794, ne795, ne796, ne797, ne798, ge799, ge800, ge801, ge802⟩) (w33 hw) (w34 hw) (nf_same (C := "") (w36 hw)) (w36 hw) (w35 hw) (w2 hw) (w37 hw) (by decide) pd__I_Z rfl (W := 0) (by decide) (by decide) (Nat.le_of_eq rfl) (by decide) (by decide) rfl rfl at_75 rfl fun T h805 v806 A Q807 => ?_
        obtain ⟨rfl, K803, H804⟩ := Q807
        obtain ⟨E808, F809, F810, F811, F812, V813, V814, V815, ne816, ne817, ne818, ne819, ne820, ne821, ge822, ge823, ge824, ge825⟩ := H804
        refine Wp.stk (st' := [(.int (0 : Int32))]) rfl ?_
        refine s_ifN (pc' := 81) A at_78 rfl (by decide) ?_
        refine s_aload (pc' := 83) A at_81 rfl rfl rfl ?_
        refine s_iconst (pc' := 84) (z := (2 : Int32)) A at_83 rfl (by decide) ?_
        refine s_virtual (pc' := 87) (y := y4_contains) (argsL := [(.int (2 : Int32))]) (rest := []) (z := y4_contains) A E808 (gq_contains6 l Z a0 hw n0 h805 A.size b2 r12 r13 r14 [.int (1 : Int32), .int (0 : Int32), .int (0 : Int32)] [.long (0 : Int64), .long q2, .long (0 : Int64)] ⟨E808, F809, F810, F811, F812, V813, V814, V815, ne816, ne817, ne818, ne819, ne820, ne821, ge822, ge823, ge824, ge825⟩) (w33 hw) (w34 hw) (nf_same (C := "") (w36 hw)) (w36 hw) (w35 hw) (w2 hw) (w37 hw) (by decide) pd__I_Z rfl (W := 0) (by decide) (by decide) (Nat.le_of_eq rfl) (by decide) (by decide) rfl rfl at_84 rfl fun T h828 v829 A Q830 => ?_
        obtain ⟨rfl, K826, H827⟩ := Q830
        obtain ⟨E831, F832, F833, F834, F835, V836, V837, V838, ne839, ne840, ne841, ne842, ne843, ne844, ge845, ge846, ge847, ge848⟩ := H827
        refine Wp.stk (st' := [(.int (0 : Int32))]) rfl ?_
        refine s_ifN (pc' := 90) A at_87 rfl (by decide) ?_
        refine s_iconst (pc' := 91) (z := (1 : Int32)) A at_90 rfl (by decide) ?_
        refine s_goto (pc' := 95) A at_91 (by decide) (by decide) ?_
        refine s_istore (pc' := 97) (Ls' := #[iv q0, jv q1, S2, jv q2, S2, jv q3, S2, iv q4, jv q5, S2, rv b2, iv 1, U0, U0]) A at_95 rfl rfl ?_
        refine s_iload (pc' := 99) A at_97 rfl rfl ?_
        refine s_ldcInt (pc' := 101) A at_99 rfl (w38 hw) ?_
        refine s_iand (pc' := 102) (z := (q4 &&& (2147483647 : Int32))) A at_101 rfl rfl ?_
        refine s_iconst (pc' := 103) (z := (3 : Int32)) A at_102 rfl (by decide) ?_
        obtain ⟨pp, hpp⟩ : ∃ z, z = ((q4 &&& (2147483647 : Int32)) % (3 : Int32)) := ⟨_, rfl⟩
        have cp := own_p q4
        rw [← hpp] at cp
        rcases cp with rfl | rfl | rfl
        ·
          refine s_irem (pc' := 104) (z := (0 : Int32)) A at_103 rfl (by decide) hpp.symm ?_
          refine s_istore (pc' := 106) (Ls' := #[iv q0, jv q1, S2, jv q2, S2, jv q3, S2, iv q4, jv q5, S2, rv b2, iv 1, iv 0, U0]) A at_104 rfl rfl ?_
          refine s_aload (pc' := 108) A at_106 rfl rfl rfl ?_
          refine s_iload (pc' := 110) A at_108 rfl rfl ?_
          refine s_lload (pc' := 112) A at_110 rfl rfl ?_
          refine s_virtual (pc' := 115) (y := y7_put) (argsL := [(.int (0 : Int32)), (.long q5)]) (rest := []) (z := y7_put) A E831 (gq_put7 l Z a0 hw n0 h828 A.size b2 r12 r13 r14 (1 : Int32) (0 : Int32) (0 : Int32) (0 : Int64) q2 (0 : Int64) q5 ⟨E831, F832, F833, F834, F835, V836, V837, V838, ne839, ne840, ne841, ne842, ne843, ne844, ge845, ge846, ge847, ge848⟩) (w39 hw) (w40 hw) (nf_same (C := "") (w42 hw)) (w42 hw) (w41 hw) (w2 hw) (w43 hw) (by decide) pd__IJ_V rfl (W := 0) (by decide) (by decide) (Nat.le_of_eq rfl) (by decide) (by decide) rfl rfl at_112 rfl fun T h851 v852 A Q853 => ?_
          obtain ⟨rfl, K849, H850⟩ := Q853
          obtain ⟨E854, F855, F856, F857, F858, V859, V860, V861, ne862, ne863, ne864, ne865, ne866, ne867, ge868, ge869, ge870, ge871⟩ := H850
          refine Wp.stk (st' := []) rfl ?_
          refine s_aload (pc' := 117) A at_115 rfl rfl rfl ?_
          refine s_virtual (pc' := 120) (y := y9_poll) (argsL := []) (rest := []) (z := y9_poll) A E854 (gq_poll10 l Z a0 hw n0 h851 A.size b2 r12 r13 r14 (0 : Int32) (0 : Int32) [.long q5, .long q2, .long (0 : Int64)] ⟨E854, F855, F856, F857, F858, V859, V860, V861, ne862, ne863, ne864, ne865, ne866, ne867, ge868, ge869, ge870, ge871⟩) (w53 hw) (w54 hw) (nf_same (C := "") (w56 hw)) (w56 hw) (w55 hw) (w2 hw) (w57 hw) (by decide) pd___I rfl (W := 0) (by decide) (by decide) (Nat.le_of_eq rfl) (by decide) (by decide) rfl rfl at_117 rfl fun T h874 v875 A Q876 => ?_
          obtain ⟨rfl, K872, H873⟩ := Q876
          obtain ⟨E877, F878, F879, F880, F881, V882, V883, V884, ne885, ne886, ne887, ne888, ne889, ne890, ge891, ge892, ge893, ge894⟩ := H873
          refine Wp.stk (st' := [(.int (0 : Int32))]) rfl ?_
          refine s_iload (pc' := 122) A at_120 rfl rfl ?_
          refine s_icmpN (pc' := 125) A at_122 rfl (by decide) ?_
          refine s_aload (pc' := 127) A at_125 rfl rfl rfl ?_
          refine s_virtual (pc' := 130) (y := y3_isEmpty) (argsL := []) (rest := []) (z := y3_isEmpty) A E877 (gq_isEmpty3 l Z a0 hw n0 h874 A.size b2 r12 r13 r14 [.int (0 : Int32), .int (0 : Int32), .int (0 : Int32)] [.long q5, .long q2, .long (0 : Int64)] [.int (-1 : Int32), .int (-1 : Int32), .int (-1 : Int32)] ⟨E877, F878, F879, F880, F881, V882, V883, V884, ne885, ne886, ne887, ne888, ne889, ne890, ge891, ge892, ge893, ge894⟩) (w28 hw) (w29 hw) (nf_same (C := "") (w31 hw)) (w31 hw) (w30 hw) (w2 hw) (w32 hw) (by decide) pd___Z rfl (W := 0) (by decide) (by decide) (Nat.le_of_eq rfl) (by decide) (by decide) rfl rfl at_127 rfl fun T h897 v898 A Q899 => ?_
          obtain ⟨rfl, K895, H896⟩ := Q899
          obtain ⟨E900, F901, F902, F903, F904, V905, V906, V907, ne908, ne909, ne910, ne911, ne912, ne913, ge914, ge915, ge916, ge917⟩ := H896
          refine Wp.stk (st' := [(.int (1 : Int32))]) rfl ?_
          refine s_ifN (pc' := 133) A at_130 rfl (by decide) ?_
          refine s_iconst (pc' := 134) (z := (1 : Int32)) A at_133 rfl (by decide) ?_
          refine s_goto (pc' := 138) A at_134 (by decide) (by decide) ?_
          refine s_istore (pc' := 140) (Ls' := #[iv q0, jv q1, S2, jv q2, S2, jv q3, S2, iv q4, jv q5, S2, rv b2, iv 1, iv 0, iv 1]) A at_138 rfl rfl ?_
          refine s_iload (pc' := 142) A at_140 rfl rfl ?_
          refine s_ifN (pc' := 145) A at_142 rfl (by decide) ?_
          refine s_iload (pc' := 147) A at_145 rfl rfl ?_
          refine s_ifN (pc' := 150) A at_147 rfl (by decide) ?_
          refine s_iconst (pc' := 151) (z := (1 : Int32)) A at_150 rfl (by decide) ?_
          refine s_goto (pc' := 155) A at_151 (by decide) (by decide) ?_
          exact r_bool A rfl (by decide) at_155 (by decide) (by decide) (rfl)
        ·
          refine s_irem (pc' := 104) (z := (1 : Int32)) A at_103 rfl (by decide) hpp.symm ?_
          refine s_istore (pc' := 106) (Ls' := #[iv q0, jv q1, S2, jv q2, S2, jv q3, S2, iv q4, jv q5, S2, rv b2, iv 1, iv 1, U0]) A at_104 rfl rfl ?_
          refine s_aload (pc' := 108) A at_106 rfl rfl rfl ?_
          refine s_iload (pc' := 110) A at_108 rfl rfl ?_
          refine s_lload (pc' := 112) A at_110 rfl rfl ?_
          refine s_virtual (pc' := 115) (y := y7_put) (argsL := [(.int (1 : Int32)), (.long q5)]) (rest := []) (z := y7_put) A E831 (gq_put12 l Z a0 hw n0 h828 A.size b2 r12 r13 r14 (1 : Int32) (0 : Int32) (0 : Int32) (0 : Int64) q2 (0 : Int64) q5 ⟨E831, F832, F833, F834, F835, V836, V837, V838, ne839, ne840, ne841, ne842, ne843, ne844, ge845, ge846, ge847, ge848⟩) (w39 hw) (w40 hw) (nf_same (C := "") (w42 hw)) (w42 hw) (w41 hw) (w2 hw) (w43 hw) (by decide) pd__IJ_V rfl (W := 0) (by decide) (by decide) (Nat.le_of_eq rfl) (by decide) (by decide) rfl rfl at_112 rfl fun T h920 v921 A Q922 => ?_
          obtain ⟨rfl, K918, H919⟩ := Q922
          obtain ⟨E923, F924, F925, F926, F927, V928, V929, V930, ne931, ne932, ne933, ne934, ne935, ne936, ge937, ge938, ge939, ge940⟩ := H919
          refine Wp.stk (st' := []) rfl ?_
          refine s_aload (pc' := 117) A at_115 rfl rfl rfl ?_
          refine s_virtual (pc' := 120) (y := y9_poll) (argsL := []) (rest := []) (z := y9_poll) A E923 (gq_poll15 l Z a0 hw n0 h920 A.size b2 r12 r13 r14 (0 : Int32) (0 : Int32) [.long (0 : Int64), .long q5, .long (0 : Int64)] ⟨E923, F924, F925, F926, F927, V928, V929, V930, ne931, ne932, ne933, ne934, ne935, ne936, ge937, ge938, ge939, ge940⟩) (w53 hw) (w54 hw) (nf_same (C := "") (w56 hw)) (w56 hw) (w55 hw) (w2 hw) (w57 hw) (by decide) pd___I rfl (W := 0) (by decide) (by decide) (Nat.le_of_eq rfl) (by decide) (by decide) rfl rfl at_117 rfl fun T h943 v944 A Q945 => ?_
          obtain ⟨rfl, K941, H942⟩ := Q945
          obtain ⟨E946, F947, F948, F949, F950, V951, V952, V953, ne954, ne955, ne956, ne957, ne958, ne959, ge960, ge961, ge962, ge963⟩ := H942
          refine Wp.stk (st' := [(.int (1 : Int32))]) rfl ?_
          refine s_iload (pc' := 122) A at_120 rfl rfl ?_
          refine s_icmpN (pc' := 125) A at_122 rfl (by decide) ?_
          refine s_aload (pc' := 127) A at_125 rfl rfl rfl ?_
          refine s_virtual (pc' := 130) (y := y3_isEmpty) (argsL := []) (rest := []) (z := y3_isEmpty) A E946 (gq_isEmpty3 l Z a0 hw n0 h943 A.size b2 r12 r13 r14 [.int (1 : Int32), .int (0 : Int32), .int (0 : Int32)] [.long (0 : Int64), .long q5, .long (0 : Int64)] [.int (-1 : Int32), .int (-1 : Int32), .int (-1 : Int32)] ⟨E946, F947, F948, F949, F950, V951, V952, V953, ne954, ne955, ne956, ne957, ne958, ne959, ge960, ge961, ge962, ge963⟩) (w28 hw) (w29 hw) (nf_same (C := "") (w31 hw)) (w31 hw) (w30 hw) (w2 hw) (w32 hw) (by decide) pd___Z rfl (W := 0) (by decide) (by decide) (Nat.le_of_eq rfl) (by decide) (by decide) rfl rfl at_127 rfl fun T h966 v967 A Q968 => ?_
          obtain ⟨rfl, K964, H965⟩ := Q968
          obtain ⟨E969, F970, F971, F972, F973, V974, V975, V976, ne977, ne978, ne979, ne980, ne981, ne982, ge983, ge984, ge985, ge986⟩ := H965
          refine Wp.stk (st' := [(.int (1 : Int32))]) rfl ?_
          refine s_ifN (pc' := 133) A at_130 rfl (by decide) ?_
          refine s_iconst (pc' := 134) (z := (1 : Int32)) A at_133 rfl (by decide) ?_
          refine s_goto (pc' := 138) A at_134 (by decide) (by decide) ?_
          refine s_istore (pc' := 140) (Ls' := #[iv q0, jv q1, S2, jv q2, S2, jv q3, S2, iv q4, jv q5, S2, rv b2, iv 1, iv 1, iv 1]) A at_138 rfl rfl ?_
          refine s_iload (pc' := 142) A at_140 rfl rfl ?_
          refine s_ifN (pc' := 145) A at_142 rfl (by decide) ?_
          refine s_iload (pc' := 147) A at_145 rfl rfl ?_
          refine s_ifN (pc' := 150) A at_147 rfl (by decide) ?_
          refine s_iconst (pc' := 151) (z := (1 : Int32)) A at_150 rfl (by decide) ?_
          refine s_goto (pc' := 155) A at_151 (by decide) (by decide) ?_
          exact r_bool A rfl (by decide) at_155 (by decide) (by decide) (rfl)
        ·
          refine s_irem (pc' := 104) (z := (2 : Int32)) A at_103 rfl (by decide) hpp.symm ?_
          refine s_istore (pc' := 106) (Ls' := #[iv q0, jv q1, S2, jv q2, S2, jv q3, S2, iv q4, jv q5, S2, rv b2, iv 1, iv 2, U0]) A at_104 rfl rfl ?_
          refine s_aload (pc' := 108) A at_106 rfl rfl rfl ?_
          refine s_iload (pc' := 110) A at_108 rfl rfl ?_
          refine s_lload (pc' := 112) A at_110 rfl rfl ?_
          refine s_virtual (pc' := 115) (y := y7_put) (argsL := [(.int (2 : Int32)), (.long q5)]) (rest := []) (z := y7_put) A E831 (gq_put17 l Z a0 hw n0 h828 A.size b2 r12 r13 r14 (1 : Int32) (0 : Int32) (0 : Int32) (0 : Int64) q2 (0 : Int64) q5 ⟨E831, F832, F833, F834, F835, V836, V837, V838, ne839, ne840, ne841, ne842, ne843, ne844, ge845, ge846, ge847, ge848⟩) (w39 hw) (w40 hw) (nf_same (C := "") (w42 hw)) (w42 hw) (w41 hw) (w2 hw) (w43 hw) (by decide) pd__IJ_V rfl (W := 0) (by decide) (by decide) (Nat.le_of_eq rfl) (by decide) (by decide) rfl rfl at_112 rfl fun T h989 v990 A Q991 => ?_
          obtain ⟨rfl, K987, H988⟩ := Q991
          obtain ⟨E992, F993, F994, F995, F996, V997, V998, V999, ne1000, ne1001, ne1002, ne1003, ne1004, ne1005, ge1006, ge1007, ge1008, ge1009⟩ := H988
          refine Wp.stk (st' := []) rfl ?_
          refine s_aload (pc' := 117) A at_115 rfl rfl rfl ?_
          refine s_virtual (pc' := 120) (y := y9_poll) (argsL := []) (rest := []) (z := y9_poll) A E992 (gq_poll20 l Z a0 hw n0 h989 A.size b2 r12 r13 r14 (0 : Int32) (0 : Int32) [.long (0 : Int64), .long q2, .long q5] ⟨E992, F993, F994, F995, F996, V997, V998, V999, ne1000, ne1001, ne1002, ne1003, ne1004, ne1005, ge1006, ge1007, ge1008, ge1009⟩) (w53 hw) (w54 hw) (nf_same (C := "") (w56 hw)) (w56 hw) (w55 hw) (w2 hw) (w57 hw) (by decide) pd___I rfl (W := 0) (by decide) (by decide) (Nat.le_of_eq rfl) (by decide) (by decide) rfl rfl at_117 rfl fun T h1012 v1013 A Q1014 => ?_
          obtain ⟨rfl, K1010, H1011⟩ := Q1014
          obtain ⟨E1015, F1016, F1017, F1018, F1019, V1020, V1021, V1022, ne1023, ne1024, ne1025, ne1026, ne1027, ne1028, ge1029, ge1030, ge1031, ge1032⟩ := H1011
          refine Wp.stk (st' := [(.int (2 : Int32))]) rfl ?_
          refine s_iload (pc' := 122) A at_120 rfl rfl ?_
          refine s_icmpN (pc' := 125) A at_122 rfl (by decide) ?_
          refine s_aload (pc' := 127) A at_125 rfl rfl rfl ?_
          refine s_virtual (pc' := 130) (y := y3_isEmpty) (argsL := []) (rest := []) (z := y3_isEmpty) A E1015 (gq_isEmpty3 l Z a0 hw n0 h1012 A.size b2 r12 r13 r14 [.int (2 : Int32), .int (0 : Int32), .int (0 : Int32)] [.long (0 : Int64), .long q2, .long q5] [.int (-1 : Int32), .int (-1 : Int32), .int (-1 : Int32)] ⟨E1015, F1016, F1017, F1018, F1019, V1020, V1021, V1022, ne1023, ne1024, ne1025, ne1026, ne1027, ne1028, ge1029, ge1030, ge1031, ge1032⟩) (w28 hw) (w29 hw) (nf_same (C := "") (w31 hw)) (w31 hw) (w30 hw) (w2 hw) (w32 hw) (by decide) pd___Z rfl (W := 0) (by decide) (by decide) (Nat.le_of_eq rfl) (by decide) (by decide) rfl rfl at_127 rfl fun T h1035 v1036 A Q1037 => ?_
          obtain ⟨rfl, K1033, H1034⟩ := Q1037
          obtain ⟨E1038, F1039, F1040, F1041, F1042, V1043, V1044, V1045, ne1046, ne1047, ne1048, ne1049, ne1050, ne1051, ge1052, ge1053, ge1054, ge1055⟩ := H1034
          refine Wp.stk (st' := [(.int (1 : Int32))]) rfl ?_
          refine s_ifN (pc' := 133) A at_130 rfl (by decide) ?_
          refine s_iconst (pc' := 134) (z := (1 : Int32)) A at_133 rfl (by decide) ?_
          refine s_goto (pc' := 138) A at_134 (by decide) (by decide) ?_
          refine s_istore (pc' := 140) (Ls' := #[iv q0, jv q1, S2, jv q2, S2, jv q3, S2, iv q4, jv q5, S2, rv b2, iv 1, iv 2, iv 1]) A at_138 rfl rfl ?_
          refine s_iload (pc' := 142) A at_140 rfl rfl ?_
          refine s_ifN (pc' := 145) A at_142 rfl (by decide) ?_
          refine s_iload (pc' := 147) A at_145 rfl rfl ?_
          refine s_ifN (pc' := 150) A at_147 rfl (by decide) ?_
          refine s_iconst (pc' := 151) (z := (1 : Int32)) A at_150 rfl (by decide) ?_
          refine s_goto (pc' := 155) A at_151 (by decide) (by decide) ?_
          exact r_bool A rfl (by decide) at_155 (by decide) (by decide) (rfl)
      ·
        refine s_ifN (pc' := 42) A at_39 rfl ((if0 _ _).trans (feq hc39_1).1) ?_
        refine s_aload (pc' := 44) A at_42 rfl rfl rfl ?_
        refine s_iconst (pc' := 45) (z := (2 : Int32)) A at_44 rfl (by decide) ?_
        refine s_lload (pc' := 47) A at_45 rfl rfl ?_
        by_cases hk47 : q2 < q3
        ·
          refine s_virtual (pc' := 50) (y := y7_put) (argsL := [(.int (2 : Int32)), (.long q3)]) (rest := []) (z := y7_put) A E716 (gq_put24 l Z a0 hw n0 h713 A.size b2 r12 r13 r14 q2 q3 ⟨E716, F717, F718, F719, F720, V721, V722, V723, ne724, ne725, ne726, ne727, ne728, ne729, ge730, ge731, ge732, ge733⟩ hk47) (w39 hw) (w40 hw) (nf_same (C := "") (w42 hw)) (w42 hw) (w41 hw) (w2 hw) (w43 hw) (by decide) pd__IJ_V rfl (W := 0) (by decide) (by decide) (Nat.le_of_eq rfl) (by decide) (by decide) rfl rfl at_47 rfl fun T h1058 v1059 A Q1060 => ?_
          obtain ⟨rfl, K1056, H1057⟩ := Q1060
          obtain ⟨E1061, F1062, F1063, F1064, F1065, V1066, V1067, V1068, ne1069, ne1070, ne1071, ne1072, ne1073, ne1074, ge1075, ge1076, ge1077, ge1078⟩ := H1057
          refine Wp.stk (st' := []) rfl ?_
          refine s_aload (pc' := 52) A at_50 rfl rfl rfl ?_
          refine s_virtual (pc' := 55) (y := y2_clear) (argsL := []) (rest := []) (z := y2_clear) A E1061 (gq_clear30 l Z a0 hw n0 h1058 A.size b2 r12 r13 r14 [.long (0 : Int64), .long q2, .long q3] ⟨E1061, F1062, F1063, F1064, F1065, V1066, V1067, V1068, ne1069, ne1070, ne1071, ne1072, ne1073, ne1074, ge1075, ge1076, ge1077, ge1078⟩) (w23 hw) (w24 hw) (nf_same (C := "") (w26 hw)) (w26 hw) (w25 hw) (w2 hw) (w27 hw) (by decide) pd___V rfl (W := 0) (by decide) (by decide) (Nat.le_of_eq rfl) (by decide) (by decide) rfl rfl at_52 rfl fun T h1081 v1082 A Q1083 => ?_
          obtain ⟨rfl, K1079, H1080⟩ := Q1083
          obtain ⟨E1084, F1085, F1086, F1087, F1088, V1089, V1090, V1091, ne1092, ne1093, ne1094, ne1095, ne1096, ne1097, ge1098, ge1099, ge1100, ge1101⟩ := H1080
          refine Wp.stk (st' := []) rfl ?_
          refine s_aload (pc' := 57) A at_55 rfl rfl rfl ?_
          refine s_virtual (pc' := 60) (y := y3_isEmpty) (argsL := []) (rest := []) (z := y3_isEmpty) A E1084 (gq_isEmpty3 l Z a0 hw n0 h1081 A.size b2 r12 r13 r14 [.int (2 : Int32), .int (1 : Int32), .int (0 : Int32)] [.long (0 : Int64), .long q2, .long q3] [.int (-1 : Int32), .int (-1 : Int32), .int (-1 : Int32)] ⟨E1084, F1085, F1086, F1087, F1088, V1089, V1090, V1091, ne1092, ne1093, ne1094, ne1095, ne1096, ne1097, ge1098, ge1099, ge1100, ge1101⟩) (w28 hw) (w29 hw) (nf_same (C := "") (w31 hw)) (w31 hw) (w30 hw) (w2 hw) (w32 hw) (by decide) pd___Z rfl (W := 0) (by decide) (by decide) (Nat.le_of_eq rfl) (by decide) (by decide) rfl rfl at_57 rfl fun T h1104 v1105 A Q1106 => ?_
          obtain ⟨rfl, K1102, H1103⟩ := Q1106
          obtain ⟨E1107, F1108, F1109, F1110, F1111, V1112, V1113, V1114, ne1115, ne1116, ne1117, ne1118, ne1119, ne1120, ge1121, ge1122, ge1123, ge1124⟩ := H1103
          refine Wp.stk (st' := [(.int (1 : Int32))]) rfl ?_
          refine s_ifN (pc' := 63) A at_60 rfl (by decide) ?_
          refine s_aload (pc' := 65) A at_63 rfl rfl rfl ?_
          refine s_iconst (pc' := 66) (z := (0 : Int32)) A at_65 rfl (by decide) ?_
          refine s_virtual (pc' := 69) (y := y4_contains) (argsL := [(.int (0 : Int32))]) (rest := []) (z := y4_contains) A E1107 (gq_contains4 l Z a0 hw n0 h1104 A.size b2 r12 r13 r14 [.int (2 : Int32), .int (1 : Int32), .int (0 : Int32)] [.long (0 : Int64), .long q2, .long q3] ⟨E1107, F1108, F1109, F1110, F1111, V1112, V1113, V1114, ne1115, ne1116, ne1117, ne1118, ne1119, ne1120, ge1121, ge1122, ge1123, ge1124⟩) (w33 hw) (w34 hw) (nf_same (C := "") (w36 hw)) (w36 hw) (w35 hw) (w2 hw) (w37 hw) (by decide) pd__I_Z rfl (W := 0) (by decide) (by decide) (Nat.le_of_eq rfl) (by decide) (by decide) rfl rfl at_66 rfl fun T h1127 v1128 A Q1129 => ?_
          obtain ⟨rfl, K1125, H1126⟩ := Q1129
          obtain ⟨E1130, F1131, F1132, F1133, F1134, V1135, V1136, V1137, ne1138, ne1139, ne1140, ne1141, ne1142, ne1143, ge1144, ge1145, ge1146, ge1147⟩ := H1126
          refine Wp.stk (st' := [(.int (0 : Int32))]) rfl ?_
          refine s_ifN (pc' := 72) A at_69 rfl (by decide) ?_
          refine s_aload (pc' := 74) A at_72 rfl rfl rfl ?_
          refine s_iconst (pc' := 75) (z := (1 : Int32)) A at_74 rfl (by decide) ?_
          refine s_virtual (pc' := 78) (y := y4_contains) (argsL := [(.int (1 : Int32))]) (rest := []) (z := y4_contains) A E1130 (gq_contains5 l Z a0 hw n0 h1127 A.size b2 r12 r13 r14 [.int (2 : Int32), .int (1 : Int32), .int (0 : Int32)] [.long (0 : Int64), .long q2, .long q3] ⟨E1130, F1131, F1132, F1133, F1134, V1135, V1136, V1137, ne1138, ne1139, ne1140, ne1141, ne1142, ne1143, ge1144, ge1145, ge1146, ge1147⟩) (w33 hw) (w34 hw) (nf_same (C := "") (w36 hw)) (w36 hw) (w35 hw) (w2 hw) (w37 hw) (by decide) pd__I_Z rfl (W := 0) (by decide) (by decide) (Nat.le_of_eq rfl) (by decide) (by decide) rfl rfl at_75 rfl fun T h1150 v1151 A Q1152 => ?_
          obtain ⟨rfl, K1148, H1149⟩ := Q1152
          obtain ⟨E1153, F1154, F1155, F1156, F1157, V1158, V1159, V1160, ne1161, ne1162, ne1163, ne1164, ne1165, ne1166, ge1167, ge1168, ge1169, ge1170⟩ := H1149
          refine Wp.stk (st' := [(.int (0 : Int32))]) rfl ?_
          refine s_ifN (pc' := 81) A at_78 rfl (by decide) ?_
          refine s_aload (pc' := 83) A at_81 rfl rfl rfl ?_
          refine s_iconst (pc' := 84) (z := (2 : Int32)) A at_83 rfl (by decide) ?_
          refine s_virtual (pc' := 87) (y := y4_contains) (argsL := [(.int (2 : Int32))]) (rest := []) (z := y4_contains) A E1153 (gq_contains6 l Z a0 hw n0 h1150 A.size b2 r12 r13 r14 [.int (2 : Int32), .int (1 : Int32), .int (0 : Int32)] [.long (0 : Int64), .long q2, .long q3] ⟨E1153, F1154, F1155, F1156, F1157, V1158, V1159, V1160, ne1161, ne1162, ne1163, ne1164, ne1165, ne1166, ge1167, ge1168, ge1169, ge1170⟩) (w33 hw) (w34 hw) (nf_same (C := "") (w36 hw)) (w36 hw) (w35 hw) (w2 hw) (w37 hw) (by decide) pd__I_Z rfl (W := 0) (by decide) (by decide) (Nat.le_of_eq rfl) (by decide) (by decide) rfl rfl at_84 rfl fun T h1173 v1174 A Q1175 => ?_
          obtain ⟨rfl, K1171, H1172⟩ := Q1175
          obtain ⟨E1176, F1177, F1178, F1179, F1180, V1181, V1182, V1183, ne1184, ne1185, ne1186, ne1187, ne1188, ne1189, ge1190, ge1191, ge1192, ge1193⟩ := H1172
          refine Wp.stk (st' := [(.int (0 : Int32))]) rfl ?_
          refine s_ifN (pc' := 90) A at_87 rfl (by decide) ?_
          refine s_iconst (pc' := 91) (z := (1 : Int32)) A at_90 rfl (by decide) ?_
          refine s_goto (pc' := 95) A at_91 (by decide) (by decide) ?_
          refine s_istore (pc' := 97) (Ls' := #[iv q0, jv q1, S2, jv q2, S2, jv q3, S2, iv q4, jv q5, S2, rv b2, iv 1, U0, U0]) A at_95 rfl rfl ?_
          refine s_iload (pc' := 99) A at_97 rfl rfl ?_
          refine s_ldcInt (pc' := 101) A at_99 rfl (w38 hw) ?_
          refine s_iand (pc' := 102) (z := (q4 &&& (2147483647 : Int32))) A at_101 rfl rfl ?_
          refine s_iconst (pc' := 103) (z := (3 : Int32)) A at_102 rfl (by decide) ?_
          obtain ⟨pp, hpp⟩ : ∃ z, z = ((q4 &&& (2147483647 : Int32)) % (3 : Int32)) := ⟨_, rfl⟩
          have cp := own_p q4
          rw [← hpp] at cp
          rcases cp with rfl | rfl | rfl
          ·
            refine s_irem (pc' := 104) (z := (0 : Int32)) A at_103 rfl (by decide) hpp.symm ?_
            refine s_istore (pc' := 106) (Ls' := #[iv q0, jv q1, S2, jv q2, S2, jv q3, S2, iv q4, jv q5, S2, rv b2, iv 1, iv 0, U0]) A at_104 rfl rfl ?_
            refine s_aload (pc' := 108) A at_106 rfl rfl rfl ?_
            refine s_iload (pc' := 110) A at_108 rfl rfl ?_
            refine s_lload (pc' := 112) A at_110 rfl rfl ?_
            refine s_virtual (pc' := 115) (y := y7_put) (argsL := [(.int (0 : Int32)), (.long q5)]) (rest := []) (z := y7_put) A E1176 (gq_put7 l Z a0 hw n0 h1173 A.size b2 r12 r13 r14 (2 : Int32) (1 : Int32) (0 : Int32) (0 : Int64) q2 q3 q5 ⟨E1176, F1177, F1178, F1179, F1180, V1181, V1182, V1183, ne1184, ne1185, ne1186, ne1187, ne1188, ne1189, ge1190, ge1191, ge1192, ge1193⟩) (w39 hw) (w40 hw) (nf_same (C := "") (w42 hw)) (w42 hw) (w41 hw) (w2 hw) (w43 hw) (by decide) pd__IJ_V rfl (W := 0) (by decide) (by decide) (Nat.le_of_eq rfl) (by decide) (by decide) rfl rfl at_112 rfl fun T h1196 v1197 A Q1198 => ?_
            obtain ⟨rfl, K1194, H1195⟩ := Q1198
            obtain ⟨E1199, F1200, F1201, F1202, F1203, V1204, V1205, V1206, ne1207, ne1208, ne1209, ne1210, ne1211, ne1212, ge1213, ge1214, ge1215, ge1216⟩ := H1195
            refine Wp.stk (st' := []) rfl ?_
            refine s_aload (pc' := 117) A at_115 rfl rfl rfl ?_
            refine s_virtual (pc' := 120) (y := y9_poll) (argsL := []) (rest := []) (z := y9_poll) A E1199 (gq_poll10 l Z a0 hw n0 h1196 A.size b2 r12 r13 r14 (1 : Int32) (0 : Int32) [.long q5, .long q2, .long q3] ⟨E1199, F1200, F1201, F1202, F1203, V1204, V1205, V1206, ne1207, ne1208, ne1209, ne1210, ne1211, ne1212, ge1213, ge1214, ge1215, ge1216⟩) (w53 hw) (w54 hw) (nf_same (C := "") (w56 hw)) (w56 hw) (w55 hw) (w2 hw) (w57 hw) (by decide) pd___I rfl (W := 0) (by decide) (by decide) (Nat.le_of_eq rfl) (by decide) (by decide) rfl rfl at_117 rfl fun T h1219 v1220 A Q1221 => ?_
            obtain ⟨rfl, K1217, H1218⟩ := Q1221
            obtain ⟨E1222, F1223, F1224, F1225, F1226, V1227, V1228, V1229, ne1230, ne1231, ne1232, ne1233, ne1234, ne1235, ge1236, ge1237, ge1238, ge1239⟩ := H1218
            refine Wp.stk (st' := [(.int (0 : Int32))]) rfl ?_
            refine s_iload (pc' := 122) A at_120 rfl rfl ?_
            refine s_icmpN (pc' := 125) A at_122 rfl (by decide) ?_
            refine s_aload (pc' := 127) A at_125 rfl rfl rfl ?_
            refine s_virtual (pc' := 130) (y := y3_isEmpty) (argsL := []) (rest := []) (z := y3_isEmpty) A E1222 (gq_isEmpty3 l Z a0 hw n0 h1219 A.size b2 r12 r13 r14 [.int (0 : Int32), .int (1 : Int32), .int (0 : Int32)] [.long q5, .long q2, .long q3] [.int (-1 : Int32), .int (-1 : Int32), .int (-1 : Int32)] ⟨E1222, F1223, F1224, F1225, F1226, V1227, V1228, V1229, ne1230, ne1231, ne1232, ne1233, ne1234, ne1235, ge1236, ge1237, ge1238, ge1239⟩) (w28 hw) (w29 hw) (nf_same (C := "") (w31 hw)) (w31 hw) (w30 hw) (w2 hw) (w32 hw) (by decide) pd___Z rfl (W := 0) (by decide) (by decide) (Nat.le_of_eq rfl) (by decide) (by decide) rfl rfl at_127 rfl fun T h1242 v1243 A Q1244 => ?_
            obtain ⟨rfl, K1240, H1241⟩ := Q1244
            obtain ⟨E1245, F1246, F1247, F1248, F1249, V1250, V1251, V1252, ne1253, ne1254, ne1255, ne1256, ne1257, ne1258, ge1259, ge1260, ge1261, ge1262⟩ := H1241
            refine Wp.stk (st' := [(.int (1 : Int32))]) rfl ?_
            refine s_ifN (pc' := 133) A at_130 rfl (by decide) ?_
            refine s_iconst (pc' := 134) (z := (1 : Int32)) A at_133 rfl (by decide) ?_
            refine s_goto (pc' := 138) A at_134 (by decide) (by decide) ?_
            refine s_istore (pc' := 140) (Ls' := #[iv q0, jv q1, S2, jv q2, S2, jv q3, S2, iv q4, jv q5, S2, rv b2, iv 1, iv 0, iv 1]) A at_138 rfl rfl ?_
            refine s_iload (pc' := 142) A at_140 rfl rfl ?_
            refine s_ifN (pc' := 145) A at_142 rfl (by decide) ?_
            refine s_iload (pc' := 147) A at_145 rfl rfl ?_
            refine s_ifN (pc' := 150) A at_147 rfl (by decide) ?_
            refine s_iconst (pc' := 151) (z := (1 : Int32)) A at_150 rfl (by decide) ?_
            refine s_goto (pc' := 155) A at_151 (by decide) (by decide) ?_
            exact r_bool A rfl (by decide) at_155 (by decide) (by decide) (rfl)
          ·
            refine s_irem (pc' := 104) (z := (1 : Int32)) A at_103 rfl (by decide) hpp.symm ?_
            refine s_istore (pc' := 106) (Ls' := #[iv q0, jv q1, S2, jv q2, S2, jv q3, S2, iv q4, jv q5, S2, rv b2, iv 1, iv 1, U0]) A at_104 rfl rfl ?_
            refine s_aload (pc' := 108) A at_106 rfl rfl rfl ?_
            refine s_iload (pc' := 110) A at_108 rfl rfl ?_
            refine s_lload (pc' := 112) A at_110 rfl rfl ?_
            refine s_virtual (pc' := 115) (y := y7_put) (argsL := [(.int (1 : Int32)), (.long q5)]) (rest := []) (z := y7_put) A E1176 (gq_put12 l Z a0 hw n0 h1173 A.size b2 r12 r13 r14 (2 : Int32) (1 : Int32) (0 : Int32) (0 : Int64) q2 q3 q5 ⟨E1176, F1177, F1178, F1179, F1180, V1181, V1182, V1183, ne1184, ne1185, ne1186, ne1187, ne1188, ne1189, ge1190, ge1191, ge1192, ge1193⟩) (w39 hw) (w40 hw) (nf_same (C := "") (w42 hw)) (w42 hw) (w41 hw) (w2 hw) (w43 hw) (by decide) pd__IJ_V rfl (W := 0) (by decide) (by decide) (Nat.le_of_eq rfl) (by decide) (by decide) rfl rfl at_112 rfl fun T h1265 v1266 A Q1267 => ?_
            obtain ⟨rfl, K1263, H1264⟩ := Q1267
            obtain ⟨E1268, F1269, F1270, F1271, F1272, V1273, V1274, V1275, ne1276, ne1277, ne1278, ne1279, ne1280, ne1281, ge1282, ge1283, ge1284, ge1285⟩ := H1264
            refine Wp.stk (st' := []) rfl ?_
            refine s_aload (pc' := 117) A at_115 rfl rfl rfl ?_
            refine s_virtual (pc' := 120) (y := y9_poll) (argsL := []) (rest := []) (z := y9_poll) A E1268 (gq_poll15 l Z a0 hw n0 h1265 A.size b2 r12 r13 r14 (1 : Int32) (0 : Int32) [.long (0 : Int64), .long q5, .long q3] ⟨E1268, F1269, F1270, F1271, F1272, V1273, V1274, V1275, ne1276, ne1277, ne1278, ne1279, ne1280, ne1281, ge1282, ge1283, ge1284, ge1285⟩) (w53 hw) (w54 hw) (nf_same (C := "") (w56 hw)) (w56 hw) (w55 hw) (w2 hw) (w57 hw) (by decide) pd___I rfl (W := 0) (by decide) (by decide) (Nat.le_of_eq rfl) (by decide) (by decide) rfl rfl at_117 rfl fun T h1288 v1289 A Q1290 => ?_
            obtain ⟨rfl, K1286, H1287⟩ := Q1290
            obtain ⟨E1291, F1292, F1293, F1294, F1295, V1296, V1297, V1298, ne1299, ne1300, ne1301, ne1302, ne1303, ne1304, ge1305, ge1306, ge1307, ge1308⟩ := H1287
            refine Wp.stk (st' := [(.int (1 : Int32))]) rfl ?_
            refine s_iload (pc' := 122) A at_120 rfl rfl ?_
            refine s_icmpN (pc' := 125) A at_122 rfl (by decide) ?_
            refine s_aload (pc' := 127) A at_125 rfl rfl rfl ?_
            refine s_virtual (pc' := 130) (y := y3_isEmpty) (argsL := []) (rest := []) (z := y3_isEmpty) A E1291 (gq_isEmpty3 l Z a0 hw n0 h1288 A.size b2 r12 r13 r14 [.int (1 : Int32), .int (1 : Int32), .int (0 : Int32)] [.long (0 : Int64), .long q5, .long q3] [.int (-1 : Int32), .int (-1 : Int32), .int (-1 : Int32)] ⟨E1291, F1292, F1293, F1294, F1295, V1296, V1297, V1298, ne1299, ne1300, ne1301, ne1302, ne1303, ne1304, ge1305, ge1306, ge1307, ge1308⟩) (w28 hw) (w29 hw) (nf_same (C := "") (w31 hw)) (w31 hw) (w30 hw) (w2 hw) (w32 hw) (by decide) pd___Z rfl (W := 0) (by decide) (by decide) (Nat.le_of_eq rfl) (by decide) (by decide) rfl rfl at_127 rfl fun T h1311 v1312 A Q1313 => ?_
            obtain ⟨rfl, K1309, H1310⟩ := Q1313
            obtain ⟨E1314, F1315, F1316, F1317, F1318, V1319, V1320, V1321, ne1322, ne1323, ne1324, ne1325, ne1326, ne1327, ge1328, ge1329, ge1330, ge1331⟩ := H1310
            refine Wp.stk (st' := [(.int (1 : Int32))]) rfl ?_
            refine s_ifN (pc' := 133) A at_130 rfl (by decide) ?_
            refine s_iconst (pc' := 134) (z := (1 : Int32)) A at_133 rfl (by decide) ?_
            refine s_goto (pc' := 138) A at_134 (by decide) (by decide) ?_
            refine s_istore (pc' := 140) (Ls' := #[iv q0, jv q1, S2, jv q2, S2, jv q3, S2, iv q4, jv q5, S2, rv b2, iv 1, iv 1, iv 1]) A at_138 rfl rfl ?_
            refine s_iload (pc' := 142) A at_140 rfl rfl ?_
            refine s_ifN (pc' := 145) A at_142 rfl (by decide) ?_
            refine s_iload (pc' := 147) A at_145 rfl rfl ?_
            refine s_ifN (pc' := 150) A at_147 rfl (by decide) ?_
            refine s_iconst (pc' := 151) (z := (1 : Int32)) A at_150 rfl (by decide) ?_
            refine s_goto (pc' := 155) A at_151 (by decide) (by decide) ?_
            exact r_bool A rfl (by decide) at_155 (by decide) (by decide) (rfl)
          ·
            refine s_irem (pc' := 104) (z := (2 : Int32)) A at_103 rfl (by decide) hpp.symm ?_
            refine s_istore (pc' := 106) (Ls' := #[iv q0, jv q1, S2, jv q2, S2, jv q3, S2, iv q4, jv q5, S2, rv b2, iv 1, iv 2, U0]) A at_104 rfl rfl ?_
            refine s_aload (pc' := 108) A at_106 rfl rfl rfl ?_
            refine s_iload (pc' := 110) A at_108 rfl rfl ?_
            refine s_lload (pc' := 112) A at_110 rfl rfl ?_
            refine s_virtual (pc' := 115) (y := y7_put) (argsL := [(.int (2 : Int32)), (.long q5)]) (rest := []) (z := y7_put) A E1176 (gq_put17 l Z a0 hw n0 h1173 A.size b2 r12 r13 r14 (2 : Int32) (1 : Int32) (0 : Int32) (0 : Int64) q2 q3 q5 ⟨E1176, F1177, F1178, F1179, F1180, V1181, V1182, V1183, ne1184, ne1185, ne1186, ne1187, ne1188, ne1189, ge1190, ge1191, ge1192, ge1193⟩) (w39 hw) (w40 hw) (nf_same (C := "") (w42 hw)) (w42 hw) (w41 hw) (w2 hw) (w43 hw) (by decide) pd__IJ_V rfl (W := 0) (by decide) (by decide) (Nat.le_of_eq rfl) (by decide) (by decide) rfl rfl at_112 rfl fun T h1334 v1335 A Q1336 => ?_
            obtain ⟨rfl, K1332, H1333⟩ := Q1336
            obtain ⟨E1337, F1338, F1339, F1340, F1341, V1342, V1343, V1344, ne1345, ne1346, ne1347, ne1348, ne1349, ne1350, ge1351, ge1352, ge1353, ge1354⟩ := H1333
            refine Wp.stk (st' := []) rfl ?_
            refine s_aload (pc' := 117) A at_115 rfl rfl rfl ?_
            refine s_virtual (pc' := 120) (y := y9_poll) (argsL := []) (rest := []) (z := y9_poll) A E1337 (gq_poll20 l Z a0 hw n0 h1334 A.size b2 r12 r13 r14 (1 : Int32) (0 : Int32) [.long (0 : Int64), .long q2, .long q5] ⟨E1337, F1338, F1339, F1340, F1341, V1342, V1343, V1344, ne1345, ne1346, ne1347, ne1348, ne1349, ne1350, ge1351, ge1352, ge1353, ge1354⟩) (w53 hw) (w54 hw) (nf_same (C := "") (w56 hw)) (w56 hw) (w55 hw) (w2 hw) (w57 hw) (by decide) pd___I rfl (W := 0) (by decide) (by decide) (Nat.le_of_eq rfl) (by decide) (by decide) rfl rfl at_117 rfl fun T h1357 v1358 A Q1359 => ?_
            obtain ⟨rfl, K1355, H1356⟩ := Q1359
            obtain ⟨E1360, F1361, F1362, F1363, F1364, V1365, V1366, V1367, ne1368, ne1369, ne1370, ne1371, ne1372, ne1373, ge1374, ge1375, ge1376, ge1377⟩ := H1356
            refine Wp.stk (st' := [(.int (2 : Int32))]) rfl ?_
            refine s_iload (pc' := 122) A at_120 rfl rfl ?_
            refine s_icmpN (pc' := 125) A at_122 rfl (by decide) ?_
            refine s_aload (pc' := 127) A at_125 rfl rfl rfl ?_
            refine s_virtual (pc' := 130) (y := y3_isEmpty) (argsL := []) (rest := []) (z := y3_isEmpty) A E1360 (gq_isEmpty3 l Z a0 hw n0 h1357 A.size b2 r12 r13 r14 [.int (2 : Int32), .int (1 : Int32), .int (0 : Int32)] [.long (0 : Int64), .long q2, .long q5] [.int (-1 : Int32), .int (-1 : Int32), .int (-1 : Int32)] ⟨E1360, F1361, F1362, F1363, F1364, V1365, V1366, V1367, ne1368, ne1369, ne1370, ne1371, ne1372, ne1373, ge1374, ge1375, ge1376, ge1377⟩) (w28 hw) (w29 hw) (nf_same (C := "") (w31 hw)) (w31 hw) (w30 hw) (w2 hw) (w32 hw) (by decide) pd___Z rfl (W := 0) (by decide) (by decide) (Nat.le_of_eq rfl) (by decide) (by decide) rfl rfl at_127 rfl fun T h1380 v1381 A Q1382 => ?_
            obtain ⟨rfl, K1378, H1379⟩ := Q1382
            obtain ⟨E1383, F1384, F1385, F1386, F1387, V1388, V1389, V1390, ne1391, ne1392, ne1393, ne1394, ne1395, ne1396, ge1397, ge1398, ge1399, ge1400⟩ := H1379
            refine Wp.stk (st' := [(.int (1 : Int32))]) rfl ?_
            refine s_ifN (pc' := 133) A at_130 rfl (by decide) ?_
            refine s_iconst (pc' := 134) (z := (1 : Int32)) A at_133 rfl (by decide) ?_
            refine s_goto (pc' := 138) A at_134 (by decide) (by decide) ?_
            refine s_istore (pc' := 140) (Ls' := #[iv q0, jv q1, S2, jv q2, S2, jv q3, S2, iv q4, jv q5, S2, rv b2, iv 1, iv 2, iv 1]) A at_138 rfl rfl ?_
            refine s_iload (pc' := 142) A at_140 rfl rfl ?_
            refine s_ifN (pc' := 145) A at_142 rfl (by decide) ?_
            refine s_iload (pc' := 147) A at_145 rfl rfl ?_
            refine s_ifN (pc' := 150) A at_147 rfl (by decide) ?_
            refine s_iconst (pc' := 151) (z := (1 : Int32)) A at_150 rfl (by decide) ?_
            refine s_goto (pc' := 155) A at_151 (by decide) (by decide) ?_
            exact r_bool A rfl (by decide) at_155 (by decide) (by decide) (rfl)
        ·
          refine s_virtual (pc' := 50) (y := y7_put) (argsL := [(.int (2 : Int32)), (.long q3)]) (rest := []) (z := y7_put) A E716 (gq_put31 l Z a0 hw n0 h713 A.size b2 r12 r13 r14 q2 q3 ⟨E716, F717, F718, F719, F720, V721, V722, V723, ne724, ne725, ne726, ne727, ne728, ne729, ge730, ge731, ge732, ge733⟩ hk47) (w39 hw) (w40 hw) (nf_same (C := "") (w42 hw)) (w42 hw) (w41 hw) (w2 hw) (w43 hw) (by decide) pd__IJ_V rfl (W := 0) (by decide) (by decide) (Nat.le_of_eq rfl) (by decide) (by decide) rfl rfl at_47 rfl fun T h1403 v1404 A Q1405 => ?_
          obtain ⟨rfl, K1401, H1402⟩ := Q1405
          obtain ⟨E1406, F1407, F1408, F1409, F1410, V1411, V1412, V1413, ne1414, ne1415, ne1416, ne1417, ne1418, ne1419, ge1420, ge1421, ge1422, ge1423⟩ := H1402
          refine Wp.stk (st' := []) rfl ?_
          refine s_aload (pc' := 52) A at_50 rfl rfl rfl ?_
          refine s_virtual (pc' := 55) (y := y2_clear) (argsL := []) (rest := []) (z := y2_clear) A E1406 (gq_clear35 l Z a0 hw n0 h1403 A.size b2 r12 r13 r14 [.long (0 : Int64), .long q2, .long q3] ⟨E1406, F1407, F1408, F1409, F1410, V1411, V1412, V1413, ne1414, ne1415, ne1416, ne1417, ne1418, ne1419, ge1420, ge1421, ge1422, ge1423⟩) (w23 hw) (w24 hw) (nf_same (C := "") (w26 hw)) (w26 hw) (w25 hw) (w2 hw) (w27 hw) (by decide) pd___V rfl (W := 0) (by decide) (by decide) (Nat.le_of_eq rfl) (by decide) (by decide) rfl rfl at_52 rfl fun T h1426 v1427 A Q1428 => ?_
          obtain ⟨rfl, K1424, H1425⟩ := Q1428
          obtain ⟨E1429, F1430, F1431, F1432, F1433, V1434, V1435, V1436, ne1437, ne1438, ne1439, ne1440, ne1441, ne1442, ge1443, ge1444, ge1445, ge1446⟩ := H1425
          refine Wp.stk (st' := []) rfl ?_
          refine s_aload (pc' := 57) A at_55 rfl rfl rfl ?_
          refine s_virtual (pc' := 60) (y := y3_isEmpty) (argsL := []) (rest := []) (z := y3_isEmpty) A E1429 (gq_isEmpty3 l Z a0 hw n0 h1426 A.size b2 r12 r13 r14 [.int (1 : Int32), .int (2 : Int32), .int (0 : Int32)] [.long (0 : Int64), .long q2, .long q3] [.int (-1 : Int32), .int (-1 : Int32), .int (-1 : Int32)] ⟨E1429, F1430, F1431, F1432, F1433, V1434, V1435, V1436, ne1437, ne1438, ne1439, ne1440, ne1441, ne1442, ge1443, ge1444, ge1445, ge1446⟩) (w28 hw) (w29 hw) (nf_same (C := "") (w31 hw)) (w31 hw) (w30 hw) (w2 hw) (w32 hw) (by decide) pd___Z rfl (W := 0) (by decide) (by decide) (Nat.le_of_eq rfl) (by decide) (by decide) rfl rfl at_57 rfl fun T h1449 v1450 A Q1451 => ?_
          obtain ⟨rfl, K1447, H1448⟩ := Q1451
          obtain ⟨E1452, F1453, F1454, F1455, F1456, V1457, V1458, V1459, ne1460, ne1461, ne1462, ne1463, ne1464, ne1465, ge1466, ge1467, ge1468, ge1469⟩ := H1448
          refine Wp.stk (st' := [(.int (1 : Int32))]) rfl ?_
          refine s_ifN (pc' := 63) A at_60 rfl (by decide) ?_
          refine s_aload (pc' := 65) A at_63 rfl rfl rfl ?_
          refine s_iconst (pc' := 66) (z := (0 : Int32)) A at_65 rfl (by decide) ?_
          refine s_virtual (pc' := 69) (y := y4_contains) (argsL := [(.int (0 : Int32))]) (rest := []) (z := y4_contains) A E1452 (gq_contains4 l Z a0 hw n0 h1449 A.size b2 r12 r13 r14 [.int (1 : Int32), .int (2 : Int32), .int (0 : Int32)] [.long (0 : Int64), .long q2, .long q3] ⟨E1452, F1453, F1454, F1455, F1456, V1457, V1458, V1459, ne1460, ne1461, ne1462, ne1463, ne1464, ne1465, ge1466, ge1467, ge1468, ge1469⟩) (w33 hw) (w34 hw) (nf_same (C := "") (w36 hw)) (w36 hw) (w35 hw) (w2 hw) (w37 hw) (by decide) pd__I_Z rfl (W := 0) (by decide) (by decide) (Nat.le_of_eq rfl) (by decide) (by decide) rfl rfl at_66 rfl fun T h1472 v1473 A Q1474 => ?_
          obtain ⟨rfl, K1470, H1471⟩ := Q1474
          obtain ⟨E1475, F1476, F1477, F1478, F1479, V1480, V1481, V1482, ne1483, ne1484, ne1485, ne1486, ne1487, ne1488, ge1489, ge1490, ge1491, ge1492⟩ := H1471
          refine Wp.stk (st' := [(.int (0 : Int32))]) rfl ?_
          refine s_ifN (pc' := 72) A at_69 rfl (by decide) ?_
          refine s_aload (pc' := 74) A at_72 rfl rfl rfl ?_
          refine s_iconst (pc' := 75) (z := (1 : Int32)) A at_74 rfl (by decide) ?_
          refine s_virtual (pc' := 78) (y := y4_contains) (argsL := [(.int (1 : Int32))]) (rest := []) (z := y4_contains) A E1475 (gq_contains5 l Z a0 hw n0 h1472 A.size b2 r12 r13 r14 [.int (1 : Int32), .int (2 : Int32), .int (0 : Int32)] [.long (0 : Int64), .long q2, .long q3] ⟨E1475, F1476, F1477, F1478, F1479, V1480, V1481, V1482, ne1483, ne1484, ne1485, ne1486, ne1487, ne1488, ge1489, ge1490, ge1491, ge1492⟩) (w33 hw) (w34 hw) (nf_same (C := "") (w36 hw)) (w36 hw) (w35 hw) (w2 hw) (w37 hw) (by decide) pd__I_Z rfl (W := 0) (by decide) (by decide) (Nat.le_of_eq rfl) (by decide) (by decide) rfl rfl at_75 rfl fun T h1495 v1496 A Q1497 => ?_
          obtain ⟨rfl, K1493, H1494⟩ := Q1497
          obtain ⟨E1498, F1499, F1500, F1501, F1502, V1503, V1504, V1505, ne1506, ne1507, ne1508, ne1509, ne1510, ne1511, ge1512, ge1513, ge1514, ge1515⟩ := H1494
          refine Wp.stk (st' := [(.int (0 : Int32))]) rfl ?_
          refine s_ifN (pc' := 81) A at_78 rfl (by decide) ?_
          refine s_aload (pc' := 83) A at_81 rfl rfl rfl ?_
          refine s_iconst (pc' := 84) (z := (2 : Int32)) A at_83 rfl (by decide) ?_
          refine s_virtual (pc' := 87) (y := y4_contains) (argsL := [(.int (2 : Int32))]) (rest := []) (z := y4_contains) A E1498 (gq_contains6 l Z a0 hw n0 h1495 A.size b2 r12 r13 r14 [.int (1 : Int32), .int (2 : Int32), .int (0 : Int32)] [.long (0 : Int64), .long q2, .long q3] ⟨E1498, F1499, F1500, F1501, F1502, V1503, V1504, V1505, ne1506, ne1507, ne1508, ne1509, ne1510, ne1511, ge1512, ge1513, ge1514, ge1515⟩) (w33 hw) (w34 hw) (nf_same (C := "") (w36 hw)) (w36 hw) (w35 hw) (w2 hw) (w37 hw) (by decide) pd__I_Z rfl (W := 0) (by decide) (by decide) (Nat.le_of_eq rfl) (by decide) (by decide) rfl rfl at_84 rfl fun T h1518 v1519 A Q1520 => ?_
          obtain ⟨rfl, K1516, H1517⟩ := Q1520
          obtain ⟨E1521, F1522, F1523, F1524, F1525, V1526, V1527, V1528, ne1529, ne1530, ne1531, ne1532, ne1533, ne1534, ge1535, ge1536, ge1537, ge1538⟩ := H1517
          refine Wp.stk (st' := [(.int (0 : Int32))]) rfl ?_
          refine s_ifN (pc' := 90) A at_87 rfl (by decide) ?_
          refine s_iconst (pc' := 91) (z := (1 : Int32)) A at_90 rfl (by decide) ?_
          refine s_goto (pc' := 95) A at_91 (by decide) (by decide) ?_
          refine s_istore (pc' := 97) (Ls' := #[iv q0, jv q1, S2, jv q2, S2, jv q3, S2, iv q4, jv q5, S2, rv b2, iv 1, U0, U0]) A at_95 rfl rfl ?_
          refine s_iload (pc' := 99) A at_97 rfl rfl ?_
          refine s_ldcInt (pc' := 101) A at_99 rfl (w38 hw) ?_
          refine s_iand (pc' := 102) (z := (q4 &&& (2147483647 : Int32))) A at_101 rfl rfl ?_
          refine s_iconst (pc' := 103) (z := (3 : Int32)) A at_102 rfl (by decide) ?_
          obtain ⟨pp, hpp⟩ : ∃ z, z = ((q4 &&& (2147483647 : Int32)) % (3 : Int32)) := ⟨_, rfl⟩
          have cp := own_p q4
          rw [← hpp] at cp
          rcases cp with rfl | rfl | rfl
          ·
            refine s_irem (pc' := 104) (z := (0 : Int32)) A at_103 rfl (by decide) hpp.symm ?_
            refine s_istore (pc' := 106) (Ls' := #[iv q0, jv q1, S2, jv q2, S2, jv q3, S2, iv q4, jv q5, S2, rv b2, iv 1, iv 0, U0]) A at_104 rfl rfl ?_
            refine s_aload (pc' := 108) A at_106 rfl rfl rfl ?_
            refine s_iload (pc' := 110) A at_108 rfl rfl ?_
            refine s_lload (pc' := 112) A at_110 rfl rfl ?_
            refine s_virtual (pc' := 115) (y := y7_put) (argsL := [(.int (0 : Int32)), (.long q5)]) (rest := []) (z := y7_put) A E1521 (gq_put7 l Z a0 hw n0 h1518 A.size b2 r12 r13 r14 (1 : Int32) (2 : Int32) (0 : Int32) (0 : Int64) q2 q3 q5 ⟨E1521, F1522, F1523, F1524, F1525, V1526, V1527, V1528, ne1529, ne1530, ne1531, ne1532, ne1533, ne1534, ge1535, ge1536, ge1537, ge1538⟩) (w39 hw) (w40 hw) (nf_same (C := "") (w42 hw)) (w42 hw) (w41 hw) (w2 hw) (w43 hw) (by decide) pd__IJ_V rfl (W := 0) (by decide) (by decide) (Nat.le_of_eq rfl) (by decide) (by decide) rfl rfl at_112 rfl fun T h1541 v1542 A Q1543 => ?_
            obtain ⟨rfl, K1539, H1540⟩ := Q1543
            obtain ⟨E1544, F1545, F1546, F1547, F1548, V1549, V1550, V1551, ne1552, ne1553, ne1554, ne1555, ne1556, ne1557, ge1558, ge1559, ge1560, ge1561⟩ := H1540
            refine Wp.stk (st' := []) rfl ?_
            refine s_aload (pc' := 117) A at_115 rfl rfl rfl ?_
            refine s_virtual (pc' := 120) (y := y9_poll) (argsL := []) (rest := []) (z := y9_poll) A E1544 (gq_poll10 l Z a0 hw n0 h1541 A.size b2 r12 r13 r14 (2 : Int32) (0 : Int32) [.long q5, .long q2, .long q3] ⟨E1544, F1545, F1546, F1547, F1548, V1549, V1550, V1551, ne1552, ne1553, ne1554, ne1555, ne1556, ne1557, ge1558, ge1559, ge1560, ge1561⟩) (w53 hw) (w54 hw) (nf_same (C := "") (w56 hw)) (w56 hw) (w55 hw) (w2 hw) (w57 hw) (by decide) pd___I rfl (W := 0) (by decide) (by decide) (Nat.le_of_eq rfl) (by decide) (by decide) rfl rfl at_117 rfl fun T h1564 v1565 A Q1566 => ?_
            obtain ⟨rfl, K1562, H1563⟩ := Q1566
            obtain ⟨E1567, F1568, F1569, F1570, F1571, V1572, V1573, V1574, ne1575, ne1576, ne1577, ne1578, ne1579, ne1580, ge1581, ge1582, ge1583, ge1584⟩ := H1563
            refine Wp.stk (st' := [(.int (0 : Int32))]) rfl ?_
            refine s_iload (pc' := 122) A at_120 rfl rfl ?_
            refine s_icmpN (pc' := 125) A at_122 rfl (by decide) ?_
            refine s_aload (pc' := 127) A at_125 rfl rfl rfl ?_
            refine s_virtual (pc' := 130) (y := y3_isEmpty) (argsL := []) (rest := []) (z := y3_isEmpty) A E1567 (gq_isEmpty3 l Z a0 hw n0 h1564 A.size b2 r12 r13 r14 [.int (0 : Int32), .int (2 : Int32), .int (0 : Int32)] [.long q5, .long q2, .long q3] [.int (-1 : Int32), .int (-1 : Int32), .int (-1 : Int32)] ⟨E1567, F1568, F1569, F1570, F1571, V1572, V1573, V1574, ne1575, ne1576, ne1577, ne1578, ne1579, ne1580, ge1581, ge1582, ge1583, ge1584⟩) (w28 hw) (w29 hw) (nf_same (C := "") (w31 hw)) (w31 hw) (w30 hw) (w2 hw) (w32 hw) (by decide) pd___Z rfl (W := 0) (by decide) (by decide) (Nat.le_of_eq rfl) (by decide) (by decide) rfl rfl at_127 rfl fun T h1587 v1588 A Q1589 => ?_
            obtain ⟨rfl, K1585, H1586⟩ := Q1589
            obtain ⟨E1590, F1591, F1592, F1593, F1594, V1595, V1596, V1597, ne1598, ne1599, ne1600, ne1601, ne1602, ne1603, ge1604, ge1605, ge1606, ge1607⟩ := H1586
            refine Wp.stk (st' := [(.int (1 : Int32))]) rfl ?_
            refine s_ifN (pc' := 133) A at_130 rfl (by decide) ?_
            refine s_iconst (pc' := 134) (z := (1 : Int32)) A at_133 rfl (by decide) ?_
            refine s_goto (pc' := 138) A at_134 (by decide) (by decide) ?_
            refine s_istore (pc' := 140) (Ls' := #[iv q0, jv q1, S2, jv q2, S2, jv q3, S2, iv q4, jv q5, S2, rv b2, iv 1, iv 0, iv 1]) A at_138 rfl rfl ?_
            refine s_iload (pc' := 142) A at_140 rfl rfl ?_
            refine s_ifN (pc' := 145) A at_142 rfl (by decide) ?_
            refine s_iload (pc' := 147) A at_145 rfl rfl ?_
            refine s_ifN (pc' := 150) A at_147 rfl (by decide) ?_
            refine s_iconst (pc' := 151) (z := (1 : Int32)) A at_150 rfl (by decide) ?_
            refine s_goto (pc' := 155) A at_151 (by decide) (by decide) ?_
            exact r_bool A rfl (by decide) at_155 (by decide) (by decide) (rfl)
          ·
            refine s_irem (pc' := 104) (z := (1 : Int32)) A at_103 rfl (by decide) hpp.symm ?_
            refine s_istore (pc' := 106) (Ls' := #[iv q0, jv q1, S2, jv q2, S2, jv q3, S2, iv q4, jv q5, S2, rv b2, iv 1, iv 1, U0]) A at_104 rfl rfl ?_
            refine s_aload (pc' := 108) A at_106 rfl rfl rfl ?_
            refine s_iload (pc' := 110) A at_108 rfl rfl ?_
            refine s_lload (pc' := 112) A at_110 rfl rfl ?_
            refine s_virtual (pc' := 115) (y := y7_put) (argsL := [(.int (1 : Int32)), (.long q5)]) (rest := []) (z := y7_put) A E1521 (gq_put12 l Z a0 hw n0 h1518 A.size b2 r12 r13 r14 (1 : Int32) (2 : Int32) (0 : Int32) (0 : Int64) q2 q3 q5 ⟨E1521, F1522, F1523, F1524, F1525, V1526, V1527, V1528, ne1529, ne1530, ne1531, ne1532, ne1533, ne1534, ge1535, ge1536, ge1537, ge1538⟩) (w39 hw) (w40 hw) (nf_same (C := "") (w42 hw)) (w42 hw) (w41 hw) (w2 hw) (w43 hw) (by decide) pd__IJ_V rfl (W := 0) (by decide) (by decide) (Nat.le_of_eq rfl) (by decide) (by decide) rfl rfl at_112 rfl fun T h1610 v1611 A Q1612 => ?_
            obtain ⟨rfl, K1608, H1609⟩ := Q1612
            obtain ⟨E1613, F1614, F1615, F1616, F1617, V1618, V1619, V1620, ne1621, ne1622, ne1623, ne1624, ne1625, ne1626, ge1627, ge1628, ge1629, ge1630⟩ := H1609
            refine Wp.stk (st' := []) rfl ?_
            refine s_aload (pc' := 117) A at_115 rfl rfl rfl ?_
            refine s_virtual (pc' := 120) (y := y9_poll) (argsL := []) (rest := []) (z := y9_poll) A E1613 (gq_poll15 l Z a0 hw n0 h1610 A.size b2 r12 r13 r14 (2 : Int32) (0 : Int32) [.long (0 : Int64), .long q5, .long q3] ⟨E1613, F1614, F1615, F1616, F1617, V1618, V1619, V1620, ne1621, ne1622, ne1623, ne1624, ne1625, ne1626, ge1627, ge1628, ge1629, ge1630⟩) (w53 hw) (w54 hw) (nf_same (C := "") (w56 hw)) (w56 hw) (w55 hw) (w2 hw) (w57 hw) (by decide) pd___I rfl (W := 0) (by decide) (by decide) (Nat.le_of_eq rfl) (by decide) (by decide) rfl rfl at_117 rfl fun T h1633 v1634 A Q1635 => ?_
            obtain ⟨rfl, K1631, H1632⟩ := Q1635
            obtain ⟨E1636, F1637, F1638, F1639, F1640, V1641, V1642, V1643, ne1644, ne1645, ne1646, ne1647, ne1648, ne1649, ge1650, ge1651, ge1652, ge1653⟩ := H1632
            refine Wp.stk (st' := [(.int (1 : Int32))]) rfl ?_
            refine s_iload (pc' := 122) A at_120 rfl rfl ?_
            refine s_icmpN (pc' := 125) A at_122 rfl (by decide) ?_
            refine s_aload (pc' := 127) A at_125 rfl rfl rfl ?_
            refine s_virtual (pc' := 130) (y := y3_isEmpty) (argsL := []) (rest := []) (z := y3_isEmpty) A E1636 (gq_isEmpty3 l Z a0 hw n0 h1633 A.size b2 r12 r13 r14 [.int (1 : Int32), .int (2 : Int32), .int (0 : Int32)] [.long (0 : Int64), .long q5, .long q3] [.int (-1 : Int32), .int (-1 : Int32), .int (-1 : Int32)] ⟨E1636, F1637, F1638, F1639, F1640, V1641, V1642, V1643, ne1644, ne1645, ne1646, ne1647, ne1648, ne1649, ge1650, ge1651, ge1652, ge1653⟩) (w28 hw) (w29 hw) (nf_same (C := "") (w31 hw)) (w31 hw) (w30 hw) (w2 hw) (w32 hw) (by decide) pd___Z rfl (W := 0) (by decide) (by decide) (Nat.le_of_eq rfl) (by decide) (by decide) rfl rfl at_127 rfl fun T h1656 v1657 A Q1658 => ?_
            obtain ⟨rfl, K1654, H1655⟩ := Q1658
            obtain ⟨E1659, F1660, F1661, F1662, F1663, V1664, V1665, V1666, ne1667, ne1668, ne1669, ne1670, ne1671, ne1672, ge1673, ge1674, ge1675, ge1676⟩ := H1655
            refine Wp.stk (st' := [(.int (1 : Int32))]) rfl ?_
            refine s_ifN (pc' := 133) A at_130 rfl (by decide) ?_
            refine s_iconst (pc' := 134) (z := (1 : Int32)) A at_133 rfl (by decide) ?_
            refine s_goto (pc' := 138) A at_134 (by decide) (by decide) ?_
            refine s_istore (pc' := 140) (Ls' := #[iv q0, jv q1, S2, jv q2, S2, jv q3, S2, iv q4, jv q5, S2, rv b2, iv 1, iv 1, iv 1]) A at_138 rfl rfl ?_
            refine s_iload (pc' := 142) A at_140 rfl rfl ?_
            refine s_ifN (pc' := 145) A at_142 rfl (by decide) ?_
            refine s_iload (pc' := 147) A at_145 rfl rfl ?_
            refine s_ifN (pc' := 150) A at_147 rfl (by decide) ?_
            refine s_iconst (pc' := 151) (z := (1 : Int32)) A at_150 rfl (by decide) ?_
            refine s_goto (pc' := 155) A at_151 (by decide) (by decide) ?_
            exact r_bool A rfl (by decide) at_155 (by decide) (by decide) (rfl)
          ·
            refine s_irem (pc' := 104) (z := (2 : Int32)) A at_103 rfl (by decide) hpp.symm ?_
            refine s_istore (pc' := 106) (Ls' := #[iv q0, jv q1, S2, jv q2, S2, jv q3, S2, iv q4, jv q5, S2, rv b2, iv 1, iv 2, U0]) A at_104 rfl rfl ?_
            refine s_aload (pc' := 108) A at_106 rfl rfl rfl ?_
            refine s_iload (pc' := 110) A at_108 rfl rfl ?_
            refine s_lload (pc' := 112) A at_110 rfl rfl ?_
            refine s_virtual (pc' := 115) (y := y7_put) (argsL := [(.int (2 : Int32)), (.long q5)]) (rest := []) (z := y7_put) A E1521 (gq_put17 l Z a0 hw n0 h1518 A.size b2 r12 r13 r14 (1 : Int32) (2 : Int32) (0 : Int32) (0 : Int64) q2 q3 q5 ⟨E1521, F1522, F1523, F1524, F1525, V1526, V1527, V1528, ne1529, ne1530, ne1531, ne1532, ne1533, ne1534, ge1535, ge1536, ge1537, ge1538⟩) (w39 hw) (w40 hw) (nf_same (C := "") (w42 hw)) (w42 hw) (w41 hw) (w2 hw) (w43 hw) (by decide) pd__IJ_V rfl (W := 0) (by decide) (by decide) (Nat.le_of_eq rfl) (by decide) (by decide) rfl rfl at_112 rfl fun T h1679 v1680 A Q1681 => ?_
            obtain ⟨rfl, K1677, H1678⟩ := Q1681
            obtain ⟨E1682, F1683, F1684, F1685, F1686, V1687, V1688, V1689, ne1690, ne1691, ne1692, ne1693, ne1694, ne1695, ge1696, ge1697, ge1698, ge1699⟩ := H1678
            refine Wp.stk (st' := []) rfl ?_
            refine s_aload (pc' := 117) A at_115 rfl rfl rfl ?_
            refine s_virtual (pc' := 120) (y := y9_poll) (argsL := []) (rest := []) (z := y9_poll) A E1682 (gq_poll20 l Z a0 hw n0 h1679 A.size b2 r12 r13 r14 (2 : Int32) (0 : Int32) [.long (0 : Int64), .long q2, .long q5] ⟨E1682, F1683, F1684, F1685, F1686, V1687, V1688, V1689, ne1690, ne1691, ne1692, ne1693, ne1694, ne1695, ge1696, ge1697, ge1698, ge1699⟩) (w53 hw) (w54 hw) (nf_same (C := "") (w56 hw)) (w56 hw) (w55 hw) (w2 hw) (w57 hw) (by decide) pd___I rfl (W := 0) (by decide) (by decide) (Nat.le_of_eq rfl) (by decide) (by decide) rfl rfl at_117 rfl fun T h1702 v1703 A Q1704 => ?_
            obtain ⟨rfl, K1700, H1701⟩ := Q1704
            obtain ⟨E1705, F1706, F1707, F1708, F1709, V1710, V1711, V1712, ne1713, ne1714, ne1715, ne1716, ne1717, ne1718, ge1719, ge1720, ge1721, ge1722⟩ := H1701
            refine Wp.stk (st' := [(.int (2 : Int32))]) rfl ?_
            refine s_iload (pc' := 122) A at_120 rfl rfl ?_
            refine s_icmpN (pc' := 125) A at_122 rfl (by decide) ?_
            refine s_aload (pc' := 127) A at_125 rfl rfl rfl ?_
            refine s_virtual (pc' := 130) (y := y3_isEmpty) (argsL := []) (rest := []) (z := y3_isEmpty) A E1705 (gq_isEmpty3 l Z a0 hw n0 h1702 A.size b2 r12 r13 r14 [.int (2 : Int32), .int (2 : Int32), .int (0 : Int32)] [.long (0 : Int64), .long q2, .long q5] [.int (-1 : Int32), .int (-1 : Int32), .int (-1 : Int32)] ⟨E1705, F1706, F1707, F1708, F1709, V1710, V1711, V1712, ne1713, ne1714, ne1715, ne1716, ne1717, ne1718, ge1719, ge1720, ge1721, ge1722⟩) (w28 hw) (w29 hw) (nf_same (C := "") (w31 hw)) (w31 hw) (w30 hw) (w2 hw) (w32 hw) (by decide) pd___Z rfl (W := 0) (by decide) (by decide) (Nat.le_of_eq rfl) (by decide) (by decide) rfl rfl at_127 rfl fun T h1725 v1726 A Q1727 => ?_
            obtain ⟨rfl, K1723, H1724⟩ := Q1727
            obtain ⟨E1728, F1729, F1730, F1731, F1732, V1733, V1734, V1735, ne1736, ne1737, ne1738, ne1739, ne1740, ne1741, ge1742, ge1743, ge1744, ge1745⟩ := H1724
            refine Wp.stk (st' := [(.int (1 : Int32))]) rfl ?_
            refine s_ifN (pc' := 133) A at_130 rfl (by decide) ?_
            refine s_iconst (pc' := 134) (z := (1 : Int32)) A at_133 rfl (by decide) ?_
            refine s_goto (pc' := 138) A at_134 (by decide) (by decide) ?_
            refine s_istore (pc' := 140) (Ls' := #[iv q0, jv q1, S2, jv q2, S2, jv q3, S2, iv q4, jv q5, S2, rv b2, iv 1, iv 2, iv 1]) A at_138 rfl rfl ?_
            refine s_iload (pc' := 142) A at_140 rfl rfl ?_
            refine s_ifN (pc' := 145) A at_142 rfl (by decide) ?_
            refine s_iload (pc' := 147) A at_145 rfl rfl ?_
            refine s_ifN (pc' := 150) A at_147 rfl (by decide) ?_
            refine s_iconst (pc' := 151) (z := (1 : Int32)) A at_150 rfl (by decide) ?_
            refine s_goto (pc' := 155) A at_151 (by decide) (by decide) ?_
            exact r_bool A rfl (by decide) at_155 (by decide) (by decide) (rfl)
  ·
    refine s_ifN (pc' := 16) A at_13 rfl ((if0 _ _).trans (feq hc13_1).1) ?_
    refine s_aload (pc' := 18) A at_16 rfl rfl rfl ?_
    refine s_iconst (pc' := 19) (z := (0 : Int32)) A at_18 rfl (by decide) ?_
    refine s_lloadN (pc' := 20) A at_19 rfl rfl ?_
    refine s_virtual (pc' := 23) (y := y7_put) (argsL := [(.int (0 : Int32)), (.long q1)]) (rest := []) (z := y7_put) A E26 (gq_put7 l Z a0 hw n0 h20 A.size b2 r12 r13 r14 (0 : Int32) (0 : Int32) (0 : Int32) (0 : Int64) (0 : Int64) (0 : Int64) q1 ⟨E26, F27, F28, F29, F30, V31, V32, V33, ne34, ne35, ne36, ne37, ne38, ne39, ge40, ge41, ge42, ge43⟩) (w39 hw) (w40 hw) (nf_same (C := "") (w42 hw)) (w42 hw) (w41 hw) (w2 hw) (w43 hw) (by decide) pd__IJ_V rfl (W := 0) (by decide) (by decide) (Nat.le_of_eq rfl) (by decide) (by decide) rfl rfl at_20 rfl fun T h1748 v1749 A Q1750 => ?_
    obtain ⟨rfl, K1746, H1747⟩ := Q1750
    obtain ⟨E1751, F1752, F1753, F1754, F1755, V1756, V1757, V1758, ne1759, ne1760, ne1761, ne1762, ne1763, ne1764, ge1765, ge1766, ge1767, ge1768⟩ := H1747
    refine Wp.stk (st' := []) rfl ?_
    refine s_iloadN (pc' := 24) A at_23 rfl rfl ?_
    refine s_iconst (pc' := 25) (z := (2 : Int32)) A at_24 rfl (by decide) ?_
    refine s_iand (pc' := 26) (z := (q0 &&& (2 : Int32))) A at_25 rfl rfl ?_
    by_cases hc26_1 : (q0 &&& (2 : Int32)) = (0 : Int32)
    ·
      refine s_ifY (pc' := 36) A at_26 ((if0 _ _).trans (teq hc26_1).1) (by decide) (by decide) ?_
      refine s_iloadN (pc' := 37) A at_36 rfl rfl ?_
      refine s_iconst (pc' := 38) (z := (4 : Int32)) A at_37 rfl (by decide) ?_
      refine s_iand (pc' := 39) (z := (q0 &&& (4 : Int32))) A at_38 rfl rfl ?_
      by_cases hc39_1 : (q0 &&& (4 : Int32)) = (0 : Int32)
      ·
        refine s_ifY (pc' := 50) A at_39 ((if0 _ _).trans (teq hc39_1).1) (by decide) (by decide) ?_
        refine s_aload (pc' := 52) A at_50 rfl rfl rfl ?_
        refine s_virtual (pc' := 55) (y := y2_clear) (argsL := []) (rest := []) (z := y2_clear) A E1751 (gq_clear36 l Z a0 hw n0 h1748 A.size b2 r12 r13 r14 [.long q1, .long (0 : Int64), .long (0 : Int64)] ⟨E1751, F1752, F1753, F1754, F1755, V1756, V1757, V1758, ne1759, ne1760, ne1761, ne1762, ne1763, ne1764, ge1765, ge1766, ge1767, ge1768⟩) (w23 hw) (w24 hw) (nf_same (C := "") (w26 hw)) (w26 hw) (w25 hw) (w2 hw) (w27 hw) (by decide) pd___V rfl (W := 0) (by decide) (by decide) (Nat.le_of_eq rfl) (by decide) (by decide) rfl rfl at_52 rfl fun T h1771 v1772 A Q1773 => ?_
        obtain ⟨rfl, K1769, H1770⟩ := Q1773
        obtain ⟨E1774, F1775, F1776, F1777, F1778, V1779, V1780, V1781, ne1782, ne1783, ne1784, ne1785, ne1786, ne1787, ge1788, ge1789, ge1790, ge1791⟩ := H1770
        refine Wp.stk (st' := []) rfl ?_
        refine s_aload (pc' := 57) A at_55 rfl rfl rfl ?_
        refine s_virtual (pc' := 60) (y := y3_isEmpty) (argsL := []) (rest := []) (z := y3_isEmpty) A E1774 (gq_isEmpty3 l Z a0 hw n0 h1771 A.size b2 r12 r13 r14 [.int (0 : Int32), .int (0 : Int32), .int (0 : Int32)] [.long q1, .long (0 : Int64), .long (0 : Int64)] [.int (-1 : Int32), .int (-1 : Int32), .int (-1 : Int32)] ⟨E1774, F1775, F1776, F1777, F1778, V1779, V1780, V1781, ne1782, ne1783, ne1784, ne1785, ne1786, ne1787, ge1788, ge1789, ge1790, ge1791⟩) (w28 hw) (w29 hw) (nf_same (C := "") (w31 hw)) (w31 hw) (w30 hw) (w2 hw) (w32 hw) (by decide) pd___Z rfl (W := 0) (by decide) (by decide) (Nat.le_of_eq rfl) (by decide) (by decide) rfl rfl at_57 rfl fun T h1794 v1795 A Q1796 => ?_
        obtain ⟨rfl, K1792, H1793⟩ := Q1796
        obtain ⟨E1797, F1798, F1799, F1800, F1801, V1802, V1803, V1804, ne1805, ne1806, ne1807, ne1808, ne1809, ne1810, ge1811, ge1812, ge1813, ge1814⟩ := H1793
        refine Wp.stk (st' := [(.int (1 : Int32))]) rfl ?_
        refine s_ifN (pc' := 63) A at_60 rfl (by decide) ?_
        refine s_aload (pc' := 65) A at_63 rfl rfl rfl ?_
        refine s_iconst (pc' := 66) (z := (0 : Int32)) A at_65 rfl (by decide) ?_
        refine s_virtual (pc' := 69) (y := y4_contains) (argsL := [(.int (0 : Int32))]) (rest := []) (z := y4_contains) A E1797 (gq_contains4 l Z a0 hw n0 h1794 A.size b2 r12 r13 r14 [.int (0 : Int32), .int (0 : Int32), .int (0 : Int32)] [.long q1, .long (0 : Int64), .long (0 : Int64)] ⟨E1797, F1798, F1799, F1800, F1801, V1802, V1803, V1804, ne1805, ne1806, ne1807, ne1808, ne1809, ne1810, ge1811, ge1812, ge1813, ge1814⟩) (w33 hw) (w34 hw) (nf_same (C := "") (w36 hw)) (w36 hw) (w35 hw) (w2 hw) (w37 hw) (by decide) pd__I_Z rfl (W := 0) (by decide) (by decide) (Nat.le_of_eq rfl) (by decide) (by decide) rfl rfl at_66 rfl fun T h1817 v1818 A Q1819 => ?_
        obtain ⟨rfl, K1815, H1816⟩ := Q1819
        obtain ⟨E1820, F1821, F1822, F1823, F1824, V1825, V1826, V1827, ne1828, ne1829, ne1830, ne1831, ne1832, ne1833, ge1834, ge1835, ge1836, ge1837⟩ := H1816
        refine Wp.stk (st' := [(.int (0 : Int32))]) rfl ?_
        refine s_ifN (pc' := 72) A at_69 rfl (by decide) ?_
        refine s_aload (pc' := 74) A at_72 rfl rfl rfl ?_
        refine s_iconst (pc' := 75) (z := (1 : Int32)) A at_74 rfl (by decide) ?_
        refine s_virtual (pc' := 78) (y := y4_contains) (argsL := [(.int (1 : Int32))]) (rest := []) (z := y4_contains) A E1820 (gq_contains5 l Z a0 hw n0 h1817 A.size b2 r12 r13 r14 [.int (0 : Int32), .int (0 : Int32), .int (0 : Int32)] [.long q1, .long (0 : Int64), .long (0 : Int64)] ⟨E1820, F1821, F1822, F1823, F1824, V1825, V1826, V1827, ne1828, ne1829, ne1830, ne1831, ne1832, ne1833, ge1834, ge1835, ge1836, ge1837⟩) (w33 hw) (w34 hw) (nf_same (C := "") (w36 hw)) (w36 hw) (w35 hw) (w2 hw) (w37 hw) (by decide) pd__I_Z rfl (W := 0) (by decide) (by decide) (Nat.le_of_eq rfl) (by decide) (by decide) rfl rfl at_75 rfl fun T h1840 v1841 A Q1842 => ?_
        obtain ⟨rfl, K1838, H1839⟩ := Q1842
        obtain ⟨E1843, F1844, F1845, F1846, F1847, V1848, V1849, V1850, ne1851, ne1852, ne1853, ne1854, ne1855, ne1856, ge1857, ge1858, ge1859, ge1860⟩ := H1839
        refine Wp.stk (st' := [(.int (0 : Int32))]) rfl ?_
        refine s_ifN (pc' := 81) A at_78 rfl (by decide) ?_
        refine s_aload (pc' := 83) A at_81 rfl rfl rfl ?_
        refine s_iconst (pc' := 84) (z := (2 : Int32)) A at_83 rfl (by decide) ?_
        refine s_virtual (pc' := 87) (y := y4_contains) (argsL := [(.int (2 : Int32))]) (rest := []) (z := y4_contains) A E1843 (gq_contains6 l Z a0 hw n0 h1840 A.size b2 r12 r13 r14 [.int (0 : Int32), .int (0 : Int32), .int (0 : Int32)] [.long q1, .long (0 : Int64), .long (0 : Int64)] ⟨E1843, F1844, F1845, F1846, F1847, V1848, V1849, V1850, ne1851, ne1852, ne1853, ne1854, ne1855, ne1856, ge1857, ge1858, ge1859, ge1860⟩) (w33 hw) (w34 hw) (nf_same (C := "") (w36 hw)) (w36 hw) (w35 hw) (w2 hw) (w37 hw) (by decide) pd__I_Z rfl (W := 0) (by decide) (by decide) (Nat.le_of_eq rfl) (by decide) (by decide) rfl rfl at_84 rfl fun T h1863 v1864 A Q1865 => ?_
        obtain ⟨rfl, K1861, H1862⟩ := Q1865
        obtain ⟨E1866, F1867, F1868, F1869, F1870, V1871, V1872, V1873, ne1874, ne1875, ne1876, ne1877, ne1878, ne1879, ge1880, ge1881, ge1882, ge1883⟩ := H1862
        refine Wp.stk (st' := [(.int (0 : Int32))]) rfl ?_
        refine s_ifN (pc' := 90) A at_87 rfl (by decide) ?_
        refine s_iconst (pc' := 91) (z := (1 : Int32)) A at_90 rfl (by decide) ?_
        refine s_goto (pc' := 95) A at_91 (by decide) (by decide) ?_
        refine s_istore (pc' := 97) (Ls' := #[iv q0, jv q1, S2, jv q2, S2, jv q3, S2, iv q4, jv q5, S2, rv b2, iv 1, U0, U0]) A at_95 rfl rfl ?_
        refine s_iload (pc' := 99) A at_97 rfl rfl ?_
        refine s_ldcInt (pc' := 101) A at_99 rfl (w38 hw) ?_
        refine s_iand (pc' := 102) (z := (q4 &&& (2147483647 : Int32))) A at_101 rfl rfl ?_
        refine s_iconst (pc' := 103) (z := (3 : Int32)) A at_102 rfl (by decide) ?_
        obtain ⟨pp, hpp⟩ : ∃ z, z = ((q4 &&& (2147483647 : Int32)) % (3 : Int32)) := ⟨_, rfl⟩
        have cp := own_p q4
        rw [← hpp] at cp
        rcases cp with rfl | rfl | rfl
        ·
          refine s_irem (pc' := 104) (z := (0 : Int32)) A at_103 rfl (by decide) hpp.symm ?_
          refine s_istore (pc' := 106) (Ls' := #[iv q0, jv q1, S2, jv q2, S2, jv q3, S2, iv q4, jv q5, S2, rv b2, iv 1, iv 0, U0]) A at_104 rfl rfl ?_
          refine s_aload (pc' := 108) A at_106 rfl rfl rfl ?_
          refine s_iload (pc' := 110) A at_108 rfl rfl ?_
          refine s_lload (pc' := 112) A at_110 rfl rfl ?_
          refine s_virtual (pc' := 115) (y := y7_put) (argsL := [(.int (0 : Int32)), (.long q5)]) (rest := []) (z := y7_put) A E1866 (gq_put7 l Z a0 hw n0 h1863 A.size b2 r12 r13 r14 (0 : Int32) (0 : Int32) (0 : Int32) q1 (0 : Int64) (0 : Int64) q5 ⟨E1866, F1867, F1868, F1869, F1870, V1871, V1872, V1873, ne1874, ne1875, ne1876, ne1877, ne1878, ne1879, ge1880, ge1881, ge1882, ge1883⟩) (w39 hw) (w40 hw) (nf_same (C := "") (w42 hw)) (w42 hw) (w41 hw) (w2 hw) (w43 hw) (by decide) pd__IJ_V rfl (W := 0) (by decide) (by decide) (Nat.le_of_eq rfl) (by decide) (by decide) rfl rfl at_112 rfl fun T h1886 v1887 A Q1888 => ?_
          obtain ⟨rfl, K1884, H1885⟩ := Q1888
          obtain ⟨E1889, F1890, F1891, F1892, F1893, V1894, V1895, V1896, ne1897, ne1898, ne1899, ne1900, ne1901, ne1902, ge1903, ge1904, ge1905, ge1906⟩ := H1885
          refine Wp.stk (st' := []) rfl ?_
          refine s_aload (pc' := 117) A at_115 rfl rfl rfl ?_
          refine s_virtual (pc' := 120) (y := y9_poll) (argsL := []) (rest := []) (z := y9_poll) A E1889 (gq_poll10 l Z a0 hw n0 h1886 A.size b2 r12 r13 r14 (0 : Int32) (0 : Int32) [.long q5, .long (0 : Int64), .long (0 : Int64)] ⟨E1889, F1890, F1891, F1892, F1893, V1894, V1895, V1896, ne1897, ne1898, ne1899, ne1900, ne1901, ne1902, ge1903, ge1904, ge1905, ge1906⟩) (w53 hw) (w54 hw) (nf_same (C := "") (w56 hw)) (w56 hw) (w55 hw) (w2 hw) (w57 hw) (by decide) pd___I rfl (W := 0) (by decide) (by decide) (Nat.le_of_eq rfl) (by decide) (by decide) rfl rfl at_117 rfl fun T h1909 v1910 A Q1911 => ?_
          obtain ⟨rfl, K1907, H1908⟩ := Q1911
          obtain ⟨E1912, F1913, F1914, F1915, F1916, V1917, V1918, V1919, ne1920, ne1921, ne1922, ne1923, ne1924, ne1925, ge1926, ge1927, ge1928, ge1929⟩ := H1908
          refine Wp.stk (st' := [(.int (0 : Int32))]) rfl ?_
          refine s_iload (pc' := 122) A at_120 rfl rfl ?_
          refine s_icmpN (pc' := 125) A at_122 rfl (by decide) ?_
          refine s_aload (pc' := 127) A at_125 rfl rfl rfl ?_
          refine s_virtual (pc' := 130) (y := y3_isEmpty) (argsL := []) (rest := []) (z := y3_isEmpty) A E1912 (gq_isEmpty3 l Z a0 hw n0 h1909 A.size b2 r12 r13 r14 [.int (0 : Int32), .int (0 : Int32), .int (0 : Int32)] [.long q5, .long (0 : Int64), .long (0 : Int64)] [.int (-1 : Int32), .int (-1 : Int32), .int (-1 : Int32)] ⟨E1912, F1913, F1914, F1915, F1916, V1917, V1918, V1919, ne1920, ne1921, ne1922, ne1923, ne1924, ne1925, ge1926, ge1927, ge1928, ge1929⟩) (w28 hw) (w29 hw) (nf_same (C := "") (w31 hw)) (w31 hw) (w30 hw) (w2 hw) (w32 hw) (by decide) pd___Z rfl (W := 0) (by decide) (by decide) (Nat.le_of_eq rfl) (by decide) (by decide) rfl rfl at_127 rfl fun T h1932 v1933 A Q1934 => ?_
          obtain ⟨rfl, K1930, H1931⟩ := Q1934
          obtain ⟨E1935, F1936, F1937, F1938, F1939, V1940, V1941, V1942, ne1943, ne1944, ne1945, ne1946, ne1947, ne1948, ge1949, ge1950, ge1951, ge1952⟩ := H1931
          refine Wp.stk (st' := [(.int (1 : Int32))]) rfl ?_
          refine s_ifN (pc' := 133) A at_130 rfl (by decide) ?_
          refine s_iconst (pc' := 134) (z := (1 : Int32)) A at_133 rfl (by decide) ?_
          refine s_goto (pc' := 138) A at_134 (by decide) (by decide) ?_
          refine s_istore (pc' := 140) (Ls' := #[iv q0, jv q1, S2, jv q2, S2, jv q3, S2, iv q4, jv q5, S2, rv b2, iv 1, iv 0, iv 1]) A at_138 rfl rfl ?_
          refine s_iload (pc' := 142) A at_140 rfl rfl ?_
          refine s_ifN (pc' := 145) A at_142 rfl (by decide) ?_
          refine s_iload (pc' := 147) A at_145 rfl rfl ?_
          refine s_ifN (pc' := 150) A at_147 rfl (by decide) ?_
          refine s_iconst (pc' := 151) (z := (1 : Int32)) A at_150 rfl (by decide) ?_
          refine s_goto (pc' := 155) A at_151 (by decide) (by decide) ?_
          exact r_bool A rfl (by decide) at_155 (by decide) (by decide) (rfl)
        ·
          refine s_irem (pc' := 104) (z := (1 : Int32)) A at_103 rfl (by decide) hpp.symm ?_
          refine s_istore (pc' := 106) (Ls' := #[iv q0, jv q1, S2, jv q2, S2, jv q3, S2, iv q4, jv q5, S2, rv b2, iv 1, iv 1, U0]) A at_104 rfl rfl ?_
          refine s_aload (pc' := 108) A at_106 rfl rfl rfl ?_
          refine s_iload (pc' := 110) A at_108 rfl rfl ?_
          refine s_lload (pc' := 112) A at_110 rfl rfl ?_
          refine s_virtual (pc' := 115) (y := y7_put) (argsL := [(.int (1 : Int32)), (.long q5)]) (rest := []) (z := y7_put) A E1866 (gq_put12 l Z a0 hw n0 h1863 A.size b2 r12 r13 r14 (0 : Int32) (0 : Int32) (0 : Int32) q1 (0 : Int64) (0 : Int64) q5 ⟨E1866, F1867, F1868, F1869, F1870, V1871, V1872, V1873, ne1874, ne1875, ne1876, ne1877, ne1878, ne1879, ge1880, ge1881, ge1882, ge1883⟩) (w39 hw) (w40 hw) (nf_same (C := "") (w42 hw)) (w42 hw) (w41 hw) (w2 hw) (w43 hw) (by decide) pd__IJ_V rfl (W := 0) (by decide) (by decide) (Nat.le_of_eq rfl) (by decide) (by decide) rfl rfl at_112 rfl fun T h1955 v1956 A Q1957 => ?_
          obtain ⟨rfl, K1953, H1954⟩ := Q1957
          obtain ⟨E1958, F1959, F1960, F1961, F1962, V1963, V1964, V1965, ne1966, ne1967, ne1968, ne1969, ne1970, ne1971, ge1972, ge1973, ge1974, ge1975⟩ := H1954
          refine Wp.stk (st' := []) rfl ?_
          refine s_aload (pc' := 117) A at_115 rfl rfl rfl ?_
          refine s_virtual (pc' := 120) (y := y9_poll) (argsL := []) (rest := []) (z := y9_poll) A E1958 (gq_poll15 l Z a0 hw n0 h1955 A.size b2 r12 r13 r14 (0 : Int32) (0 : Int32) [.long q1, .long q5, .long (0 : Int64)] ⟨E1958, F1959, F1960, F1961, F1962, V1963, V1964, V1965, ne1966, ne1967, ne1968, ne1969, ne1970, ne1971, ge1972, ge1973, ge1974, ge1975⟩) (w53 hw) (w54 hw) (nf_same (C := "") (w56 hw)) (w56 hw) (w55 hw) (w2 hw) (w57 hw) (by decide) pd___I rfl (W := 0) (by decide) (by decide) (Nat.le_of_eq rfl) (by decide) (by decide) rfl rfl at_117 rfl fun T h1978 v1979 A Q1980 => ?_
          obtain ⟨rfl, K1976, H1977⟩ := Q1980
          obtain ⟨E1981, F1982, F1983, F1984, F1985, V1986, V1987, V1988, ne1989, ne1990, ne1991, ne1992, ne1993, ne1994, ge1995, ge1996, ge1997, ge1998⟩ := H1977
          refine Wp.stk (st' := [(.int (1 : Int32))]) rfl ?_
          refine s_iload (pc' := 122) A at_120 rfl rfl ?_
          refine s_icmpN (pc' := 125) A at_122 rfl (by decide) ?_
          refine s_aload (pc' := 127) A at_125 rfl rfl rfl ?_
          refine s_virtual (pc' := 130) (y := y3_isEmpty) (argsL := []) (rest := []) (z := y3_isEmpty) A E1981 (gq_isEmpty3 l Z a0 hw n0 h1978 A.size b2 r12 r13 r14 [.int (1 : Int32), .int (0 : Int32), .int (0 : Int32)] [.long q1, .long q5, .long (0 : Int64)] [.int (-1 : Int32), .int (-1 : Int32), .int (-1 : Int32)] ⟨E1981, F1982, F1983, F1984, F1985, V1986, V1987, V1988, ne1989, ne1990, ne1991, ne1992, ne1993, ne1994, ge1995, ge1996, ge1997, ge1998⟩) (w28 hw) (w29 hw) (nf_same (C := "") (w31 hw)) (w31 hw) (w30 hw) (w2 hw) (w32 hw) (by decide) pd___Z rfl (W := 0) (by decide) (by decide) (Nat.le_of_eq rfl) (by decide) (by decide) rfl rfl at_127 rfl fun T h2001 v2002 A Q2003 => ?_
          obtain ⟨rfl, K1999, H2000⟩ := Q2003
          obtain ⟨E2004, F2005, F2006, F2007, F2008, V2009, V2010, V2011, ne2012, ne2013, ne2014, ne2015, ne2016, ne2017, ge2018, ge2019, ge2020, ge2021⟩ := H2000
          refine Wp.stk (st' := [(.int (1 : Int32))]) rfl ?_
          refine s_ifN (pc' := 133) A at_130 rfl (by decide) ?_
          refine s_iconst (pc' := 134) (z := (1 : Int32)) A at_133 rfl (by decide) ?_
          refine s_goto (pc' := 138) A at_134 (by decide) (by decide) ?_
          refine s_istore (pc' := 140) (Ls' := #[iv q0, jv q1, S2, jv q2, S2, jv q3, S2, iv q4, jv q5, S2, rv b2, iv 1, iv 1, iv 1]) A at_138 rfl rfl ?_
          refine s_iload (pc' := 142) A at_140 rfl rfl ?_
          refine s_ifN (pc' := 145) A at_142 rfl (by decide) ?_
          refine s_iload (pc' := 147) A at_145 rfl rfl ?_
          refine s_ifN (pc' := 150) A at_147 rfl (by decide) ?_
          refine s_iconst (pc' := 151) (z := (1 : Int32)) A at_150 rfl (by decide) ?_
          refine s_goto (pc' := 155) A at_151 (by decide) (by decide) ?_
          exact r_bool A rfl (by decide) at_155 (by decide) (by decide) (rfl)
        ·
          refine s_irem (pc' := 104) (z := (2 : Int32)) A at_103 rfl (by decide) hpp.symm ?_
          refine s_istore (pc' := 106) (Ls' := #[iv q0, jv q1, S2, jv q2, S2, jv q3, S2, iv q4, jv q5, S2, rv b2, iv 1, iv 2, U0]) A at_104 rfl rfl ?_
          refine s_aload (pc' := 108) A at_106 rfl rfl rfl ?_
          refine s_iload (pc' := 110) A at_108 rfl rfl ?_
          refine s_lload (pc' := 112) A at_110 rfl rfl ?_
          refine s_virtual (pc' := 115) (y := y7_put) (argsL := [(.int (2 : Int32)), (.long q5)]) (rest := []) (z := y7_put) A E1866 (gq_put17 l Z a0 hw n0 h1863 A.size b2 r12 r13 r14 (0 : Int32) (0 : Int32) (0 : Int32) q1 (0 : Int64) (0 : Int64) q5 ⟨E1866, F1867, F1868, F1869, F1870, V1871, V1872, V1873, ne1874, ne1875, ne1876, ne1877, ne1878, ne1879, ge1880, ge1881, ge1882, ge1883⟩) (w39 hw) (w40 hw) (nf_same (C := "") (w42 hw)) (w42 hw) (w41 hw) (w2 hw) (w43 hw) (by decide) pd__IJ_V rfl (W := 0) (by decide) (by decide) (Nat.le_of_eq rfl) (by decide) (by decide) rfl rfl at_112 rfl fun T h2024 v2025 A Q2026 => ?_
          obtain ⟨rfl, K2022, H2023⟩ := Q2026
          obtain ⟨E2027, F2028, F2029, F2030, F2031, V2032, V2033, V2034, ne2035, ne2036, ne2037, ne2038, ne2039, ne2040, ge2041, ge2042, ge2043, ge2044⟩ := H2023
          refine Wp.stk (st' := []) rfl ?_
          refine s_aload (pc' := 117) A at_115 rfl rfl rfl ?_
          refine s_virtual (pc' := 120) (y := y9_poll) (argsL := []) (rest := []) (z := y9_poll) A E2027 (gq_poll20 l Z a0 hw n0 h2024 A.size b2 r12 r13 r14 (0 : Int32) (0 : Int32) [.long q1, .long (0 : Int64), .long q5] ⟨E2027, F2028, F2029, F2030, F2031, V2032, V2033, V2034, ne2035, ne2036, ne2037, ne2038, ne2039, ne2040, ge2041, ge2042, ge2043, ge2044⟩) (w53 hw) (w54 hw) (nf_same (C := "") (w56 hw)) (w56 hw) (w55 hw) (w2 hw) (w57 hw) (by decide) pd___I rfl (W := 0) (by decide) (by decide) (Nat.le_of_eq rfl) (by decide) (by decide) rfl rfl at_117 rfl fun T h2047 v2048 A Q2049 => ?_
          obtain ⟨rfl, K2045, H2046⟩ := Q2049
          obtain ⟨E2050, F2051, F2052, F2053, F2054, V2055, V2056, V2057, ne2058, ne2059, ne2060, ne2061, ne2062, ne2063, ge2064, ge2065, ge2066, ge2067⟩ := H2046
          refine Wp.stk (st' := [(.int (2 : Int32))]) rfl ?_
          refine s_iload (pc' := 122) A at_120 rfl rfl ?_
          refine s_icmpN (pc' := 125) A at_122 rfl (by decide) ?_
          refine s_aload (pc' := 127) A at_125 rfl rfl rfl ?_
          refine s_virtual (pc' := 130) (y := y3_isEmpty) (argsL := []) (rest := []) (z := y3_isEmpty) A E2050 (gq_isEmpty3 l Z a0 hw n0 h2047 A.size b2 r12 r13 r14 [.int (2 : Int32), .int (0 : Int32), .int (0 : Int32)] [.long q1, .long (0 : Int64), .long q5] [.int (-1 : Int32), .int (-1 : Int32), .int (-1 : Int32)] ⟨E2050, F2051, F2052, F2053, F2054, V2055, V2056, V2057, ne2058, ne2059, ne2060, ne2061, ne2062, ne2063, ge2064, ge2065, ge2066, ge2067⟩) (w28 hw) (w29 hw) (nf_same (C := "") (w31 hw)) (w31 hw) (w30 hw) (w2 hw) (w32 hw) (by decide) pd___Z rfl (W := 0) (by decide) (by decide) (Nat.le_of_eq rfl) (by decide) (by decide) rfl rfl at_127 rfl fun T h2070 v2071 A Q2072 => ?_
          obtain ⟨rfl, K2068, H2069⟩ := Q2072
          obtain ⟨E2073, F2074, F2075, F2076, F2077, V2078, V2079, V2080, ne2081, ne2082, ne2083, ne2084, ne2085, ne2086, ge2087, ge2088, ge2089, ge2090⟩ := H2069
          refine Wp.stk (st' := [(.int (1 : Int32))]) rfl ?_
          refine s_ifN (pc' := 133) A at_130 rfl (by decide) ?_
          refine s_iconst (pc' := 134) (z := (1 : Int32)) A at_133 rfl (by decide) ?_
          refine s_goto (pc' := 138) A at_134 (by decide) (by decide) ?_
          refine s_istore (pc' := 140) (Ls' := #[iv q0, jv q1, S2, jv q2, S2, jv q3, S2, iv q4, jv q5, S2, rv b2, iv 1, iv 2, iv 1]) A at_138 rfl rfl ?_
          refine s_iload (pc' := 142) A at_140 rfl rfl ?_
          refine s_ifN (pc' := 145) A at_142 rfl (by decide) ?_
          refine s_iload (pc' := 147) A at_145 rfl rfl ?_
          refine s_ifN (pc' := 150) A at_147 rfl (by decide) ?_
          refine s_iconst (pc' := 151) (z := (1 : Int32)) A at_150 rfl (by decide) ?_
          refine s_goto (pc' := 155) A at_151 (by decide) (by decide) ?_
          exact r_bool A rfl (by decide) at_155 (by decide) (by decide) (rfl)
      ·
        refine s_ifN (pc' := 42) A at_39 rfl ((if0 _ _).trans (feq hc39_1).1) ?_
        refine s_aload (pc' := 44) A at_42 rfl rfl rfl ?_
        refine s_iconst (pc' := 45) (z := (2 : Int32)) A at_44 rfl (by decide) ?_
        refine s_lload (pc' := 47) A at_45 rfl rfl ?_
        by_cases hk47 : q1 < q3
        ·
          refine s_virtual (pc' := 50) (y := y7_put) (argsL := [(.int (2 : Int32)), (.long q3)]) (rest := []) (z := y7_put) A E1751 (gq_put37 l Z a0 hw n0 h1748 A.size b2 r12 r13 r14 q1 q3 ⟨E1751, F1752, F1753, F1754, F1755, V1756, V1757, V1758, ne1759, ne1760, ne1761, ne1762, ne1763, ne1764, ge1765, ge1766, ge1767, ge1768⟩ hk47) (w39 hw) (w40 hw) (nf_same (C := "") (w42 hw)) (w42 hw) (w41 hw) (w2 hw) (w43 hw) (by decide) pd__IJ_V rfl (W := 0) (by decide) (by decide) (Nat.le_of_eq rfl) (by decide) (by decide) rfl rfl at_47 rfl fun T h2093 v2094 A Q2095 => ?_
          obtain ⟨rfl, K2091, H2092⟩ := Q2095
          obtain ⟨E2096, F2097, F2098, F2099, F2100, V2101, V2102, V2103, ne2104, ne2105, ne2106, ne2107, ne2108, ne2109, ge2110, ge2111, ge2112, ge2113⟩ := H2092
          refine Wp.stk (st' := []) rfl ?_
          refine s_aload (pc' := 52) A at_50 rfl rfl rfl ?_
          refine s_virtual (pc' := 55) (y := y2_clear) (argsL := []) (rest := []) (z := y2_clear) A E2096 (gq_clear43 l Z a0 hw n0 h2093 A.size b2 r12 r13 r14 [.long q1, .long (0 : Int64), .long q3] ⟨E2096, F2097, F2098, F2099, F2100, V2101, V2102, V2103, ne2104, ne2105, ne2106, ne2107, ne2108, ne2109, ge2110, ge2111, ge2112, ge2113⟩) (w23 hw) (w24 hw) (nf_same (C := "") (w26 hw)) (w26 hw) (w25 hw) (w2 hw) (w27 hw) (by decide) pd___V rfl (W := 0) (by decide) (by decide) (Nat.le_of_eq rfl) (by decide) (by decide) rfl rfl at_52 rfl fun T h2116 v2117 A Q2118 => ?_
          obtain ⟨rfl, K2114, H2115⟩ := Q2118
          obtain ⟨E2119, F2120, F2121, F2122, F2123, V2124, V2125, V2126, ne2127, ne2128, ne2129, ne2130, ne2131, ne2132, ge2133, ge2134, ge2135, ge2136⟩ := H2115
          refine Wp.stk (st' := []) rfl ?_
          refine s_aload (pc' := 57) A at_55 rfl rfl rfl ?_
          refine s_virtual (pc' := 60) (y := y3_isEmpty) (argsL := []) (rest := []) (z := y3_isEmpty) A E2119 (gq_isEmpty3 l Z a0 hw n0 h2116 A.size b2 r12 r13 r14 [.int (2 : Int32), .int (0 : Int32), .int (0 : Int32)] [.long q1, .long (0 : Int64), .long q3] [.int (-1 : Int32), .int (-1 : Int32), .int (-1 : Int32)] ⟨E2119, F2120, F2121, F2122, F2123, V2124, V2125, V2126, ne2127, ne2128, ne2129, ne2130, ne2131, ne2132, ge2133, ge2134, ge2135, ge2136⟩) (w28 hw) (w29 hw) (nf_same (C := "") (w31 hw)) (w31 hw) (w30 hw) (w2 hw) (w32 hw) (by decide) pd___Z rfl (W := 0) (by decide) (by decide) (Nat.le_of_eq rfl) (by decide) (by decide) rfl rfl at_57 rfl fun T h2139 v2140 A Q2141 => ?_
          obtain ⟨rfl, K2137, H2138⟩ := Q2141
          obtain ⟨E2142, F2143, F2144, F2145, F2146, V2147, V2148, V2149, ne2150, ne2151, ne2152, ne2153, ne2154, ne2155, ge2156, ge2157, ge2158, ge2159⟩ := H2138
          refine Wp.stk (st' := [(.int (1 : Int32))]) rfl ?_
          refine s_ifN (pc' := 63) A at_60 rfl (by decide) ?_
          refine s_aload (pc' := 65) A at_63 rfl rfl rfl ?_
          refine s_iconst (pc' := 66) (z := (0 : Int32)) A at_65 rfl (by decide) ?_
          refine s_virtual (pc' := 69) (y := y4_contains) (argsL := [(.int (0 : Int32))]) (rest := []) (z := y4_contains) A E2142 (gq_contains4 l Z a0 hw n0 h2139 A.size b2 r12 r13 r14 [.int (2 : Int32), .int (0 : Int32), .int (0 : Int32)] [.long q1, .long (0 : Int64), .long q3] ⟨E2142, F2143, F2144, F2145, F2146, V2147, V2148, V2149, ne2150, ne2151, ne2152, ne2153, ne2154, ne2155, ge2156, ge2157, ge2158, ge2159⟩) (w33 hw) (w34 hw) (nf_same (C := "") (w36 hw)) (w36 hw) (w35 hw) (w2 hw) (w37 hw) (by decide) pd__I_Z rfl (W := 0) (by decide) (by decide) (Nat.le_of_eq rfl) (by decide) (by decide) rfl rfl at_66 rfl fun T h2162 v2163 A Q2164 => ?_
          obtain ⟨rfl, K2160, H2161⟩ := Q2164
          obtain ⟨E2165, F2166, F2167, F2168, F2169, V2170, V2171, V2172, ne2173, ne2174, ne2175, ne2176, ne2177, ne2178, ge2179, ge2180, ge2181, ge2182⟩ := H2161
          refine Wp.stk (st' := [(.int (0 : Int32))]) rfl ?_
          refine s_ifN (pc' := 72) A at_69 rfl (by decide) ?_
          refine s_aload (pc' := 74) A at_72 rfl rfl rfl ?_
          refine s_iconst (pc' := 75) (z := (1 : Int32)) A at_74 rfl (by decide) ?_
          refine s_virtual (pc' := 78) (y := y4_contains) (argsL := [(.int (1 : Int32))]) (rest := []) (z := y4_contains) A E2165 (gq_contains5 l Z a0 hw n0 h2162 A.size b2 r12 r13 r14 [.int (2 : Int32), .int (0 : Int32), .int (0 : Int32)] [.long q1, .long (0 : Int64), .long q3] ⟨E2165, F2166, F2167, F2168, F2169, V2170, V2171, V2172, ne2173, ne2174, ne2175, ne2176, ne2177, ne2178, ge2179, ge2180, ge2181, ge2182⟩) (w33 hw) (w34 hw) (nf_same (C := "") (w36 hw)) (w36 hw) (w35 hw) (w2 hw) (w37 hw) (by decide) pd__I_Z rfl (W := 0) (by decide) (by decide) (Nat.le_of_eq rfl) (by decide) (by decide) rfl rfl at_75 rfl fun T h2185 v2186 A Q2187 => ?_
          obtain ⟨rfl, K2183, H2184⟩ := Q2187
          obtain ⟨E2188, F2189, F2190, F2191, F2192, V2193, V2194, V2195, ne2196, ne2197, ne2198, ne2199, ne2200, ne2201, ge2202, ge2203, ge2204, ge2205⟩ := H2184
          refine Wp.stk (st' := [(.int (0 : Int32))]) rfl ?_
          refine s_ifN (pc' := 81) A at_78 rfl (by decide) ?_
          refine s_aload (pc' := 83) A at_81 rfl rfl rfl ?_
          refine s_iconst (pc' := 84) (z := (2 : Int32)) A at_83 rfl (by decide) ?_
          refine s_virtual (pc' := 87) (y := y4_contains) (argsL := [(.int (2 : Int32))]) (rest := []) (z := y4_contains) A E2188 (gq_contains6 l Z a0 hw n0 h2185 A.size b2 r12 r13 r14 [.int (2 : Int32), .int (0 : Int32), .int (0 : Int32)] [.long q1, .long (0 : Int64), .long q3] ⟨E2188, F2189, F2190, F2191, F2192, V2193, V2194, V2195, ne2196, ne2197, ne2198, ne2199, ne2200, ne2201, ge2202, ge2203, ge2204, ge2205⟩) (w33 hw) (w34 hw) (nf_same (C := "") (w36 hw)) (w36 hw) (w35 hw) (w2 hw) (w37 hw) (by decide) pd__I_Z rfl (W := 0) (by decide) (by decide) (Nat.le_of_eq rfl) (by decide) (by decide) rfl rfl at_84 rfl fun T h2208 v2209 A Q2210 => ?_
          obtain ⟨rfl, K2206, H2207⟩ := Q2210
          obtain ⟨E2211, F2212, F2213, F2214, F2215, V2216, V2217, V2218, ne2219, ne2220, ne2221, ne2222, ne2223, ne2224, ge2225, ge2226, ge2227, ge2228⟩ := H2207
          refine Wp.stk (st' := [(.int (0 : Int32))]) rfl ?_
          refine s_ifN (pc' := 90) A at_87 rfl (by decide) ?_
          refine s_iconst (pc' := 91) (z := (1 : Int32)) A at_90 rfl (by decide) ?_
          refine s_goto (pc' := 95) A at_91 (by decide) (by decide) ?_
          refine s_istore (pc' := 97) (Ls' := #[iv q0, jv q1, S2, jv q2, S2, jv q3, S2, iv q4, jv q5, S2, rv b2, iv 1, U0, U0]) A at_95 rfl rfl ?_
          refine s_iload (pc' := 99) A at_97 rfl rfl ?_
          refine s_ldcInt (pc' := 101) A at_99 rfl (w38 hw) ?_
          refine s_iand (pc' := 102) (z := (q4 &&& (2147483647 : Int32))) A at_101 rfl rfl ?_
          refine s_iconst (pc' := 103) (z := (3 : Int32)) A at_102 rfl (by decide) ?_
          obtain ⟨pp, hpp⟩ : ∃ z, z = ((q4 &&& (2147483647 : Int32)) % (3 : Int32)) := ⟨_, rfl⟩
          have cp := own_p q4
          rw [← hpp] at cp
          rcases cp with rfl | rfl | rfl
          ·
            refine s_irem (pc' := 104) (z := (0 : Int32)) A at_103 rfl (by decide) hpp.symm ?_
            refine s_istore (pc' := 106) (Ls' := #[iv q0, jv q1, S2, jv q2, S2, jv q3, S2, iv q4, jv q5, S2, rv b2, iv 1, iv 0, U0]) A at_104 rfl rfl ?_
            refine s_aload (pc' := 108) A at_106 rfl rfl rfl ?_
            refine s_iload (pc' := 110) A at_108 rfl rfl ?_
            refine s_lload (pc' := 112) A at_110 rfl rfl ?_
            refine s_virtual (pc' := 115) (y := y7_put) (argsL := [(.int (0 : Int32)), (.long q5)]) (rest := []) (z := y7_put) A E2211 (gq_put7 l Z a0 hw n0 h2208 A.size b2 r12 r13 r14 (2 : Int32) (0 : Int32) (0 : Int32) q1 (0 : Int64) q3 q5 ⟨E2211, F2212, F2213, F2214, F2215, V2216, V2217, V2218, ne2219, ne2220, ne2221, ne2222, ne2223, ne2224, ge2225, ge2226, ge2227, ge2228⟩) (w39 hw) (w40 hw) (nf_same (C := "") (w42 hw)) (w42 hw) (w41 hw) (w2 hw) (w43 hw) (by decide) pd__IJ_V rfl (W := 0) (by decide) (by decide) (Nat.le_of_eq rfl) (by decide) (by decide) rfl rfl at_112 rfl fun T h2231 v2232 A Q2233 => ?_
            obtain ⟨rfl, K2229, H2230⟩ := Q2233
            obtain ⟨E2234, F2235, F2236, F2237, F2238, V2239, V2240, V2241, ne2242, ne2243, ne2244, ne2245, ne2246, ne2247, ge2248, ge2249, ge2250, ge2251⟩ := H2230
            refine Wp.stk (st' := []) rfl ?_
            refine s_aload (pc' := 117) A at_115 rfl rfl rfl ?_
            refine s_virtual (pc' := 120) (y := y9_poll) (argsL := []) (rest := []) (z := y9_poll) A E2234 (gq_poll10 l Z a0 hw n0 h2231 A.size b2 r12 r13 r14 (0 : Int32) (0 : Int32) [.long q5, .long (0 : Int64), .long q3] ⟨E2234, F2235, F2236, F2237, F2238, V2239, V2240, V2241, ne2242, ne2243, ne2244, ne2245, ne2246, ne2247, ge2248, ge2249, ge2250, ge2251⟩) (w53 hw) (w54 hw) (nf_same (C := "") (w56 hw)) (w56 hw) (w55 hw) (w2 hw) (w57 hw) (by decide) pd___I rfl (W := 0) (by decide) (by decide) (Nat.le_of_eq rfl) (by decide) (by decide) rfl rfl at_117 rfl fun T h2254 v2255 A Q2256 => ?_
            obtain ⟨rfl, K2252, H2253⟩ := Q2256
            obtain ⟨E2257, F2258, F2259, F2260, F2261, V2262, V2263, V2264, ne2265, ne2266, ne2267, ne2268, ne2269, ne2270, ge2271, ge2272, ge2273, ge2274⟩ := H2253
            refine Wp.stk (st' := [(.int (0 : Int32))]) rfl ?_
            refine s_iload (pc' := 122) A at_120 rfl rfl ?_
            refine s_icmpN (pc' := 125) A at_122 rfl (by decide) ?_
            refine s_aload (pc' := 127) A at_125 rfl rfl rfl ?_
            refine s_virtual (pc' := 130) (y := y3_isEmpty) (argsL := []) (rest := []) (z := y3_isEmpty) A E2257 (gq_isEmpty3 l Z a0 hw n0 h2254 A.size b2 r12 r13 r14 [.int (0 : Int32), .int (0 : Int32), .int (0 : Int32)] [.long q5, .long (0 : Int64), .long q3] [.int (-1 : Int32), .int (-1 : Int32), .int (-1 : Int32)] ⟨E2257, F2258, F2259, F2260, F2261, V2262, V2263, V2264, ne2265, ne2266, ne2267, ne2268, ne2269, ne2270, ge2271, ge2272, ge2273, ge2274⟩) (w28 hw) (w29 hw) (nf_same (C := "") (w31 hw)) (w31 hw) (w30 hw) (w2 hw) (w32 hw) (by decide) pd___Z rfl (W := 0) (by decide) (by decide) (Nat.le_of_eq rfl) (by decide) (by decide) rfl rfl at_127 rfl fun T h2277 v2278 A Q2279 => ?_
            obtain ⟨rfl, K2275, H2276⟩ := Q2279
            obtain ⟨E2280, F2281, F2282, F2283, F2284, V2285, V2286, V2287, ne2288, ne2289, ne2290, ne2291, ne2292, ne2293, ge2294, ge2295, ge2296, ge2297⟩ := H2276
            refine Wp.stk (st' := [(.int (1 : Int32))]) rfl ?_
            refine s_ifN (pc' := 133) A at_130 rfl (by decide) ?_
            refine s_iconst (pc' := 134) (z := (1 : Int32)) A at_133 rfl (by decide) ?_
            refine s_goto (pc' := 138) A at_134 (by decide) (by decide) ?_
            refine s_istore (pc' := 140) (Ls' := #[iv q0, jv q1, S2, jv q2, S2, jv q3, S2, iv q4, jv q5, S2, rv b2, iv 1, iv 0, iv 1]) A at_138 rfl rfl ?_
            refine s_iload (pc' := 142) A at_140 rfl rfl ?_
            refine s_ifN (pc' := 145) A at_142 rfl (by decide) ?_
            refine s_iload (pc' := 147) A at_145 rfl rfl ?_
            refine s_ifN (pc' := 150) A at_147 rfl (by decide) ?_
            refine s_iconst (pc' := 151) (z := (1 : Int32)) A at_150 rfl (by decide) ?_
            refine s_goto (pc' := 155) A at_151 (by decide) (by decide) ?_
            exact r_bool A rfl (by decide) at_155 (by decide) (by decide) (rfl)
          ·
            refine s_irem (pc' := 104) (z := (1 : Int32)) A at_103 rfl (by decide) hpp.symm ?_
            refine s_istore (pc' := 106) (Ls' := #[iv q0, jv q1, S2, jv q2, S2, jv q3, S2, iv q4, jv q5, S2, rv b2, iv 1, iv 1, U0]) A at_104 rfl rfl ?_
            refine s_aload (pc' := 108) A at_106 rfl rfl rfl ?_
            refine s_iload (pc' := 110) A at_108 rfl rfl ?_
            refine s_lload (pc' := 112) A at_110 rfl rfl ?_
            refine s_virtual (pc' := 115) (y := y7_put) (argsL := [(.int (1 : Int32)), (.long q5)]) (rest := []) (z := y7_put) A E2211 (gq_put12 l Z a0 hw n0 h2208 A.size b2 r12 r13 r14 (2 : Int32) (0 : Int32) (0 : Int32) q1 (0 : Int64) q3 q5 ⟨E2211, F2212, F2213, F2214, F2215, V2216, V2217, V2218, ne2219, ne2220, ne2221, ne2222, ne2223, ne2224, ge2225, ge2226, ge2227, ge2228⟩) (w39 hw) (w40 hw) (nf_same (C := "") (w42 hw)) (w42 hw) (w41 hw) (w2 hw) (w43 hw) (by decide) pd__IJ_V rfl (W := 0) (by decide) (by decide) (Nat.le_of_eq rfl) (by decide) (by decide) rfl rfl at_112 rfl fun T h2300 v2301 A Q2302 => ?_
            obtain ⟨rfl, K2298, H2299⟩ := Q2302
            obtain ⟨E2303, F2304, F2305, F2306, F2307, V2308, V2309, V2310, ne2311, ne2312, ne2313, ne2314, ne2315, ne2316, ge2317, ge2318, ge2319, ge2320⟩ := H2299
            refine Wp.stk (st' := []) rfl ?_
            refine s_aload (pc' := 117) A at_115 rfl rfl rfl ?_
            refine s_virtual (pc' := 120) (y := y9_poll) (argsL := []) (rest := []) (z := y9_poll) A E2303 (gq_poll15 l Z a0 hw n0 h2300 A.size b2 r12 r13 r14 (0 : Int32) (0 : Int32) [.long q1, .long q5, .long q3] ⟨E2303, F2304, F2305, F2306, F2307, V2308, V2309, V2310, ne2311, ne2312, ne2313, ne2314, ne2315, ne2316, ge2317, ge2318, ge2319, ge2320⟩) (w53 hw) (w54 hw) (nf_same (C := "") (w56 hw)) (w56 hw) (w55 hw) (w2 hw) (w57 hw) (by decide) pd___I rfl (W := 0) (by decide) (by decide) (Nat.le_of_eq rfl) (by decide) (by decide) rfl rfl at_117 rfl fun T h2323 v2324 A Q2325 => ?_
            obtain ⟨rfl, K2321, H2322⟩ := Q2325
            obtain ⟨E2326, F2327, F2328, F2329, F2330, V2331, V2332, V2333, ne2334, ne2335, ne2336, ne2337, ne2338, ne2339, ge2340, ge2341, ge2342, ge2343⟩ := H2322
            refine Wp.stk (st' := [(.int (1 : Int32))]) rfl ?_
            refine s_iload (pc' := 122) A at_120 rfl rfl ?_
            refine s_icmpN (pc' := 125) A at_122 rfl (by decide) ?_
            refine s_aload (pc' := 127) A at_125 rfl rfl rfl ?_
            refine s_virtual (pc' := 130) (y := y3_isEmpty) (argsL := []) (rest := []) (z := y3_isEmpty) A E2326 (gq_isEmpty3 l Z a0 hw n0 h2323 A.size b2 r12 r13 r14 [.int (1 : Int32), .int (0 : Int32), .int (0 : Int32)] [.long q1, .long q5, .long q3] [.int (-1 : Int32), .int (-1 : Int32), .int (-1 : Int32)] ⟨E2326, F2327, F2328, F2329, F2330, V2331, V2332, V2333, ne2334, ne2335, ne2336, ne2337, ne2338, ne2339, ge2340, ge2341, ge2342, ge2343⟩) (w28 hw) (w29 hw) (nf_same (C := "") (w31 hw)) (w31 hw) (w30 hw) (w2 hw) (w32 hw) (by decide) pd___Z rfl (W := 0) (by decide) (by decide) (Nat.le_of_eq rfl) (by decide) (by decide) rfl rfl at_127 rfl fun T h2346 v2347 A Q2348 => ?_
            obtain ⟨rfl, K2344, H2345⟩ := Q2348
            obtain ⟨E2349, F2350, F2351, F2352, F2353, V2354, V2355, V2356, ne2357, ne2358, ne2359, ne2360, ne2361, ne2362, ge2363, ge2364, ge2365, ge2366⟩ := H2345
            refine Wp.stk (st' := [(.int (1 : Int32))]) rfl ?_
            refine s_ifN (pc' := 133) A at_130 rfl (by decide) ?_
            refine s_iconst (pc' := 134) (z := (1 : Int32)) A at_133 rfl (by decide) ?_
            refine s_goto (pc' := 138) A at_134 (by decide) (by decide) ?_
            refine s_istore (pc' := 140) (Ls' := #[iv q0, jv q1, S2, jv q2, S2, jv q3, S2, iv q4, jv q5, S2, rv b2, iv 1, iv 1, iv 1]) A at_138 rfl rfl ?_
            refine s_iload (pc' := 142) A at_140 rfl rfl ?_
            refine s_ifN (pc' := 145) A at_142 rfl (by decide) ?_
            refine s_iload (pc' := 147) A at_145 rfl rfl ?_
            refine s_ifN (pc' := 150) A at_147 rfl (by decide) ?_
            refine s_iconst (pc' := 151) (z := (1 : Int32)) A at_150 rfl (by decide) ?_
            refine s_goto (pc' := 155) A at_151 (by decide) (by decide) ?_
            exact r_bool A rfl (by decide) at_155 (by decide) (by decide) (rfl)
          ·
            refine s_irem (pc' := 104) (z := (2 : Int32)) A at_103 rfl (by decide) hpp.symm ?_
            refine s_istore (pc' := 106) (Ls' := #[iv q0, jv q1, S2, jv q2, S2, jv q3, S2, iv q4, jv q5, S2, rv b2, iv 1, iv 2, U0]) A at_104 rfl rfl ?_
            refine s_aload (pc' := 108) A at_106 rfl rfl rfl ?_
            refine s_iload (pc' := 110) A at_108 rfl rfl ?_
            refine s_lload (pc' := 112) A at_110 rfl rfl ?_
            refine s_virtual (pc' := 115) (y := y7_put) (argsL := [(.int (2 : Int32)), (.long q5)]) (rest := []) (z := y7_put) A E2211 (gq_put17 l Z a0 hw n0 h2208 A.size b2 r12 r13 r14 (2 : Int32) (0 : Int32) (0 : Int32) q1 (0 : Int64) q3 q5 ⟨E2211, F2212, F2213, F2214, F2215, V2216, V2217, V2218, ne2219, ne2220, ne2221, ne2222, ne2223, ne2224, ge2225, ge2226, ge2227, ge2228⟩) (w39 hw) (w40 hw) (nf_same (C := "") (w42 hw)) (w42 hw) (w41 hw) (w2 hw) (w43 hw) (by decide) pd__IJ_V rfl (W := 0) (by decide) (by decide) (Nat.le_of_eq rfl) (by decide) (by decide) rfl rfl at_112 rfl fun T h2369 v2370 A Q2371 => ?_
            obtain ⟨rfl, K2367, H2368⟩ := Q2371
            obtain ⟨E2372, F2373, F2374, F2375, F2376, V2377, V2378, V2379, ne2380, ne2381, ne2382, ne2383, ne2384, ne2385, ge2386, ge2387, ge2388, ge2389⟩ := H2368
            refine Wp.stk (st' := []) rfl ?_
            refine s_aload (pc' := 117) A at_115 rfl rfl rfl ?_
            refine s_virtual (pc' := 120) (y := y9_poll) (argsL := []) (rest := []) (z := y9_poll) A E2372 (gq_poll20 l Z a0 hw n0 h2369 A.size b2 r12 r13 r14 (0 : Int32) (0 : Int32) [.long q1, .long (0 : Int64), .long q5] ⟨E2372, F2373, F2374, F2375, F2376, V2377, V2378, V2379, ne2380, ne2381, ne2382, ne2383, ne2384, ne2385, ge2386, ge2387, ge2388, ge2389⟩) (w53 hw) (w54 hw) (nf_same (C := "") (w56 hw)) (w56 hw) (w55 hw) (w2 hw) (w57 hw) (by decide) pd___I rfl (W := 0) (by decide) (by decide) (Nat.le_of_eq rfl) (by decide) (by decide) rfl rfl at_117 rfl fun T h2392 v2393 A Q2394 => ?_
            obtain ⟨rfl, K2390, H2391⟩ := Q2394
            obtain ⟨E2395, F2396, F2397, F2398, F2399, V2400, V2401, V2402, ne2403, ne2404, ne2405, ne2406, ne2407, ne2408, ge2409, ge2410, ge2411, ge2412⟩ := H2391
            refine Wp.stk (st' := [(.int (2 : Int32))]) rfl ?_
            refine s_iload (pc' := 122) A at_120 rfl rfl ?_
            refine s_icmpN (pc' := 125) A at_122 rfl (by decide) ?_
            refine s_aload (pc' := 127) A at_125 rfl rfl rfl ?_
            refine s_virtual (pc' := 130) (y := y3_isEmpty) (argsL := []) (rest := []) (z := y3_isEmpty) A E2395 (gq_isEmpty3 l Z a0 hw n0 h2392 A.size b2 r12 r13 r14 [.int (2 : Int32), .int (0 : Int32), .int (0 : Int32)] [.long q1, .long (0 : Int64), .long q5] [.int (-1 : Int32), .int (-1 : Int32), .int (-1 : Int32)] ⟨E2395, F2396, F2397, F2398, F2399, V2400, V2401, V2402, ne2403, ne2404, ne2405, ne2406, ne2407, ne2408, ge2409, ge2410, ge2411, ge2412⟩) (w28 hw) (w29 hw) (nf_same (C := "") (w31 hw)) (w31 hw) (w30 hw) (w2 hw) (w32 hw) (by decide) pd___Z rfl (W := 0) (by decide) (by decide) (Nat.le_of_eq rfl) (by decide) (by decide) rfl rfl at_127 rfl fun T h2415 v2416 A Q2417 => ?_
            obtain ⟨rfl, K2413, H2414⟩ := Q2417
            obtain ⟨E2418, F2419, F2420, F2421, F2422, V2423, V2424, V2425, ne2426, ne2427, ne2428, ne2429, ne2430, ne2431, ge2432, ge2433, ge2434, ge2435⟩ := H2414
            refine Wp.stk (st' := [(.int (1 : Int32))]) rfl ?_
            refine s_ifN (pc' := 133) A at_130 rfl (by decide) ?_
            refine s_iconst (pc' := 134) (z := (1 : Int32)) A at_133 rfl (by decide) ?_
            refine s_goto (pc' := 138) A at_134 (by decide) (by decide) ?_
            refine s_istore (pc' := 140) (Ls' := #[iv q0, jv q1, S2, jv q2, S2, jv q3, S2, iv q4, jv q5, S2, rv b2, iv 1, iv 2, iv 1]) A at_138 rfl rfl ?_
            refine s_iload (pc' := 142) A at_140 rfl rfl ?_
            refine s_ifN (pc' := 145) A at_142 rfl (by decide) ?_
            refine s_iload (pc' := 147) A at_145 rfl rfl ?_
            refine s_ifN (pc' := 150) A at_147 rfl (by decide) ?_
            refine s_iconst (pc' := 151) (z := (1 : Int32)) A at_150 rfl (by decide) ?_
            refine s_goto (pc' := 155) A at_151 (by decide) (by decide) ?_
            exact r_bool A rfl (by decide) at_155 (by decide) (by decide) (rfl)
        ·
          refine s_virtual (pc' := 50) (y := y7_put) (argsL := [(.int (2 : Int32)), (.long q3)]) (rest := []) (z := y7_put) A E1751 (gq_put44 l Z a0 hw n0 h1748 A.size b2 r12 r13 r14 q1 q3 ⟨E1751, F1752, F1753, F1754, F1755, V1756, V1757, V1758, ne1759, ne1760, ne1761, ne1762, ne1763, ne1764, ge1765, ge1766, ge1767, ge1768⟩ hk47) (w39 hw) (w40 hw) (nf_same (C := "") (w42 hw)) (w42 hw) (w41 hw) (w2 hw) (w43 hw) (by decide) pd__IJ_V rfl (W := 0) (by decide) (by decide) (Nat.le_of_eq rfl) (by decide) (by decide) rfl rfl at_47 rfl fun T h2438 v2439 A Q2440 => ?_
          obtain ⟨rfl, K2436, H2437⟩ := Q2440
          obtain ⟨E2441, F2442, F2443, F2444, F2445, V2446, V2447, V2448, ne2449, ne2450, ne2451, ne2452, ne2453, ne2454, ge2455, ge2456, ge2457, ge2458⟩ := H2437
          refine Wp.stk (st' := []) rfl ?_
          refine s_aload (pc' := 52) A at_50 rfl rfl rfl ?_
          refine s_virtual (pc' := 55) (y := y2_clear) (argsL := []) (rest := []) (z := y2_clear) A E2441 (gq_clear48 l Z a0 hw n0 h2438 A.size b2 r12 r13 r14 [.long q1, .long (0 : Int64), .long q3] ⟨E2441, F2442, F2443, F2444, F2445, V2446, V2447, V2448, ne2449, ne2450, ne2451, ne2452, ne2453, ne2454, ge2455, ge2456, ge2457, ge2458⟩) (w23 hw) (w24 hw) (nf_same (C := "") (w26 hw)) (w26 hw) (w25 hw) (w2 hw) (w27 hw) (by decide) pd___V rfl (W := 0) (by decide) (by decide) (Nat.le_of_eq rfl) (by decide) (by decide) rfl rfl at_52 rfl fun T h2461 v2462 A Q2463 => ?_
          obtain ⟨rfl, K2459, H2460⟩ := Q2463
          obtain ⟨E2464, F2465, F2466, F2467, F2468, V2469, V2470, V2471, ne2472, ne2473, ne2474, ne2475, ne2476, ne2477, ge2478, ge2479, ge2480, ge2481⟩ := H2460
          refine Wp.stk (st' := []) rfl ?_
          refine s_aload (pc' := 57) A at_55 rfl rfl rfl ?_
          refine s_virtual (pc' := 60) (y := y3_isEmpty) (argsL := []) (rest := []) (z := y3_isEmpty) A E2464 (gq_isEmpty3 l Z a0 hw n0 h2461 A.size b2 r12 r13 r14 [.int (0 : Int32), .int (2 : Int32), .int (0 : Int32)] [.long q1, .long (0 : Int64), .long q3] [.int (-1 : Int32), .int (-1 : Int32), .int (-1 : Int32)] ⟨E2464, F2465, F2466, F2467, F2468, V2469, V2470, V2471, ne2472, ne2473, ne2474, ne2475, ne2476, ne2477, ge2478, ge2479, ge2480, ge2481⟩) (w28 hw) (w29 hw) (nf_same (C := "") (w31 hw)) (w31 hw) (w30 hw) (w2 hw) (w32 hw) (by decide) pd___Z rfl (W := 0) (by decide) (by decide) (Nat.le_of_eq rfl) (by decide) (by decide) rfl rfl at_57 rfl fun T h2484 v2485 A Q2486 => ?_
          obtain ⟨rfl, K2482, H2483⟩ := Q2486
          obtain ⟨E2487, F2488, F2489, F2490, F2491, V2492, V2493, V2494, ne2495, ne2496, ne2497, ne2498, ne2499, ne2500, ge2501, ge2502, ge2503, ge2504⟩ := H2483
          refine Wp.stk (st' := [(.int (1 : Int32))]) rfl ?_
          refine s_ifN (pc' := 63) A at_60 rfl (by decide) ?_
          refine s_aload (pc' := 65) A at_63 rfl rfl rfl ?_
          refine s_iconst (pc' := 66) (z := (0 : Int32)) A at_65 rfl (by decide) ?_
          refine s_virtual (pc' := 69) (y := y4_contains) (argsL := [(.int (0 : Int32))]) (rest := []) (z := y4_contains) A E2487 (gq_contains4 l Z a0 hw n0 h2484 A.size b2 r12 r13 r14 [.int (0 : Int32), .int (2 : Int32), .int (0 : Int32)] [.long q1, .long (0 : Int64), .long q3] ⟨E2487, F2488, F2489, F2490, F2491, V2492, V2493, V2494, ne2495, ne2496, ne2497, ne2498, ne2499, ne2500, ge2501, ge2502, ge2503, ge2504⟩) (w33 hw) (w34 hw) (nf_same (C := "") (w36 hw)) (w36 hw) (w35 hw) (w2 hw) (w37 hw) (by decide) pd__I_Z rfl (W := 0) (by decide) (by decide) (Nat.le_of_eq rfl) (by decide) (by decide) rfl rfl at_66 rfl fun T h2507 v2508 A Q2509 => ?_
          obtain ⟨rfl, K2505, H2506⟩ := Q2509
          obtain ⟨E2510, F2511, F2512, F2513, F2514, V2515, V2516, V2517, ne2518, ne2519, ne2520, ne2521, ne2522, ne2523, ge2524, ge2525, ge2526, ge2527⟩ := H2506
          refine Wp.stk (st' := [(.int (0 : Int32))]) rfl ?_
          refine s_ifN (pc' := 72) A at_69 rfl (by decide) ?_
          refine s_aload (pc' := 74) A at_72 rfl rfl rfl ?_
          refine s_iconst (pc' := 75) (z := (1 : Int32)) A at_74 rfl (by decide) ?_
          refine s_virtual (pc' := 78) (y := y4_contains) (argsL := [(.int (1 : Int32))]) (rest := []) (z := y4_contains) A E2510 (gq_contains5 l Z a0 hw n0 h2507 A.size b2 r12 r13 r14 [.int (0 : Int32), .int (2 : Int32), .int (0 : Int32)] [.long q1, .long (0 : Int64), .long q3] ⟨E2510, F2511, F2512, F2513, F2514, V2515, V2516, V2517, ne2518, ne2519, ne2520, ne2521, ne2522, ne2523, ge2524, ge2525, ge2526, ge2527⟩) (w33 hw) (w34 hw) (nf_same (C := "") (w36 hw)) (w36 hw) (w35 hw) (w2 hw) (w37 hw) (by decide) pd__I_Z rfl (W := 0) (by decide) (by decide) (Nat.le_of_eq rfl) (by decide) (by decide) rfl rfl at_75 rfl fun T h2530 v2531 A Q2532 => ?_
          obtain ⟨rfl, K2528, H2529⟩ := Q2532
          obtain ⟨E2533, F2534, F2535, F2536, F2537, V2538, V2539, V2540, ne2541, ne2542, ne2543, ne2544, ne2545, ne2546, ge2547, ge2548, ge2549, ge2550⟩ := H2529
          refine Wp.stk (st' := [(.int (0 : Int32))]) rfl ?_
          refine s_ifN (pc' := 81) A at_78 rfl (by decide) ?_
          refine s_aload (pc' := 83) A at_81 rfl rfl rfl ?_
          refine s_iconst (pc' := 84) (z := (2 : Int32)) A at_83 rfl (by decide) ?_
          refine s_virtual (pc' := 87) (y := y4_contains) (argsL := [(.int (2 : Int32))]) (rest := []) (z := y4_contains) A E2533 (gq_contains6 l Z a0 hw n0 h2530 A.size b2 r12 r13 r14 [.int (0 : Int32), .int (2 : Int32), .int (0 : Int32)] [.long q1, .long (0 : Int64), .long q3] ⟨E2533, F2534, F2535, F2536, F2537, V2538, V2539, V2540, ne2541, ne2542, ne2543, ne2544, ne2545, ne2546, ge2547, ge2548, ge2549, ge2550⟩) (w33 hw) (w34 hw) (nf_same (C := "") (w36 hw)) (w36 hw) (w35 hw) (w2 hw) (w37 hw) (by decide) pd__I_Z rfl (W := 0) (by decide) (by decide) (Nat.le_of_eq rfl) (by decide) (by decide) rfl rfl at_84 rfl fun T h2553 v2554 A Q2555 => ?_
          obtain ⟨rfl, K2551, H2552⟩ := Q2555
          obtain ⟨E2556, F2557, F2558, F2559, F2560, V2561, V2562, V2563, ne2564, ne2565, ne2566, ne2567, ne2568, ne2569, ge2570, ge2571, ge2572, ge2573⟩ := H2552
          refine Wp.stk (st' := [(.int (0 : Int32))]) rfl ?_
          refine s_ifN (pc' := 90) A at_87 rfl (by decide) ?_
          refine s_iconst (pc' := 91) (z := (1 : Int32)) A at_90 rfl (by decide) ?_
          refine s_goto (pc' := 95) A at_91 (by decide) (by decide) ?_
          refine s_istore (pc' := 97) (Ls' := #[iv q0, jv q1, S2, jv q2, S2, jv q3, S2, iv q4, jv q5, S2, rv b2, iv 1, U0, U0]) A at_95 rfl rfl ?_
          refine s_iload (pc' := 99) A at_97 rfl rfl ?_
          refine s_ldcInt (pc' := 101) A at_99 rfl (w38 hw) ?_
          refine s_iand (pc' := 102) (z := (q4 &&& (2147483647 : Int32))) A at_101 rfl rfl ?_
          refine s_iconst (pc' := 103) (z := (3 : Int32)) A at_102 rfl (by decide) ?_
          obtain ⟨pp, hpp⟩ : ∃ z, z = ((q4 &&& (2147483647 : Int32)) % (3 : Int32)) := ⟨_, rfl⟩
          have cp := own_p q4
          rw [← hpp] at cp
          rcases cp with rfl | rfl | rfl
          ·
            refine s_irem (pc' := 104) (z := (0 : Int32)) A at_103 rfl (by decide) hpp.symm ?_
            refine s_istore (pc' := 106) (Ls' := #[iv q0, jv q1, S2, jv q2, S2, jv q3, S2, iv q4, jv q5, S2, rv b2, iv 1, iv 0, U0]) A at_104 rfl rfl ?_
            refine s_aload (pc' := 108) A at_106 rfl rfl rfl ?_
            refine s_iload (pc' := 110) A at_108 rfl rfl ?_
            refine s_lload (pc' := 112) A at_110 rfl rfl ?_
            refine s_virtual (pc' := 115) (y := y7_put) (argsL := [(.int (0 : Int32)), (.long q5)]) (rest := []) (z := y7_put) A E2556 (gq_put7 l Z a0 hw n0 h2553 A.size b2 r12 r13 r14 (0 : Int32) (2 : Int32) (0 : Int32) q1 (0 : Int64) q3 q5 ⟨E2556, F2557, F2558, F2559, F2560, V2561, V2562, V2563, ne2564, ne2565, ne2566, ne2567, ne2568, ne2569, ge2570, ge2571, ge2572, ge2573⟩) (w39 hw) (w40 hw) (nf_same (C := "") (w42 hw)) (w42 hw) (w41 hw) (w2 hw) (w43 hw) (by decide) pd__IJ_V rfl (W := 0) (by decide) (by decide) (Nat.le_of_eq rfl) (by decide) (by decide) rfl rfl at_112 rfl fun T h2576 v2577 A Q2578 => ?_
            obtain ⟨rfl, K2574, H2575⟩ := Q2578
            obtain ⟨E2579, F2580, F2581, F2582, F2583, V2584, V2585, V2586, ne2587, ne2588, ne2589, ne2590, ne2591, ne2592, ge2593, ge2594, ge2595, ge2596⟩ := H2575
            refine Wp.stk (st' := []) rfl ?_
            refine s_aload (pc' := 117) A at_115 rfl rfl rfl ?_
            refine s_virtual (pc' := 120) (y := y9_poll) (argsL := []) (rest := []) (z := y9_poll) A E2579 (gq_poll10 l Z a0 hw n0 h2576 A.size b2 r12 r13 r14 (2 : Int32) (0 : Int32) [.long q5, .long (0 : Int64), .long q3] ⟨E2579, F2580, F2581, F2582, F2583, V2584, V2585, V2586, ne2587, ne2588, ne2589, ne2590, ne2591, ne2592, ge2593, ge2594, ge2595, ge2596⟩) (w53 hw) (w54 hw) (nf_same (C := "") (w56 hw)) (w56 hw) (w55 hw) (w2 hw) (w57 hw) (by decide) pd___I rfl (W := 0) (by decide) (by decide) (Nat.le_of_eq rfl) (by decide) (by decide) rfl rfl at_117 rfl fun T h2599 v2600 A Q2601 => ?_
            obtain ⟨rfl, K2597, H2598⟩ := Q2601
            obtain ⟨E2602, F2603, F2604, F2605, F2606, V2607, V2608, V2609, ne2610, ne2611, ne2612, ne2613, ne2614, ne2615, ge2616, ge2617, ge2618, ge2619⟩ := H2598
            refine Wp.stk (st' := [(.int (0 : Int32))]) rfl ?_
            refine s_iload (pc' := 122) A at_120 rfl rfl ?_
            refine s_icmpN (pc' := 125) A at_122 rfl (by decide) ?_
            refine s_aload (pc' := 127) A at_125 rfl rfl rfl ?_
            refine s_virtual (pc' := 130) (y := y3_isEmpty) (argsL := []) (rest := []) (z := y3_isEmpty) A E2602 (gq_isEmpty3 l Z a0 hw n0 h2599 A.size b2 r12 r13 r14 [.int (0 : Int32), .int (2 : Int32), .int (0 : Int32)] [.long q5, .long (0 : Int64), .long q3] [.int (-1 : Int32), .int (-1 : Int32), .int (-1 : Int32)] ⟨E2602, F2603, F2604, F2605, F2606, V2607, V2608, V2609, ne2610, ne2611, ne2612, ne2613, ne2614, ne2615, ge2616, ge2617, ge2618, ge2619⟩) (w28 hw) (w29 hw) (nf_same (C := "") (w31 hw)) (w31 hw) (w30 hw) (w2 hw) (w32 hw) (by decide) pd___Z rfl (W := 0) (by decide) (by decide) (Nat.le_of_eq rfl) (by decide) (by decide) rfl rfl at_127 rfl fun T h2622 v2623 A Q2624 => ?_
            obtain ⟨rfl, K2620, H2621⟩ := Q2624
            obtain ⟨E2625, F2626, F2627, F2628, F2629, V2630, V2631, V2632, ne2633, ne2634, ne2635, ne2636, ne2637, ne2638, ge2639, ge2640, ge2641, ge2642⟩ := H2621
            refine Wp.stk (st' := [(.int (1 : Int32))]) rfl ?_
            refine s_ifN (pc' := 133) A at_130 rfl (by decide) ?_
            refine s_iconst (pc' := 134) (z := (1 : Int32)) A at_133 rfl (by decide) ?_
            refine s_goto (pc' := 138) A at_134 (by decide) (by decide) ?_
            refine s_istore (pc' := 140) (Ls' := #[iv q0, jv q1, S2, jv q2, S2, jv q3, S2, iv q4, jv q5, S2, rv b2, iv 1, iv 0, iv 1]) A at_138 rfl rfl ?_
            refine s_iload (pc' := 142) A at_140 rfl rfl ?_
            refine s_ifN (pc' := 145) A at_142 rfl (by decide) ?_
            refine s_iload (pc' := 147) A at_145 rfl rfl ?_
            refine s_ifN (pc' := 150) A at_147 rfl (by decide) ?_
            refine s_iconst (pc' := 151) (z := (1 : Int32)) A at_150 rfl (by decide) ?_
            refine s_goto (pc' := 155) A at_151 (by decide) (by decide) ?_
            exact r_bool A rfl (by decide) at_155 (by decide) (by decide) (rfl)
          ·
            refine s_irem (pc' := 104) (z := (1 : Int32)) A at_103 rfl (by decide) hpp.symm ?_
            refine s_istore (pc' := 106) (Ls' := #[iv q0, jv q1, S2, jv q2, S2, jv q3, S2, iv q4, jv q5, S2, rv b2, iv 1, iv 1, U0]) A at_104 rfl rfl ?_
            refine s_aload (pc' := 108) A at_106 rfl rfl rfl ?_
            refine s_iload (pc' := 110) A at_108 rfl rfl ?_
            refine s_lload (pc' := 112) A at_110 rfl rfl ?_
            refine s_virtual (pc' := 115) (y := y7_put) (argsL := [(.int (1 : Int32)), (.long q5)]) (rest := []) (z := y7_put) A E2556 (gq_put12 l Z a0 hw n0 h2553 A.size b2 r12 r13 r14 (0 : Int32) (2 : Int32) (0 : Int32) q1 (0 : Int64) q3 q5 ⟨E2556, F2557, F2558, F2559, F2560, V2561, V2562, V2563, ne2564, ne2565, ne2566, ne2567, ne2568, ne2569, ge2570, ge2571, ge2572, ge2573⟩) (w39 hw) (w40 hw) (nf_same (C := "") (w42 hw)) (w42 hw) (w41 hw) (w2 hw) (w43 hw) (by decide) pd__IJ_V rfl (W := 0) (by decide) (by decide) (Nat.le_of_eq rfl) (by decide) (by decide) rfl rfl at_112 rfl fun T h2645 v2646 A Q2647 => ?_
            obtain ⟨rfl, K2643, H2644⟩ := Q2647
            obtain ⟨E2648, F2649, F2650, F2651, F2652, V2653, V2654, V2655, ne2656, ne2657, ne2658, ne2659, ne2660, ne2661, ge2662, ge2663, ge2664, ge2665⟩ := H2644
            refine Wp.stk (st' := []) rfl ?_
            refine s_aload (pc' := 117) A at_115 rfl rfl rfl ?_
            refine s_virtual (pc' := 120) (y := y9_poll) (argsL := []) (rest := []) (z := y9_poll) A E2648 (gq_poll15 l Z a0 hw n0 h2645 A.size b2 r12 r13 r14 (2 : Int32) (0 : Int32) [.long q1, .long q5, .long q3] ⟨E2648, F2649, F2650, F2651, F2652, V2653, V2654, V2655, ne2656, ne2657, ne2658, ne2659, ne2660, ne2661, ge2662, ge2663, ge2664, ge2665⟩) (w53 hw) (w54 hw) (nf_same (C := "") (w56 hw)) (w56 hw) (w55 hw) (w2 hw) (w57 hw) (by decide) pd___I rfl (W := 0) (by decide) (by decide) (Nat.le_of_eq rfl) (by decide) (by decide) rfl rfl at_117 rfl fun T h2668 v2669 A Q2670 => ?_
            obtain ⟨rfl, K2666, H2667⟩ := Q2670
            obtain ⟨E2671, F2672, F2673, F2674, F2675, V2676, V2677, V2678, ne2679, ne2680, ne2681, ne2682, ne2683, ne2684, ge2685, ge2686, ge2687, ge2688⟩ := H2667
            refine Wp.stk (st' := [(.int (1 : Int32))]) rfl ?_
            refine s_iload (pc' := 122) A at_120 rfl rfl ?_
            refine s_icmpN (pc' := 125) A at_122 rfl (by decide) ?_
            refine s_aload (pc' := 127) A at_125 rfl rfl rfl ?_
            refine s_virtual (pc' := 130) (y := y3_isEmpty) (argsL := []) (rest := []) (z := y3_isEmpty) A E2671 (gq_isEmpty3 l Z a0 hw n0 h2668 A.size b2 r12 r13 r14 [.int (1 : Int32), .int (2 : Int32), .int (0 : Int32)] [.long q1, .long q5, .long q3] [.int (-1 : Int32), .int (-1 : Int32), .int (-1 : Int32)] ⟨E2671, F2672, F2673, F2674, F2675, V2676, V2677, V2678, ne2679, ne2680, ne2681, ne2682, ne2683, ne2684, ge2685, ge2686, ge2687, ge2688⟩) (w28 hw) (w29 hw) (nf_same (C := "") (w31 hw)) (w31 hw) (w30 hw) (w2 hw) (w32 hw) (by decide) pd___Z rfl (W := 0) (by decide) (by decide) (Nat.le_of_eq rfl) (by decide) (by decide) rfl rfl at_127 rfl fun T h2691 v2692 A Q2693 => ?_
            obtain ⟨rfl, K2689, H2690⟩ := Q2693
            obtain ⟨E2694, F2695, F2696, F2697, F2698, V2699, V2700, V2701, ne2702, ne2703, ne2704, ne2705, ne2706, ne2707, ge2708, ge2709, ge2710, ge2711⟩ := H2690
            refine Wp.stk (st' := [(.int (1 : Int32))]) rfl ?_
            refine s_ifN (pc' := 133) A at_130 rfl (by decide) ?_
            refine s_iconst (pc' := 134) (z := (1 : Int32)) A at_133 rfl (by decide) ?_
            refine s_goto (pc' := 138) A at_134 (by decide) (by decide) ?_
            refine s_istore (pc' := 140) (Ls' := #[iv q0, jv q1, S2, jv q2, S2, jv q3, S2, iv q4, jv q5, S2, rv b2, iv 1, iv 1, iv 1]) A at_138 rfl rfl ?_
            refine s_iload (pc' := 142) A at_140 rfl rfl ?_
            refine s_ifN (pc' := 145) A at_142 rfl (by decide) ?_
            refine s_iload (pc' := 147) A at_145 rfl rfl ?_
            refine s_ifN (pc' := 150) A at_147 rfl (by decide) ?_
            refine s_iconst (pc' := 151) (z := (1 : Int32)) A at_150 rfl (by decide) ?_
            refine s_goto (pc' := 155) A at_151 (by decide) (by decide) ?_
            exact r_bool A rfl (by decide) at_155 (by decide) (by decide) (rfl)
          ·
            refine s_irem (pc' := 104) (z := (2 : Int32)) A at_103 rfl (by decide) hpp.symm ?_
            refine s_istore (pc' := 106) (Ls' := #[iv q0, jv q1, S2, jv q2, S2, jv q3, S2, iv q4, jv q5, S2, rv b2, iv 1, iv 2, U0]) A at_104 rfl rfl ?_
            refine s_aload (pc' := 108) A at_106 rfl rfl rfl ?_
            refine s_iload (pc' := 110) A at_108 rfl rfl ?_
            refine s_lload (pc' := 112) A at_110 rfl rfl ?_
            refine s_virtual (pc' := 115) (y := y7_put) (argsL := [(.int (2 : Int32)), (.long q5)]) (rest := []) (z := y7_put) A E2556 (gq_put17 l Z a0 hw n0 h2553 A.size b2 r12 r13 r14 (0 : Int32) (2 : Int32) (0 : Int32) q1 (0 : Int64) q3 q5 ⟨E2556, F2557, F2558, F2559, F2560, V2561, V2562, V2563, ne2564, ne2565, ne2566, ne2567, ne2568, ne2569, ge2570, ge2571, ge2572, ge2573⟩) (w39 hw) (w40 hw) (nf_same (C := "") (w42 hw)) (w42 hw) (w41 hw) (w2 hw) (w43 hw) (by decide) pd__IJ_V rfl (W := 0) (by decide) (by decide) (Nat.le_of_eq rfl) (by decide) (by decide) rfl rfl at_112 rfl fun T h2714 v2715 A Q2716 => ?_
            obtain ⟨rfl, K2712, H2713⟩ := Q2716
            obtain ⟨E2717, F2718, F2719, F2720, F2721, V2722, V2723, V2724, ne2725, ne2726, ne2727, ne2728, ne2729, ne2730, ge2731, ge2732, ge2733, ge2734⟩ := H2713
            refine Wp.stk (st' := []) rfl ?_
            refine s_aload (pc' := 117) A at_115 rfl rfl rfl ?_
            refine s_virtual (pc' := 120) (y := y9_poll) (argsL := []) (rest := []) (z := y9_poll) A E2717 (gq_poll20 l Z a0 hw n0 h2714 A.size b2 r12 r13 r14 (2 : Int32) (0 : Int32) [.long q1, .long (0 : Int64), .long q5] ⟨E2717, F2718, F2719, F2720, F2721, V2722, V2723, V2724, ne2725, ne2726, ne2727, ne2728, ne2729, ne2730, ge2731, ge2732, ge2733, ge2734⟩) (w53 hw) (w54 hw) (nf_same (C := "") (w56 hw)) (w56 hw) (w55 hw) (w2 hw) (w57 hw) (by decide) pd___I rfl (W := 0) (by decide) (by decide) (Nat.le_of_eq rfl) (by decide) (by decide) rfl rfl at_117 rfl fun T h2737 v2738 A Q2739 => ?_
            obtain ⟨rfl, K2735, H2736⟩ := Q2739
            obtain ⟨E2740, F2741, F2742, F2743, F2744, V2745, V2746, V2747, ne2748, ne2749, ne2750, ne2751, ne2752, ne2753, ge2754, ge2755, ge2756, ge2757⟩ := H2736
            refine Wp.stk (st' := [(.int (2 : Int32))]) rfl ?_
            refine s_iload (pc' := 122) A at_120 rfl rfl ?_
            refine s_icmpN (pc' := 125) A at_122 rfl (by decide) ?_
            refine s_aload (pc' := 127) A at_125 rfl rfl rfl ?_
            refine s_virtual (pc' := 130) (y := y3_isEmpty) (argsL := []) (rest := []) (z := y3_isEmpty) A E2740 (gq_isEmpty3 l Z a0 hw n0 h2737 A.size b2 r12 r13 r14 [.int (2 : Int32), .int (2 : Int32), .int (0 : Int32)] [.long q1, .long (0 : Int64), .long q5] [.int (-1 : Int32), .int (-1 : Int32), .int (-1 : Int32)] ⟨E2740, F2741, F2742, F2743, F2744, V2745, V2746, V2747, ne2748, ne2749, ne2750, ne2751, ne2752, ne2753, ge2754, ge2755, ge2756, ge2757⟩) (w28 hw) (w29 hw) (nf_same (C := "") (w31 hw)) (w31 hw) (w30 hw) (w2 hw) (w32 hw) (by decide) pd___Z rfl (W := 0) (by decide) (by decide) (Nat.le_of_eq rfl) (by decide) (by decide) rfl rfl at_127 rfl fun T h2760 v2761 A Q2762 => ?_
            obtain ⟨rfl, K2758, H2759⟩ := Q2762
            obtain ⟨E2763, F2764, F2765, F2766, F2767, V2768, V2769, V2770, ne2771, ne2772, ne2773, ne2774, ne2775, ne2776, ge2777, ge2778, ge2779, ge2780⟩ := H2759
            refine Wp.stk (st' := [(.int (1 : Int32))]) rfl ?_
            refine s_ifN (pc' := 133) A at_130 rfl (by decide) ?_
            refine s_iconst (pc' := 134) (z := (1 : Int32)) A at_133 rfl (by decide) ?_
            refine s_goto (pc' := 138) A at_134 (by decide) (by decide) ?_
            refine s_istore (pc' := 140) (Ls' := #[iv q0, jv q1, S2, jv q2, S2, jv q3, S2, iv q4, jv q5, S2, rv b2, iv 1, iv 2, iv 1]) A at_138 rfl rfl ?_
            refine s_iload (pc' := 142) A at_140 rfl rfl ?_
            refine s_ifN (pc' := 145) A at_142 rfl (by decide) ?_
            refine s_iload (pc' := 147) A at_145 rfl rfl ?_
            refine s_ifN (pc' := 150) A at_147 rfl (by decide) ?_
            refine s_iconst (pc' := 151) (z := (1 : Int32)) A at_150 rfl (by decide) ?_
            refine s_goto (pc' := 155) A at_151 (by decide) (by decide) ?_
            exact r_bool A rfl (by decide) at_155 (by decide) (by decide) (rfl)
    ·
      refine s_ifN (pc' := 29) A at_26 rfl ((if0 _ _).trans (feq hc26_1).1) ?_
      refine s_aload (pc' := 31) A at_29 rfl rfl rfl ?_
      refine s_iconst (pc' := 32) (z := (1 : Int32)) A at_31 rfl (by decide) ?_
      refine s_lloadN (pc' := 33) A at_32 rfl rfl ?_
      by_cases hk33 : q1 < q2
      ·
        refine s_virtual (pc' := 36) (y := y7_put) (argsL := [(.int (1 : Int32)), (.long q2)]) (rest := []) (z := y7_put) A E1751 (gq_put49 l Z a0 hw n0 h1748 A.size b2 r12 r13 r14 q1 q2 ⟨E1751, F1752, F1753, F1754, F1755, V1756, V1757, V1758, ne1759, ne1760, ne1761, ne1762, ne1763, ne1764, ge1765, ge1766, ge1767, ge1768⟩ hk33) (w39 hw) (w40 hw) (nf_same (C := "") (w42 hw)) (w42 hw) (w41 hw) (w2 hw) (w43 hw) (by decide) pd__IJ_V rfl (W := 0) (by decide) (by decide) (Nat.le_of_eq rfl) (by decide) (by decide) rfl rfl at_33 rfl fun T h2783 v2784 A Q2785 => ?_
        obtain ⟨rfl, K2781, H2782⟩ := Q2785
        obtain ⟨E2786, F2787, F2788, F2789, F2790, V2791, V2792, V2793, ne2794, ne2795, ne2796, ne2797, ne2798, ne2799, ge2800, ge2801, ge2802, ge2803⟩ := H2782
        refine Wp.stk (st' := []) rfl ?_
        refine s_iloadN (pc' := 37) A at_36 rfl rfl ?_
        refine s_iconst (pc' := 38) (z := (4 : Int32)) A at_37 rfl (by decide) ?_
        refine s_iand (pc' := 39) (z := (q0 &&& (4 : Int32))) A at_38 rfl rfl ?_
        by_cases hc39_1 : (q0 &&& (4 : Int32)) = (0 : Int32)
        ·
          refine s_ifY (pc' := 50) A at_39 ((if0 _ _).trans (teq hc39_1).1) (by decide) (by decide) ?_
          refine s_aload (pc' := 52) A at_50 rfl rfl rfl ?_
          refine s_virtual (pc' := 55) (y := y2_clear) (argsL := []) (rest := []) (z := y2_clear) A E2786 (gq_clear55 l Z a0 hw n0 h2783 A.size b2 r12 r13 r14 [.long q1, .long q2, .long (0 : Int64)] ⟨E2786, F2787, F2788, F2789, F2790, V2791, V2792, V2793, ne2794, ne2795, ne2796, ne2797, ne2798, ne2799, ge2800, ge2801, ge2802, ge2803⟩) (w23 hw) (w24 hw) (nf_same (C := "") (w26 hw)) (w26 hw) (w25 hw) (w2 hw) (w27 hw) (by decide) pd___V rfl (W := 0) (by decide) (by decide) (Nat.le_of_eq rfl) (by decide) (by decide) rfl rfl at_52 rfl fun T h2806 v2807 A Q2808 => ?_
          obtain ⟨rfl, K2804, H2805⟩ := Q2808
          obtain ⟨E2809, F2810, F2811, F2812, F2813, V2814, V2815, V2816, ne2817, ne2818, ne2819, ne2820, ne2821, ne2822, ge2823, ge2824, ge2825, ge2826⟩ := H2805
          refine Wp.stk (st' := []) rfl ?_
          refine s_aload (pc' := 57) A at_55 rfl rfl rfl ?_
          refine s_virtual (pc' := 60) (y := y3_isEmpty) (argsL := []) (rest := []) (z := y3_isEmpty) A E2809 (gq_isEmpty3 l Z a0 hw n0 h2806 A.size b2 r12 r13 r14 [.int (1 : Int32), .int (0 : Int32), .int (0 : Int32)] [.long q1, .long q2, .long (0 : Int64)] [.int (-1 : Int32), .int (-1 : Int32), .int (-1 : Int32)] ⟨E2809, F2810, F2811, F2812, F2813, V2814, V2815, V2816, ne2817, ne2818, ne2819, ne2820, ne2821, ne2822, ge2823, ge2824, ge2825, ge2826⟩) (w28 hw) (w29 hw) (nf_same (C := "") (w31 hw)) (w31 hw) (w30 hw) (w2 hw) (w32 hw) (by decide) pd___Z rfl (W := 0) (by decide) (by decide) (Nat.le_of_eq rfl) (by decide) (by decide) rfl rfl at_57 rfl fun T h2829 v2830 A Q2831 => ?_
          obtain ⟨rfl, K2827, H2828⟩ := Q2831
          obtain ⟨E2832, F2833, F2834, F2835, F2836, V2837, V2838, V2839, ne2840, ne2841, ne2842, ne2843, ne2844, ne2845, ge2846, ge2847, ge2848, ge2849⟩ := H2828
          refine Wp.stk (st' := [(.int (1 : Int32))]) rfl ?_
          refine s_ifN (pc' := 63) A at_60 rfl (by decide) ?_
          refine s_aload (pc' := 65) A at_63 rfl rfl rfl ?_
          refine s_iconst (pc' := 66) (z := (0 : Int32)) A at_65 rfl (by decide) ?_
          refine s_virtual (pc' := 69) (y := y4_contains) (argsL := [(.int (0 : Int32))]) (rest := []) (z := y4_contains) A E2832 (gq_contains4 l Z a0 hw n0 h2829 A.size b2 r12 r13 r14 [.int (1 : Int32), .int (0 : Int32), .int (0 : Int32)] [.long q1, .long q2, .long (0 : Int64)] ⟨E2832, F2833, F2834, F2835, F2836, V2837, V2838, V2839, ne2840, ne2841, ne2842, ne2843, ne2844, ne2845, ge2846, ge2847, ge2848, ge2849⟩) (w33 hw) (w34 hw) (nf_same (C := "") (w36 hw)) (w36 hw) (w35 hw) (w2 hw) (w37 hw) (by decide) pd__I_Z rfl (W := 0) (by decide) (by decide) (Nat.le_of_eq rfl) (by decide) (by decide) rfl rfl at_66 rfl fun T h2852 v2853 A Q2854 => ?_
          obtain ⟨rfl, K2850, H2851⟩ := Q2854
          obtain ⟨E2855, F2856, F2857, F2858, F2859, V2860, V2861, V2862, ne2863, ne2864, ne2865, ne2866, ne2867, ne2868, ge2869, ge2870, ge2871, ge2872⟩ := H2851
          refine Wp.stk (st' := [(.int (0 : Int32))]) rfl ?_
          refine s_ifN (pc' := 72) A at_69 rfl (by decide) ?_
          refine s_aload (pc' := 74) A at_72 rfl rfl rfl ?_
          refine s_iconst (pc' := 75) (z := (1 : Int32)) A at_74 rfl (by decide) ?_
          refine s_virtual (pc' := 78) (y := y4_contains) (argsL := [(.int (1 : Int32))]) (rest := []) (z := y4_contains) A E2855 (gq_contains5 l Z a0 hw n0 h2852 A.size b2 r12 r13 r14 [.int (1 : Int32), .int (0 : Int32), .int (0 : Int32)] [.long q1, .long q2, .long (0 : Int64)] ⟨E2855, F2856, F2857, F2858, F2859, V2860, V2861, V2862, ne2863, ne2864, ne2865, ne2866, ne2867, ne2868, ge2869, ge2870, ge2871, ge2872⟩) (w33 hw) (w34 hw) (nf_same (C := "") (w36 hw)) (w36 hw) (w35 hw) (w2 hw) (w37 hw) (by decide) pd__I_Z rfl (W := 0) (by decide) (by decide) (Nat.le_of_eq rfl) (by decide) (by decide) rfl rfl at_75 rfl fun T h2875 v2876 A Q2877 => ?_
          obtain ⟨rfl, K2873, H2874⟩ := Q2877
          obtain ⟨E2878, F2879, F2880, F2881, F2882, V2883, V2884, V2885, ne2886, ne2887, ne2888, ne2889, ne2890, ne2891, ge2892, ge2893, ge2894, ge2895⟩ := H2874
          refine Wp.stk (st' := [(.int (0 : Int32))]) rfl ?_
          refine s_ifN (pc' := 81) A at_78 rfl (by decide) ?_
          refine s_aload (pc' := 83) A at_81 rfl rfl rfl ?_
          refine s_iconst (pc' := 84) (z := (2 : Int32)) A at_83 rfl (by decide) ?_
          refine s_virtual (pc' := 87) (y := y4_contains) (argsL := [(.int (2 : Int32))]) (rest := []) (z := y4_contains) A E2878 (gq_contains6 l Z a0 hw n0 h2875 A.size b2 r12 r13 r14 [.int (1 : Int32), .int (0 : Int32), .int (0 : Int32)] [.long q1, .long q2, .long (0 : Int64)] ⟨E2878, F2879, F2880, F2881, F2882, V2883, V2884, V2885, ne2886, ne2887, ne2888, ne2889, ne2890, ne2891, ge2892, ge2893, ge2894, ge2895⟩) (w33 hw) (w34 hw) (nf_same (C := "") (w36 hw)) (w36 hw) (w35 hw) (w2 hw) (w37 hw) (by decide) pd__I_Z rfl (W := 0) (by decide) (by decide) (Nat.le_of_eq rfl) (by decide) (by decide) rfl rfl at_84 rfl fun T h2898 v2899 A Q2900 => ?_
          obtain ⟨rfl, K2896, H2897⟩ := Q2900
          obtain ⟨E2901, F2902, F2903, F2904, F2905, V2906, V2907, V2908, ne2909, ne2910, ne2911, ne2912, ne2913, ne2914, ge2915, ge2916, ge2917, ge2918⟩ := H2897
          refine Wp.stk (st' := [(.int (0 : Int32))]) rfl ?_
          refine s_ifN (pc' := 90) A at_87 rfl (by decide) ?_
          refine s_iconst (pc' := 91) (z := (1 : Int32)) A at_90 rfl (by decide) ?_
          refine s_goto (pc' := 95) A at_91 (by decide) (by decide) ?_
          refine s_istore (pc' := 97) (Ls' := #[iv q0, jv q1, S2, jv q2, S2, jv q3, S2, iv q4, jv q5, S2, rv b2, iv 1, U0, U0]) A at_95 rfl rfl ?_
          refine s_iload (pc' := 99) A at_97 rfl rfl ?_
          refine s_ldcInt (pc' := 101) A at_99 rfl (w38 hw) ?_
          refine s_iand (pc' := 102) (z := (q4 &&& (2147483647 : Int32))) A at_101 rfl rfl ?_
          refine s_iconst (pc' := 103) (z := (3 : Int32)) A at_102 rfl (by decide) ?_
          obtain ⟨pp, hpp⟩ : ∃ z, z = ((q4 &&& (2147483647 : Int32)) % (3 : Int32)) := ⟨_, rfl⟩
          have cp := own_p q4
          rw [← hpp] at cp
          rcases cp with rfl | rfl | rfl
          ·
            refine s_irem (pc' := 104) (z := (0 : Int32)) A at_103 rfl (by decide) hpp.symm ?_
            refine s_istore (pc' := 106) (Ls' := #[iv q0, jv q1, S2, jv q2, S2, jv q3, S2, iv q4, jv q5, S2, rv b2, iv 1, iv 0, U0]) A at_104 rfl rfl ?_
            refine s_aload (pc' := 108) A at_106 rfl rfl rfl ?_
            refine s_iload (pc' := 110) A at_108 rfl rfl ?_
            refine s_lload (pc' := 112) A at_110 rfl rfl ?_
            refine s_virtual (pc' := 115) (y := y7_put) (argsL := [(.int (0 : Int32)), (.long q5)]) (rest := []) (z := y7_put) A E2901 (gq_put7 l Z a0 hw n0 h2898 A.size b2 r12 r13 r14 (1 : Int32) (0 : Int32) (0 : Int32) q1 q2 (0 : Int64) q5 ⟨E2901, F2902, F2903, F2904, F2905, V2906, V2907, V2908, ne2909, ne2910, ne2911, ne2912, ne2913, ne2914, ge2915, ge2916, ge2917, ge2918⟩) (w39 hw) (w40 hw) (nf_same (C := "") (w42 hw)) (w42 hw) (w41 hw) (w2 hw) (w43 hw) (by decide) pd__IJ_V rfl (W := 0) (by decide) (by decide) (Nat.le_of_eq rfl) (by decide) (by decide) rfl rfl at_112 rfl fun T h2921 v2922 A Q2923 => ?_
            obtain ⟨rfl, K2919, H2920⟩ := Q2923
            obtain ⟨E2924, F2925, F2926, F2927, F2928, V2929, V2930, V2931, ne2932, ne2933, ne2934, ne2935, ne2936, ne2937, ge2938, ge2939, ge2940, ge2941⟩ := H2920
            refine Wp.stk (st' := []) rfl ?_
            refine s_aload (pc' := 117) A at_115 rfl rfl rfl ?_
            refine s_virtual (pc' := 120) (y := y9_poll) (argsL := []) (rest := []) (z := y9_poll) A E2924 (gq_poll10 l Z a0 hw n0 h2921 A.size b2 r12 r13 r14 (0 : Int32) (0 : Int32) [.long q5, .long q2, .long (0 : Int64)] ⟨E2924, F2925, F2926, F2927, F2928, V2929, V2930, V2931, ne2932, ne2933, ne2934, ne2935, ne2936, ne2937, ge2938, ge2939, ge2940, ge2941⟩) (w53 hw) (w54 hw) (nf_same (C := "") (w56 hw)) (w56 hw) (w55 hw) (w2 hw) (w57 hw) (by decide) pd___I rfl (W := 0) (by decide) (by decide) (Nat.le_of_eq rfl) (by decide) (by decide) rfl rfl at_117 rfl fun T h2944 v2945 A Q2946 => ?_
            obtain ⟨rfl, K2942, H2943⟩ := Q2946
            obtain ⟨E2947, F2948, F2949, F2950, F2951, V2952, V2953, V2954, ne2955, ne2956, ne2957, ne2958, ne2959, ne2960, ge2961, ge2962, ge2963, ge2964⟩ := H2943
            refine Wp.stk (st' := [(.int (0 : Int32))]) rfl ?_
            refine s_iload (pc' := 122) A at_120 rfl rfl ?_
            refine s_icmpN (pc' := 125) A at_122 rfl (by decide) ?_
            refine s_aload (pc' := 127) A at_125 rfl rfl rfl ?_
            refine s_virtual (pc' := 130) (y := y3_isEmpty) (argsL := []) (rest := []) (z := y3_isEmpty) A E2947 (gq_isEmpty3 l Z a0 hw n0 h2944 A.size b2 r12 r13 r14 [.int (0 : Int32), .int (0 : Int32), .int (0 : Int32)] [.long q5, .long q2, .long (0 : Int64)] [.int (-1 : Int32), .int (-1 : Int32), .int (-1 : Int32)] ⟨E2947, F2948, F2949, F2950, F2951, V2952, V2953, V2954, ne2955, ne2956, ne2957, ne2958, ne2959, ne2960, ge2961, ge2962, ge2963, ge2964⟩) (w28 hw) (w29 hw) (nf_same (C := "") (w31 hw)) (w31 hw) (w30 hw) (w2 hw) (w32 hw) (by decide) pd___Z rfl (W := 0) (by decide) (by decide) (Nat.le_of_eq rfl) (by decide) (by decide) rfl rfl at_127 rfl fun T h2967 v2968 A Q2969 => ?_
            obtain ⟨rfl, K2965, H2966⟩ := Q2969
            obtain ⟨E2970, F2971, F2972, F2973, F2974, V2975, V2976, V2977, ne2978, ne2979, ne2980, ne2981, ne2982, ne2983, ge2984, ge2985, ge2986, ge2987⟩ := H2966
            refine Wp.stk (st' := [(.int (1 : Int32))]) rfl ?_
            refine s_ifN (pc' := 133) A at_130 rfl (by decide) ?_
            refine s_iconst (pc' := 134) (z := (1 : Int32)) A at_133 rfl (by decide) ?_
            refine s_goto (pc' := 138) A at_134 (by decide) (by decide) ?_
            refine s_istore (pc' := 140) (Ls' := #[iv q0, jv q1, S2, jv q2, S2, jv q3, S2, iv q4, jv q5, S2, rv b2, iv 1, iv 0, iv 1]) A at_138 rfl rfl ?_
            refine s_iload (pc' := 142) A at_140 rfl rfl ?_
            refine s_ifN (pc' := 145) A at_142 rfl (by decide) ?_
            refine s_iload (pc' := 147) A at_145 rfl rfl ?_
            refine s_ifN (pc' := 150) A at_147 rfl (by decide) ?_
            refine s_iconst (pc' := 151) (z := (1 : Int32)) A at_150 rfl (by decide) ?_
            refine s_goto (pc' := 155) A at_151 (by decide) (by decide) ?_
            exact r_bool A rfl (by decide) at_155 (by decide) (by decide) (rfl)
          ·
            refine s_irem (pc' := 104) (z := (1 : Int32)) A at_103 rfl (by decide) hpp.symm ?_
            refine s_istore (pc' := 106) (Ls' := #[iv q0, jv q1, S2, jv q2, S2, jv q3, S2, iv q4, jv q5, S2, rv b2, iv 1, iv 1, U0]) A at_104 rfl rfl ?_
            refine s_aload (pc' := 108) A at_106 rfl rfl rfl ?_
            refine s_iload (pc' := 110) A at_108 rfl rfl ?_
            refine s_lload (pc' := 112) A at_110 rfl rfl ?_
            refine s_virtual (pc' := 115) (y := y7_put) (argsL := [(.int (1 : Int32)), (.long q5)]) (rest := []) (z := y7_put) A E2901 (gq_put12 l Z a0 hw n0 h2898 A.size b2 r12 r13 r14 (1 : Int32) (0 : Int32) (0 : Int32) q1 q2 (0 : Int64) q5 ⟨E2901, F2902, F2903, F2904, F2905, V2906, V2907, V2908, ne2909, ne2910, ne2911, ne2912, ne2913, ne2914, ge2915, ge2916, ge2917, ge2918⟩) (w39 hw) (w40 hw) (nf_same (C := "") (w42 hw)) (w42 hw) (w41 hw) (w2 hw) (w43 hw) (by decide) pd__IJ_V rfl (W := 0) (by decide) (by decide) (Nat.le_of_eq rfl) (by decide) (by decide) rfl rfl at_112 rfl fun T h2990 v2991 A Q2992 => ?_
            obtain ⟨rfl, K2988, H2989⟩ := Q2992
            obtain ⟨E2993, F2994, F2995, F2996, F2997, V2998, V2999, V3000, ne3001, ne3002, ne3003, ne3004, ne3005, ne3006, ge3007, ge3008, ge3009, ge3010⟩ := H2989
            refine Wp.stk (st' := []) rfl ?_
            refine s_aload (pc' := 117) A at_115 rfl rfl rfl ?_
            refine s_virtual (pc' := 120) (y := y9_poll) (argsL := []) (rest := []) (z := y9_poll) A E2993 (gq_poll15 l Z a0 hw n0 h2990 A.size b2 r12 r13 r14 (0 : Int32) (0 : Int32) [.long q1, .long q5, .long (0 : Int64)] ⟨E2993, F2994, F2995, F2996, F2997, V2998, V2999, V3000, ne3001, ne3002, ne3003, ne3004, ne3005, ne3006, ge3007, ge3008, ge3009, ge3010⟩) (w53 hw) (w54 hw) (nf_same (C := "") (w56 hw)) (w56 hw) (w55 hw) (w2 hw) (w57 hw) (by decide) pd___I rfl (W := 0) (by decide) (by decide) (Nat.le_of_eq rfl) (by decide) (by decide) rfl rfl at_117 rfl fun T h3013 v3014 A Q3015 => ?_
            obtain ⟨rfl, K3011, H3012⟩ := Q3015
            obtain ⟨E3016, F3017, F3018, F3019, F3020, V3021, V3022, V3023, ne3024, ne3025, ne3026, ne3027, ne3028, ne3029, ge3030, ge3031, ge3032, ge3033⟩ := H3012
            refine Wp.stk (st' := [(.int (1 : Int32))]) rfl ?_
            refine s_iload (pc' := 122) A at_120 rfl rfl ?_
            refine s_icmpN (pc' := 125) A at_122 rfl (by decide) ?_
            refine s_aload (pc' := 127) A at_125 rfl rfl rfl ?_
            refine s_virtual (pc' := 130) (y := y3_isEmpty) (argsL := []) (rest := []) (z := y3_isEmpty) A E3016 (gq_isEmpty3 l Z a0 hw n0 h3013 A.size b2 r12 r13 r14 [.int (1 : Int32), .int (0 : Int32), .int (0 : Int32)] [.long q1, .long q5, .long (0 : Int64)] [.int (-1 : Int32), .int (-1 : Int32), .int (-1 : Int32)] ⟨E3016, F3017, F3018, F3019, F3020, V3021, V3022, V3023, ne3024, ne3025, ne3026, ne3027, ne3028, ne3029, ge3030, ge3031, ge3032, ge3033⟩) (w28 hw) (w29 hw) (nf_same (C := "") (w31 hw)) (w31 hw) (w30 hw) (w2 hw) (w32 hw) (by decide) pd___Z rfl (W := 0) (by decide) (by decide) (Nat.le_of_eq rfl) (by decide) (by decide) rfl rfl at_127 rfl fun T h3036 v3037 A Q3038 => ?_
            obtain ⟨rfl, K3034, H3035⟩ := Q3038
            obtain ⟨E3039, F3040, F3041, F3042, F3043, V3044, V3045, V3046, ne3047, ne3048, ne3049, ne3050, ne3051, ne3052, ge3053, ge3054, ge3055, ge3056⟩ := H3035
            refine Wp.stk (st' := [(.int (1 : Int32))]) rfl ?_
            refine s_ifN (pc' := 133) A at_130 rfl (by decide) ?_
            refine s_iconst (pc' := 134) (z := (1 : Int32)) A at_133 rfl (by decide) ?_
            refine s_goto (pc' := 138) A at_134 (by decide) (by decide) ?_
            refine s_istore (pc' := 140) (Ls' := #[iv q0, jv q1, S2, jv q2, S2, jv q3, S2, iv q4, jv q5, S2, rv b2, iv 1, iv 1, iv 1]) A at_138 rfl rfl ?_
            refine s_iload (pc' := 142) A at_140 rfl rfl ?_
            refine s_ifN (pc' := 145) A at_142 rfl (by decide) ?_
            refine s_iload (pc' := 147) A at_145 rfl rfl ?_
            refine s_ifN (pc' := 150) A at_147 rfl (by decide) ?_
            refine s_iconst (pc' := 151) (z := (1 : Int32)) A at_150 rfl (by decide) ?_
            refine s_goto (pc' := 155) A at_151 (by decide) (by decide) ?_
            exact r_bool A rfl (by decide) at_155 (by decide) (by decide) (rfl)
          ·
            refine s_irem (pc' := 104) (z := (2 : Int32)) A at_103 rfl (by decide) hpp.symm ?_
            refine s_istore (pc' := 106) (Ls' := #[iv q0, jv q1, S2, jv q2, S2, jv q3, S2, iv q4, jv q5, S2, rv b2, iv 1, iv 2, U0]) A at_104 rfl rfl ?_
            refine s_aload (pc' := 108) A at_106 rfl rfl rfl ?_
            refine s_iload (pc' := 110) A at_108 rfl rfl ?_
            refine s_lload (pc' := 112) A at_110 rfl rfl ?_
            refine s_virtual (pc' := 115) (y := y7_put) (argsL := [(.int (2 : Int32)), (.long q5)]) (rest := []) (z := y7_put) A E2901 (gq_put17 l Z a0 hw n0 h2898 A.size b2 r12 r13 r14 (1 : Int32) (0 : Int32) (0 : Int32) q1 q2 (0 : Int64) q5 ⟨E2901, F2902, F2903, F2904, F2905, V2906, V2907, V2908, ne2909, ne2910, ne2911, ne2912, ne2913, ne2914, ge2915, ge2916, ge2917, ge2918⟩) (w39 hw) (w40 hw) (nf_same (C := "") (w42 hw)) (w42 hw) (w41 hw) (w2 hw) (w43 hw) (by decide) pd__IJ_V rfl (W := 0) (by decide) (by decide) (Nat.le_of_eq rfl) (by decide) (by decide) rfl rfl at_112 rfl fun T h3059 v3060 A Q3061 => ?_
            obtain ⟨rfl, K3057, H3058⟩ := Q3061
            obtain ⟨E3062, F3063, F3064, F3065, F3066, V3067, V3068, V3069, ne3070, ne3071, ne3072, ne3073, ne3074, ne3075, ge3076, ge3077, ge3078, ge3079⟩ := H3058
            refine Wp.stk (st' := []) rfl ?_
            refine s_aload (pc' := 117) A at_115 rfl rfl rfl ?_
            refine s_virtual (pc' := 120) (y := y9_poll) (argsL := []) (rest := []) (z := y9_poll) A E3062 (gq_poll20 l Z a0 hw n0 h3059 A.size b2 r12 r13 r14 (0 : Int32) (0 : Int32) [.long q1, .long q2, .long q5] ⟨E3062, F3063, F3064, F3065, F3066, V3067, V3068, V3069, ne3070, ne3071, ne3072, ne3073, ne3074, ne3075, ge3076, ge3077, ge3078, ge3079⟩) (w53 hw) (w54 hw) (nf_same (C := "") (w56 hw)) (w56 hw) (w55 hw) (w2 hw) (w57 hw) (by decide) pd___I rfl (W := 0) (by decide) (by decide) (Nat.le_of_eq rfl) (by decide) (by decide) rfl rfl at_117 rfl fun T h3082 v3083 A Q3084 => ?_
            obtain ⟨rfl, K3080, H3081⟩ := Q3084
            obtain ⟨E3085, F3086, F3087, F3088, F3089, V3090, V3091, V3092, ne3093, ne3094, ne3095, ne3096, ne3097, ne3098, ge3099, ge3100, ge3101, ge3102⟩ := H3081
            refine Wp.stk (st' := [(.int (2 : Int32))]) rfl ?_
            refine s_iload (pc' := 122) A at_120 rfl rfl ?_
            refine s_icmpN (pc' := 125) A at_122 rfl (by decide) ?_
            refine s_aload (pc' := 127) A at_125 rfl rfl rfl ?_
            refine s_virtual (pc' := 130) (y := y3_isEmpty) (argsL := []) (rest := []) (z := y3_isEmpty) A E3085 (gq_isEmpty3 l Z a0 hw n0 h3082 A.size b2 r12 r13 r14 [.int (2 : Int32), .int (0 : Int32), .int (0 : Int32)] [.long q1, .long q2, .long q5] [.int (-1 : Int32), .int (-1 : Int32), .int (-1 : Int32)] ⟨E3085, F3086, F3087, F3088, F3089, V3090, V3091, V3092, ne3093, ne3094, ne3095, ne3096, ne3097, ne3098, ge3099, ge3100, ge3101, ge3102⟩) (w28 hw) (w29 hw) (nf_same (C := "") (w31 hw)) (w31 hw) (w30 hw) (w2 hw) (w32 hw) (by decide) pd___Z rfl (W := 0) (by decide) (by decide) (Nat.le_of_eq rfl) (by decide) (by decide) rfl rfl at_127 rfl fun T h3105 v3106 A Q3107 => ?_
            obtain ⟨rfl, K3103, H3104⟩ := Q3107
            obtain ⟨E3108, F3109, F3110, F3111, F3112, V3113, V3114, V3115, ne3116, ne3117, ne3118, ne3119, ne3120, ne3121, ge3122, ge3123, ge3124, ge3125⟩ := H3104
            refine Wp.stk (st' := [(.int (1 : Int32))]) rfl ?_
            refine s_ifN (pc' := 133) A at_130 rfl (by decide) ?_
            refine s_iconst (pc' := 134) (z := (1 : Int32)) A at_133 rfl (by decide) ?_
            refine s_goto (pc' := 138) A at_134 (by decide) (by decide) ?_
            refine s_istore (pc' := 140) (Ls' := #[iv q0, jv q1, S2, jv q2, S2, jv q3, S2, iv q4, jv q5, S2, rv b2, iv 1, iv 2, iv 1]) A at_138 rfl rfl ?_
            refine s_iload (pc' := 142) A at_140 rfl rfl ?_
            refine s_ifN (pc' := 145) A at_142 rfl (by decide) ?_
            refine s_iload (pc' := 147) A at_145 rfl rfl ?_
            refine s_ifN (pc' := 150) A at_147 rfl (by decide) ?_
            refine s_iconst (pc' := 151) (z := (1 : Int32)) A at_150 rfl (by decide) ?_
            refine s_goto (pc' := 155) A at_151 (by decide) (by decide) ?_
            exact r_bool A rfl (by decide) at_155 (by decide) (by decide) (rfl)
        ·
          refine s_ifN (pc' := 42) A at_39 rfl ((if0 _ _).trans (feq hc39_1).1) ?_
          refine s_aload (pc' := 44) A at_42 rfl rfl rfl ?_
          refine s_iconst (pc' := 45) (z := (2 : Int32)) A at_44 rfl (by decide) ?_
          refine s_lload (pc' := 47) A at_45 rfl rfl ?_
          by_cases hk47 : q2 < q3
          ·
            refine s_virtual (pc' := 50) (y := y7_put) (argsL := [(.int (2 : Int32)), (.long q3)]) (rest := []) (z := y7_put) A E2786 (gq_put56 l Z a0 hw n0 h2783 A.size b2 r12 r13 r14 q1 q2 q3 ⟨E2786, F2787, F2788, F2789, F2790, V2791, V2792, V2793, ne2794, ne2795, ne2796, ne2797, ne2798, ne2799, ge2800, ge2801, ge2802, ge2803⟩ hk47) (w39 hw) (w40 hw) (nf_same (C := "") (w42 hw)) (w42 hw) (w41 hw) (w2 hw) (w43 hw) (by decide) pd__IJ_V rfl (W := 0) (by decide) (by decide) (Nat.le_of_eq rfl) (by decide) (by decide) rfl rfl at_47 rfl fun T h3128 v3129 A Q3130 => ?_
            obtain ⟨rfl, K3126, H3127⟩ := Q3130
            obtain ⟨E3131, F3132, F3133, F3134, F3135, V3136, V3137, V3138, ne3139, ne3140, ne3141, ne3142, ne3143, ne3144, ge3145, ge3146, ge3147, ge3148⟩ := H3127
            refine Wp.stk (st' := []) rfl ?_
            refine s_aload (pc' := 52) A at_50 rfl rfl rfl ?_
            refine s_virtual (pc' := 55) (y := y2_clear) (argsL := []) (rest := []) (z := y2_clear) A E3131 (gq_clear62 l Z a0 hw n0 h3128 A.size b2 r12 r13 r14 [.long q1, .long q2, .long q3] ⟨E3131, F3132, F3133, F3134, F3135, V3136, V3137, V3138, ne3139, ne3140, ne3141, ne3142, ne3143, ne3144, ge3145, ge3146, ge3147, ge3148⟩) (w23 hw) (w24 hw) (nf_same (C := "") (w26 hw)) (w26 hw) (w25 hw) (w2 hw) (w27 hw) (by decide) pd___V rfl (W := 0) (by decide) (by decide) (Nat.le_of_eq rfl) (by decide) (by decide) rfl rfl at_52 rfl fun T h3151 v3152 A Q3153 => ?_
            obtain ⟨rfl, K3149, H3150⟩ := Q3153
            obtain ⟨E3154, F3155, F3156, F3157, F3158, V3159, V3160, V3161, ne3162, ne3163, ne3164, ne3165, ne3166, ne3167, ge3168, ge3169, ge3170, ge3171⟩ := H3150
            refine Wp.stk (st' := []) rfl ?_
            refine s_aload (pc' := 57) A at_55 rfl rfl rfl ?_
            refine s_virtual (pc' := 60) (y := y3_isEmpty) (argsL := []) (rest := []) (z := y3_isEmpty) A E3154 (gq_isEmpty3 l Z a0 hw n0 h3151 A.size b2 r12 r13 r14 [.int (2 : Int32), .int (0 : Int32), .int (1 : Int32)] [.long q1, .long q2, .long q3] [.int (-1 : Int32), .int (-1 : Int32), .int (-1 : Int32)] ⟨E3154, F3155, F3156, F3157, F3158, V3159, V3160, V3161, ne3162, ne3163, ne3164, ne3165, ne3166, ne3167, ge3168, ge3169, ge3170, ge3171⟩) (w28 hw) (w29 hw) (nf_same (C := "") (w31 hw)) (w31 hw) (w30 hw) (w2 hw) (w32 hw) (by decide) pd___Z rfl (W := 0) (by decide) (by decide) (Nat.le_of_eq rfl) (by decide) (by decide) rfl rfl at_57 rfl fun T h3174 v3175 A Q3176 => ?_
            obtain ⟨rfl, K3172, H3173⟩ := Q3176
            obtain ⟨E3177, F3178, F3179, F3180, F3181, V3182, V3183, V3184, ne3185, ne3186, ne3187, ne3188, ne3189, ne3190, ge3191, ge3192, ge3193, ge3194⟩ := H3173
            refine Wp.stk (st' := [(.int (1 : Int32))]) rfl ?_
            refine s_ifN (pc' := 63) A at_60 rfl (by decide) ?_
            refine s_aload (pc' := 65) A at_63 rfl rfl rfl ?_
            refine s_iconst (pc' := 66) (z := (0 : Int32)) A at_65 rfl (by decide) ?_
            refine s_virtual (pc' := 69) (y := y4_contains) (argsL := [(.int (0 : Int32))]) (rest := []) (z := y4_contains) A E3177 (gq_contains4 l Z a0 hw n0 h3174 A.size b2 r12 r13 r14 [.int (2 : Int32), .int (0 : Int32), .int (1 : Int32)] [.long q1, .long q2, .long q3] ⟨E3177, F3178, F3179, F3180, F3181, V3182, V3183, V3184, ne3185, ne3186, ne3187, ne3188, ne3189, ne3190, ge3191, ge3192, ge3193, ge3194⟩) (w33 hw) (w34 hw) (nf_same (C := "") (w36 hw)) (w36 hw) (w35 hw) (w2 hw) (w37 hw) (by decide) pd__I_Z rfl (W := 0) (by decide) (by decide) (Nat.le_of_eq rfl) (by decide) (by decide) rfl rfl at_66 rfl fun T h3197 v3198 A Q3199 => ?_
            obtain ⟨rfl, K3195, H3196⟩ := Q3199
            obtain ⟨E3200, F3201, F3202, F3203, F3204, V3205, V3206, V3207, ne3208, ne3209, ne3210, ne3211, ne3212, ne3213, ge3214, ge3215, ge3216, ge3217⟩ := H3196
            refine Wp.stk (st' := [(.int (0 : Int32))]) rfl ?_
            refine s_ifN (pc' := 72) A at_69 rfl (by decide) ?_
            refine s_aload (pc' := 74) A at_72 rfl rfl rfl ?_
            refine s_iconst (pc' := 75) (z := (1 : Int32)) A at_74 rfl (by decide) ?_
            refine s_virtual (pc' := 78) (y := y4_contains) (argsL := [(.int (1 : Int32))]) (rest := []) (z := y4_contains) A E3200 (gq_contains5 l Z a0 hw n0 h3197 A.size b2 r12 r13 r14 [.int (2 : Int32), .int (0 : Int32), .int (1 : Int32)] [.long q1, .long q2, .long q3] ⟨E3200, F3201, F3202, F3203, F3204, V3205, V3206, V3207, ne3208, ne3209, ne3210, ne3211, ne3212, ne3213, ge3214, ge3215, ge3216, ge3217⟩) (w33 hw) (w34 hw) (nf_same (C := "") (w36 hw)) (w36 hw) (w35 hw) (w2 hw) (w37 hw) (by decide) pd__I_Z rfl (W := 0) (by decide) (by decide) (Nat.le_of_eq rfl) (by decide) (by decide) rfl rfl at_75 rfl fun T h3220 v3221 A Q3222 => ?_
            obtain ⟨rfl, K3218, H3219⟩ := Q3222
            obtain ⟨E3223, F3224, F3225, F3226, F3227, V3228, V3229, V3230, ne3231, ne3232, ne3233, ne3234, ne3235, ne3236, ge3237, ge3238, ge3239, ge3240⟩ := H3219
            refine Wp.stk (st' := [(.int (0 : Int32))]) rfl ?_
            refine s_ifN (pc' := 81) A at_78 rfl (by decide) ?_
            refine s_aload (pc' := 83) A at_81 rfl rfl rfl ?_
            refine s_iconst (pc' := 84) (z := (2 : Int32)) A at_83 rfl (by decide) ?_
            refine s_virtual (pc' := 87) (y := y4_contains) (argsL := [(.int (2 : Int32))]) (rest := []) (z := y4_contains) A E3223 (gq_contains6 l Z a0 hw n0 h3220 A.size b2 r12 r13 r14 [.int (2 : Int32), .int (0 : Int32), .int (1 : Int32)] [.long q1, .long q2, .long q3] ⟨E3223, F3224, F3225, F3226, F3227, V3228, V3229, V3230, ne3231, ne3232, ne3233, ne3234, ne3235, ne3236, ge3237, ge3238, ge3239, ge3240⟩) (w33 hw) (w34 hw) (nf_same (C := "") (w36 hw)) (w36 hw) (w35 hw) (w2 hw) (w37 hw) (by decide) pd__I_Z rfl (W := 0) (by decide) (by decide) (Nat.le_of_eq rfl) (by decide) (by decide) rfl rfl at_84 rfl fun T h3243 v3244 A Q3245 => ?_
            obtain ⟨rfl, K3241, H3242⟩ := Q3245
            obtain ⟨E3246, F3247, F3248, F3249, F3250, V3251, V3252, V3253, ne3254, ne3255, ne3256, ne3257, ne3258, ne3259, ge3260, ge3261, ge3262, ge3263⟩ := H3242
            refine Wp.stk (st' := [(.int (0 : Int32))]) rfl ?_
            refine s_ifN (pc' := 90) A at_87 rfl (by decide) ?_
            refine s_iconst (pc' := 91) (z := (1 : Int32)) A at_90 rfl (by decide) ?_
            refine s_goto (pc' := 95) A at_91 (by decide) (by decide) ?_
            refine s_istore (pc' := 97) (Ls' := #[iv q0, jv q1, S2, jv q2, S2, jv q3, S2, iv q4, jv q5, S2, rv b2, iv 1, U0, U0]) A at_95 rfl rfl ?_
            refine s_iload (pc' := 99) A at_97 rfl rfl ?_
            refine s_ldcInt (pc' := 101) A at_99 rfl (w38 hw) ?_
            refine s_iand (pc' := 102) (z := (q4 &&& (2147483647 : Int32))) A at_101 rfl rfl ?_
            refine s_iconst (pc' := 103) (z := (3 : Int32)) A at_102 rfl (by decide) ?_
            obtain ⟨pp, hpp⟩ : ∃ z, z = ((q4 &&& (2147483647 : Int32)) % (3 : Int32)) := ⟨_, rfl⟩
            have cp := own_p q4
            rw [← hpp] at cp
            rcases cp with rfl | rfl | rfl
            ·
              refine s_irem (pc' := 104) (z := (0 : Int32)) A at_103 rfl (by decide) hpp.symm ?_
              refine s_istore (pc' := 106) (Ls' := #[iv q0, jv q1, S2, jv q2, S2, jv q3, S2, iv q4, jv q5, S2, rv b2, iv 1, iv 0, U0]) A at_104 rfl rfl ?_
              refine s_aload (pc' := 108) A at_106 rfl rfl rfl ?_
              refine s_iload (pc' := 110) A at_108 rfl rfl ?_
              refine s_lload (pc' := 112) A at_110 rfl rfl ?_
              refine s_virtual (pc' := 115) (y := y7_put) (argsL := [(.int (0 : Int32)), (.long q5)]) (rest := []) (z := y7_put) A E3246 (gq_put7 l Z a0 hw n0 h3243 A.size b2 r12 r13 r14 (2 : Int32) (0 : Int32) (1 : Int32) q1 q2 q3 q5 ⟨E3246, F3247, F3248, F3249, F3250, V3251, V3252, V3253, ne3254, ne3255, ne3256, ne3257, ne3258, ne3259, ge3260, ge3261, ge3262, ge3263⟩) (w39 hw) (w40 hw) (nf_same (C := "") (w42 hw)) (w42 hw) (w41 hw) (w2 hw) (w43 hw) (by decide) pd__IJ_V rfl (W := 0) (by decide) (by decide) (Nat.le_of_eq rfl) (by decide) (by decide) rfl rfl at_112 rfl fun T h3266 v3267 A Q3268 => ?_
              obtain ⟨rfl, K3264, H3265⟩ := Q3268
              obtain ⟨E3269, F3270, F3271, F3272, F3273, V3274, V3275, V3276, ne3277, ne3278, ne3279, ne3280, ne3281, ne3282, ge3283, ge3284, ge3285, ge3286⟩ := H3265
              refine Wp.stk (st' := []) rfl ?_
              refine s_aload (pc' := 117) A at_115 rfl rfl rfl ?_
              refine s_virtual (pc' := 120) (y := y9_poll) (argsL := []) (rest := []) (z := y9_poll) A E3269 (gq_poll10 l Z a0 hw n0 h3266 A.size b2 r12 r13 r14 (0 : Int32) (1 : Int32) [.long q5, .long q2, .long q3] ⟨E3269, F3270, F3271, F3272, F3273, V3274, V3275, V3276, ne3277, ne3278, ne3279, ne3280, ne3281, ne3282, ge3283, ge3284, ge3285, ge3286⟩) (w53 hw) (w54 hw) (nf_same (C := "") (w56 hw)) (w56 hw) (w55 hw) (w2 hw) (w57 hw) (by decide) pd___I rfl (W := 0) (by decide) (by decide) (Nat.le_of_eq rfl) (by decide) (by decide) rfl rfl at_117 rfl fun T h3289 v3290 A Q3291 => ?_
              obtain ⟨rfl, K3287, H3288⟩ := Q3291
              obtain ⟨E3292, F3293, F3294, F3295, F3296, V3297, V3298, V3299, ne3300, ne3301, ne3302, ne3303, ne3304, ne3305, ge3306, ge3307, ge3308, ge3309⟩ := H3288
              refine Wp.stk (st' := [(.int (0 : Int32))]) rfl ?_
              refine s_iload (pc' := 122) A at_120 rfl rfl ?_
              refine s_icmpN (pc' := 125) A at_122 rfl (by decide) ?_
              refine s_aload (pc' := 127) A at_125 rfl rfl rfl ?_
              refine s_virtual (pc' := 130) (y := y3_isEmpty) (argsL := []) (rest := []) (z := y3_isEmpty) A E3292 (gq_isEmpty3 l Z a0 hw n0 h3289 A.size b2 r12 r13 r14 [.int (0 : Int32), .int (0 : Int32), .int (1 : Int32)] [.long q5, .long q2, .long q3] [.int (-1 : Int32), .int (-1 : Int32), .int (-1 : Int32)] ⟨E3292, F3293, F3294, F3295, F3296, V3297, V3298, V3299, ne3300, ne3301, ne3302, ne3303, ne3304, ne3305, ge3306, ge3307, ge3308, ge3309⟩) (w28 hw) (w29 hw) (nf_same (C := "") (w31 hw)) (w31 hw) (w30 hw) (w2 hw) (w32 hw) (by decide) pd___Z rfl (W := 0) (by decide) (by decide) (Nat.le_of_eq rfl) (by decide) (by decide) rfl rfl at_127 rfl fun T h3312 v3313 A Q3314 => ?_
              obtain ⟨rfl, K3310, H3311⟩ := Q3314
              obtain ⟨E3315, F3316, F3317, F3318, F3319, V3320, V3321, V3322, ne3323, ne3324, ne3325, ne3326, ne3327, ne3328, ge3329, ge3330, ge3331, ge3332⟩ := H3311
              refine Wp.stk (st' := [(.int (1 : Int32))]) rfl ?_
              refine s_ifN (pc' := 133) A at_130 rfl (by decide) ?_
              refine s_iconst (pc' := 134) (z := (1 : Int32)) A at_133 rfl (by decide) ?_
              refine s_goto (pc' := 138) A at_134 (by decide) (by decide) ?_
              refine s_istore (pc' := 140) (Ls' := #[iv q0, jv q1, S2, jv q2, S2, jv q3, S2, iv q4, jv q5, S2, rv b2, iv 1, iv 0, iv 1]) A at_138 rfl rfl ?_
              refine s_iload (pc' := 142) A at_140 rfl rfl ?_
              refine s_ifN (pc' := 145) A at_142 rfl (by decide) ?_
              refine s_iload (pc' := 147) A at_145 rfl rfl ?_
              refine s_ifN (pc' := 150) A at_147 rfl (by decide) ?_
              refine s_iconst (pc' := 151) (z := (1 : Int32)) A at_150 rfl (by decide) ?_
              refine s_goto (pc' := 155) A at_151 (by decide) (by decide) ?_
              exact r_bool A rfl (by decide) at_155 (by decide) (by decide) (rfl)
            ·
              refine s_irem (pc' := 104) (z := (1 : Int32)) A at_103 rfl (by decide) hpp.symm ?_
              refine s_istore (pc' := 106) (Ls' := #[iv q0, jv q1, S2, jv q2, S2, jv q3, S2, iv q4, jv q5, S2, rv b2, iv 1, iv 1, U0]) A at_104 rfl rfl ?_
              refine s_aload (pc' := 108) A at_106 rfl rfl rfl ?_
              refine s_iload (pc' := 110) A at_108 rfl rfl ?_
              refine s_lload (pc' := 112) A at_110 rfl rfl ?_
              refine s_virtual (pc' := 115) (y := y7_put) (argsL := [(.int (1 : Int32)), (.long q5)]) (rest := []) (z := y7_put) A E3246 (gq_put12 l Z a0 hw n0 h3243 A.size b2 r12 r13 r14 (2 : Int32) (0 : Int32) (1 : Int32) q1 q2 q3 q5 ⟨E3246, F3247, F3248, F3249, F3250, V3251, V3252, V3253, ne3254, ne3255, ne3256, ne3257, ne3258, ne3259, ge3260, ge3261, ge3262, ge3263⟩) (w39 hw) (w40 hw) (nf_same (C := "") (w42 hw)) (w42 hw) (w41 hw) (w2 hw) (w43 hw) (by decide) pd__IJ_V rfl (W := 0) (by decide) (by decide) (Nat.le_of_eq rfl) (by decide) (by decide) rfl rfl at_112 rfl fun T h3335 v3336 A Q3337 => ?_
              obtain ⟨rfl, K3333, H3334⟩ := Q3337
              obtain ⟨E3338, F3339, F3340, F3341, F3342, V3343, V3344, V3345, ne3346, ne3347, ne3348, ne3349, ne3350, ne3351, ge3352, ge3353, ge3354, ge3355⟩ := H3334
              refine Wp.stk (st' := []) rfl ?_
              refine s_aload (pc' := 117) A at_115 rfl rfl rfl ?_
              refine s_virtual (pc' := 120) (y := y9_poll) (argsL := []) (rest := []) (z := y9_poll) A E3338 (gq_poll15 l Z a0 hw n0 h3335 A.size b2 r12 r13 r14 (0 : Int32) (1 : Int32) [.long q1, .long q5, .long q3] ⟨E3338, F3339, F3340, F3341, F3342, V3343, V3344, V3345, ne3346, ne3347, ne3348, ne3349, ne3350, ne3351, ge3352, ge3353, ge3354, ge3355⟩) (w53 hw) (w54 hw) (nf_same (C := "") (w56 hw)) (w56 hw) (w55 hw) (w2 hw) (w57 hw) (by decide) pd___I rfl (W := 0) (by decide) (by decide) (Nat.le_of_eq rfl) (by decide) (by decide) rfl rfl at_117 rfl fun T h3358 v3359 A Q3360 => ?_
              obtain ⟨rfl, K3356, H3357⟩ := Q3360
              obtain ⟨E3361, F3362, F3363, F3364, F3365, V3366, V3367, V3368, ne3369, ne3370, ne3371, ne3372, ne3373, ne3374, ge3375, ge3376, ge3377, ge3378⟩ := H3357
              refine Wp.stk (st' := [(.int (1 : Int32))]) rfl ?_
              refine s_iload (pc' := 122) A at_120 rfl rfl ?_
              refine s_icmpN (pc' := 125) A at_122 rfl (by decide) ?_
              refine s_aload (pc' := 127) A at_125 rfl rfl rfl ?_
              refine s_virtual (pc' := 130) (y := y3_isEmpty) (argsL := []) (rest := []) (z := y3_isEmpty) A E3361 (gq_isEmpty3 l Z a0 hw n0 h3358 A.size b2 r12 r13 r14 [.int (1 : Int32), .int (0 : Int32), .int (1 : Int32)] [.long q1, .long q5, .long q3] [.int (-1 : Int32), .int (-1 : Int32), .int (-1 : Int32)] ⟨E3361, F3362, F3363, F3364, F3365, V3366, V3367, V3368, ne3369, ne3370, ne3371, ne3372, ne3373, ne3374, ge3375, ge3376, ge3377, ge3378⟩) (w28 hw) (w29 hw) (nf_same (C := "") (w31 hw)) (w31 hw) (w30 hw) (w2 hw) (w32 hw) (by decide) pd___Z rfl (W := 0) (by decide) (by decide) (Nat.le_of_eq rfl) (by decide) (by decide) rfl rfl at_127 rfl fun T h3381 v3382 A Q3383 => ?_
              obtain ⟨rfl, K3379, H3380⟩ := Q3383
              obtain ⟨E3384, F3385, F3386, F3387, F3388, V3389, V3390, V3391, ne3392, ne3393, ne3394, ne3395, ne3396, ne3397, ge3398, ge3399, ge3400, ge3401⟩ := H3380
              refine Wp.stk (st' := [(.int (1 : Int32))]) rfl ?_
              refine s_ifN (pc' := 133) A at_130 rfl (by decide) ?_
              refine s_iconst (pc' := 134) (z := (1 : Int32)) A at_133 rfl (by decide) ?_
              refine s_goto (pc' := 138) A at_134 (by decide) (by decide) ?_
              refine s_istore (pc' := 140) (Ls' := #[iv q0, jv q1, S2, jv q2, S2, jv q3, S2, iv q4, jv q5, S2, rv b2, iv 1, iv 1, iv 1]) A at_138 rfl rfl ?_
              refine s_iload (pc' := 142) A at_140 rfl rfl ?_
              refine s_ifN (pc' := 145) A at_142 rfl (by decide) ?_
              refine s_iload (pc' := 147) A at_145 rfl rfl ?_
              refine s_ifN (pc' := 150) A at_147 rfl (by decide) ?_
              refine s_iconst (pc' := 151) (z := (1 : Int32)) A at_150 rfl (by decide) ?_
              refine s_goto (pc' := 155) A at_151 (by decide) (by decide) ?_
              exact r_bool A rfl (by decide) at_155 (by decide) (by decide) (rfl)
            ·
              refine s_irem (pc' := 104) (z := (2 : Int32)) A at_103 rfl (by decide) hpp.symm ?_
              refine s_istore (pc' := 106) (Ls' := #[iv q0, jv q1, S2, jv q2, S2, jv q3, S2, iv q4, jv q5, S2, rv b2, iv 1, iv 2, U0]) A at_104 rfl rfl ?_
              refine s_aload (pc' := 108) A at_106 rfl rfl rfl ?_
              refine s_iload (pc' := 110) A at_108 rfl rfl ?_
              refine s_lload (pc' := 112) A at_110 rfl rfl ?_
              refine s_virtual (pc' := 115) (y := y7_put) (argsL := [(.int (2 : Int32)), (.long q5)]) (rest := []) (z := y7_put) A E3246 (gq_put17 l Z a0 hw n0 h3243 A.size b2 r12 r13 r14 (2 : Int32) (0 : Int32) (1 : Int32) q1 q2 q3 q5 ⟨E3246, F3247, F3248, F3249, F3250, V3251, V3252, V3253, ne3254, ne3255, ne3256, ne3257, ne3258, ne3259, ge3260, ge3261, ge3262, ge3263⟩) (w39 hw) (w40 hw) (nf_same (C := "") (w42 hw)) (w42 hw) (w41 hw) (w2 hw) (w43 hw) (by decide) pd__IJ_V rfl (W := 0) (by decide) (by decide) (Nat.le_of_eq rfl) (by decide) (by decide) rfl rfl at_112 rfl fun T h3404 v3405 A Q3406 => ?_
              obtain ⟨rfl, K3402, H3403⟩ := Q3406
              obtain ⟨E3407, F3408, F3409, F3410, F3411, V3412, V3413, V3414, ne3415, ne3416, ne3417, ne3418, ne3419, ne3420, ge3421, ge3422, ge3423, ge3424⟩ := H3403
              refine Wp.stk (st' := []) rfl ?_
              refine s_aload (pc' := 117) A at_115 rfl rfl rfl ?_
              refine s_virtual (pc' := 120) (y := y9_poll) (argsL := []) (rest := []) (z := y9_poll) A E3407 (gq_poll20 l Z a0 hw n0 h3404 A.size b2 r12 r13 r14 (0 : Int32) (1 : Int32) [.long q1, .long q2, .long q5] ⟨E3407, F3408, F3409, F3410, F3411, V3412, V3413, V3414, ne3415, ne3416, ne3417, ne3418, ne3419, ne3420, ge3421, ge3422, ge3423, ge3424⟩) (w53 hw) (w54 hw) (nf_same (C := "") (w56 hw)) (w56 hw) (w55 hw) (w2 hw) (w57 hw) (by decide) pd___I rfl (W := 0) (by decide) (by decide) (Nat.le_of_eq rfl) (by decide) (by decide) rfl rfl at_117 rfl fun T h3427 v3428 A Q3429 => ?_
              obtain ⟨rfl, K3425, H3426⟩ := Q3429
              obtain ⟨E3430, F3431, F3432, F3433, F3434, V3435, V3436, V3437, ne3438, ne3439, ne3440, ne3441, ne3442, ne3443, ge3444, ge3445, ge3446, ge3447⟩ := H3426
              refine Wp.stk (st' := [(.int (2 : Int32))]) rfl ?_
              refine s_iload (pc' := 122) A at_120 rfl rfl ?_
              refine s_icmpN (pc' := 125) A at_122 rfl (by decide) ?_
              refine s_aload (pc' := 127) A at_125 rfl rfl rfl ?_
              refine s_virtual (pc' := 130) (y := y3_isEmpty) (argsL := []) (rest := []) (z := y3_isEmpty) A E3430 (gq_isEmpty3 l Z a0 hw n0 h3427 A.size b2 r12 r13 r14 [.int (2 : Int32), .int (0 : Int32), .int (1 : Int32)] [.long q1, .long q2, .long q5] [.int (-1 : Int32), .int (-1 : Int32), .int (-1 : Int32)] ⟨E3430, F3431, F3432, F3433, F3434, V3435, V3436, V3437, ne3438, ne3439, ne3440, ne3441, ne3442, ne3443, ge3444, ge3445, ge3446, ge3447⟩) (w28 hw) (w29 hw) (nf_same (C := "") (w31 hw)) (w31 hw) (w30 hw) (w2 hw) (w32 hw) (by decide) pd___Z rfl (W := 0) (by decide) (by decide) (Nat.le_of_eq rfl) (by decide) (by decide) rfl rfl at_127 rfl fun T h3450 v3451 A Q3452 => ?_
              obtain ⟨rfl, K3448, H3449⟩ := Q3452
              obtain ⟨E3453, F3454, F3455, F3456, F3457, V3458, V3459, V3460, ne3461, ne3462, ne3463, ne3464, ne3465, ne3466, ge3467, ge3468, ge3469, ge3470⟩ := H3449
              refine Wp.stk (st' := [(.int (1 : Int32))]) rfl ?_
              refine s_ifN (pc' := 133) A at_130 rfl (by decide) ?_
              refine s_iconst (pc' := 134) (z := (1 : Int32)) A at_133 rfl (by decide) ?_
              refine s_goto (pc' := 138) A at_134 (by decide) (by decide) ?_
              refine s_istore (pc' := 140) (Ls' := #[iv q0, jv q1, S2, jv q2, S2, jv q3, S2, iv q4, jv q5, S2, rv b2, iv 1, iv 2, iv 1]) A at_138 rfl rfl ?_
              refine s_iload (pc' := 142) A at_140 rfl rfl ?_
              refine s_ifN (pc' := 145) A at_142 rfl (by decide) ?_
              refine s_iload (pc' := 147) A at_145 rfl rfl ?_
              refine s_ifN (pc' := 150) A at_147 rfl (by decide) ?_
              refine s_iconst (pc' := 151) (z := (1 : Int32)) A at_150 rfl (by decide) ?_
              refine s_goto (pc' := 155) A at_151 (by decide) (by decide) ?_
              exact r_bool A rfl (by decide) at_155 (by decide) (by decide) (rfl)
          ·
            refine s_virtual (pc' := 50) (y := y7_put) (argsL := [(.int (2 : Int32)), (.long q3)]) (rest := []) (z := y7_put) A E2786 (gq_put63 l Z a0 hw n0 h2783 A.size b2 r12 r13 r14 q1 q2 q3 ⟨E2786, F2787, F2788, F2789, F2790, V2791, V2792, V2793, ne2794, ne2795, ne2796, ne2797, ne2798, ne2799, ge2800, ge2801, ge2802, ge2803⟩ hk47) (w39 hw) (w40 hw) (nf_same (C := "") (w42 hw)) (w42 hw) (w41 hw) (w2 hw) (w43 hw) (by decide) pd__IJ_V rfl (W := 0) (by decide) (by decide) (Nat.le_of_eq rfl) (by decide) (by decide) rfl rfl at_47 rfl fun T h3473 v3474 A Q3475 => ?_
            obtain ⟨rfl, K3471, H3472⟩ := Q3475
            obtain ⟨E3476, F3477, F3478, F3479, F3480, V3481, V3482, V3483, ne3484, ne3485, ne3486, ne3487, ne3488, ne3489, ge3490, ge3491, ge3492, ge3493⟩ := H3472
            refine Wp.stk (st' := []) rfl ?_
            refine s_aload (pc' := 52) A at_50 rfl rfl rfl ?_
            refine s_virtual (pc' := 55) (y := y2_clear) (argsL := []) (rest := []) (z := y2_clear) A E3476 (gq_clear67 l Z a0 hw n0 h3473 A.size b2 r12 r13 r14 [.long q1, .long q2, .long q3] ⟨E3476, F3477, F3478, F3479, F3480, V3481, V3482, V3483, ne3484, ne3485, ne3486, ne3487, ne3488, ne3489, ge3490, ge3491, ge3492, ge3493⟩) (w23 hw) (w24 hw) (nf_same (C := "") (w26 hw)) (w26 hw) (w25 hw) (w2 hw) (w27 hw) (by decide) pd___V rfl (W := 0) (by decide) (by decide) (Nat.le_of_eq rfl) (by decide) (by decide) rfl rfl at_52 rfl fun T h3496 v3497 A Q3498 => ?_
            obtain ⟨rfl, K3494, H3495⟩ := Q3498
            obtain ⟨E3499, F3500, F3501, F3502, F3503, V3504, V3505, V3506, ne3507, ne3508, ne3509, ne3510, ne3511, ne3512, ge3513, ge3514, ge3515, ge3516⟩ := H3495
            refine Wp.stk (st' := []) rfl ?_
            refine s_aload (pc' := 57) A at_55 rfl rfl rfl ?_
            refine s_virtual (pc' := 60) (y := y3_isEmpty) (argsL := []) (rest := []) (z := y3_isEmpty) A E3499 (gq_isEmpty3 l Z a0 hw n0 h3496 A.size b2 r12 r13 r14 [.int (1 : Int32), .int (0 : Int32), .int (2 : Int32)] [.long q1, .long q2, .long q3] [.int (-1 : Int32), .int (-1 : Int32), .int (-1 : Int32)] ⟨E3499, F3500, F3501, F3502, F3503, V3504, V3505, V3506, ne3507, ne3508, ne3509, ne3510, ne3511, ne3512, ge3513, ge3514, ge3515, ge3516⟩) (w28 hw) (w29 hw) (nf_same (C := "") (w31 hw)) (w31 hw) (w30 hw) (w2 hw) (w32 hw) (by decide) pd___Z rfl (W := 0) (by decide) (by decide) (Nat.le_of_eq rfl) (by decide) (by decide) rfl rfl at_57 rfl fun T h3519 v3520 A Q3521 => ?_
            obtain ⟨rfl, K3517, H3518⟩ := Q3521
            obtain ⟨E3522, F3523, F3524, F3525, F3526, V3527, V3528, V3529, ne3530, ne3531, ne3532, ne3533, ne3534, ne3535, ge3536, ge3537, ge3538, ge3539⟩ := H3518
            refine Wp.stk (st' := [(.int (1 : Int32))]) rfl ?_
            refine s_ifN (pc' := 63) A at_60 rfl (by decide) ?_
            refine s_aload (pc' := 65) A at_63 rfl rfl rfl ?_
            refine s_iconst (pc' := 66) (z := (0 : Int32)) A at_65 rfl (by decide) ?_
            refine s_virtual (pc' := 69) (y := y4_contains) (argsL := [(.int (0 : Int32))]) (rest := []) (z := y4_contains) A E3522 (gq_contains4 l Z a0 hw n0 h3519 A.size b2 r12 r13 r14 [.int (1 : Int32), .int (0 : Int32), .int (2 : Int32)] [.long q1, .long q2, .long q3] ⟨E3522, F3523, F3524, F3525, F3526, V3527, V3528, V3529, ne3530, ne3531, ne3532, ne3533, ne3534, ne3535, ge3536, ge3537, ge3538, ge3539⟩) (w33 hw) (w34 hw) (nf_same (C := "") (w36 hw)) (w36 hw) (w35 hw) (w2 hw) (w37 hw) (by decide) pd__I_Z rfl (W := 0) (by decide) (by decide) (Nat.le_of_eq rfl) (by decide) (by decide) rfl rfl at_66 rfl fun T h3542 v3543 A Q3544 => ?_
            obtain ⟨rfl, K3540, H3541⟩ := Q3544
            obtain ⟨E3545, F3546, F3547, F3548, F3549, V3550, V3551, V3552, ne3553, ne3554, ne3555, ne3556, ne3557, ne3558, ge3559, ge3560, ge3561, ge3562⟩ := H3541
            refine Wp.stk (st' := [(.int (0 : Int32))]) rfl ?_
            refine s_ifN (pc' := 72) A at_69 rfl (by decide) ?_
            refine s_aload (pc' := 74) A at_72 rfl rfl rfl ?_
            refine s_iconst (pc' := 75) (z := (1 : Int32)) A at_74 rfl (by decide) ?_
            refine s_virtual (pc' := 78) (y := y4_contains) (argsL := [(.int (1 : Int32))]) (rest := []) (z := y4_contains) A E3545 (gq_contains5 l Z a0 hw n0 h3542 A.size b2 r12 r13 r14 [.int (1 : Int32), .int (0 : Int32), .int (2 : Int32)] [.long q1, .long q2, .long q3] ⟨E3545, F3546, F3547, F3548, F3549, V3550, V3551, V3552, ne3553, ne3554, ne3555, ne3556, ne3557, ne3558, ge3559, ge3560, ge3561, ge3562⟩) (w33 hw) (w34 hw) (nf_same (C := "") (w36 hw)) (w36 hw) (w35 hw) (w2 hw) (w37 hw) (by decide) pd__I_Z rfl (W := 0) (by decide) (by decide) (Nat.le_of_eq rfl) (by decide) (by decide) rfl rfl at_75 rfl fun T h3565 v3566 A Q3567 => ?_
            obtain ⟨rfl, K3563, H3564⟩ := Q3567
            obtain ⟨E3568, F3569, F3570, F3571, F3572, V3573, V3574, V3575, ne3576, ne3577, ne3578, ne3579, ne3580, ne3581, ge3582, ge3583, ge3584, ge3585⟩ := H3564
            refine Wp.stk (st' := [(.int (0 : Int32))]) rfl ?_
            refine s_ifN (pc' := 81) A at_78 rfl (by decide) ?_
            refine s_aload (pc' := 83) A at_81 rfl rfl rfl ?_
            refine s_iconst (pc' := 84) (z := (2 : Int32)) A at_83 rfl (by decide) ?_
            refine s_virtual (pc' := 87) (y := y4_contains) (argsL := [(.int (2 : Int32))]) (rest := []) (z := y4_contains) A E3568 (gq_contains6 l Z a0 hw n0 h3565 A.size b2 r12 r13 r14 [.int (1 : Int32), .int (0 : Int32), .int (2 : Int32)] [.long q1, .long q2, .long q3] ⟨E3568, F3569, F3570, F3571, F3572, V3573, V3574, V3575, ne3576, ne3577, ne3578, ne3579, ne3580, ne3581, ge3582, ge3583, ge3584, ge3585⟩) (w33 hw) (w34 hw) (nf_same (C := "") (w36 hw)) (w36 hw) (w35 hw) (w2 hw) (w37 hw) (by decide) pd__I_Z rfl (W := 0) (by decide) (by decide) (Nat.le_of_eq rfl) (by decide) (by decide) rfl rfl at_84 rfl fun T h3588 v3589 A Q3590 => ?_
            obtain ⟨rfl, K3586, H3587⟩ := Q3590
            obtain ⟨E3591, F3592, F3593, F3594, F3595, V3596, V3597, V3598, ne3599, ne3600, ne3601, ne3602, ne3603, ne3604, ge3605, ge3606, ge3607, ge3608⟩ := H3587
            refine Wp.stk (st' := [(.int (0 : Int32))]) rfl ?_
            refine s_ifN (pc' := 90) A at_87 rfl (by decide) ?_
            refine s_iconst (pc' := 91) (z := (1 : Int32)) A at_90 rfl (by decide) ?_
            refine s_goto (pc' := 95) A at_91 (by decide) (by decide) ?_
            refine s_istore (pc' := 97) (Ls' := #[iv q0, jv q1, S2, jv q2, S2, jv q3, S2, iv q4, jv q5, S2, rv b2, iv 1, U0, U0]) A at_95 rfl rfl ?_
            refine s_iload (pc' := 99) A at_97 rfl rfl ?_
            refine s_ldcInt (pc' := 101) A at_99 rfl (w38 hw) ?_
            refine s_iand (pc' := 102) (z := (q4 &&& (2147483647 : Int32))) A at_101 rfl rfl ?_
            refine s_iconst (pc' := 103) (z := (3 : Int32)) A at_102 rfl (by decide) ?_
            obtain ⟨pp, hpp⟩ : ∃ z, z = ((q4 &&& (2147483647 : Int32)) % (3 : Int32)) := ⟨_, rfl⟩
            have cp := own_p q4
            rw [← hpp] at cp
            rcases cp with rfl | rfl | rfl
            ·
              refine s_irem (pc' := 104) (z := (0 : Int32)) A at_103 rfl (by decide) hpp.symm ?_
              refine s_istore (pc' := 106) (Ls' := #[iv q0, jv q1, S2, jv q2, S2, jv q3, S2, iv q4, jv q5, S2, rv b2, iv 1, iv 0, U0]) A at_104 rfl rfl ?_
              refine s_aload (pc' := 108) A at_106 rfl rfl rfl ?_
              refine s_iload (pc' := 110) A at_108 rfl rfl ?_
              refine s_lload (pc' := 112) A at_110 rfl rfl ?_
              refine s_virtual (pc' := 115) (y := y7_put) (argsL := [(.int (0 : Int32)), (.long q5)]) (rest := []) (z := y7_put) A E3591 (gq_put7 l Z a0 hw n0 h3588 A.size b2 r12 r13 r14 (1 : Int32) (0 : Int32) (2 : Int32) q1 q2 q3 q5 ⟨E3591, F3592, F3593, F3594, F3595, V3596, V3597, V3598, ne3599, ne3600, ne3601, ne3602, ne3603, ne3604, ge3605, ge3606, ge3607, ge3608⟩) (w39 hw) (w40 hw) (nf_same (C := "") (w42 hw)) (w42 hw) (w41 hw) (w2 hw) (w43 hw) (by decide) pd__IJ_V rfl (W := 0) (by decide) (by decide) (Nat.le_of_eq rfl) (by decide) (by decide) rfl rfl at_112 rfl fun T h3611 v3612 A Q3613 => ?_
              obtain ⟨rfl, K3609, H3610⟩ := Q3613
              obtain ⟨E3614, F3615, F3616, F3617, F3618, V3619, V3620, V3621, ne3622, ne3623, ne3624, ne3625, ne3626, ne3627, ge3628, ge3629, ge3630, ge3631⟩ := H3610
              refine Wp.stk (st' := []) rfl ?_
              refine s_aload (pc' := 117) A at_115 rfl rfl rfl ?_
              refine s_virtual (pc' := 120) (y := y9_poll) (argsL := []) (rest := []) (z := y9_poll) A E3614 (gq_poll10 l Z a0 hw n0 h3611 A.size b2 r12 r13 r14 (0 : Int32) (2 : Int32) [.long q5, .long q2, .long q3] ⟨E3614, F3615, F3616, F3617, F3618, V3619, V3620, V3621, ne3622, ne3623, ne3624, ne3625, ne3626, ne3627, ge3628, ge3629, ge3630, ge3631⟩) (w53 hw) (w54 hw) (nf_same (C := "") (w56 hw)) (w56 hw) (w55 hw) (w2 hw) (w57 hw) (by decide) pd___I rfl (W := 0) (by decide) (by decide) (Nat.le_of_eq rfl) (by decide) (by decide) rfl rfl at_117 rfl fun T h3634 v3635 A Q3636 => ?_
              obtain ⟨rfl, K3632, H3633⟩ := Q3636
              obtain ⟨E3637, F3638, F3639, F3640, F3641, V3642, V3643, V3644, ne3645, ne3646, ne3647, ne3648, ne3649, ne3650, ge3651, ge3652, ge3653, ge3654⟩ := H3633
              refine Wp.stk (st' := [(.int (0 : Int32))]) rfl ?_
              refine s_iload (pc' := 122) A at_120 rfl rfl ?_
              refine s_icmpN (pc' := 125) A at_122 rfl (by decide) ?_
              refine s_aload (pc' := 127) A at_125 rfl rfl rfl ?_
              refine s_virtual (pc' := 130) (y := y3_isEmpty) (argsL := []) (rest := []) (z := y3_isEmpty) A E3637 (gq_isEmpty3 l Z a0 hw n0 h3634 A.size b2 r12 r13 r14 [.int (0 : Int32), .int (0 : Int32), .int (2 : Int32)] [.long q5, .long q2, .long q3] [.int (-1 : Int32), .int (-1 : Int32), .int (-1 : Int32)] ⟨E3637, F3638, F3639, F3640, F3641, V3642, V3643, V3644, ne3645, ne3646, ne3647, ne3648, ne3649, ne3650, ge3651, ge3652, ge3653, ge3654⟩) (w28 hw) (w29 hw) (nf_same (C := "") (w31 hw)) (w31 hw) (w30 hw) (w2 hw) (w32 hw) (by decide) pd___Z rfl (W := 0) (by decide) (by decide) (Nat.le_of_eq rfl) (by decide) (by decide) rfl rfl at_127 rfl fun T h3657 v3658 A Q3659 => ?_
              obtain ⟨rfl, K3655, H3656⟩ := Q3659
              obtain ⟨E3660, F3661, F3662, F3663, F3664, V3665, V3666, V3667, ne3668, ne3669, ne3670, ne3671, ne3672, ne3673, ge3674, ge3675, ge3676, ge3677⟩ := H3656
              refine Wp.stk (st' := [(.int (1 : Int32))]) rfl ?_
              refine s_ifN (pc' := 133) A at_130 rfl (by decide) ?_
              refine s_iconst (pc' := 134) (z := (1 : Int32)) A at_133 rfl (by decide) ?_
              refine s_goto (pc' := 138) A at_134 (by decide) (by decide) ?_
              refine s_istore (pc' := 140) (Ls' := #[iv q0, jv q1, S2, jv q2, S2, jv q3, S2, iv q4, jv q5, S2, rv b2, iv 1, iv 0, iv 1]) A at_138 rfl rfl ?_
              refine s_iload (pc' := 142) A at_140 rfl rfl ?_
              refine s_ifN (pc' := 145) A at_142 rfl (by decide) ?_
              refine s_iload (pc' := 147) A at_145 rfl rfl ?_
              refine s_ifN (pc' := 150) A at_147 rfl (by decide) ?_
              refine s_iconst (pc' := 151) (z := (1 : Int32)) A at_150 rfl (by decide) ?_
              refine s_goto (pc' := 155) A at_151 (by decide) (by decide) ?_
              exact r_bool A rfl (by decide) at_155 (by decide) (by decide) (rfl)
            ·
              refine s_irem (pc' := 104) (z := (1 : Int32)) A at_103 rfl (by decide) hpp.symm ?_
              refine s_istore (pc' := 106) (Ls' := #[iv q0, jv q1, S2, jv q2, S2, jv q3, S2, iv q4, jv q5, S2, rv b2, iv 1, iv 1, U0]) A at_104 rfl rfl ?_
              refine s_aload (pc' := 108) A at_106 rfl rfl rfl ?_
              refine s_iload (pc' := 110) A at_108 rfl rfl ?_
              refine s_lload (pc' := 112) A at_110 rfl rfl ?_
              refine s_virtual (pc' := 115) (y := y7_put) (argsL := [(.int (1 : Int32)), (.long q5)]) (rest := []) (z := y7_put) A E3591 (gq_put12 l Z a0 hw n0 h3588 A.size b2 r12 r13 r14 (1 : Int32) (0 : Int32) (2 : Int32) q1 q2 q3 q5 ⟨E3591, F3592, F3593, F3594, F3595, V3596, V3597, V3598, ne3599, ne3600, ne3601, ne3602, ne3603, ne3604, ge3605, ge3606, ge3607, ge3608⟩) (w39 hw) (w40 hw) (nf_same (C := "") (w42 hw)) (w42 hw) (w41 hw) (w2 hw) (w43 hw) (by decide) pd__IJ_V rfl (W := 0) (by decide) (by decide) (Nat.le_of_eq rfl) (by decide) (by decide) rfl rfl at_112 rfl fun T h3680 v3681 A Q3682 => ?_
              obtain ⟨rfl, K3678, H3679⟩ := Q3682
              obtain ⟨E3683, F3684, F3685, F3686, F3687, V3688, V3689, V3690, ne3691, ne3692, ne3693, ne3694, ne3695, ne3696, ge3697, ge3698, ge3699, ge3700⟩ := H3679
              refine Wp.stk (st' := []) rfl ?_
              refine s_aload (pc' := 117) A at_115 rfl rfl rfl ?_
              refine s_virtual (pc' := 120) (y := y9_poll) (argsL := []) (rest := []) (z := y9_poll) A E3683 (gq_poll15 l Z a0 hw n0 h3680 A.size b2 r12 r13 r14 (0 : Int32) (2 : Int32) [.long q1, .long q5, .long q3] ⟨E3683, F3684, F3685, F3686, F3687, V3688, V3689, V3690, ne3691, ne3692, ne3693, ne3694, ne3695, ne3696, ge3697, ge3698, ge3699, ge3700⟩) (w53 hw) (w54 hw) (nf_same (C := "") (w56 hw)) (w56 hw) (w55 hw) (w2 hw) (w57 hw) (by decide) pd___I rfl (W := 0) (by decide) (by decide) (Nat.le_of_eq rfl) (by decide) (by decide) rfl rfl at_117 rfl fun T h3703 v3704 A Q3705 => ?_
              obtain ⟨rfl, K3701, H3702⟩ := Q3705
              obtain ⟨E3706, F3707, F3708, F3709, F3710, V3711, V3712, V3713, ne3714, ne3715, ne3716, ne3717, ne3718, ne3719, ge3720, ge3721, ge3722, ge3723⟩ := H3702
              refine Wp.stk (st' := [(.int (1 : Int32))]) rfl ?_
              refine s_iload (pc' := 122) A at_120 rfl rfl ?_
              refine s_icmpN (pc' := 125) A at_122 rfl (by decide) ?_
              refine s_aload (pc' := 127) A at_125 rfl rfl rfl ?_
              refine s_virtual (pc' := 130) (y := y3_isEmpty) (argsL := []) (rest := []) (z := y3_isEmpty) A E3706 (gq_isEmpty3 l Z a0 hw n0 h3703 A.size b2 r12 r13 r14 [.int (1 : Int32), .int (0 : Int32), .int (2 : Int32)] [.long q1, .long q5, .long q3] [.int (-1 : Int32), .int (-1 : Int32), .int (-1 : Int32)] ⟨E3706, F3707, F3708, F3709, F3710, V3711, V3712, V3713, ne3714, ne3715, ne3716, ne3717, ne3718, ne3719, ge3720, ge3721, ge3722, ge3723⟩) (w28 hw) (w29 hw) (nf_same (C := "") (w31 hw)) (w31 hw) (w30 hw) (w2 hw) (w32 hw) (by decide) pd___Z rfl (W := 0) (by decide) (by decide) (Nat.le_of_eq rfl) (by decide) (by decide) rfl rfl at_127 rfl fun T h3726 v3727 A Q3728 => ?_
              obtain ⟨rfl, K3724, H3725⟩ := Q3728
              obtain ⟨E3729, F3730, F3731, F3732, F3733, V3734, V3735, V3736, ne3737, ne3738, ne3739, ne3740, ne3741, ne3742, ge3743, ge3744, ge3745, ge3746⟩ := H3725
              refine Wp.stk (st' := [(.int (1 : Int32))]) rfl ?_
              refine s_ifN (pc' := 133) A at_130 rfl (by decide) ?_
              refine s_iconst (pc' := 134) (z := (1 : Int32)) A at_133 rfl (by decide) ?_
              refine s_goto (pc' := 138) A at_134 (by decide) (by decide) ?_
              refine s_istore (pc' := 140) (Ls' := #[iv q0, jv q1, S2, jv q2, S2, jv q3, S2, iv q4, jv q5, S2, rv b2, iv 1, iv 1, iv 1]) A at_138 rfl rfl ?_
              refine s_iload (pc' := 142) A at_140 rfl rfl ?_
              refine s_ifN (pc' := 145) A at_142 rfl (by decide) ?_
              refine s_iload (pc' := 147) A at_145 rfl rfl ?_
              refine s_ifN (pc' := 150) A at_147 rfl (by decide) ?_
              refine s_iconst (pc' := 151) (z := (1 : Int32)) A at_150 rfl (by decide) ?_
              refine s_goto (pc' := 155) A at_151 (by decide) (by decide) ?_
              exact r_bool A rfl (by decide) at_155 (by decide) (by decide) (rfl)
            ·
              refine s_irem (pc' := 104) (z := (2 : Int32)) A at_103 rfl (by decide) hpp.symm ?_
              refine s_istore (pc' := 106) (Ls' := #[iv q0, jv q1, S2, jv q2, S2, jv q3, S2, iv q4, jv q5, S2, rv b2, iv 1, iv 2, U0]) A at_104 rfl rfl ?_
              refine s_aload (pc' := 108) A at_106 rfl rfl rfl ?_
              refine s_iload (pc' := 110) A at_108 rfl rfl ?_
              refine s_lload (pc' := 112) A at_110 rfl rfl ?_
              refine s_virtual (pc' := 115) (y := y7_put) (argsL := [(.int (2 : Int32)), (.long q5)]) (rest := []) (z := y7_put) A E3591 (gq_put17 l Z a0 hw n0 h3588 A.size b2 r12 r13 r14 (1 : Int32) (0 : Int32) (2 : Int32) q1 q2 q3 q5 ⟨E3591, F3592, F3593, F3594, F3595, V3596, V3597, V3598, ne3599, ne3600, ne3601, ne3602, ne3603, ne3604, ge3605, ge3606, ge3607, ge3608⟩) (w39 hw) (w40 hw) (nf_same (C := "") (w42 hw)) (w42 hw) (w41 hw) (w2 hw) (w43 hw) (by decide) pd__IJ_V rfl (W := 0) (by decide) (by decide) (Nat.le_of_eq rfl) (by decide) (by decide) rfl rfl at_112 rfl fun T h3749 v3750 A Q3751 => ?_
              obtain ⟨rfl, K3747, H3748⟩ := Q3751
              obtain ⟨E3752, F3753, F3754, F3755, F3756, V3757, V3758, V3759, ne3760, ne3761, ne3762, ne3763, ne3764, ne3765, ge3766, ge3767, ge3768, ge3769⟩ := H3748
              refine Wp.stk (st' := []) rfl ?_
              refine s_aload (pc' := 117) A at_115 rfl rfl rfl ?_
              refine s_virtual (pc' := 120) (y := y9_poll) (argsL := []) (rest := []) (z := y9_poll) A E3752 (gq_poll20 l Z a0 hw n0 h3749 A.size b2 r12 r13 r14 (0 : Int32) (2 : Int32) [.long q1, .long q2, .long q5] ⟨E3752, F3753, F3754, F3755, F3756, V3757, V3758, V3759, ne3760, ne3761, ne3762, ne3763, ne3764, ne3765, ge3766, ge3767, ge3768, ge3769⟩) (w53 hw) (w54 hw) (nf_same (C := "") (w56 hw)) (w56 hw) (w55 hw) (w2 hw) (w57 hw) (by decide) pd___I rfl (W := 0) (by decide) (by decide) (Nat.le_of_eq rfl) (by decide) (by decide) rfl rfl at_117 rfl fun T h3772 v3773 A Q3774 => ?_
              obtain ⟨rfl, K3770, H3771⟩ := Q3774
              obtain ⟨E3775, F3776, F3777, F3778, F3779, V3780, V3781, V3782, ne3783, ne3784, ne3785, ne3786, ne3787, ne3788, ge3789, ge3790, ge3791, ge3792⟩ := H3771
              refine Wp.stk (st' := [(.int (2 : Int32))]) rfl ?_
              refine s_iload (pc' := 122) A at_120 rfl rfl ?_
              refine s_icmpN (pc' := 125) A at_122 rfl (by decide) ?_
              refine s_aload (pc' := 127) A at_125 rfl rfl rfl ?_
              refine s_virtual (pc' := 130) (y := y3_isEmpty) (argsL := []) (rest := []) (z := y3_isEmpty) A E3775 (gq_isEmpty3 l Z a0 hw n0 h3772 A.size b2 r12 r13 r14 [.int (2 : Int32), .int (0 : Int32), .int (2 : Int32)] [.long q1, .long q2, .long q5] [.int (-1 : Int32), .int (-1 : Int32), .int (-1 : Int32)] ⟨E3775, F3776, F3777, F3778, F3779, V3780, V3781, V3782, ne3783, ne3784, ne3785, ne3786, ne3787, ne3788, ge3789, ge3790, ge3791, ge3792⟩) (w28 hw) (w29 hw) (nf_same (C := "") (w31 hw)) (w31 hw) (w30 hw) (w2 hw) (w32 hw) (by decide) pd___Z rfl (W := 0) (by decide) (by decide) (Nat.le_of_eq rfl) (by decide) (by decide) rfl rfl at_127 rfl fun T h3795 v3796 A Q3797 => ?_
              obtain ⟨rfl, K3793, H3794⟩ := Q3797
              obtain ⟨E3798, F3799, F3800, F3801, F3802, V3803, V3804, V3805, ne3806, ne3807, ne3808, ne3809, ne3810, ne3811, ge3812, ge3813, ge3814, ge3815⟩ := H3794
              refine Wp.stk (st' := [(.int (1 : Int32))]) rfl ?_
              refine s_ifN (pc' := 133) A at_130 rfl (by decide) ?_
              refine s_iconst (pc' := 134) (z := (1 : Int32)) A at_133 rfl (by decide) ?_
              refine s_goto (pc' := 138) A at_134 (by decide) (by decide) ?_
              refine s_istore (pc' := 140) (Ls' := #[iv q0, jv q1, S2, jv q2, S2, jv q3, S2, iv q4, jv q5, S2, rv b2, iv 1, iv 2, iv 1]) A at_138 rfl rfl ?_
              refine s_iload (pc' := 142) A at_140 rfl rfl ?_
              refine s_ifN (pc' := 145) A at_142 rfl (by decide) ?_
              refine s_iload (pc' := 147) A at_145 rfl rfl ?_
              refine s_ifN (pc' := 150) A at_147 rfl (by decide) ?_
              refine s_iconst (pc' := 151) (z := (1 : Int32)) A at_150 rfl (by decide) ?_
              refine s_goto (pc' := 155) A at_151 (by decide) (by decide) ?_
              exact r_bool A rfl (by decide) at_155 (by decide) (by decide) (rfl)
      ·
        refine s_virtual (pc' := 36) (y := y7_put) (argsL := [(.int (1 : Int32)), (.long q2)]) (rest := []) (z := y7_put) A E1751 (gq_put68 l Z a0 hw n0 h1748 A.size b2 r12 r13 r14 q1 q2 ⟨E1751, F1752, F1753, F1754, F1755, V1756, V1757, V1758, ne1759, ne1760, ne1761, ne1762, ne1763, ne1764, ge1765, ge1766, ge1767, ge1768⟩ hk33) (w39 hw) (w40 hw) (nf_same (C := "") (w42 hw)) (w42 hw) (w41 hw) (w2 hw) (w43 hw) (by decide) pd__IJ_V rfl (W := 0) (by decide) (by decide) (Nat.le_of_eq rfl) (by decide) (by decide) rfl rfl at_33 rfl fun T h3818 v3819 A Q3820 => ?_
        obtain ⟨rfl, K3816, H3817⟩ := Q3820
        obtain ⟨E3821, F3822, F3823, F3824, F3825, V3826, V3827, V3828, ne3829, ne3830, ne3831, ne3832, ne3833, ne3834, ge3835, ge3836, ge3837, ge3838⟩ := H3817
        refine Wp.stk (st' := []) rfl ?_
        refine s_iloadN (pc' := 37) A at_36 rfl rfl ?_
        refine s_iconst (pc' := 38) (z := (4 : Int32)) A at_37 rfl (by decide) ?_
        refine s_iand (pc' := 39) (z := (q0 &&& (4 : Int32))) A at_38 rfl rfl ?_
        by_cases hc39_1 : (q0 &&& (4 : Int32)) = (0 : Int32)
        ·
          refine s_ifY (pc' := 50) A at_39 ((if0 _ _).trans (teq hc39_1).1) (by decide) (by decide) ?_
          refine s_aload (pc' := 52) A at_50 rfl rfl rfl ?_
          refine s_virtual (pc' := 55) (y := y2_clear) (argsL := []) (rest := []) (z := y2_clear) A E3821 (gq_clear72 l Z a0 hw n0 h3818 A.size b2 r12 r13 r14 [.long q1, .long q2, .long (0 : Int64)] ⟨E3821, F3822, F3823, F3824, F3825, V3826, V3827, V3828, ne3829, ne3830, ne3831, ne3832, ne3833, ne3834, ge3835, ge3836, ge3837, ge3838⟩) (w23 hw) (w24 hw) (nf_same (C := "") (w26 hw)) (w26 hw) (w25 hw) (w2 hw) (w27 hw) (by decide) pd___V rfl (W := 0) (by decide) (by decide) (Nat.le_of_eq rfl) (by decide) (by decide) rfl rfl at_52 rfl fun T h3841 v3842 A Q3843 => ?_
          obtain ⟨rfl, K3839, H3840⟩ := Q3843
          obtain ⟨E3844, F3845, F3846, F3847, F3848, V3849, V3850, V3851, ne3852, ne3853, ne3854, ne3855, ne3856, ne3857, ge3858, ge3859, ge3860, ge3861⟩ := H3840
          refine Wp.stk (st' := []) rfl ?_
          refine s_aload (pc' := 57) A at_55 rfl rfl rfl ?_
          refine s_virtual (pc' := 60) (y := y3_isEmpty) (argsL := []) (rest := []) (z := y3_isEmpty) A E3844 (gq_isEmpty3 l Z a0 hw n0 h3841 A.size b2 r12 r13 r14 [.int (0 : Int32), .int (1 : Int32), .int (0 : Int32)] [.long q1, .long q2, .long (0 : Int64)] [.int (-1 : Int32), .int (-1 : Int32), .int (-1 : Int32)] ⟨E3844, F3845, F3846, F3847, F3848, V3849, V3850, V3851, ne3852, ne3853, ne3854, ne3855, ne3856, ne3857, ge3858, ge3859, ge3860, ge3861⟩) (w28 hw) (w29 hw) (nf_same (C := "") (w31 hw)) (w31 hw) (w30 hw) (w2 hw) (w32 hw) (by decide) pd___Z rfl (W := 0) (by decide) (by decide) (Nat.le_of_eq rfl) (by decide) (by decide) rfl rfl at_57 rfl fun T h3864 v3865 A Q3866 => ?_
          obtain ⟨rfl, K3862, H3863⟩ := Q3866
          obtain ⟨E3867, F3868, F3869, F3870, F3871, V3872, V3873, V3874, ne3875, ne3876, ne3877, ne3878, ne3879, ne3880, ge3881, ge3882, ge3883, ge3884⟩ := H3863
          refine Wp.stk (st' := [(.int (1 : Int32))]) rfl ?_
          refine s_ifN (pc' := 63) A at_60 rfl (by decide) ?_
          refine s_aload (pc' := 65) A at_63 rfl rfl rfl ?_
          refine s_iconst (pc' := 66) (z := (0 : Int32)) A at_65 rfl (by decide) ?_
          refine s_virtual (pc' := 69) (y := y4_contains) (argsL := [(.int (0 : Int32))]) (rest := []) (z := y4_contains) A E3867 (gq_contains4 l Z a0 hw n0 h3864 A.size b2 r12 r13 r14 [.int (0 : Int32), .int (1 : Int32), .int (0 : Int32)] [.long q1, .long q2, .long (0 : Int64)] ⟨E3867, F3868, F3869, F3870, F3871, V3872, V3873, V3874, ne3875, ne3876, ne3877, ne3878, ne3879, ne3880, ge3881, ge3882, ge3883, ge3884⟩) (w33 hw) (w34 hw) (nf_same (C := "") (w36 hw)) (w36 hw) (w35 hw) (w2 hw) (w37 hw) (by decide) pd__I_Z rfl (W := 0) (by decide) (by decide) (Nat.le_of_eq rfl) (by decide) (by decide) rfl rfl at_66 rfl fun T h3887 v3888 A Q3889 => ?_
          obtain ⟨rfl, K3885, H3886⟩ := Q3889
          obtain ⟨E3890, F3891, F3892, F3893, F3894, V3895, V3896, V3897, ne3898, ne3899, ne3900, ne3901, ne3902, ne3903, ge3904, ge3905, ge3906, ge3907⟩ := H3886
          refine Wp.stk (st' := [(.int (0 : Int32))]) rfl ?_
          refine s_ifN (pc' := 72) A at_69 rfl (by decide) ?_
          refine s_aload (pc' := 74) A at_72 rfl rfl rfl ?_
          refine s_iconst (pc' := 75) (z := (1 : Int32)) A at_74 rfl (by decide) ?_
          refine s_virtual (pc' := 78) (y := y4_contains) (argsL := [(.int (1 : Int32))]) (rest := []) (z := y4_contains) A E3890 (gq_contains5 l Z a0 hw n0 h3887 A.size b2 r12 r13 r14 [.int (0 : Int32), .int (1 : Int32), .int (0 : Int32)] [.long q1, .long q2, .long (0 : Int64)] ⟨E3890, F3891, F3892, F3893, F3894, V3895, V3896, V3897, ne3898, ne3899, ne3900, ne3901, ne3902, ne3903, ge3904, ge3905, ge3906, ge3907⟩) (w33 hw) (w34 hw) (nf_same (C := "") (w36 hw)) (w36 hw) (w35 hw) (w2 hw) (w37 hw) (by decide) pd__I_Z rfl (W := 0) (by decide) (by decide) (Nat.le_of_eq rfl) (by decide) (by decide) rfl rfl at_75 rfl fun T h3910 v3911 A Q3912 => ?_
          obtain ⟨rfl, K3908, H3909⟩ := Q3912
          obtain ⟨E3913, F3914, F3915, F3916, F3917, V3918, V3919, V3920, ne3921, ne3922, ne3923, ne3924, ne3925, ne3926, ge3927, ge3928, ge3929, ge3930⟩ := H3909
          refine Wp.stk (st' := [(.int (0 : Int32))]) rfl ?_
          refine s_ifN (pc' := 81) A at_78 rfl (by decide) ?_
          refine s_aload (pc' := 83) A at_81 rfl rfl rfl ?_
          refine s_iconst (pc' := 84) (z := (2 : Int32)) A at_83 rfl (by decide) ?_
          refine s_virtual (pc' := 87) (y := y4_contains) (argsL := [(.int (2 : Int32))]) (rest := []) (z := y4_contains) A E3913 (gq_contains6 l Z a0 hw n0 h3910 A.size b2 r12 r13 r14 [.int (0 : Int32), .int (1 : Int32), .int (0 : Int32)] [.long q1, .long q2, .long (0 : Int64)] ⟨E3913, F3914, F3915, F3916, F3917, V3918, V3919, V3920, ne3921, ne3922, ne3923, ne3924, ne3925, ne3926, ge3927, ge3928, ge3929, ge3930⟩) (w33 hw) (w34 hw) (nf_same (C := "") (w36 hw)) (w36 hw) (w35 hw) (w2 hw) (w37 hw) (by decide) pd__I_Z rfl (W := 0) (by decide) (by decide) (Nat.le_of_eq rfl) (by decide) (by decide) rfl rfl at_84 rfl fun T h3933 v3934 A Q3935 => ?_
          obtain ⟨rfl, K3931, H3932⟩ := Q3935
          obtain ⟨E3936, F3937, F3938, F3939, F3940, V3941, V3942, V3943, ne3944, ne3945, ne3946, ne3947, ne3948, ne3949, ge3950, ge3951, ge3952, ge3953⟩ := H3932
          refine Wp.stk (st' := [(.int (0 : Int32))]) rfl ?_
          refine s_ifN (pc' := 90) A at_87 rfl (by decide) ?_
          refine s_iconst (pc' := 91) (z := (1 : Int32)) A at_90 rfl (by decide) ?_
          refine s_goto (pc' := 95) A at_91 (by decide) (by decide) ?_
          refine s_istore (pc' := 97) (Ls' := #[iv q0, jv q1, S2, jv q2, S2, jv q3, S2, iv q4, jv q5, S2, rv b2, iv 1, U0, U0]) A at_95 rfl rfl ?_
          refine s_iload (pc' := 99) A at_97 rfl rfl ?_
          refine s_ldcInt (pc' := 101) A at_99 rfl (w38 hw) ?_
          refine s_iand (pc' := 102) (z := (q4 &&& (2147483647 : Int32))) A at_101 rfl rfl ?_
          refine s_iconst (pc' := 103) (z := (3 : Int32)) A at_102 rfl (by decide) ?_
          obtain ⟨pp, hpp⟩ : ∃ z, z = ((q4 &&& (2147483647 : Int32)) % (3 : Int32)) := ⟨_, rfl⟩
          have cp := own_p q4
          rw [← hpp] at cp
          rcases cp with rfl | rfl | rfl
          ·
            refine s_irem (pc' := 104) (z := (0 : Int32)) A at_103 rfl (by decide) hpp.symm ?_
            refine s_istore (pc' := 106) (Ls' := #[iv q0, jv q1, S2, jv q2, S2, jv q3, S2, iv q4, jv q5, S2, rv b2, iv 1, iv 0, U0]) A at_104 rfl rfl ?_
            refine s_aload (pc' := 108) A at_106 rfl rfl rfl ?_
            refine s_iload (pc' := 110) A at_108 rfl rfl ?_
            refine s_lload (pc' := 112) A at_110 rfl rfl ?_
            refine s_virtual (pc' := 115) (y := y7_put) (argsL := [(.int (0 : Int32)), (.long q5)]) (rest := []) (z := y7_put) A E3936 (gq_put7 l Z a0 hw n0 h3933 A.size b2 r12 r13 r14 (0 : Int32) (1 : Int32) (0 : Int32) q1 q2 (0 : Int64) q5 ⟨E3936, F3937, F3938, F3939, F3940, V3941, V3942, V3943, ne3944, ne3945, ne3946, ne3947, ne3948, ne3949, ge3950, ge3951, ge3952, ge3953⟩) (w39 hw) (w40 hw) (nf_same (C := "") (w42 hw)) (w42 hw) (w41 hw) (w2 hw) (w43 hw) (by decide) pd__IJ_V rfl (W := 0) (by decide) (by decide) (Nat.le_of_eq rfl) (by decide) (by decide) rfl rfl at_112 rfl fun T h3956 v3957 A Q3958 => ?_
            obtain ⟨rfl, K3954, H3955⟩ := Q3958
            obtain ⟨E3959, F3960, F3961, F3962, F3963, V3964, V3965, V3966, ne3967, ne3968, ne3969, ne3970, ne3971, ne3972, ge3973, ge3974, ge3975, ge3976⟩ := H3955
            refine Wp.stk (st' := []) rfl ?_
            refine s_aload (pc' := 117) A at_115 rfl rfl rfl ?_
            refine s_virtual (pc' := 120) (y := y9_poll) (argsL := []) (rest := []) (z := y9_poll) A E3959 (gq_poll10 l Z a0 hw n0 h3956 A.size b2 r12 r13 r14 (1 : Int32) (0 : Int32) [.long q5, .long q2, .long (0 : Int64)] ⟨E3959, F3960, F3961, F3962, F3963, V3964, V3965, V3966, ne3967, ne3968, ne3969, ne3970, ne3971, ne3972, ge3973, ge3974, ge3975, ge3976⟩) (w53 hw) (w54 hw) (nf_same (C := "") (w56 hw)) (w56 hw) (w55 hw) (w2 hw) (w57 hw) (by decide) pd___I rfl (W := 0) (by decide) (by decide) (Nat.le_of_eq rfl) (by decide) (by decide) rfl rfl at_117 rfl fun T h3979 v3980 A Q3981 => ?_
            obtain ⟨rfl, K3977, H3978⟩ := Q3981
            obtain ⟨E3982, F3983, F3984, F3985, F3986, V3987, V3988, V3989, ne3990, ne3991, ne3992, ne3993, ne3994, ne3995, ge3996, ge3997, ge3998, ge3999⟩ := H3978
            refine Wp.stk (st' := [(.int (0 : Int32))]) rfl ?_
            refine s_iload (pc' := 122) A at_120 rfl rfl ?_
            refine s_icmpN (pc' := 125) A at_122 rfl (by decide) ?_
            refine s_aload (pc' := 127) A at_125 rfl rfl rfl ?_
            refine s_virtual (pc' := 130) (y := y3_isEmpty) (argsL := []) (rest := []) (z := y3_isEmpty) A E3982 (gq_isEmpty3 l Z a0 hw n0 h3979 A.size b2 r12 r13 r14 [.int (0 : Int32), .int (1 : Int32), .int (0 : Int32)] [.long q5, .long q2, .long (0 : Int64)] [.int (-1 : Int32), .int (-1 : Int32), .int (-1 : Int32)] ⟨E3982, F3983, F3984, F3985, F3986, V3987, V3988, V3989, ne3990, ne3991, ne3992, ne3993, ne3994, ne3995, ge3996, ge3997, ge3998, ge3999⟩) (w28 hw) (w29 hw) (nf_same (C := "") (w31 hw)) (w31 hw) (w30 hw) (w2 hw) (w32 hw) (by decide) pd___Z rfl (W := 0) (by decide) (by decide) (Nat.le_of_eq rfl) (by decide) (by decide) rfl rfl at_127 rfl fun T h4002 v4003 A Q4004 => ?_
            obtain ⟨rfl, K4000, H4001⟩ := Q4004
            obtain ⟨E4005, F4006, F4007, F4008, F4009, V4010, V4011, V4012, ne4013, ne4014, ne4015, ne4016, ne4017, ne4018, ge4019, ge4020, ge4021, ge4022⟩ := H4001
            refine Wp.stk (st' := [(.int (1 : Int32))]) rfl ?_
            refine s_ifN (pc' := 133) A at_130 rfl (by decide) ?_
            refine s_iconst (pc' := 134) (z := (1 : Int32)) A at_133 rfl (by decide) ?_
            refine s_goto (pc' := 138) A at_134 (by decide) (by decide) ?_
            refine s_istore (pc' := 140) (Ls' := #[iv q0, jv q1, S2, jv q2, S2, jv q3, S2, iv q4, jv q5, S2, rv b2, iv 1, iv 0, iv 1]) A at_138 rfl rfl ?_
            refine s_iload (pc' := 142) A at_140 rfl rfl ?_
            refine s_ifN (pc' := 145) A at_142 rfl (by decide) ?_
            refine s_iload (pc' := 147) A at_145 rfl rfl ?_
            refine s_ifN (pc' := 150) A at_147 rfl (by decide) ?_
            refine s_iconst (pc' := 151) (z := (1 : Int32)) A at_150 rfl (by decide) ?_
            refine s_goto (pc' := 155) A at_151 (by decide) (by decide) ?_
            exact r_bool A rfl (by decide) at_155 (by decide) (by decide) (rfl)
          ·
            refine s_irem (pc' := 104) (z := (1 : Int32)) A at_103 rfl (by decide) hpp.symm ?_
            refine s_istore (pc' := 106) (Ls' := #[iv q0, jv q1, S2, jv q2, S2, jv q3, S2, iv q4, jv q5, S2, rv b2, iv 1, iv 1, U0]) A at_104 rfl rfl ?_
            refine s_aload (pc' := 108) A at_106 rfl rfl rfl ?_
            refine s_iload (pc' := 110) A at_108 rfl rfl ?_
            refine s_lload (pc' := 112) A at_110 rfl rfl ?_
            refine s_virtual (pc' := 115) (y := y7_put) (argsL := [(.int (1 : Int32)), (.long q5)]) (rest := []) (z := y7_put) A E3936 (gq_put12 l Z a0 hw n0 h3933 A.size b2 r12 r13 r14 (0 : Int32) (1 : Int32) (0 : Int32) q1 q2 (0 : Int64) q5 ⟨E3936, F3937, F3938, F3939, F3940, V3941, V3942, V3943, ne3944, ne3945, ne3946, ne3947, ne3948, ne3949, ge3950, ge3951, ge3952, ge3953⟩) (w39 hw) (w40 hw) (nf_same (C := "") (w42 hw)) (w42 hw) (w41 hw) (w2 hw) (w43 hw) (by decide) pd__IJ_V rfl (W := 0) (by decide) (by decide) (Nat.le_of_eq rfl) (by decide) (by decide) rfl rfl at_112 rfl fun T h4025 v4026 A Q4027 => ?_
            obtain ⟨rfl, K4023, H4024⟩ := Q4027
            obtain ⟨E4028, F4029, F4030, F4031, F4032, V4033, V4034, V4035, ne4036, ne4037, ne4038, ne4039, ne4040, ne4041, ge4042, ge4043, ge4044, ge4045⟩ := H4024
            refine Wp.stk (st' := []) rfl ?_
            refine s_aload (pc' := 117) A at_115 rfl rfl rfl ?_
            refine s_virtual (pc' := 120) (y := y9_poll) (argsL := []) (rest := []) (z := y9_poll) A E4028 (gq_poll15 l Z a0 hw n0 h4025 A.size b2 r12 r13 r14 (1 : Int32) (0 : Int32) [.long q1, .long q5, .long (0 : Int64)] ⟨E4028, F4029, F4030, F4031, F4032, V4033, V4034, V4035, ne4036, ne4037, ne4038, ne4039, ne4040, ne4041, ge4042, ge4043, ge4044, ge4045⟩) (w53 hw) (w54 hw) (nf_same (C := "") (w56 hw)) (w56 hw) (w55 hw) (w2 hw) (w57 hw) (by decide) pd___I rfl (W := 0) (by decide) (by decide) (Nat.le_of_eq rfl) (by decide) (by decide) rfl rfl at_117 rfl fun T h4048 v4049 A Q4050 => ?_
            obtain ⟨rfl, K4046, H4047⟩ := Q4050
            obtain ⟨E4051, F4052, F4053, F4054, F4055, V4056, V4057, V4058, ne4059, ne4060, ne4061, ne4062, ne4063, ne4064, ge4065, ge4066, ge4067, ge4068⟩ := H4047
            refine Wp.stk (st' := [(.int (1 : Int32))]) rfl ?_
            refine s_iload (pc' := 122) A at_120 rfl rfl ?_
            refine s_icmpN (pc' := 125) A at_122 rfl (by decide) ?_
            refine s_aload (pc' := 127) A at_125 rfl rfl rfl ?_
            refine s_virtual (pc' := 130) (y := y3_isEmpty) (argsL := []) (rest := []) (z := y3_isEmpty) A E4051 (gq_isEmpty3 l Z a0 hw n0 h4048 A.size b2 r12 r13 r14 [.int (1 : Int32), .int (1 : Int32), .int (0 : Int32)] [.long q1, .long q5, .long (0 : Int64)] [.int (-1 : Int32), .int (-1 : Int32), .int (-1 : Int32)] ⟨E4051, F4052, F4053, F4054, F4055, V4056, V4057, V4058, ne4059, ne4060, ne4061, ne4062, ne4063, ne4064, ge4065, ge4066, ge4067, ge4068⟩) (w28 hw) (w29 hw) (nf_same (C := "") (w31 hw)) (w31 hw) (w30 hw) (w2 hw) (w32 hw) (by decide) pd___Z rfl (W := 0) (by decide) (by decide) (Nat.le_of_eq rfl) (by decide) (by decide) rfl rfl at_127 rfl fun T h4071 v4072 A Q4073 => ?_
            obtain ⟨rfl, K4069, H4070⟩ := Q4073
            obtain ⟨E4074, F4075, F4076, F4077, F4078, V4079, V4080, V4081, ne4082, ne4083, ne4084, ne4085, ne4086, ne4087, ge4088, ge4089, ge4090, ge4091⟩ := H4070
            refine Wp.stk (st' := [(.int (1 : Int32))]) rfl ?_
            refine s_ifN (pc' := 133) A at_130 rfl (by decide) ?_
            refine s_iconst (pc' := 134) (z := (1 : Int32)) A at_133 rfl (by decide) ?_
            refine s_goto (pc' := 138) A at_134 (by decide) (by decide) ?_
            refine s_istore (pc' := 140) (Ls' := #[iv q0, jv q1, S2, jv q2, S2, jv q3, S2, iv q4, jv q5, S2, rv b2, iv 1, iv 1, iv 1]) A at_138 rfl rfl ?_
            refine s_iload (pc' := 142) A at_140 rfl rfl ?_
            refine s_ifN (pc' := 145) A at_142 rfl (by decide) ?_
            refine s_iload (pc' := 147) A at_145 rfl rfl ?_
            refine s_ifN (pc' := 150) A at_147 rfl (by decide) ?_
            refine s_iconst (pc' := 151) (z := (1 : Int32)) A at_150 rfl (by decide) ?_
            refine s_goto (pc' := 155) A at_151 (by decide) (by decide) ?_
            exact r_bool A rfl (by decide) at_155 (by decide) (by decide) (rfl)
          ·
            refine s_irem (pc' := 104) (z := (2 : Int32)) A at_103 rfl (by decide) hpp.symm ?_
            refine s_istore (pc' := 106) (Ls' := #[iv q0, jv q1, S2, jv q2, S2, jv q3, S2, iv q4, jv q5, S2, rv b2, iv 1, iv 2, U0]) A at_104 rfl rfl ?_
            refine s_aload (pc' := 108) A at_106 rfl rfl rfl ?_
            refine s_iload (pc' := 110) A at_108 rfl rfl ?_
            refine s_lload (pc' := 112) A at_110 rfl rfl ?_
            refine s_virtual (pc' := 115) (y := y7_put) (argsL := [(.int (2 : Int32)), (.long q5)]) (rest := []) (z := y7_put) A E3936 (gq_put17 l Z a0 hw n0 h3933 A.size b2 r12 r13 r14 (0 : Int32) (1 : Int32) (0 : Int32) q1 q2 (0 : Int64) q5 ⟨E3936, F3937, F3938, F3939, F3940, V3941, V3942, V3943, ne3944, ne3945, ne3946, ne3947, ne3948, ne3949, ge3950, ge3951, ge3952, ge3953⟩) (w39 hw) (w40 hw) (nf_same (C := "") (w42 hw)) (w42 hw) (w41 hw) (w2 hw) (w43 hw) (by decide) pd__IJ_V rfl (W := 0) (by decide) (by decide) (Nat.le_of_eq rfl) (by decide) (by decide) rfl rfl at_112 rfl fun T h4094 v4095 A Q4096 => ?_
            obtain ⟨rfl, K4092, H4093⟩ := Q4096
            obtain ⟨E4097, F4098, F4099, F4100, F4101, V4102, V4103, V4104, ne4105, ne4106, ne4107, ne4108, ne4109, ne4110, ge4111, ge4112, ge4113, ge4114⟩ := H4093
            refine Wp.stk (st' := []) rfl ?_
            refine s_aload (pc' := 117) A at_115 rfl rfl rfl ?_
            refine s_virtual (pc' := 120) (y := y9_poll) (argsL := []) (rest := []) (z := y9_poll) A E4097 (gq_poll20 l Z a0 hw n0 h4094 A.size b2 r12 r13 r14 (1 : Int32) (0 : Int32) [.long q1, .long q2, .long q5] ⟨E4097, F4098, F4099, F4100, F4101, V4102, V4103, V4104, ne4105, ne4106, ne4107, ne4108, ne4109, ne4110, ge4111, ge4112, ge4113, ge4114⟩) (w53 hw) (w54 hw) (nf_same (C := "") (w56 hw)) (w56 hw) (w55 hw) (w2 hw) (w57 hw) (by decide) pd___I rfl (W := 0) (by decide) (by decide) (Nat.le_of_eq rfl) (by decide) (by decide) rfl rfl at_117 rfl fun T h4117 v4118 A Q4119 => ?_
            obtain ⟨rfl, K4115, H4116⟩ := Q4119
            obtain ⟨E4120, F4121, F4122, F4123, F4124, V4125, V4126, V4127, ne4128, ne4129, ne4130, ne4131, ne4132, ne4133, ge4134, ge4135, ge4136, ge4137⟩ := H4116
            refine Wp.stk (st' := [(.int (2 : Int32))]) rfl ?_
            refine s_iload (pc' := 122) A at_120 rfl rfl ?_
            refine s_icmpN (pc' := 125) A at_122 rfl (by decide) ?_
            refine s_aload (pc' := 127) A at_125 rfl rfl rfl ?_
            refine s_virtual (pc' := 130) (y := y3_isEmpty) (argsL := []) (rest := []) (z := y3_isEmpty) A E4120 (gq_isEmpty3 l Z a0 hw n0 h4117 A.size b2 r12 r13 r14 [.int (2 : Int32), .int (1 : Int32), .int (0 : Int32)] [.long q1, .long q2, .long q5] [.int (-1 : Int32), .int (-1 : Int32), .int (-1 : Int32)] ⟨E4120, F4121, F4122, F4123, F4124, V4125, V4126, V4127, ne4128, ne4129, ne4130, ne4131, ne4132, ne4133, ge4134, ge4135, ge4136, ge4137⟩) (w28 hw) (w29 hw) (nf_same (C := "") (w31 hw)) (w31 hw) (w30 hw) (w2 hw) (w32 hw) (by decide) pd___Z rfl (W := 0) (by decide) (by decide) (Nat.le_of_eq rfl) (by decide) (by decide) rfl rfl at_127 rfl fun T h4140 v4141 A Q4142 => ?_
            obtain ⟨rfl, K4138, H4139⟩ := Q4142
            obtain ⟨E4143, F4144, F4145, F4146, F4147, V4148, V4149, V4150, ne4151, ne4152, ne4153, ne4154, ne4155, ne4156, ge4157, ge4158, ge4159, ge4160⟩ := H4139
            refine Wp.stk (st' := [(.int (1 : Int32))]) rfl ?_
            refine s_ifN (pc' := 133) A at_130 rfl (by decide) ?_
            refine s_iconst (pc' := 134) (z := (1 : Int32)) A at_133 rfl (by decide) ?_
            refine s_goto (pc' := 138) A at_134 (by decide) (by decide) ?_
            refine s_istore (pc' := 140) (Ls' := #[iv q0, jv q1, S2, jv q2, S2, jv q3, S2, iv q4, jv q5, S2, rv b2, iv 1, iv 2, iv 1]) A at_138 rfl rfl ?_
            refine s_iload (pc' := 142) A at_140 rfl rfl ?_
            refine s_ifN (pc' := 145) A at_142 rfl (by decide) ?_
            refine s_iload (pc' := 147) A at_145 rfl rfl ?_
            refine s_ifN (pc' := 150) A at_147 rfl (by decide) ?_
            refine s_iconst (pc' := 151) (z := (1 : Int32)) A at_150 rfl (by decide) ?_
            refine s_goto (pc' := 155) A at_151 (by decide) (by decide) ?_
            exact r_bool A rfl (by decide) at_155 (by decide) (by decide) (rfl)
        ·
          refine s_ifN (pc' := 42) A at_39 rfl ((if0 _ _).trans (feq hc39_1).1) ?_
          refine s_aload (pc' := 44) A at_42 rfl rfl rfl ?_
          refine s_iconst (pc' := 45) (z := (2 : Int32)) A at_44 rfl (by decide) ?_
          refine s_lload (pc' := 47) A at_45 rfl rfl ?_
          by_cases hk47 : q1 < q3
          ·
            refine s_virtual (pc' := 50) (y := y7_put) (argsL := [(.int (2 : Int32)), (.long q3)]) (rest := []) (z := y7_put) A E3821 (gq_put73 l Z a0 hw n0 h3818 A.size b2 r12 r13 r14 q1 q2 q3 ⟨E3821, F3822, F3823, F3824, F3825, V3826, V3827, V3828, ne3829, ne3830, ne3831, ne3832, ne3833, ne3834, ge3835, ge3836, ge3837, ge3838⟩ hk47) (w39 hw) (w40 hw) (nf_same (C := "") (w42 hw)) (w42 hw) (w41 hw) (w2 hw) (w43 hw) (by decide) pd__IJ_V rfl (W := 0) (by decide) (by decide) (Nat.le_of_eq rfl) (by decide) (by decide) rfl rfl at_47 rfl fun T h4163 v4164 A Q4165 => ?_
            obtain ⟨rfl, K4161, H4162⟩ := Q4165
            obtain ⟨E4166, F4167, F4168, F4169, F4170, V4171, V4172, V4173, ne4174, ne4175, ne4176, ne4177, ne4178, ne4179, ge4180, ge4181, ge4182, ge4183⟩ := H4162
            refine Wp.stk (st' := []) rfl ?_
            refine s_aload (pc' := 52) A at_50 rfl rfl rfl ?_
            refine s_virtual (pc' := 55) (y := y2_clear) (argsL := []) (rest := []) (z := y2_clear) A E4166 (gq_clear79 l Z a0 hw n0 h4163 A.size b2 r12 r13 r14 [.long q1, .long q2, .long q3] ⟨E4166, F4167, F4168, F4169, F4170, V4171, V4172, V4173, ne4174, ne4175, ne4176, ne4177, ne4178, ne4179, ge4180, ge4181, ge4182, ge4183⟩) (w23 hw) (w24 hw) (nf_same (C := "") (w26 hw)) (w26 hw) (w25 hw) (w2 hw) (w27 hw) (by decide) pd___V rfl (W := 0) (by decide) (by decide) (Nat.le_of_eq rfl) (by decide) (by decide) rfl rfl at_52 rfl fun T h4186 v4187 A Q4188 => ?_
            obtain ⟨rfl, K4184, H4185⟩ := Q4188
            obtain ⟨E4189, F4190, F4191, F4192, F4193, V4194, V4195, V4196, ne4197, ne4198, ne4199, ne4200, ne4201, ne4202, ge4203, ge4204, ge4205, ge4206⟩ := H4185
            refine Wp.stk (st' := []) rfl ?_
            refine s_aload (pc' := 57) A at_55 rfl rfl rfl ?_
            refine s_virtual (pc' := 60) (y := y3_isEmpty) (argsL := []) (rest := []) (z := y3_isEmpty) A E4189 (gq_isEmpty3 l Z a0 hw n0 h4186 A.size b2 r12 r13 r14 [.int (2 : Int32), .int (1 : Int32), .int (0 : Int32)] [.long q1, .long q2, .long q3] [.int (-1 : Int32), .int (-1 : Int32), .int (-1 : Int32)] ⟨E4189, F4190, F4191, F4192, F4193, V4194, V4195, V4196, ne4197, ne4198, ne4199, ne4200, ne4201, ne4202, ge4203, ge4204, ge4205, ge4206⟩) (w28 hw) (w29 hw) (nf_same (C := "") (w31 hw)) (w31 hw) (w30 hw) (w2 hw) (w32 hw) (by decide) pd___Z rfl (W := 0) (by decide) (by decide) (Nat.le_of_eq rfl) (by decide) (by decide) rfl rfl at_57 rfl fun T h4209 v4210 A Q4211 => ?_
            obtain ⟨rfl, K4207, H4208⟩ := Q4211
            obtain ⟨E4212, F4213, F4214, F4215, F4216, V4217, V4218, V4219, ne4220, ne4221, ne4222, ne4223, ne4224, ne4225, ge4226, ge4227, ge4228, ge4229⟩ := H4208
            refine Wp.stk (st' := [(.int (1 : Int32))]) rfl ?_
            refine s_ifN (pc' := 63) A at_60 rfl (by decide) ?_
            refine s_aload (pc' := 65) A at_63 rfl rfl rfl ?_
            refine s_iconst (pc' := 66) (z := (0 : Int32)) A at_65 rfl (by decide) ?_
            refine s_virtual (pc' := 69) (y := y4_contains) (argsL := [(.int (0 : Int32))]) (rest := []) (z := y4_contains) A E4212 (gq_contains4 l Z a0 hw n0 h4209 A.size b2 r12 r13 r14 [.int (2 : Int32), .int (1 : Int32), .int (0 : Int32)] [.long q1, .long q2, .long q3] ⟨E4212, F4213, F4214, F4215, F4216, V4217, V4218, V4219, ne4220, ne4221, ne4222, ne4223, ne4224, ne4225, ge4226, ge4227, ge4228, ge4229⟩) (w33 hw) (w34 hw) (nf_same (C := "") (w36 hw)) (w36 hw) (w35 hw) (w2 hw) (w37 hw) (by decide) pd__I_Z rfl (W := 0) (by decide) (by decide) (Nat.le_of_eq rfl) (by decide) (by decide) rfl rfl at_66 rfl fun T h4232 v4233 A Q4234 => ?_
            obtain ⟨rfl, K4230, H4231⟩ := Q4234
            obtain ⟨E4235, F4236, F4237, F4238, F4239, V4240, V4241, V4242, ne4243, ne4244, ne4245, ne4246, ne4247, ne4248, ge4249, ge4250, ge4251, ge4252⟩ := H4231
            refine Wp.stk (st' := [(.int (0 : Int32))]) rfl ?_
            refine s_ifN (pc' := 72) A at_69 rfl (by decide) ?_
            refine s_aload (pc' := 74) A at_72 rfl rfl rfl ?_
            refine s_iconst (pc' := 75) (z := (1 : Int32)) A at_74 rfl (by decide) ?_
            refine s_virtual (pc' := 78) (y := y4_contains) (argsL := [(.int (1 : Int32))]) (rest := []) (z := y4_contains) A E4235 (gq_contains5 l Z a0 hw n0 h4232 A.size b2 r12 r13 r14 [.int (2 : Int32), .int (1 : Int32), .int (0 : Int32)] [.long q1, .long q2, .long q3] ⟨E4235, F4236, F4237, F4238, F4239, V4240, V4241, V4242, ne4243, ne4244, ne4245, ne4246, ne4247, ne4248, ge4249, ge4250, ge4251, ge4252⟩) (w33 hw) (w34 hw) (nf_same (C := "") (w36 hw)) (w36 hw) (w35 hw) (w2 hw) (w37 hw) (by decide) pd__I_Z rfl (W := 0) (by decide) (by decide) (Nat.le_of_eq rfl) (by decide) (by decide) rfl rfl at_75 rfl fun T h4255 v4256 A Q4257 => ?_
            obtain ⟨rfl, K4253, H4254⟩ := Q4257
            obtain ⟨E4258, F4259, F4260, F4261, F4262, V4263, V4264, V4265, ne4266, ne4267, ne4268, ne4269, ne4270, ne4271, ge4272, ge4273, ge4274, ge4275⟩ := H4254
            refine Wp.stk (st' := [(.int (0 : Int32))]) rfl ?_
            refine s_ifN (pc' := 81) A at_78 rfl (by decide) ?_
            refine s_aload (pc' := 83) A at_81 rfl rfl rfl ?_
            refine s_iconst (pc' := 84) (z := (2 : Int32)) A at_83 rfl (by decide) ?_
            refine s_virtual (pc' := 87) (y := y4_contains) (argsL := [(.int (2 : Int32))]) (rest := []) (z := y4_contains) A E4258 (gq_contains6 l Z a0 hw n0 h4255 A.size b2 r12 r13 r14 [.int (2 : Int32), .int (1 : Int32), .int (0 : Int32)] [.long q1, .long q2, .long q3] ⟨E4258, F4259, F4260, F4261, F4262, V4263, V4264, V4265, ne4266, ne4267, ne4268, ne4269, ne4270, ne4271, ge4272, ge4273, ge4274, ge4275⟩) (w33 hw) (w34 hw) (nf_same (C := "") (w36 hw)) (w36 hw) (w35 hw) (w2 hw) (w37 hw) (by decide) pd__I_Z rfl (W := 0) (by decide) (by decide) (Nat.le_of_eq rfl) (by decide) (by decide) rfl rfl at_84 rfl fun T h4278 v4279 A Q4280 => ?_
            obtain ⟨rfl, K4276, H4277⟩ := Q4280
            obtain ⟨E4281, F4282, F4283, F4284, F4285, V4286, V4287, V4288, ne4289, ne4290, ne4291, ne4292, ne4293, ne4294, ge4295, ge4296, ge4297, ge4298⟩ := H4277
            refine Wp.stk (st' := [(.int (0 : Int32))]) rfl ?_
            refine s_ifN (pc' := 90) A at_87 rfl (by decide) ?_
            refine s_iconst (pc' := 91) (z := (1 : Int32)) A at_90 rfl (by decide) ?_
            refine s_goto (pc' := 95) A at_91 (by decide) (by decide) ?_
            refine s_istore (pc' := 97) (Ls' := #[iv q0, jv q1, S2, jv q2, S2, jv q3, S2, iv q4, jv q5, S2, rv b2, iv 1, U0, U0]) A at_95 rfl rfl ?_
            refine s_iload (pc' := 99) A at_97 rfl rfl ?_
            refine s_ldcInt (pc' := 101) A at_99 rfl (w38 hw) ?_
            refine s_iand (pc' := 102) (z := (q4 &&& (2147483647 : Int32))) A at_101 rfl rfl ?_
            refine s_iconst (pc' := 103) (z := (3 : Int32)) A at_102 rfl (by decide) ?_
            obtain ⟨pp, hpp⟩ : ∃ z, z = ((q4 &&& (2147483647 : Int32)) % (3 : Int32)) := ⟨_, rfl⟩
            have cp := own_p q4
            rw [← hpp] at cp
            rcases cp with rfl | rfl | rfl
            ·
              refine s_irem (pc' := 104) (z := (0 : Int32)) A at_103 rfl (by decide) hpp.symm ?_
              refine s_istore (pc' := 106) (Ls' := #[iv q0, jv q1, S2, jv q2, S2, jv q3, S2, iv q4, jv q5, S2, rv b2, iv 1, iv 0, U0]) A at_104 rfl rfl ?_
              refine s_aload (pc' := 108) A at_106 rfl rfl rfl ?_
              refine s_iload (pc' := 110) A at_108 rfl rfl ?_
              refine s_lload (pc' := 112) A at_110 rfl rfl ?_
              refine s_virtual (pc' := 115) (y := y7_put) (argsL := [(.int (0 : Int32)), (.long q5)]) (rest := []) (z := y7_put) A E4281 (gq_put7 l Z a0 hw n0 h4278 A.size b2 r12 r13 r14 (2 : Int32) (1 : Int32) (0 : Int32) q1 q2 q3 q5 ⟨E4281, F4282, F4283, F4284, F4285, V4286, V4287, V4288, ne4289, ne4290, ne4291, ne4292, ne4293, ne4294, ge4295, ge4296, ge4297, ge4298⟩) (w39 hw) (w40 hw) (nf_same (C := "") (w42 hw)) (w42 hw) (w41 hw) (w2 hw) (w43 hw) (by decide) pd__IJ_V rfl (W := 0) (by decide) (by decide) (Nat.le_of_eq rfl) (by decide) (by decide) rfl rfl at_112 rfl fun T h4301 v4302 A Q4303 => ?_
              obtain ⟨rfl, K4299, H4300⟩ := Q4303
              obtain ⟨E4304, F4305, F4306, F4307, F4308, V4309, V4310, V4311, ne4312, ne4313, ne4314, ne4315, ne4316, ne4317, ge4318, ge4319, ge4320, ge4321⟩ := H4300
              refine Wp.stk (st' := []) rfl ?_
              refine s_aload (pc' := 117) A at_115 rfl rfl rfl ?_
              refine s_virtual (pc' := 120) (y := y9_poll) (argsL := []) (rest := []) (z := y9_poll) A E4304 (gq_poll10 l Z a0 hw n0 h4301 A.size b2 r12 r13 r14 (1 : Int32) (0 : Int32) [.long q5, .long q2, .long q3] ⟨E4304, F4305, F4306, F4307, F4308, V4309, V4310, V4311, ne4312, ne4313, ne4314, ne4315, ne4316, ne4317, ge4318, ge4319, ge4320, ge4321⟩) (w53 hw) (w54 hw) (nf_same (C := "") (w56 hw)) (w56 hw) (w55 hw) (w2 hw) (w57 hw) (by decide) pd___I rfl (W := 0) (by decide) (by decide) (Nat.le_of_eq rfl) (by decide) (by decide) rfl rfl at_117 rfl fun T h4324 v4325 A Q4326 => ?_
              obtain ⟨rfl, K4322, H4323⟩ := Q4326
              obtain ⟨E4327, F4328, F4329, F4330, F4331, V4332, V4333, V4334, ne4335, ne4336, ne4337, ne4338, ne4339, ne4340, ge4341, ge4342, ge4343, ge4344⟩ := H4323
              refine Wp.stk (st' := [(.int (0 : Int32))]) rfl ?_
              refine s_iload (pc' := 122) A at_120 rfl rfl ?_
              refine s_icmpN (pc' := 125) A at_122 rfl (by decide) ?_
              refine s_aload (pc' := 127) A at_125 rfl rfl rfl ?_
              refine s_virtual (pc' := 130) (y := y3_isEmpty) (argsL := []) (rest := []) (z := y3_isEmpty) A E4327 (gq_isEmpty3 l Z a0 hw n0 h4324 A.size b2 r12 r13 r14 [.int (0 : Int32), .int (1 : Int32), .int (0 : Int32)] [.long q5, .long q2, .long q3] [.int (-1 : Int32), .int (-1 : Int32), .int (-1 : Int32)] ⟨E4327, F4328, F4329, F4330, F4331, V4332, V4333, V4334, ne4335, ne4336, ne4337, ne4338, ne4339, ne4340, ge4341, ge4342, ge4343, ge4344⟩) (w28 hw) (w29 hw) (nf_same (C := "") (w31 hw)) (w31 hw) (w30 hw) (w2 hw) (w32 hw) (by decide) pd___Z rfl (W := 0) (by decide) (by decide) (Nat.le_of_eq rfl) (by decide) (by decide) rfl rfl at_127 rfl fun T h4347 v4348 A Q4349 => ?_
              obtain ⟨rfl, K4345, H4346⟩ := Q4349
              obtain ⟨E4350, F4351, F4352, F4353, F4354, V4355, V4356, V4357, ne4358, ne4359, ne4360, ne4361, ne4362, ne4363, ge4364, ge4365, ge4366, ge4367⟩ := H4346
              refine Wp.stk (st' := [(.int (1 : Int32))]) rfl ?_
              refine s_ifN (pc' := 133) A at_130 rfl (by decide) ?_
              refine s_iconst (pc' := 134) (z := (1 : Int32)) A at_133 rfl (by decide) ?_
              refine s_goto (pc' := 138) A at_134 (by decide) (by decide) ?_
              refine s_istore (pc' := 140) (Ls' := #[iv q0, jv q1, S2, jv q2, S2, jv q3, S2, iv q4, jv q5, S2, rv b2, iv 1, iv 0, iv 1]) A at_138 rfl rfl ?_
              refine s_iload (pc' := 142) A at_140 rfl rfl ?_
              refine s_ifN (pc' := 145) A at_142 rfl (by decide) ?_
              refine s_iload (pc' := 147) A at_145 rfl rfl ?_
              refine s_ifN (pc' := 150) A at_147 rfl (by decide) ?_
              refine s_iconst (pc' := 151) (z := (1 : Int32)) A at_150 rfl (by decide) ?_
              refine s_goto (pc' := 155) A at_151 (by decide) (by decide) ?_
              exact r_bool A rfl (by decide) at_155 (by decide) (by decide) (rfl)
            ·
              refine s_irem (pc' := 104) (z := (1 : Int32)) A at_103 rfl (by decide) hpp.symm ?_
              refine s_istore (pc' := 106) (Ls' := #[iv q0, jv q1, S2, jv q2, S2, jv q3, S2, iv q4, jv q5, S2, rv b2, iv 1, iv 1, U0]) A at_104 rfl rfl ?_
              refine s_aload (pc' := 108) A at_106 rfl rfl rfl ?_
              refine s_iload (pc' := 110) A at_108 rfl rfl ?_
              refine s_lload (pc' := 112) A at_110 rfl rfl ?_
              refine s_virtual (pc' := 115) (y := y7_put) (argsL := [(.int (1 : Int32)), (.long q5)]) (rest := []) (z := y7_put) A E4281 (gq_put12 l Z a0 hw n0 h4278 A.size b2 r12 r13 r14 (2 : Int32) (1 : Int32) (0 : Int32) q1 q2 q3 q5 ⟨E4281, F4282, F4283, F4284, F4285, V4286, V4287, V4288, ne4289, ne4290, ne4291, ne4292, ne4293, ne4294, ge4295, ge4296, ge4297, ge4298⟩) (w39 hw) (w40 hw) (nf_same (C := "") (w42 hw)) (w42 hw) (w41 hw) (w2 hw) (w43 hw) (by decide) pd__IJ_V rfl (W := 0) (by decide) (by decide) (Nat.le_of_eq rfl) (by decide) (by decide) rfl rfl at_112 rfl fun T h4370 v4371 A Q4372 => ?_
              obtain ⟨rfl, K4368, H4369⟩ := Q4372
              obtain ⟨E4373, F4374, F4375, F4376, F4377, V4378, V4379, V4380, ne4381, ne4382, ne4383, ne4384, ne4385, ne4386, ge4387, ge4388, ge4389, ge4390⟩ := H4369
              refine Wp.stk (st' := []) rfl ?_
              refine s_aload (pc' := 117) A at_115 rfl rfl rfl ?_
              refine s_virtual (pc' := 120) (y := y9_poll) (argsL := []) (rest := []) (z := y9_poll) A E4373 (gq_poll15 l Z a0 hw n0 h4370 A.size b2 r12 r13 r14 (1 : Int32) (0 : Int32) [.long q1, .long q5, .long q3] ⟨E4373, F4374, F4375, F4376, F4377, V4378, V4379, V4380, ne4381, ne4382, ne4383, ne4384, ne4385, ne4386, ge4387, ge4388, ge4389, ge4390⟩) (w53 hw) (w54 hw) (nf_same (C := "") (w56 hw)) (w56 hw) (w55 hw) (w2 hw) (w57 hw) (by decide) pd___I rfl (W := 0) (by decide) (by decide) (Nat.le_of_eq rfl) (by decide) (by decide) rfl rfl at_117 rfl fun T h4393 v4394 A Q4395 => ?_
              obtain ⟨rfl, K4391, H4392⟩ := Q4395
              obtain ⟨E4396, F4397, F4398, F4399, F4400, V4401, V4402, V4403, ne4404, ne4405, ne4406, ne4407, ne4408, ne4409, ge4410, ge4411, ge4412, ge4413⟩ := H4392
              refine Wp.stk (st' := [(.int (1 : Int32))]) rfl ?_
              refine s_iload (pc' := 122) A at_120 rfl rfl ?_
              refine s_icmpN (pc' := 125) A at_122 rfl (by decide) ?_
              refine s_aload (pc' := 127) A at_125 rfl rfl rfl ?_
              refine s_virtual (pc' := 130) (y := y3_isEmpty) (argsL := []) (rest := []) (z := y3_isEmpty) A E4396 (gq_isEmpty3 l Z a0 hw n0 h4393 A.size b2 r12 r13 r14 [.int (1 : Int32), .int (1 : Int32), .int (0 : Int32)] [.long q1, .long q5, .long q3] [.int (-1 : Int32), .int (-1 : Int32), .int (-1 : Int32)] ⟨E4396, F4397, F4398, F4399, F4400, V4401, V4402, V4403, ne4404, ne4405, ne4406, ne4407, ne4408, ne4409, ge4410, ge4411, ge4412, ge4413⟩) (w28 hw) (w29 hw) (nf_same (C := "") (w31 hw)) (w31 hw) (w30 hw) (w2 hw) (w32 hw) (by decide) pd___Z rfl (W := 0) (by decide) (by decide) (Nat.le_of_eq rfl) (by decide) (by decide) rfl rfl at_127 rfl fun T h4416 v4417 A Q4418 => ?_
              obtain ⟨rfl, K4414, H4415⟩ := Q4418
              obtain ⟨E4419, F4420, F4421, F4422, F4423, V4424, V4425, V4426, ne4427, ne4428, ne4429, ne4430, ne4431, ne4432, ge4433, ge4434, ge4435, ge4436⟩ := H4415
              refine Wp.stk (st' := [(.int (1 : Int32))]) rfl ?_
              refine s_ifN (pc' := 133) A at_130 rfl (by decide) ?_
              refine s_iconst (pc' := 134) (z := (1 : Int32)) A at_133 rfl (by decide) ?_
              refine s_goto (pc' := 138) A at_134 (by decide) (by decide) ?_
              refine s_istore (pc' := 140) (Ls' := #[iv q0, jv q1, S2, jv q2, S2, jv q3, S2, iv q4, jv q5, S2, rv b2, iv 1, iv 1, iv 1]) A at_138 rfl rfl ?_
              refine s_iload (pc' := 142) A at_140 rfl rfl ?_
              refine s_ifN (pc' := 145) A at_142 rfl (by decide) ?_
              refine s_iload (pc' := 147) A at_145 rfl rfl ?_
              refine s_ifN (pc' := 150) A at_147 rfl (by decide) ?_
              refine s_iconst (pc' := 151) (z := (1 : Int32)) A at_150 rfl (by decide) ?_
              refine s_goto (pc' := 155) A at_151 (by decide) (by decide) ?_
              exact r_bool A rfl (by decide) at_155 (by decide) (by decide) (rfl)
            ·
              refine s_irem (pc' := 104) (z := (2 : Int32)) A at_103 rfl (by decide) hpp.symm ?_
              refine s_istore (pc' := 106) (Ls' := #[iv q0, jv q1, S2, jv q2, S2, jv q3, S2, iv q4, jv q5, S2, rv b2, iv 1, iv 2, U0]) A at_104 rfl rfl ?_
              refine s_aload (pc' := 108) A at_106 rfl rfl rfl ?_
              refine s_iload (pc' := 110) A at_108 rfl rfl ?_
              refine s_lload (pc' := 112) A at_110 rfl rfl ?_
              refine s_virtual (pc' := 115) (y := y7_put) (argsL := [(.int (2 : Int32)), (.long q5)]) (rest := []) (z := y7_put) A E4281 (gq_put17 l Z a0 hw n0 h4278 A.size b2 r12 r13 r14 (2 : Int32) (1 : Int32) (0 : Int32) q1 q2 q3 q5 ⟨E4281, F4282, F4283, F4284, F4285, V4286, V4287, V4288, ne4289, ne4290, ne4291, ne4292, ne4293, ne4294, ge4295, ge4296, ge4297, ge4298⟩) (w39 hw) (w40 hw) (nf_same (C := "") (w42 hw)) (w42 hw) (w41 hw) (w2 hw) (w43 hw) (by decide) pd__IJ_V rfl (W := 0) (by decide) (by decide) (Nat.le_of_eq rfl) (by decide) (by decide) rfl rfl at_112 rfl fun T h4439 v4440 A Q4441 => ?_
              obtain ⟨rfl, K4437, H4438⟩ := Q4441
              obtain ⟨E4442, F4443, F4444, F4445, F4446, V4447, V4448, V4449, ne4450, ne4451, ne4452, ne4453, ne4454, ne4455, ge4456, ge4457, ge4458, ge4459⟩ := H4438
              refine Wp.stk (st' := []) rfl ?_
              refine s_aload (pc' := 117) A at_115 rfl rfl rfl ?_
              refine s_virtual (pc' := 120) (y := y9_poll) (argsL := []) (rest := []) (z := y9_poll) A E4442 (gq_poll20 l Z a0 hw n0 h4439 A.size b2 r12 r13 r14 (1 : Int32) (0 : Int32) [.long q1, .long q2, .long q5] ⟨E4442, F4443, F4444, F4445, F4446, V4447, V4448, V4449, ne4450, ne4451, ne4452, ne4453, ne4454, ne4455, ge4456, ge4457, ge4458, ge4459⟩) (w53 hw) (w54 hw) (nf_same (C := "") (w56 hw)) (w56 hw) (w55 hw) (w2 hw) (w57 hw) (by decide) pd___I rfl (W := 0) (by decide) (by decide) (Nat.le_of_eq rfl) (by decide) (by decide) rfl rfl at_117 rfl fun T h4462 v4463 A Q4464 => ?_
              obtain ⟨rfl, K4460, H4461⟩ := Q4464
              obtain ⟨E4465, F4466, F4467, F4468, F4469, V4470, V4471, V4472, ne4473, ne4474, ne4475, ne4476, ne4477, ne4478, ge4479, ge4480, ge4481, ge4482⟩ := H4461
              refine Wp.stk (st' := [(.int (2 : Int32))]) rfl ?_
              refine s_iload (pc' := 122) A at_120 rfl rfl ?_
              refine s_icmpN (pc' := 125) A at_122 rfl (by decide) ?_
              refine s_aload (pc' := 127) A at_125 rfl rfl rfl ?_
              refine s_virtual (pc' := 130) (y := y3_isEmpty) (argsL := []) (rest := []) (z := y3_isEmpty) A E4465 (gq_isEmpty3 l Z a0 hw n0 h4462 A.size b2 r12 r13 r14 [.int (2 : Int32), .int (1 : Int32), .int (0 : Int32)] [.long q1, .long q2, .long q5] [.int (-1 : Int32), .int (-1 : Int32), .int (-1 : Int32)] ⟨E4465, F4466, F4467, F4468, F4469, V4470, V4471, V4472, ne4473, ne4474, ne4475, ne4476, ne4477, ne4478, ge4479, ge4480, ge4481, ge4482⟩) (w28 hw) (w29 hw) (nf_same (C := "") (w31 hw)) (w31 hw) (w30 hw) (w2 hw) (w32 hw) (by decide) pd___Z rfl (W := 0) (by decide) (by decide) (Nat.le_of_eq rfl) (by decide) (by decide) rfl rfl at_127 rfl fun T h4485 v4486 A Q4487 => ?_
              obtain ⟨rfl, K4483, H4484⟩ := Q4487
              obtain ⟨E4488, F4489, F4490, F4491, F4492, V4493, V4494, V4495, ne4496, ne4497, ne4498, ne4499, ne4500, ne4501, ge4502, ge4503, ge4504, ge4505⟩ := H4484
              refine Wp.stk (st' := [(.int (1 : Int32))]) rfl ?_
              refine s_ifN (pc' := 133) A at_130 rfl (by decide) ?_
              refine s_iconst (pc' := 134) (z := (1 : Int32)) A at_133 rfl (by decide) ?_
              refine s_goto (pc' := 138) A at_134 (by decide) (by decide) ?_
              refine s_istore (pc' := 140) (Ls' := #[iv q0, jv q1, S2, jv q2, S2, jv q3, S2, iv q4, jv q5, S2, rv b2, iv 1, iv 2, iv 1]) A at_138 rfl rfl ?_
              refine s_iload (pc' := 142) A at_140 rfl rfl ?_
              refine s_ifN (pc' := 145) A at_142 rfl (by decide) ?_
              refine s_iload (pc' := 147) A at_145 rfl rfl ?_
              refine s_ifN (pc' := 150) A at_147 rfl (by decide) ?_
              refine s_iconst (pc' := 151) (z := (1 : Int32)) A at_150 rfl (by decide) ?_
              refine s_goto (pc' := 155) A at_151 (by decide) (by decide) ?_
              exact r_bool A rfl (by decide) at_155 (by decide) (by decide) (rfl)
          ·
            refine s_virtual (pc' := 50) (y := y7_put) (argsL := [(.int (2 : Int32)), (.long q3)]) (rest := []) (z := y7_put) A E3821 (gq_put80 l Z a0 hw n0 h3818 A.size b2 r12 r13 r14 q1 q2 q3 ⟨E3821, F3822, F3823, F3824, F3825, V3826, V3827, V3828, ne3829, ne3830, ne3831, ne3832, ne3833, ne3834, ge3835, ge3836, ge3837, ge3838⟩ hk47) (w39 hw) (w40 hw) (nf_same (C := "") (w42 hw)) (w42 hw) (w41 hw) (w2 hw) (w43 hw) (by decide) pd__IJ_V rfl (W := 0) (by decide) (by decide) (Nat.le_of_eq rfl) (by decide) (by decide) rfl rfl at_47 rfl fun T h4508 v4509 A Q4510 => ?_
            obtain ⟨rfl, K4506, H4507⟩ := Q4510
            obtain ⟨E4511, F4512, F4513, F4514, F4515, V4516, V4517, V4518, ne4519, ne4520, ne4521, ne4522, ne4523, ne4524, ge4525, ge4526, ge4527, ge4528⟩ := H4507
            refine Wp.stk (st' := []) rfl ?_
            refine s_aload (pc' := 52) A at_50 rfl rfl rfl ?_
            refine s_virtual (pc' := 55) (y := y2_clear) (argsL := []) (rest := []) (z := y2_clear) A E4511 (gq_clear84 l Z a0 hw n0 h4508 A.size b2 r12 r13 r14 [.long q1, .long q2, .long q3] ⟨E4511, F4512, F4513, F4514, F4515, V4516, V4517, V4518, ne4519, ne4520, ne4521, ne4522, ne4523, ne4524, ge4525, ge4526, ge4527, ge4528⟩) (w23 hw) (w24 hw) (nf_same (C := "") (w26 hw)) (w26 hw) (w25 hw) (w2 hw) (w27 hw) (by decide) pd___V rfl (W := 0) (by decide) (by decide) (Nat.le_of_eq rfl) (by decide) (by decide) rfl rfl at_52 rfl fun T h4531 v4532 A Q4533 => ?_
            obtain ⟨rfl, K4529, H4530⟩ := Q4533
            obtain ⟨E4534, F4535, F4536, F4537, F4538, V4539, V4540, V4541, ne4542, ne4543, ne4544, ne4545, ne4546, ne4547, ge4548, ge4549, ge4550, ge4551⟩ := H4530
            refine Wp.stk (st' := []) rfl ?_
            refine s_aload (pc' := 57) A at_55 rfl rfl rfl ?_
            refine s_virtual (pc' := 60) (y := y3_isEmpty) (argsL := []) (rest := []) (z := y3_isEmpty) A E4534 (gq_isEmpty3 l Z a0 hw n0 h4531 A.size b2 r12 r13 r14 [.int (0 : Int32), .int (1 : Int32), .int (2 : Int32)] [.long q1, .long q2, .long q3] [.int (-1 : Int32), .int (-1 : Int32), .int (-1 : Int32)] ⟨E4534, F4535, F4536, F4537, F4538, V4539, V4540, V4541, ne4542, ne4543, ne4544, ne4545, ne4546, ne4547, ge4548, ge4549, ge4550, ge4551⟩) (w28 hw) (w29 hw) (nf_same (C := "") (w31 hw)) (w31 hw) (w30 hw) (w2 hw) (w32 hw) (by decide) pd___Z rfl (W := 0) (by decide) (by decide) (Nat.le_of_eq rfl) (by decide) (by decide) rfl rfl at_57 rfl fun T h4554 v4555 A Q4556 => ?_
            obtain ⟨rfl, K4552, H4553⟩ := Q4556
            obtain ⟨E4557, F4558, F4559, F4560, F4561, V4562, V4563, V4564, ne4565, ne4566, ne4567, ne4568, ne4569, ne4570, ge4571, ge4572, ge4573, ge4574⟩ := H4553
            refine Wp.stk (st' := [(.int (1 : Int32))]) rfl ?_
            refine s_ifN (pc' := 63) A at_60 rfl (by decide) ?_
            refine s_aload (pc' := 65) A at_63 rfl rfl rfl ?_
            refine s_iconst (pc' := 66) (z := (0 : Int32)) A at_65 rfl (by decide) ?_
            refine s_virtual (pc' := 69) (y := y4_contains) (argsL := [(.int (0 : Int32))]) (rest := []) (z := y4_contains) A E4557 (gq_contains4 l Z a0 hw n0 h4554 A.size b2 r12 r13 r14 [.int (0 : Int32), .int (1 : Int32), .int (2 : Int32)] [.long q1, .long q2, .long q3] ⟨E4557, F4558, F4559, F4560, F4561, V4562, V4563, V4564, ne4565, ne4566, ne4567, ne4568, ne4569, ne4570, ge4571, ge4572, ge4573, ge4574⟩) (w33 hw) (w34 hw) (nf_same (C := "") (w36 hw)) (w36 hw) (w35 hw) (w2 hw) (w37 hw) (by decide) pd__I_Z rfl (W := 0) (by decide) (by decide) (Nat.le_of_eq rfl) (by decide) (by decide) rfl rfl at_66 rfl fun T h4577 v4578 A Q4579 => ?_
            obtain ⟨rfl, K4575, H4576⟩ := Q4579
            obtain ⟨E4580, F4581, F4582, F4583, F4584, V4585, V4586, V4587, ne4588, ne4589, ne4590, ne4591, ne4592, ne4593, ge4594, ge4595, ge4596, ge4597⟩ := H4576
            refine Wp.stk (st' := [(.int (0 : Int32))]) rfl ?_
            refine s_ifN (pc' := 72) A at_69 rfl (by decide) ?_
            refine s_aload (pc' := 74) A at_72 rfl rfl rfl ?_
            refine s_iconst (pc' := 75) (z := (1 : Int32)) A at_74 rfl (by decide) ?_
            refine s_virtual (pc' := 78) (y := y4_contains) (argsL := [(.int (1 : Int32))]) (rest := []) (z := y4_contains) A E4580 (gq_contains5 l Z a0 hw n0 h4577 A.size b2 r12 r13 r14 [.int (0 : Int32), .int (1 : Int32), .int (2 : Int32)] [.long q1, .long q2, .long q3] ⟨E4580, F4581, F4582, F4583, F4584, V4585, V4586, V4587, ne4588, ne4589, ne4590, ne4591, ne4592, ne4593, ge4594, ge4595, ge4596, ge4597⟩) (w33 hw) (w34 hw) (nf_same (C := "") (w36 hw)) (w36 hw) (w35 hw) (w2 hw) (w37 hw) (by decide) pd__I_Z rfl (W := 0) (by decide) (by decide) (Nat.le_of_eq rfl) (by decide) (by decide) rfl rfl at_75 rfl fun T h4600 v4601 A Q4602 => ?_
            obtain ⟨rfl, K4598, H4599⟩ := Q4602
            obtain ⟨E4603, F4604, F4605, F4606, F4607, V4608, V4609, V4610, ne4611, ne4612, ne4613, ne4614, ne4615, ne4616, ge4617, ge4618, ge4619, ge4620⟩ := H4599
            refine Wp.stk (st' := [(.int (0 : Int32))]) rfl ?_
            refine s_ifN (pc' := 81) A at_78 rfl (by decide) ?_
            refine s_aload (pc' := 83) A at_81 rfl rfl rfl ?_
            refine s_iconst (pc' := 84) (z := (2 : Int32)) A at_83 rfl (by decide) ?_
            refine s_virtual (pc' := 87) (y := y4_contains) (argsL := [(.int (2 : Int32))]) (rest := []) (z := y4_contains) A E4603 (gq_contains6 l Z a0 hw n0 h4600 A.size b2 r12 r13 r14 [.int (0 : Int32), .int (1 : Int32), .int (2 : Int32)] [.long q1, .long q2, .long q3] ⟨E4603, F4604, F4605, F4606, F4607, V4608, V4609, V4610, ne4611, ne4612, ne4613, ne4614, ne4615, ne4616, ge4617, ge4618, ge4619, ge4620⟩) (w33 hw) (w34 hw) (nf_same (C := "") (w36 hw)) (w36 hw) (w35 hw) (w2 hw) (w37 hw) (by decide) pd__I_Z rfl (W := 0) (by decide) (by decide) (Nat.le_of_eq rfl) (by decide) (by decide) rfl rfl at_84 rfl fun T h4623 v4624 A Q4625 => ?_
            obtain ⟨rfl, K4621, H4622⟩ := Q4625
            obtain ⟨E4626, F4627, F4628, F4629, F4630, V4631, V4632, V4633, ne4634, ne4635, ne4636, ne4637, ne4638, ne4639, ge4640, ge4641, ge4642, ge4643⟩ := H4622
            refine Wp.stk (st' := [(.int (0 : Int32))]) rfl ?_
            refine s_ifN (pc' := 90) A at_87 rfl (by decide) ?_
            refine s_iconst (pc' := 91) (z := (1 : Int32)) A at_90 rfl (by decide) ?_
            refine s_goto (pc' := 95) A at_91 (by decide) (by decide) ?_
            refine s_istore (pc' := 97) (Ls' := #[iv q0, jv q1, S2, jv q2, S2, jv q3, S2, iv q4, jv q5, S2, rv b2, iv 1, U0, U0]) A at_95 rfl rfl ?_
            refine s_iload (pc' := 99) A at_97 rfl rfl ?_
            refine s_ldcInt (pc' := 101) A at_99 rfl (w38 hw) ?_
            refine s_iand (pc' := 102) (z := (q4 &&& (2147483647 : Int32))) A at_101 rfl rfl ?_
            refine s_iconst (pc' := 103) (z := (3 : Int32)) A at_102 rfl (by decide) ?_
            obtain ⟨pp, hpp⟩ : ∃ z, z = ((q4 &&& (2147483647 : Int32)) % (3 : Int32)) := ⟨_, rfl⟩
            have cp := own_p q4
            rw [← hpp] at cp
            rcases cp with rfl | rfl | rfl
            ·
              refine s_irem (pc' := 104) (z := (0 : Int32)) A at_103 rfl (by decide) hpp.symm ?_
              refine s_istore (pc' := 106) (Ls' := #[iv q0, jv q1, S2, jv q2, S2, jv q3, S2, iv q4, jv q5, S2, rv b2, iv 1, iv 0, U0]) A at_104 rfl rfl ?_
              refine s_aload (pc' := 108) A at_106 rfl rfl rfl ?_
              refine s_iload (pc' := 110) A at_108 rfl rfl ?_
              refine s_lload (pc' := 112) A at_110 rfl rfl ?_
              refine s_virtual (pc' := 115) (y := y7_put) (argsL := [(.int (0 : Int32)), (.long q5)]) (rest := []) (z := y7_put) A E4626 (gq_put7 l Z a0 hw n0 h4623 A.size b2 r12 r13 r14 (0 : Int32) (1 : Int32) (2 : Int32) q1 q2 q3 q5 ⟨E4626, F4627, F4628, F4629, F4630, V4631, V4632, V4633, ne4634, ne4635, ne4636, ne4637, ne4638, ne4639, ge4640, ge4641, ge4642, ge4643⟩) (w39 hw) (w40 hw) (nf_same (C := "") (w42 hw)) (w42 hw) (w41 hw) (w2 hw) (w43 hw) (by decide) pd__IJ_V rfl (W := 0) (by decide) (by decide) (Nat.le_of_eq rfl) (by decide) (by decide) rfl rfl at_112 rfl fun T h4646 v4647 A Q4648 => ?_
              obtain ⟨rfl, K4644, H4645⟩ := Q4648
              obtain ⟨E4649, F4650, F4651, F4652, F4653, V4654, V4655, V4656, ne4657, ne4658, ne4659, ne4660, ne4661, ne4662, ge4663, ge4664, ge4665, ge4666⟩ := H4645
              refine Wp.stk (st' := []) rfl ?_
              refine s_aload (pc' := 117) A at_115 rfl rfl rfl ?_
              refine s_virtual (pc' := 120) (y := y9_poll) (argsL := []) (rest := []) (z := y9_poll) A E4649 (gq_poll10 l Z a0 hw n0 h4646 A.size b2 r12 r13 r14 (1 : Int32) (2 : Int32) [.long q5, .long q2, .long q3] ⟨E4649, F4650, F4651, F4652, F4653, V4654, V4655, V4656, ne4657, ne4658, ne4659, ne4660, ne4661, ne4662, ge4663, ge4664, ge4665, ge4666⟩) (w53 hw) (w54 hw) (nf_same (C := "") (w56 hw)) (w56 hw) (w55 hw) (w2 hw) (w57 hw) (by decide) pd___I rfl (W := 0) (by decide) (by decide) (Nat.le_of_eq rfl) (by decide) (by decide) rfl rfl at_117 rfl fun T h4669 v4670 A Q4671 => ?_
              obtain ⟨rfl, K4667, H4668⟩ := Q4671
              obtain ⟨E4672, F4673, F4674, F4675, F4676, V4677, V4678, V4679, ne4680, ne4681, ne4682, ne4683, ne4684, ne4685, ge4686, ge4687, ge4688, ge4689⟩ := H4668
              refine Wp.stk (st' := [(.int (0 : Int32))]) rfl ?_
              refine s_iload (pc' := 122) A at_120 rfl rfl ?_
              refine s_icmpN (pc' := 125) A at_122 rfl (by decide) ?_
              refine s_aload (pc' := 127) A at_125 rfl rfl rfl ?_
              refine s_virtual (pc' := 130) (y := y3_isEmpty) (argsL := []) (rest := []) (z := y3_isEmpty) A E4672 (gq_isEmpty3 l Z a0 hw n0 h4669 A.size b2 r12 r13 r14 [.int (0 : Int32), .int (1 : Int32), .int (2 : Int32)] [.long q5, .long q2, .long q3] [.int (-1 : Int32), .int (-1 : Int32), .int (-1 : Int32)] ⟨E4672, F4673, F4674, F4675, F4676, V4677, V4678, V4679, ne4680, ne4681, ne4682, ne4683, ne4684, ne4685, ge4686, ge4687, ge4688, ge4689⟩) (w28 hw) (w29 hw) (nf_same (C := "") (w31 hw)) (w31 hw) (w30 hw) (w2 hw) (w32 hw) (by decide) pd___Z rfl (W := 0) (by decide) (by decide) (Nat.le_of_eq rfl) (by decide) (by decide) rfl rfl at_127 rfl fun T h4692 v4693 A Q4694 => ?_
              obtain ⟨rfl, K4690, H4691⟩ := Q4694
              obtain ⟨E4695, F4696, F4697, F4698, F4699, V4700, V4701, V4702, ne4703, ne4704, ne4705, ne4706, ne4707, ne4708, ge4709, ge4710, ge4711, ge4712⟩ := H4691
              refine Wp.stk (st' := [(.int (1 : Int32))]) rfl ?_
              refine s_ifN (pc' := 133) A at_130 rfl (by decide) ?_
              refine s_iconst (pc' := 134) (z := (1 : Int32)) A at_133 rfl (by decide) ?_
              refine s_goto (pc' := 138) A at_134 (by decide) (by decide) ?_
              refine s_istore (pc' := 140) (Ls' := #[iv q0, jv q1, S2, jv q2, S2, jv q3, S2, iv q4, jv q5, S2, rv b2, iv 1, iv 0, iv 1]) A at_138 rfl rfl ?_
              refine s_iload (pc' := 142) A at_140 rfl rfl ?_
              refine s_ifN (pc' := 145) A at_142 rfl (by decide) ?_
              refine s_iload (pc' := 147) A at_145 rfl rfl ?_
              refine s_ifN (pc' := 150) A at_147 rfl (by decide) ?_
              refine s_iconst (pc' := 151) (z := (1 : Int32)) A at_150 rfl (by decide) ?_
              refine s_goto (pc' := 155) A at_151 (by decide) (by decide) ?_
              exact r_bool A rfl (by decide) at_155 (by decide) (by decide) (rfl)
            ·
              refine s_irem (pc' := 104) (z := (1 : Int32)) A at_103 rfl (by decide) hpp.symm ?_
              refine s_istore (pc' := 106) (Ls' := #[iv q0, jv q1, S2, jv q2, S2, jv q3, S2, iv q4, jv q5, S2, rv b2, iv 1, iv 1, U0]) A at_104 rfl rfl ?_
              refine s_aload (pc' := 108) A at_106 rfl rfl rfl ?_
              refine s_iload (pc' := 110) A at_108 rfl rfl ?_
              refine s_lload (pc' := 112) A at_110 rfl rfl ?_
              refine s_virtual (pc' := 115) (y := y7_put) (argsL := [(.int (1 : Int32)), (.long q5)]) (rest := []) (z := y7_put) A E4626 (gq_put12 l Z a0 hw n0 h4623 A.size b2 r12 r13 r14 (0 : Int32) (1 : Int32) (2 : Int32) q1 q2 q3 q5 ⟨E4626, F4627, F4628, F4629, F4630, V4631, V4632, V4633, ne4634, ne4635, ne4636, ne4637, ne4638, ne4639, ge4640, ge4641, ge4642, ge4643⟩) (w39 hw) (w40 hw) (nf_same (C := "") (w42 hw)) (w42 hw) (w41 hw) (w2 hw) (w43 hw) (by decide) pd__IJ_V rfl (W := 0) (by decide) (by decide) (Nat.le_of_eq rfl) (by decide) (by decide) rfl rfl at_112 rfl fun T h4715 v4716 A Q4717 => ?_
              obtain ⟨rfl, K4713, H4714⟩ := Q4717
              obtain ⟨E4718, F4719, F4720, F4721, F4722, V4723, V4724, V4725, ne4726, ne4727, ne4728, ne4729, ne4730, ne4731, ge4732, ge4733, ge4734, ge4735⟩ := H4714
              refine Wp.stk (st' := []) rfl ?_
              refine s_aload (pc' := 117) A at_115 rfl rfl rfl ?_
              refine s_virtual (pc' := 120) (y := y9_poll) (argsL := []) (rest := []) (z := y9_poll) A E4718 (gq_poll15 l Z a0 hw n0 h4715 A.size b2 r12 r13 r14 (1 : Int32) (2 : Int32) [.long q1, .long q5, .long q3] ⟨E4718, F4719, F4720, F4721, F4722, V4723, V4724, V4725, ne4726, ne4727, ne4728, ne4729, ne4730, ne4731, ge4732, ge4733, ge4734, ge4735⟩) (w53 hw) (w54 hw) (nf_same (C := "") (w56 hw)) (w56 hw) (w55 hw) (w2 hw) (w57 hw) (by decide) pd___I rfl (W := 0) (by decide) (by decide) (Nat.le_of_eq rfl) (by decide) (by decide) rfl rfl at_117 rfl fun T h4738 v4739 A Q4740 => ?_
              obtain ⟨rfl, K4736, H4737⟩ := Q4740
              obtain ⟨E4741, F4742, F4743, F4744, F4745, V4746, V4747, V4748, ne4749, ne4750, ne4751, ne4752, ne4753, ne4754, ge4755, ge4756, ge4757, ge4758⟩ := H4737
              refine Wp.stk (st' := [(.int (1 : Int32))]) rfl ?_
              refine s_iload (pc' := 122) A at_120 rfl rfl ?_
              refine s_icmpN (pc' := 125) A at_122 rfl (by decide) ?_
              refine s_aload (pc' := 127) A at_125 rfl rfl rfl ?_
              refine s_virtual (pc' := 130) (y := y3_isEmpty) (argsL := []) (rest := []) (z := y3_isEmpty) A E4741 (gq_isEmpty3 l Z a0 hw n0 h4738 A.size b2 r12 r13 r14 [.int (1 : Int32), .int (1 : Int32), .int (2 : Int32)] [.long q1, .long q5, .long q3] [.int (-1 : Int32), .int (-1 : Int32), .int (-1 : Int32)] ⟨E4741, F4742, F4743, F4744, F4745, V4746, V4747, V4748, ne4749, ne4750, ne4751, ne4752, ne4753, ne4754, ge4755, ge4756, ge4757, ge4758⟩) (w28 hw) (w29 hw) (nf_same (C := "") (w31 hw)) (w31 hw) (w30 hw) (w2 hw) (w32 hw) (by decide) pd___Z rfl (W := 0) (by decide) (by decide) (Nat.le_of_eq rfl) (by decide) (by decide) rfl rfl at_127 rfl fun T h4761 v4762 A Q4763 => ?_
              obtain ⟨rfl, K4759, H4760⟩ := Q4763
              obtain ⟨E4764, F4765, F4766, F4767, F4768, V4769, V4770, V4771, ne4772, ne4773, ne4774, ne4775, ne4776, ne4777, ge4778, ge4779, ge4780, ge4781⟩ := H4760
              refine Wp.stk (st' := [(.int (1 : Int32))]) rfl ?_
              refine s_ifN (pc' := 133) A at_130 rfl (by decide) ?_
              refine s_iconst (pc' := 134) (z := (1 : Int32)) A at_133 rfl (by decide) ?_
              refine s_goto (pc' := 138) A at_134 (by decide) (by decide) ?_
              refine s_istore (pc' := 140) (Ls' := #[iv q0, jv q1, S2, jv q2, S2, jv q3, S2, iv q4, jv q5, S2, rv b2, iv 1, iv 1, iv 1]) A at_138 rfl rfl ?_
              refine s_iload (pc' := 142) A at_140 rfl rfl ?_
              refine s_ifN (pc' := 145) A at_142 rfl (by decide) ?_
              refine s_iload (pc' := 147) A at_145 rfl rfl ?_
              refine s_ifN (pc' := 150) A at_147 rfl (by decide) ?_
              refine s_iconst (pc' := 151) (z := (1 : Int32)) A at_150 rfl (by decide) ?_
              refine s_goto (pc' := 155) A at_151 (by decide) (by decide) ?_
              exact r_bool A rfl (by decide) at_155 (by decide) (by decide) (rfl)
            ·
              refine s_irem (pc' := 104) (z := (2 : Int32)) A at_103 rfl (by decide) hpp.symm ?_
              refine s_istore (pc' := 106) (Ls' := #[iv q0, jv q1, S2, jv q2, S2, jv q3, S2, iv q4, jv q5, S2, rv b2, iv 1, iv 2, U0]) A at_104 rfl rfl ?_
              refine s_aload (pc' := 108) A at_106 rfl rfl rfl ?_
              refine s_iload (pc' := 110) A at_108 rfl rfl ?_
              refine s_lload (pc' := 112) A at_110 rfl rfl ?_
              refine s_virtual (pc' := 115) (y := y7_put) (argsL := [(.int (2 : Int32)), (.long q5)]) (rest := []) (z := y7_put) A E4626 (gq_put17 l Z a0 hw n0 h4623 A.size b2 r12 r13 r14 (0 : Int32) (1 : Int32) (2 : Int32) q1 q2 q3 q5 ⟨E4626, F4627, F4628, F4629, F4630, V4631, V4632, V4633, ne4634, ne4635, ne4636, ne4637, ne4638, ne4639, ge4640, ge4641, ge4642, ge4643⟩) (w39 hw) (w40 hw) (nf_same (C := "") (w42 hw)) (w42 hw) (w41 hw) (w2 hw) (w43 hw) (by decide) pd__IJ_V rfl (W := 0) (by decide) (by decide) (Nat.le_of_eq rfl) (by decide) (by decide) rfl rfl at_112 rfl fun T h4784 v4785 A Q4786 => ?_
              obtain ⟨rfl, K4782, H4783⟩ := Q4786
              obtain ⟨E4787, F4788, F4789, F4790, F4791, V4792, V4793, V4794, ne4795, ne4796, ne4797, ne4798, ne4799, ne4800, ge4801, ge4802, ge4803, ge4804⟩ := H4783
              refine Wp.stk (st' := []) rfl ?_
              refine s_aload (pc' := 117) A at_115 rfl rfl rfl ?_
              refine s_virtual (pc' := 120) (y := y9_poll) (argsL := []) (rest := []) (z := y9_poll) A E4787 (gq_poll20 l Z a0 hw n0 h4784 A.size b2 r12 r13 r14 (1 : Int32) (2 : Int32) [.long q1, .long q2, .long q5] ⟨E4787, F4788, F4789, F4790, F4791, V4792, V4793, V4794, ne4795, ne4796, ne4797, ne4798, ne4799, ne4800, ge4801, ge4802, ge4803, ge4804⟩) (w53 hw) (w54 hw) (nf_same (C := "") (w56 hw)) (w56 hw) (w55 hw) (w2 hw) (w57 hw) (by decide) pd___I rfl (W := 0) (by decide) (by decide) (Nat.le_of_eq rfl) (by decide) (by decide) rfl rfl at_117 rfl fun T h4807 v4808 A Q4809 => ?_
              obtain ⟨rfl, K4805, H4806⟩ := Q4809
              obtain ⟨E4810, F4811, F4812, F4813, F4814, V4815, V4816, V4817, ne4818, ne4819, ne4820, ne4821, ne4822, ne4823, ge4824, ge4825, ge4826, ge4827⟩ := H4806
              refine Wp.stk (st' := [(.int (2 : Int32))]) rfl ?_
              refine s_iload (pc' := 122) A at_120 rfl rfl ?_
              refine s_icmpN (pc' := 125) A at_122 rfl (by decide) ?_
              refine s_aload (pc' := 127) A at_125 rfl rfl rfl ?_
              refine s_virtual (pc' := 130) (y := y3_isEmpty) (argsL := []) (rest := []) (z := y3_isEmpty) A E4810 (gq_isEmpty3 l Z a0 hw n0 h4807 A.size b2 r12 r13 r14 [.int (2 : Int32), .int (1 : Int32), .int (2 : Int32)] [.long q1, .long q2, .long q5] [.int (-1 : Int32), .int (-1 : Int32), .int (-1 : Int32)] ⟨E4810, F4811, F4812, F4813, F4814, V4815, V4816, V4817, ne4818, ne4819, ne4820, ne4821, ne4822, ne4823, ge4824, ge4825, ge4826, ge4827⟩) (w28 hw) (w29 hw) (nf_same (C := "") (w31 hw)) (w31 hw) (w30 hw) (w2 hw) (w32 hw) (by decide) pd___Z rfl (W := 0) (by decide) (by decide) (Nat.le_of_eq rfl) (by decide) (by decide) rfl rfl at_127 rfl fun T h4830 v4831 A Q4832 => ?_
              obtain ⟨rfl, K4828, H4829⟩ := Q4832
              obtain ⟨E4833, F4834, F4835, F4836, F4837, V4838, V4839, V4840, ne4841, ne4842, ne4843, ne4844, ne4845, ne4846, ge4847, ge4848, ge4849, ge4850⟩ := H4829
              refine Wp.stk (st' := [(.int (1 : Int32))]) rfl ?_
              refine s_ifN (pc' := 133) A at_130 rfl (by decide) ?_
              refine s_iconst (pc' := 134) (z := (1 : Int32)) A at_133 rfl (by decide) ?_
              refine s_goto (pc' := 138) A at_134 (by decide) (by decide) ?_
              refine s_istore (pc' := 140) (Ls' := #[iv q0, jv q1, S2, jv q2, S2, jv q3, S2, iv q4, jv q5, S2, rv b2, iv 1, iv 2, iv 1]) A at_138 rfl rfl ?_
              refine s_iload (pc' := 142) A at_140 rfl rfl ?_
              refine s_ifN (pc' := 145) A at_142 rfl (by decide) ?_
              refine s_iload (pc' := 147) A at_145 rfl rfl ?_
              refine s_ifN (pc' := 150) A at_147 rfl (by decide) ?_
              refine s_iconst (pc' := 151) (z := (1 : Int32)) A at_150 rfl (by decide) ?_
              refine s_goto (pc' := 155) A at_151 (by decide) (by decide) ?_
              exact r_bool A rfl (by decide) at_155 (by decide) (by decide) (rfl)
set_option maxRecDepth 65536 in
set_option maxHeartbeats 40000000 in
theorem comes_1 {Post : Tables → Env → Array Value → State → Outcome → State → Prop} (hpost : ∀ tb e args s v u, (limb_1_1.after args s (.returned v) u = true ∧ limb_1_2.after args s (.returned v) u = true ∧ True) → FrameEnd s (.returned v) u (Jvm.fieldLocs frame_1_writes args s ++ Jvm.arrayLocs frame_1_arrays args s ++ Jvm.staticLocs frame_1_statics s) 16 128 → Post tb e args s (.returned v) u) :
    ArmFor flags0 classFile x code maxLocals ret World_1 tables_1 room_1 Calls_1 rest_1 Pre_1 Post := by
  intro l hfl _ _ p e ha hc hk s m args below hf hA hF happ hP
  obtain ⟨hcalls, hrest, hpre⟩ := hP
  obtain ⟨-, -, -, hnamed, -, -, -, hat⟩ := (Spec.applies_iff hf).mp happ
  obtain ⟨hg, hn⟩ := and_e (Cond.before_iff.mp (show (Jvm.Cond.and given_1 narrow_1).before args s = true from hpre))
  obtain ⟨hcnt, hg⟩ := and_e hg
  obtain ⟨w0, w1, w2, w3, w4, w5, rfl⟩ : ∃ w0 w1 w2 w3 w4 w5 : Value, args = #[w0, w1, w2, w3, w4, w5] := by
    have hs : args.size = 6 := by simpa [Cond.value, given_1] using hcnt
    obtain ⟨L⟩ := args
    match L, hs with
    | [w0, w1, w2, w3, w4, w5], _ => exact ⟨w0, w1, w2, w3, w4, w5, rfl⟩
  have hw := fun d (hd : d ∈ tables_1) => atoms_spec (ws := Jvm.Cond.code x code maxLocals ret :: tables_1) hat d (List.mem_cons_of_mem _ hd)
  have hfit : Fit s := fun {y c} hc i hi => by
    obtain ⟨ha, rfl⟩ := Array.getElem?_eq_some_iff.mp hc
    have q := List.all_eq_true.mp ((Array.all_eq_true_iff_forall_mem.mp hF) _ (Array.getElem_mem ha)) i (List.mem_range.mpr hi)
    simpa [Array.getElem?_eq_getElem hi] using q
  obtain ⟨g0, hg⟩ := and_e hg
  obtain ⟨x0, e0⟩ := is_v g0
  obtain rfl : w0 = (.int x0) := Option.some.inj e0
  obtain ⟨g1, hg⟩ := and_e hg
  obtain ⟨x1, e1⟩ := isL_v g1
  obtain rfl : w1 = (.long x1) := Option.some.inj e1
  obtain ⟨g2, hg⟩ := and_e hg
  obtain ⟨x2, e2⟩ := isL_v g2
  obtain rfl : w2 = (.long x2) := Option.some.inj e2
  obtain ⟨g3, hg⟩ := and_e hg
  obtain ⟨x3, e3⟩ := isL_v g3
  obtain rfl : w3 = (.long x3) := Option.some.inj e3
  obtain ⟨g4, hg⟩ := and_e hg
  obtain ⟨x4, e4⟩ := is_v g4
  obtain rfl : w4 = (.int x4) := Option.some.inj e4
  obtain ⟨x5, e5⟩ := isL_v hg
  obtain rfl : w5 = (.long x5) := Option.some.inj e5
  obtain ⟨n, o, h1, h2, h3, _, L, rfl, ⟨N, rfl⟩, hq⟩ := rm0 l s _ hw s.heap.size s.heap (Nat.le_refl _) x0 x1 x2 x3 x4 x5 tables_1 p e ha hc hk s m _ below hf ((Spec.applies_iff_loose hf).mp happ).1 ⟨rfl, State.Warmed39.refl s, rfl⟩ trivial
  refine ⟨n, _, h1, h2, h3, hpost _ _ _ _ _ _ ⟨Cond.after_iff.mpr rfl, Cond.after_iff.mpr (eq_i res_at (Term.int_eval (1)) rfl), trivial⟩ ⟨hq.1, hq.2.1, (hq.2.2.sift fun y hy => Or.inr (N y hy)).mono (by decide) (by decide)⟩⟩
theorem main_1_1 : Claimed_1_1 := comes_1 fun _ _ _ _ _ _ h hF => ⟨h.1, hF⟩
theorem main_1_2 : Claimed_1_2 := comes_1 fun _ _ _ _ _ _ h hF => ⟨h.2.1, hF⟩
end Jvm.Pilot.@@N@@
namespace Jvm.Pilot.@@N@@
open Jvm Jvm.ClassFile Sem Op Lib Jvm.Free Jvm.Stand Jvm.Pilot.@@N@@.Jvm.D
/-! MADE BY PROGRAM (witnessworld.py) out of the Statement's table words and the real class files: 12 classes; the members and pool entries that the words name. The judged class is class 1, her method 1. -/
namespace start1
open Jvm.ClassFile
def u (s : String) : CpInfo := .utf8 (stringToUtf16 s)
/-- a pool by its gaps: so many unusable entries, then the entry; so many at the end -/
def gap : Nat → List CpInfo → List CpInfo
  | 0, r => r
  | n + 1, r => .unusable :: gap n r
def poolList (es : List (Nat × CpInfo)) (last : Nat) : List CpInfo := es.foldr (fun e r => gap e.1 (e.2 :: r)) (gap last [])
def pool (es : List (Nat × CpInfo)) (last : Nat) : Array CpInfo := ⟨poolList es last⟩
def fileOf (pool : Array CpInfo) (this : Nat) (attrs : Array Attribute := #[]) (ms : Array MethodInfo := #[]) (fl : Nat := 33) (sup : Nat := 0) (ifs : Array Nat := #[]) (fds : Array FieldInfo := #[]) : ClassFile where
  minorVersion := 0
  majorVersion := 65
  constantPool := pool
  accessFlags := fl
  thisClass := this
  superClass := sup
  interfaces := ifs
  fields := fds
  methods := ms
  attributes := attrs
def plain (name : String) (sup : Option ClassId) : Class where
  name := name
  kind := .ordinary
  loader := none
  accessFlags := 33
  super := sup
  interfaces := #[]
  cf := none
  fields := #[]
  methods := #[]
  instanceTypes := #[]
  staticTypes := #[]
  resolved := #[]
  callSites := []
  init := .initialized
  statics := none
  mirror := none

def pool0 : Array CpInfo := pool [(5, u "<init>"), (0, u "()V"), (1, .class_ 10), (1, u "java/lang/Object")] 113

def k0c0 : Code := { maxStack := 0, maxLocals := 1, code := object_method_1_code, exceptionTable := #[], attributes := #[] }
def k0m0 : Method := { name := "<init>", desc := "()V", sig := { parameters := [], returnType := none }, accessFlags := 1, code := some k0c0 }
/-- java/lang/Object -/
def k0 : Class := { plain "java/lang/Object" none with
  accessFlags := 33
  interfaces := #[]
  cf := some (fileOf pool0 8 #[] #[{ accessFlags := 1, nameIndex := 5, descriptorIndex := 6, attributes := #[] }] 33 0 #[] #[])
  fields := #[]
  methods := #[k0m0]
  instanceTypes := #[]
  staticTypes := #[]
  resolved := Array.replicate 124 none
  statics := none }

def pool1 : Array CpInfo := pool [(2, .class_ 4), (1, u "java/lang/Object"), (0, u "<init>"), (0, u "()V"), (0, .class_ 8), (0, u "com/example/kithgraph/kithgraph/cluster/GainQueue"), (0, .methodref 7 10), (0, .nameAndType 5 11), (0, u "(I)V"), (0, .methodref 7 13), (0, .nameAndType 14 15), (0, u "put"), (0, u "(IJ)V"), (0, .methodref 7 17), (0, .nameAndType 18 6), (0, u "clear"), (0, .methodref 7 20), (0, .nameAndType 21 22), (0, u "isEmpty"), (0, u "()Z"), (0, .methodref 7 24), (0, .nameAndType 25 26), (0, u "contains"), (0, u "(I)Z"), (0, .integer 2147483647), (0, .methodref 7 29), (0, .nameAndType 30 31), (0, u "poll"), (0, u "()I"), (0, .class_ 33), (0, u "com/example/kithgraph/kithgraph/cluster/GainQueueClearPinLaw"), (2, u "law"), (0, u "(IJJJIJ)Z")] 3

def k1m0 : Method := { name := "<init>", desc := "()V", sig := { parameters := [], returnType := none }, accessFlags := 1, code := none }
def k1c1 : Code := { maxStack := 4, maxLocals := 14, code := code, exceptionTable := #[], attributes := #[] }
def k1m1 : Method := { name := "law", desc := "(IJJJIJ)Z", sig := { parameters := [.int, .long, .long, .long, .int, .long], returnType := some .boolean }, accessFlags := 9, code := some k1c1 }
/-- com/example/kithgraph/kithgraph/cluster/GainQueueClearPinLaw -/
def k1 : Class := { plain "com/example/kithgraph/kithgraph/cluster/GainQueueClearPinLaw" (some 0) with
  accessFlags := 49
  interfaces := #[]
  cf := some (fileOf pool1 32 #[] #[{ accessFlags := 1, nameIndex := 5, descriptorIndex := 6, attributes := #[] }, { accessFlags := 9, nameIndex := 36, descriptorIndex := 37, attributes := #[] }] 49 2 #[] #[])
  fields := #[]
  methods := #[k1m0, k1m1]
  instanceTypes := #[]
  staticTypes := #[]
  resolved := Array.replicate 41 none
  statics := none }

def pool2 : Array CpInfo := pool [(1, .methodref 2 3), (0, .class_ 4), (0, .nameAndType 5 6), (0, u "java/lang/Object"), (0, u "<init>"), (0, u "()V"), (0, .fieldref 8 9), (0, .class_ 10), (0, .nameAndType 11 12), (0, u "com/example/kithgraph/kithgraph/cluster/GainQueue"), (0, u "count"), (0, u "I"), (0, .fieldref 8 14), (0, .nameAndType 15 16), (0, u "heap"), (0, u "[I"), (0, .fieldref 8 18), (0, .nameAndType 19 20), (0, u "keys"), (0, u "[J"), (0, .fieldref 8 22), (0, .nameAndType 23 16), (0, u "places"), (0, .methodref 25 26), (0, .class_ 27), (0, .nameAndType 28 29), (0, u "java/util/Arrays"), (0, u "fill"), (0, u "([II)V"), (0, .methodref 8 31), (0, .nameAndType 32 33), (0, u "contains"), (0, u "(I)Z"), (0, .methodref 8 35), (0, .nameAndType 36 37), (0, u "up"), (0, u "(I)V"), (3, .methodref 8 42), (0, .nameAndType 43 37), (0, u "remove"), (0, .methodref 8 45), (0, .nameAndType 46 47), (0, u "before"), (0, u "(II)Z"), (0, .methodref 8 49), (0, .nameAndType 50 51), (0, u "set"), (0, u "(II)V"), (2, u "isEmpty"), (0, u "()Z"), (1, u "put"), (0, u "(IJ)V"), (2, u "poll"), (0, u "()I"), (0, u "clear")] 2

def k2c0 : Code := { maxStack := 2, maxLocals := 2, code := prog_22_method_1_code, exceptionTable := #[], attributes := #[] }
def k2m0 : Method := { name := "<init>", desc := "(I)V", sig := { parameters := [.int], returnType := none }, accessFlags := 0, code := some k2c0 }
def k2c1 : Code := { maxStack := 1, maxLocals := 1, code := prog_22_method_2_code, exceptionTable := #[], attributes := #[] }
def k2m1 : Method := { name := "isEmpty", desc := "()Z", sig := { parameters := [], returnType := some .boolean }, accessFlags := 0, code := some k2c1 }
def k2c2 : Code := { maxStack := 2, maxLocals := 2, code := prog_22_method_3_code, exceptionTable := #[], attributes := #[] }
def k2m2 : Method := { name := "contains", desc := "(I)Z", sig := { parameters := [.int], returnType := some .boolean }, accessFlags := 0, code := some k2c2 }
def k2c3 : Code := { maxStack := 4, maxLocals := 6, code := prog_22_method_4_code, exceptionTable := #[], attributes := #[] }
def k2m3 : Method := { name := "put", desc := "(IJ)V", sig := { parameters := [.int, .long], returnType := none }, accessFlags := 0, code := some k2c3 }
def k2c4 : Code := { maxStack := 2, maxLocals := 2, code := prog_22_method_6_code, exceptionTable := #[], attributes := #[] }
def k2m4 : Method := { name := "poll", desc := "()I", sig := { parameters := [], returnType := some .int }, accessFlags := 0, code := some k2c4 }
def k2c5 : Code := { maxStack := 3, maxLocals := 4, code := prog_22_method_7_code, exceptionTable := #[], attributes := #[] }
def k2m5 : Method := { name := "remove", desc := "(I)V", sig := { parameters := [.int], returnType := none }, accessFlags := 0, code := some k2c5 }
def k2c6 : Code := { maxStack := 3, maxLocals := 2, code := prog_22_method_8_code, exceptionTable := #[], attributes := #[] }
def k2m6 : Method := { name := "clear", desc := "()V", sig := { parameters := [], returnType := none }, accessFlags := 0, code := some k2c6 }
def k2c7 : Code := { maxStack := 4, maxLocals := 4, code := prog_22_method_9_code, exceptionTable := #[], attributes := #[] }
def k2m7 : Method := { name := "up", desc := "(I)V", sig := { parameters := [.int], returnType := none }, accessFlags := 2, code := some k2c7 }
def k2c8 : Code := { maxStack := 3, maxLocals := 3, code := prog_22_method_11_code, exceptionTable := #[], attributes := #[] }
def k2m8 : Method := { name := "set", desc := "(II)V", sig := { parameters := [.int, .int], returnType := none }, accessFlags := 2, code := some k2c8 }
def k2c9 : Code := { maxStack := 4, maxLocals := 7, code := prog_22_method_12_code, exceptionTable := #[], attributes := #[] }
def k2m9 : Method := { name := "before", desc := "(II)Z", sig := { parameters := [.int, .int], returnType := some .boolean }, accessFlags := 2, code := some k2c9 }
/-- com/example/kithgraph/kithgraph/cluster/GainQueue -/
def k2 : Class := { plain "com/example/kithgraph/kithgraph/cluster/GainQueue" (some 0) with
  accessFlags := 48
  interfaces := #[]
  cf := some (fileOf pool2 8 #[] #[{ accessFlags := 0, nameIndex := 5, descriptorIndex := 37, attributes := #[] }, { accessFlags := 0, nameIndex := 54, descriptorIndex := 55, attributes := #[] }, { accessFlags := 0, nameIndex := 32, descriptorIndex := 33, attributes := #[] }, { accessFlags := 0, nameIndex := 57, descriptorIndex := 58, attributes := #[] }, { accessFlags := 0, nameIndex := 61, descriptorIndex := 62, attributes := #[] }, { accessFlags := 0, nameIndex := 43, descriptorIndex := 37, attributes := #[] }, { accessFlags := 0, nameIndex := 63, descriptorIndex := 6, attributes := #[] }, { accessFlags := 2, nameIndex := 36, descriptorIndex := 37, attributes := #[] }, { accessFlags := 2, nameIndex := 50, descriptorIndex := 51, attributes := #[] }, { accessFlags := 2, nameIndex := 46, descriptorIndex := 47, attributes := #[] }] 48 2 #[] #[{ accessFlags := 18, nameIndex := 15, descriptorIndex := 16, attributes := #[] }, { accessFlags := 18, nameIndex := 19, descriptorIndex := 20, attributes := #[] }, { accessFlags := 18, nameIndex := 23, descriptorIndex := 16, attributes := #[] }, { accessFlags := 2, nameIndex := 11, descriptorIndex := 12, attributes := #[] }])
  fields := #[{ name := "heap", type := (.array .int), accessFlags := 18, slot := 0, constantValue := 0 }, { name := "keys", type := (.array .long), accessFlags := 18, slot := 1, constantValue := 0 }, { name := "places", type := (.array .int), accessFlags := 18, slot := 2, constantValue := 0 }, { name := "count", type := .int, accessFlags := 2, slot := 3, constantValue := 0 }]
  methods := #[k2m0, k2m1, k2m2, k2m3, k2m4, k2m5, k2m6, k2m7, k2m8, k2m9]
  instanceTypes := #[(.array .int), (.array .long), (.array .int), .int]
  staticTypes := #[]
  resolved := Array.replicate 66 none
  statics := none }

def pool3 : Array CpInfo := pool [(2, .class_ 4), (1, u "java/lang/Object"), (0, u "<init>"), (0, u "()V"), (7, .class_ 16), (1, u "java/util/Arrays"), (57, .class_ 76), (1, u "java/util/Arrays$NaturalOrder"), (36, .class_ 115), (1, u "java/util/Arrays$LegacyMergeSort"), (1, u "Z"), (257, .class_ 376), (0, u "java/util/Arrays$ArrayList"), (68, u "$assertionsDisabled"), (269, u "MIN_ARRAY_SORT_GRAN"), (0, u "I"), (2, u "INSERTIONSORT_THRESHOLD"), (120, u "fill"), (4, u "([II)V"), (129, .class_ 976), (0, u "java/util/Arrays$ArrayItr")] 52

def k3m0 : Method := { name := "<init>", desc := "()V", sig := { parameters := [], returnType := none }, accessFlags := 2, code := none }
def k3c1 : Code := { maxStack := 3, maxLocals := 4, code := jdk_65_method_103_code, exceptionTable := #[], attributes := #[] }
def k3m1 : Method := { name := "fill", desc := "([II)V", sig := { parameters := [(.array .int), .int], returnType := none }, accessFlags := 9, code := some k3c1 }
/-- java/util/Arrays -/
def k3 : Class := { plain "java/util/Arrays" (some 0) with
  accessFlags := 49
  interfaces := #[]
  cf := some (fileOf pool3 14 #[.nestMembers #[975, 375, 113, 74]] #[{ accessFlags := 2, nameIndex := 5, descriptorIndex := 6, attributes := #[] }, { accessFlags := 9, nameIndex := 840, descriptorIndex := 845, attributes := #[] }] 49 2 #[] #[{ accessFlags := 26, nameIndex := 715, descriptorIndex := 716, attributes := #[] }, { accessFlags := 26, nameIndex := 719, descriptorIndex := 716, attributes := #[] }, { accessFlags := 4120, nameIndex := 445, descriptorIndex := 117, attributes := #[] }])
  fields := #[{ name := "MIN_ARRAY_SORT_GRAN", type := .int, accessFlags := 26, slot := 0, constantValue := 0 }, { name := "INSERTIONSORT_THRESHOLD", type := .int, accessFlags := 26, slot := 1, constantValue := 0 }, { name := "$assertionsDisabled", type := .boolean, accessFlags := 4120, slot := 2, constantValue := 0 }]
  methods := #[k3m0, k3m1]
  instanceTypes := #[]
  staticTypes := #[.int, .int, .boolean]
  resolved := Array.replicate 1029 none
  statics := none }

def pool4 : Array CpInfo := pool [(1, u "java/lang/Cloneable"), (0, .class_ 1), (0, u "java/lang/Object"), (0, .class_ 3)] 3

/-- java/lang/Cloneable -/
def k4 : Class := { plain "java/lang/Cloneable" (some 0) with
  accessFlags := 1537
  interfaces := #[]
  cf := some (fileOf pool4 2 #[] #[] 1537 4 #[] #[])
  fields := #[]
  methods := #[]
  instanceTypes := #[]
  staticTypes := #[]
  resolved := Array.replicate 8 none
  statics := none }

def pool5 : Array CpInfo := pool [(1, u "java/io/Serializable"), (0, .class_ 1), (0, u "java/lang/Object"), (0, .class_ 3)] 3

/-- java/io/Serializable -/
def k5 : Class := { plain "java/io/Serializable" (some 0) with
  accessFlags := 1537
  interfaces := #[]
  cf := some (fileOf pool5 2 #[] #[] 1537 4 #[] #[])
  fields := #[]
  methods := #[]
  instanceTypes := #[]
  staticTypes := #[]
  resolved := Array.replicate 8 none
  statics := none }

/-- the primitive byte -/
def k6 : Class := { plain "byte" none with kind := .primitive 'B', accessFlags := 0x411 }
/-- [B -/
def k7 : Class := { plain "[B" (some 0) with kind := .array 6 .byte, interfaces := #[4, 5], accessFlags := 1041 }

/-- the primitive int -/
def k8 : Class := { plain "int" none with kind := .primitive 'I', accessFlags := 0x411 }
/-- [I -/
def k9 : Class := { plain "[I" (some 0) with kind := .array 8 .int, interfaces := #[4, 5], accessFlags := 1041 }

/-- the primitive long -/
def k10 : Class := { plain "long" none with kind := .primitive 'J', accessFlags := 0x411 }
/-- [J -/
def k11 : Class := { plain "[J" (some 0) with kind := .array 10 .long, interfaces := #[4, 5], accessFlags := 1041 }

def heap : Heap := #[]
def classes : Array Class := #[k0, k1, k2, k3, k4, k5, k6, k7, k8, k9, k10, k11]
def interned : List (Array UInt16 × Addr) := []
def slotsUsed : Nat := 0
def theMethod : MethodId := ⟨1, 1⟩
def args0 : Array Value := #[.int 1, .long 1, .long 2, .long 3, .int 1, .long 5]
def aboutOver (below : List Frame) : State where
  vm := { classes := classes, interned := interned.toArray }
  heap := heap
  slotsUsed := slotsUsed
  threads := #[{ frames := .invoking theMethod args0 :: below }]
def below0 : List Frame := [.native { method := ⟨0, 0⟩, args := #[] }]
def about1 : State := aboutOver below0
def p0 : Program := .bare "" "" ""
def e0 : Env := launch0.env 0 0 0
theorem w_frames : about1.frames = Frame.invoking theMethod args0 :: below0 := rfl
set_option maxRecDepth 65536 in
theorem w_args : argsFit about1.vm theMethod args0 = true := by decide +kernel
set_option maxRecDepth 65536 in
theorem w_heap : heapFits about1 = true := by decide +kernel
set_option maxRecDepth 65536 in
theorem w_runnable : about1.curStatus? = some .runnable := by decide +kernel
set_option maxRecDepth 65536 in
theorem w_alone : about1.alone = true := by decide +kernel
set_option maxRecDepth 65536 in
theorem w_named : about1.methodNamed? x = some theMethod := by decide +kernel
set_option maxRecDepth 65536 in
theorem w_hears : about1.hears theMethod below0 = true := by decide +kernel
set_option maxRecDepth 65536 in
theorem w_ripe : about1.ripe theMethod args0 below0 = true := by decide +kernel
theorem w_running : about1.status = .running := rfl
set_option maxRecDepth 65536 in
theorem w_room : about1.hasRoom e0.platform room_1 = true :=
  launch0.hasRoom_least _ room_1 (by decide +kernel) (by decide +kernel) (by decide +kernel) (by decide +kernel) (by decide +kernel) (by decide +kernel)
theorem allAtoms_all (ts : List Jvm.Cond) (a : Array Jvm.Value) (st : Jvm.State) : (allAtoms ts).before a st = ts.all (fun c => c.before a st) := by
  induction ts with
  | nil => rfl
  | cons c t ih =>
    show (Jvm.Cond.and c (allAtoms t)).before a st = _
    rw [Jvm.Cond.before_and, ih, List.all_cons]
def words1 : List Jvm.Cond := Jvm.Cond.code x code maxLocals ret :: tables_1
/-- a 'code' word, met by the world's own term for the bytes: nothing is compared byte by byte -/
theorem code_word {y : MethodName} {bytes : ByteArray} {mx : Nat} {rt : Option FieldType} {a : Array Value} {s : State} {m : MethodId} {meth : Method} {c : Code} (h1 : s.methodNamed? y = some m) (h2 : s.vm.method? m = some meth) (h3 : meth.code = some c) (h4 : c.code = bytes)
    (h5 : (c.maxLocals == mx && c.exceptionTable.isEmpty && decide (c.maxStack ≤ mostOperands) && decide (meth.sig.returnType = rt) && !meth.locks && decide (parseMethodDescriptor y.desc = some meth.sig)) = true) : (Jvm.Cond.code y bytes mx rt).before a s = true := by
  simp only [Bool.and_eq_true, beq_iff_eq, Bool.not_eq_true', decide_eq_true_eq] at h5
  obtain ⟨⟨⟨⟨⟨g1, g2⟩, g3⟩, g4⟩, g5⟩, g6⟩ := h5
  simp [Cond.before, Cond.holds, Cond.value, h1, h2, h3, h4, g1, g2, g3, g4, g5, g6]
def isCode : Jvm.Cond → Bool
  | .code _ _ _ _ => true
  | _ => false
theorem all_split {L : List Jvm.Cond} {P : Jvm.Cond → Bool} (h1 : L.all (fun c => isCode c || P c) = true) (h2 : ∀ c ∈ L.filter isCode, P c = true) : L.all P = true := by
  refine List.all_eq_true.mpr fun c hc => ?_
  have h := List.all_eq_true.mp h1 c hc
  rcases Bool.eq_false_or_eq_true (isCode c) with hi | hi
  · exact h2 c (List.mem_filter.mpr ⟨hc, hi⟩)
  · simpa [hi] using h
set_option maxRecDepth 65536 in
theorem w_c0 : (Jvm.Cond.code x code maxLocals ret).before args0 about1 = true := code_word (m := ⟨1, 1⟩) (meth := k1m1) (c := k1c1) (by decide +kernel) rfl rfl rfl (by decide +kernel)
set_option maxRecDepth 65536 in
theorem w_c1 : (Jvm.Cond.code ({ cls := "com/example/kithgraph/kithgraph/cluster/GainQueue", name := "<init>", desc := "(I)V" } : Jvm.MethodName) prog_22_method_1_code (2 : Nat) (Option.none : Option Jvm.ClassFile.FieldType)).before args0 about1 = true := code_word (m := ⟨2, 0⟩) (meth := k2m0) (c := k2c0) (by decide +kernel) rfl rfl rfl (by decide +kernel)
set_option maxRecDepth 65536 in
theorem w_c2 : (Jvm.Cond.code ({ cls := "java/lang/Object", name := "<init>", desc := "()V" } : Jvm.MethodName) object_method_1_code (1 : Nat) (Option.none : Option Jvm.ClassFile.FieldType)).before args0 about1 = true := code_word (m := ⟨0, 0⟩) (meth := k0m0) (c := k0c0) (by decide +kernel) rfl rfl rfl (by decide +kernel)
set_option maxRecDepth 65536 in
theorem w_c3 : (Jvm.Cond.code ({ cls := "java/util/Arrays", name := "fill", desc := "([II)V" } : Jvm.MethodName) jdk_65_method_103_code (4 : Nat) (Option.none : Option Jvm.ClassFile.FieldType)).before args0 about1 = true := code_word (m := ⟨3, 1⟩) (meth := k3m1) (c := k3c1) (by decide +kernel) rfl rfl rfl (by decide +kernel)
set_option maxRecDepth 65536 in
theorem w_c4 : (Jvm.Cond.code ({ cls := "com/example/kithgraph/kithgraph/cluster/GainQueue", name := "clear", desc := "()V" } : Jvm.MethodName) prog_22_method_8_code (2 : Nat) (Option.none : Option Jvm.ClassFile.FieldType)).before args0 about1 = true := code_word (m := ⟨2, 6⟩) (meth := k2m6) (c := k2c6) (by decide +kernel) rfl rfl rfl (by decide +kernel)
set_option maxRecDepth 65536 in
theorem w_c5 : (Jvm.Cond.code ({ cls := "com/example/kithgraph/kithgraph/cluster/GainQueue", name := "isEmpty", desc := "()Z" } : Jvm.MethodName) prog_22_method_2_code (1 : Nat) (Option.some Jvm.ClassFile.FieldType.boolean)).before args0 about1 = true := code_word (m := ⟨2, 1⟩) (meth := k2m1) (c := k2c1) (by decide +kernel) rfl rfl rfl (by decide +kernel)
set_option maxRecDepth 65536 in
theorem w_c6 : (Jvm.Cond.code ({ cls := "com/example/kithgraph/kithgraph/cluster/GainQueue", name := "contains", desc := "(I)Z" } : Jvm.MethodName) prog_22_method_3_code (2 : Nat) (Option.some Jvm.ClassFile.FieldType.boolean)).before args0 about1 = true := code_word (m := ⟨2, 2⟩) (meth := k2m2) (c := k2c2) (by decide +kernel) rfl rfl rfl (by decide +kernel)
set_option maxRecDepth 65536 in
theorem w_c7 : (Jvm.Cond.code ({ cls := "com/example/kithgraph/kithgraph/cluster/GainQueue", name := "put", desc := "(IJ)V" } : Jvm.MethodName) prog_22_method_4_code (6 : Nat) (Option.none : Option Jvm.ClassFile.FieldType)).before args0 about1 = true := code_word (m := ⟨2, 3⟩) (meth := k2m3) (c := k2c3) (by decide +kernel) rfl rfl rfl (by decide +kernel)
set_option maxRecDepth 65536 in
theorem w_c8 : (Jvm.Cond.code ({ cls := "com/example/kithgraph/kithgraph/cluster/GainQueue", name := "up", desc := "(I)V" } : Jvm.MethodName) prog_22_method_9_code (4 : Nat) (Option.none : Option Jvm.ClassFile.FieldType)).before args0 about1 = true := code_word (m := ⟨2, 7⟩) (meth := k2m7) (c := k2c7) (by decide +kernel) rfl rfl rfl (by decide +kernel)
set_option maxRecDepth 65536 in
theorem w_c9 : (Jvm.Cond.code ({ cls := "com/example/kithgraph/kithgraph/cluster/GainQueue", name := "set", desc := "(II)V" } : Jvm.MethodName) prog_22_method_11_code (3 : Nat) (Option.none : Option Jvm.ClassFile.FieldType)).before args0 about1 = true := code_word (m := ⟨2, 8⟩) (meth := k2m8) (c := k2c8) (by decide +kernel) rfl rfl rfl (by decide +kernel)
set_option maxRecDepth 65536 in
theorem w_c10 : (Jvm.Cond.code ({ cls := "com/example/kithgraph/kithgraph/cluster/GainQueue", name := "poll", desc := "()I" } : Jvm.MethodName) prog_22_method_6_code (2 : Nat) (Option.some Jvm.ClassFile.FieldType.int)).before args0 about1 = true := code_word (m := ⟨2, 4⟩) (meth := k2m4) (c := k2c4) (by decide +kernel) rfl rfl rfl (by decide +kernel)
set_option maxRecDepth 65536 in
theorem w_c11 : (Jvm.Cond.code ({ cls := "com/example/kithgraph/kithgraph/cluster/GainQueue", name := "remove", desc := "(I)V" } : Jvm.MethodName) prog_22_method_7_code (4 : Nat) (Option.none : Option Jvm.ClassFile.FieldType)).before args0 about1 = true := code_word (m := ⟨2, 5⟩) (meth := k2m5) (c := k2c5) (by decide +kernel) rfl rfl rfl (by decide +kernel)
set_option maxRecDepth 65536 in
theorem w_c12 : (Jvm.Cond.code ({ cls := "com/example/kithgraph/kithgraph/cluster/GainQueue", name := "before", desc := "(II)Z" } : Jvm.MethodName) prog_22_method_12_code (7 : Nat) (Option.some Jvm.ClassFile.FieldType.boolean)).before args0 about1 = true := code_word (m := ⟨2, 9⟩) (meth := k2m9) (c := k2c9) (by decide +kernel) rfl rfl rfl (by decide +kernel)
def codes1 : List Jvm.Cond := [Jvm.Cond.code x code maxLocals ret, Jvm.Cond.code ({ cls := "com/example/kithgraph/kithgraph/cluster/GainQueue", name := "<init>", desc := "(I)V" } : Jvm.MethodName) prog_22_method_1_code (2 : Nat) (Option.none : Option Jvm.ClassFile.FieldType), Jvm.Cond.code ({ cls := "java/lang/Object", name := "<init>", desc := "()V" } : Jvm.MethodName) object_method_1_code (1 : Nat) (Option.none : Option Jvm.ClassFile.FieldType), Jvm.Cond.code ({ cls := "java/util/Arrays", name := "fill", desc := "([II)V" } : Jvm.MethodName) jdk_65_method_103_code (4 : Nat) (Option.none : Option Jvm.ClassFile.FieldType), Jvm.Cond.code ({ cls := "com/example/kithgraph/kithgraph/cluster/GainQueue", name := "clear", desc := "()V" } : Jvm.MethodName) prog_22_method_8_code (2 : Nat) (Option.none : Option Jvm.ClassFile.FieldType), Jvm.Cond.code ({ cls := "com/example/kithgraph/kithgraph/cluster/GainQueue", name := "isEmpty", desc := "()Z" } : Jvm.MethodName) prog_22_method_2_code (1 : Nat) (Option.some Jvm.ClassFile.FieldType.boolean), Jvm.Cond.code ({ cls := "com/example/kithgraph/kithgraph/cluster/GainQueue", name := "contains", desc := "(I)Z" } : Jvm.MethodName) prog_22_method_3_code (2 : Nat) (Option.some Jvm.ClassFile.FieldType.boolean), Jvm.Cond.code ({ cls := "com/example/kithgraph/kithgraph/cluster/GainQueue", name := "put", desc := "(IJ)V" } : Jvm.MethodName) prog_22_method_4_code (6 : Nat) (Option.none : Option Jvm.ClassFile.FieldType), Jvm.Cond.code ({ cls := "com/example/kithgraph/kithgraph/cluster/GainQueue", name := "up", desc := "(I)V" } : Jvm.MethodName) prog_22_method_9_code (4 : Nat) (Option.none : Option Jvm.ClassFile.FieldType), Jvm.Cond.code ({ cls := "com/example/kithgraph/kithgraph/cluster/GainQueue", name := "set", desc := "(II)V" } : Jvm.MethodName) prog_22_method_11_code (3 : Nat) (Option.none : Option Jvm.ClassFile.FieldType), Jvm.Cond.code ({ cls := "com/example/kithgraph/kithgraph/cluster/GainQueue", name := "poll", desc := "()I" } : Jvm.MethodName) prog_22_method_6_code (2 : Nat) (Option.some Jvm.ClassFile.FieldType.int), Jvm.Cond.code ({ cls := "com/example/kithgraph/kithgraph/cluster/GainQueue", name := "remove", desc := "(I)V" } : Jvm.MethodName) prog_22_method_7_code (4 : Nat) (Option.none : Option Jvm.ClassFile.FieldType), Jvm.Cond.code ({ cls := "com/example/kithgraph/kithgraph/cluster/GainQueue", name := "before", desc := "(II)Z" } : Jvm.MethodName) prog_22_method_12_code (7 : Nat) (Option.some Jvm.ClassFile.FieldType.boolean)]
set_option maxRecDepth 65536 in
theorem codes_eq : words1.filter isCode = codes1 := rfl
theorem w_codes : ∀ c ∈ words1.filter isCode, c.before args0 about1 = true := by
  rw [codes_eq]
  intro c hc
  simp only [codes1, List.mem_cons, List.not_mem_nil, or_false] at hc
  rcases hc with rfl | rfl | rfl | rfl | rfl | rfl | rfl | rfl | rfl | rfl | rfl | rfl | rfl
  · exact w_c0
  · exact w_c1
  · exact w_c2
  · exact w_c3
  · exact w_c4
  · exact w_c5
  · exact w_c6
  · exact w_c7
  · exact w_c8
  · exact w_c9
  · exact w_c10
  · exact w_c11
  · exact w_c12
set_option maxRecDepth 65536 in
theorem w_t1 : (words1.take 24).all (fun c => isCode c || c.before args0 about1) = true := by decide +kernel
set_option maxRecDepth 65536 in
theorem w_t2 : ((words1.drop 24).take 24).all (fun c => isCode c || c.before args0 about1) = true := by decide +kernel
set_option maxRecDepth 65536 in
theorem w_t3 : ((words1.drop 24).drop 24).all (fun c => isCode c || c.before args0 about1) = true := by decide +kernel
theorem w_tables : (allAtoms (Jvm.Cond.code x code maxLocals ret :: tables_1)).before args0 about1 = true := by
  rw [allAtoms_all]
  show words1.all (fun c => c.before args0 about1) = true
  refine all_split ?_ w_codes
  rw [← List.take_append_drop 24 words1, List.all_append, w_t1, ← List.take_append_drop 24 (words1.drop 24), List.all_append, w_t2, w_t3]
  rfl
set_option maxRecDepth 65536 in
theorem w_case : (Jvm.Cond.and given_1 narrow_1).before args0 about1 = true := by decide +kernel
theorem w_applies : (headSpec (Jvm.Cond.code x code maxLocals ret :: tables_1) room_1).applies x e0.platform about1 = true :=
  (Spec.applies_iff w_frames).mpr ⟨w_running, w_runnable, w_alone, w_named, w_hears, w_ripe, w_room, w_tables⟩
theorem atStart : AtStart classFile x code maxLocals ret World_1 tables_1 room_1 Calls_1 rest_1 Pre_1 launch0 p0 e0 about1 theMethod args0 below0 :=
  ⟨lists_1, trivial, launch0.admits_env _ _ _, launch0.least_env, fairChoices_fair.cas, fairChoices_fair.clock, w_frames, w_args, w_heap, w_applies, trivial, trivial, w_case⟩
end start1
theorem witness_1 : WitnessClaimed_1 := ⟨start1.p0, start1.e0, start1.about1, start1.theMethod, start1.args0, start1.below0, start1.atStart⟩
end Jvm.Pilot.@@N@@
