import JvmDerived
import JvmDerived.Pilot.@@N@@Statement
import JvmDerived.Pilot.@@N@@Code
set_option linter.unusedVariables false
set_option linter.unusedSimpArgs false
namespace Jvm.Ow
open Sem ClassFile Op Lib Jvm.Stand Jvm.Free Jvm.LawKit Jvm.RoadKit
abbrev jv (x : Int64) : Slot := .val (.long x)
abbrev U0 : Slot := .unset
abbrev S2 : Slot := .second
def ushL (x : Int64) (y : Int32) : Int64 := (x.toUInt64 >>> (y &&& 0x3f).toInt64.toUInt64).toInt64
def On (l : Launch) (Z : State) (n0 : Nat) (own : String) (bytes : ByteArray) (maxL : Nat) (ret : Option FieldType) (R : Room) (p : Program) (e : Env) (s : State) (m : MethodId) (args : Array Value) (below : List Frame) (meth : Method) (c : Code) (T : State) (h : Heap) (k n : Nat) : Prop :=
  ∃ locs, Stand p l e R s m args below meth c T locs k n ∧ Fr n0 locs ∧ T.heap = h ∧ p.tables.exec = Jvm.exec ∧ Z.Warmed39 s.vm ∧ c.code = bytes ∧ c.maxLocals = maxL ∧ s.vm.findClass own = some m.cls ∧ meth.sig.returnType = ret ∧ meth.locks = false ∧ n0 ≤ s.heap.size
def Wp (p : Program) (e : Env) (below : List Frame) (s : State) (n0 ck cs : Nat) (Q : Option Value → Heap → Prop) (U : State) : Prop :=
  ∃ t o, Steps p.tables e below U t ∧ t.status = .running ∧ Ended t below o ∧ ∃ v L, o = .returned v ∧ (Fr n0 L ∧ Q v t.heap) ∧ FrameEnd s o t L ck cs
def Met (l : Launch) (Z : State) (n0 : Nat) (y : MethodName) (bytes : ByteArray) (maxL : Nat) (ret : Option FieldType) (rm : Room) (as : Array Value) (h : Heap) (Q : Option Value → Heap → Prop) : Prop :=
  ∀ ws, MetFree l y (head1 (Cond.code y bytes maxL ret :: ws) rm) (fun a U => a = as ∧ Z.Warmed39 U.vm ∧ U.heap = h) (fun _ _ _ _ _ => True) (fun _ U o U' => ∃ v L, o = .returned v ∧ (Fr n0 L ∧ Q v U'.heap) ∧ FrameEnd U o U' L rm.cells rm.slots)
def AA (Z : State) (h : Heap) (a : Addr) (ty : FieldType) (vs : List Value) : Prop := ∃ c : Cell, Arr Z h a c ty ∧ c.slots = vs.toArray ∧ vs.length < 2147483648
section Kit
variable {l : Launch} {Z : State} {n0 : Nat} {own : String} {bytes : ByteArray} {maxL : Nat} {ret : Option FieldType} {R : Room} {p : Program} {e : Env} {s : State} {m : MethodId} {args : Array Value} {below : List Frame} {meth : Method} {c : Code} {T : State} {h h' : Heap} {k n ck cs : Nat} {Q : Option Value → Heap → Prop} {pc pc' : Nat} {Ls Ls' : Array Slot} {st : List Value} {a0 : Array Value} {a b : Addr} {ty : FieldType} {vs : List Value} {sl : Nat} {v w : Value} {ws : List Addr}
theorem AA.lt (F : AA Z h a ty vs) : a < h.size := by obtain ⟨c, A, -⟩ := F; exact A.lt
theorem AA.cast {vs' : List Value} (F : AA Z h a ty vs) (q : vs = vs') : AA Z h a ty vs' := q ▸ F
theorem Fld.cast {C f d : String} (F : Fld Z h a C f d v) (q : v = w) : Fld Z h a C f d w := q ▸ F
theorem On.size(A : On l Z n0 own bytes maxL ret R p e s m args below meth c T h k n) : n0 ≤ h.size := by
  obtain ⟨locs, X, N, eT, hx, hZ, hby, hml, hown, hret, hlk, hsz⟩ := A
  have := X.same.2.1
  subst eT
  exact Nat.le_trans hsz this
theorem Wp.goo {U U' : State} (f : ∀ t, Steps p.tables e below U' t → Steps p.tables e below U t) (K : Wp p e below s n0 ck cs Q U') : Wp p e below s n0 ck cs Q U := by
  obtain ⟨t, o, q, r⟩ := K; exact ⟨t, o, f t q, r⟩
theorem Wp.cast {g g' : JFrame} (q : g = g') (K : Wp p e below s n0 ck cs Q (T.setTop g')) : Wp p e below s n0 ck cs Q (T.setTop g) := q ▸ K
theorem Wp.stk {st' : List Value} (q : st = st') (K : Wp p e below s n0 ck cs Q (T.setTop (mkF m pc Ls st'))) : Wp p e below s n0 ck cs Q (T.setTop (mkF m pc Ls st)) := q ▸ K
theorem Wp.mono {Q' : Option Value → Heap → Prop} {U : State} (K : Wp p e below s n0 ck cs Q U) (q : ∀ v h, Q v h → Q' v h) : Wp p e below s n0 ck cs Q' U := by
  obtain ⟨t, o, h1, h2, h3, v, L, h4, ⟨h5, h6⟩, h7⟩ := K; exact ⟨t, o, h1, h2, h3, v, L, h4, ⟨h5, q _ _ h6⟩, h7⟩
theorem met_intro {y : MethodName} {rm : Room} {as : Array Value} (hpl : plainFor y = true) (ho : y.cls = own) (hsz : n0 ≤ h.size)
    (body : ∀ p e s m below meth c T, On l Z n0 own bytes maxL ret rm p e s m as below meth c T h 0 0 → meth.name = y.name → Wp p e below s n0 rm.cells rm.slots Q (T.setTop (entryFrame m as maxL))) : Met l Z n0 y bytes maxL ret rm as h Q := by
  subst ho
  intro ws
  refine MetFree.of_bodySF hpl hisR ?_
  intro p e s m args below meth c s₁ Bd hml0 hP hK
  obtain ⟨rfl, hZ, hh⟩ := hP
  have X0 : Stand p l e rm s m args below meth c s₁ [] 0 0 := Stand.of_body Bd
  have e0 : s₁.heap = h := by rw [← hh, Bd.state]; rfl
  exact body p e s m below meth c s₁ ⟨[], X0, Fr.nil n0, e0, Bd.exec, hZ, Bd.bytes, hml0, findClass_of_methodNamed Bd.named, Bd.returns, Bd.notSynchronized, by rw [hh]; exact hsz⟩ (name_of_methodNamed Bd.named Bd.method).1
theorem Met.mono {y : MethodName} {rm : Room} {as : Array Value} {Q' : Option Value → Heap → Prop} (M : Met l Z n0 y bytes maxL ret rm as h Q) (q : ∀ v h, Q v h → Q' v h) : Met l Z n0 y bytes maxL ret rm as h Q' := by
  intro ws p e ha hc hk s m args below hf happ hP hK
  obtain ⟨n, o, h1, h2, h3, v, L, h4, ⟨h5, h6⟩, h7⟩ := M ws p e ha hc hk s m args below hf happ hP hK
  exact ⟨n, o, h1, h2, h3, v, L, h4, ⟨h5, q _ _ h6⟩, h7⟩
theorem s_lloadN (A : On l Z n0 own bytes maxL ret R p e s m args below meth c T h k n) {i : Fin 4} {z : Int64} (hd : decode bytes pc = .ok (.lload_n i, 1)) (hp : pc + 1 = pc') (hl : Ls[i.val]? = some (.val (.long z))) (K : Wp p e below s n0 ck cs Q (T.setTop (mkF m pc' Ls (.long z :: st)))) : Wp p e below s n0 ck cs Q (T.setTop (mkF m pc Ls st)) := by
  obtain ⟨locs, X, N, eT, hx, hZ, hby, hml, hown, hret, hlk, hsz⟩ := A
  subst hp
  exact K.goo fun t q => XS.lloadN X.here hx rfl (hb hby hd) hl q
theorem s_lload (A : On l Z n0 own bytes maxL ret R p e s m args below meth c T h k n) {i : Nat} {z : Int64} (hd : decode bytes pc = .ok (.lload i, 2)) (hp : pc + 2 = pc') (hl : Ls[i]? = some (.val (.long z))) (K : Wp p e below s n0 ck cs Q (T.setTop (mkF m pc' Ls (.long z :: st)))) : Wp p e below s n0 ck cs Q (T.setTop (mkF m pc Ls st)) := by
  obtain ⟨locs, X, N, eT, hx, hZ, hby, hml, hown, hret, hlk, hsz⟩ := A
  subst hp
  exact K.goo fun t q => XS.lload X.here hx rfl (hb hby hd) hl q
theorem s_lstore (A : On l Z n0 own bytes maxL ret R p e s m args below meth c T h k n) {i : Nat} {z : Int64} (hd : decode bytes pc = .ok (.lstore i, 2)) (hp : pc + 2 = pc') (hl : storeLocals Ls i (.long z) = some Ls') (K : Wp p e below s n0 ck cs Q (T.setTop (mkF m pc' Ls' st))) : Wp p e below s n0 ck cs Q (T.setTop (mkF m pc Ls (.long z :: st))) := by
  obtain ⟨locs, X, N, eT, hx, hZ, hby, hml, hown, hret, hlk, hsz⟩ := A
  subst hp
  exact K.goo fun t q => XS.lstore X.here hx rfl (hb hby hd) rfl hl q
theorem s_iconst (A : On l Z n0 own bytes maxL ret R p e s m args below meth c T h k n) {i : Int} {z : Int32} (hd : decode bytes pc = .ok (.iconst i, 1)) (hp : pc + 1 = pc') (hz : Int32.ofInt i = z) (K : Wp p e below s n0 ck cs Q (T.setTop (mkF m pc' Ls (.int z :: st)))) : Wp p e below s n0 ck cs Q (T.setTop (mkF m pc Ls st)) := by
  obtain ⟨locs, X, N, eT, hx, hZ, hby, hml, hown, hret, hlk, hsz⟩ := A
  subst hp
  subst hz
  exact K.goo fun t q => XS.iconst X.here hx rfl (hb hby hd) q
theorem s_bipush (A : On l Z n0 own bytes maxL ret R p e s m args below meth c T h k n) {i : Int} {z : Int32} (hd : decode bytes pc = .ok (.bipush i, 2)) (hp : pc + 2 = pc') (hz : (Int8.ofInt i).toInt32 = z) (K : Wp p e below s n0 ck cs Q (T.setTop (mkF m pc' Ls (.int z :: st)))) : Wp p e below s n0 ck cs Q (T.setTop (mkF m pc Ls st)) := by
  obtain ⟨locs, X, N, eT, hx, hZ, hby, hml, hown, hret, hlk, hsz⟩ := A
  subst hp
  subst hz
  exact K.goo fun t q => XS.bipush X.here hx rfl (hb hby hd) q
theorem s_lconst (A : On l Z n0 own bytes maxL ret R p e s m args below meth c T h k n) {i : Fin 2} {z : Int64} (hd : decode bytes pc = .ok (.lconst i, 1)) (hp : pc + 1 = pc') (hz : Int64.ofNat i = z) (K : Wp p e below s n0 ck cs Q (T.setTop (mkF m pc' Ls (.long z :: st)))) : Wp p e below s n0 ck cs Q (T.setTop (mkF m pc Ls st)) := by
  obtain ⟨locs, X, N, eT, hx, hZ, hby, hml, hown, hret, hlk, hsz⟩ := A
  subst hp
  subst hz
  exact K.goo fun t q => XS.lconst X.here hx rfl (hb hby hd) q
theorem s_ladd (A : On l Z n0 own bytes maxL ret R p e s m args below meth c T h k n) {x y z : Int64} (hd : decode bytes pc = .ok (.ladd, 1)) (hp : pc + 1 = pc') (hz : x + y = z) (K : Wp p e below s n0 ck cs Q (T.setTop (mkF m pc' Ls (.long z :: st)))) : Wp p e below s n0 ck cs Q (T.setTop (mkF m pc Ls (.long y :: .long x :: st))) := by
  obtain ⟨locs, X, N, eT, hx, hZ, hby, hml, hown, hret, hlk, hsz⟩ := A
  subst hp
  subst hz
  exact K.goo fun t q => XS.ladd X.here hx rfl (hb hby hd) rfl q
theorem s_lmul (A : On l Z n0 own bytes maxL ret R p e s m args below meth c T h k n) {x y z : Int64} (hd : decode bytes pc = .ok (.lmul, 1)) (hp : pc + 1 = pc') (hz : x * y = z) (K : Wp p e below s n0 ck cs Q (T.setTop (mkF m pc' Ls (.long z :: st)))) : Wp p e below s n0 ck cs Q (T.setTop (mkF m pc Ls (.long y :: .long x :: st))) := by
  obtain ⟨locs, X, N, eT, hx, hZ, hby, hml, hown, hret, hlk, hsz⟩ := A
  subst hp
  subst hz
  exact K.goo fun t q => XS.lmul X.here hx rfl (hb hby hd) rfl q
theorem s_land (A : On l Z n0 own bytes maxL ret R p e s m args below meth c T h k n) {x y z : Int64} (hd : decode bytes pc = .ok (.land, 1)) (hp : pc + 1 = pc') (hz : x &&& y = z) (K : Wp p e below s n0 ck cs Q (T.setTop (mkF m pc' Ls (.long z :: st)))) : Wp p e below s n0 ck cs Q (T.setTop (mkF m pc Ls (.long y :: .long x :: st))) := by
  obtain ⟨locs, X, N, eT, hx, hZ, hby, hml, hown, hret, hlk, hsz⟩ := A
  subst hp
  subst hz
  exact K.goo fun t q => XS.land X.here hx rfl (hb hby hd) rfl q
theorem s_lor (A : On l Z n0 own bytes maxL ret R p e s m args below meth c T h k n) {x y z : Int64} (hd : decode bytes pc = .ok (.lor, 1)) (hp : pc + 1 = pc') (hz : x ||| y = z) (K : Wp p e below s n0 ck cs Q (T.setTop (mkF m pc' Ls (.long z :: st)))) : Wp p e below s n0 ck cs Q (T.setTop (mkF m pc Ls (.long y :: .long x :: st))) := by
  obtain ⟨locs, X, N, eT, hx, hZ, hby, hml, hown, hret, hlk, hsz⟩ := A
  subst hp
  subst hz
  exact K.goo fun t q => XS.lor X.here hx rfl (hb hby hd) rfl q
theorem s_ldiv (A : On l Z n0 own bytes maxL ret R p e s m args below meth c T h k n) {x y z : Int64} (hd : decode bytes pc = .ok (.ldiv, 1)) (hp : pc + 1 = pc') (hy : y ≠ 0) (hz : x / y = z) (K : Wp p e below s n0 ck cs Q (T.setTop (mkF m pc' Ls (.long z :: st)))) : Wp p e below s n0 ck cs Q (T.setTop (mkF m pc Ls (.long y :: .long x :: st))) := by
  obtain ⟨locs, X, N, eT, hx, hZ, hby, hml, hown, hret, hlk, hsz⟩ := A
  subst hp
  subst hz
  exact K.goo fun t q => XS.ldiv X.here hx rfl (hb hby hd) rfl hy q
theorem s_lshl (A : On l Z n0 own bytes maxL ret R p e s m args below meth c T h k n) {x z : Int64} {y : Int32} (hd : decode bytes pc = .ok (.lshl, 1)) (hp : pc + 1 = pc') (hz : x <<< (y &&& 0x3f).toInt64 = z) (K : Wp p e below s n0 ck cs Q (T.setTop (mkF m pc' Ls (.long z :: st)))) : Wp p e below s n0 ck cs Q (T.setTop (mkF m pc Ls (.int y :: .long x :: st))) := by
  obtain ⟨locs, X, N, eT, hx, hZ, hby, hml, hown, hret, hlk, hsz⟩ := A
  subst hp
  subst hz
  exact K.goo fun t q => XS.lshl X.here hx rfl (hb hby hd) rfl q
theorem s_lushr (A : On l Z n0 own bytes maxL ret R p e s m args below meth c T h k n) {x z : Int64} {y : Int32} (hd : decode bytes pc = .ok (.lushr, 1)) (hp : pc + 1 = pc') (hz : ushL x y = z) (K : Wp p e below s n0 ck cs Q (T.setTop (mkF m pc' Ls (.long z :: st)))) : Wp p e below s n0 ck cs Q (T.setTop (mkF m pc Ls (.int y :: .long x :: st))) := by
  obtain ⟨locs, X, N, eT, hx, hZ, hby, hml, hown, hret, hlk, hsz⟩ := A
  subst hp
  subst hz
  exact K.goo fun t q => XS.lushr X.here hx rfl (hb hby hd) rfl q
theorem s_lcmp (A : On l Z n0 own bytes maxL ret R p e s m args below meth c T h k n) {x y : Int64} (hd : decode bytes pc = .ok (.lcmp, 1)) (hp : pc + 1 = pc') (K : Wp p e below s n0 ck cs Q (T.setTop (mkF m pc' Ls (.int (lcmpW x y) :: st)))) : Wp p e below s n0 ck cs Q (T.setTop (mkF m pc Ls (.long y :: .long x :: st))) := by
  obtain ⟨locs, X, N, eT, hx, hZ, hby, hml, hown, hret, hlk, hsz⟩ := A
  subst hp
  exact K.goo fun t q => XS.lcmp X.here hx rfl (hb hby hd) rfl q
theorem s_goto (A : On l Z n0 own bytes maxL ret R p e s m args below meth c T h k n)  {o : Int} (hd : decode bytes pc = .ok (.goto o, 3))  (ho : 0 ≤ (pc : Int) + o) (hp : ((pc : Int) + o).toNat = pc') (K : Wp p e below s n0 ck cs Q (T.setTop (mkF m pc' Ls st))) : Wp p e below s n0 ck cs Q (T.setTop (mkF m pc Ls st)) := by
  obtain ⟨locs, X, N, eT, hx, hZ, hby, hml, hown, hret, hlk, hsz⟩ := A
  exact K.goo fun t q => XS.goto X.here hx rfl (pc0 := pc) rfl (hb hby hd) ho hp q
theorem s_ifY (A : On l Z n0 own bytes maxL ret R p e s m args below meth c T h k n) {cd : ClassFile.Cond} {x : Int32} {o : Int} (hd : decode bytes pc = .ok (.ifCond cd o, 3)) (hc : ifCond.holds cd x = true) (ho : 0 ≤ (pc : Int) + o) (hp : ((pc : Int) + o).toNat = pc') (K : Wp p e below s n0 ck cs Q (T.setTop (mkF m pc' Ls st))) : Wp p e below s n0 ck cs Q (T.setTop (mkF m pc Ls (.int x :: st))) := by
  obtain ⟨locs, X, N, eT, hx, hZ, hby, hml, hown, hret, hlk, hsz⟩ := A
  exact K.goo fun t q => XS.ifYes X.here hx rfl (pc0 := pc) rfl (hb hby hd) rfl hc ho hp q
theorem s_ifN (A : On l Z n0 own bytes maxL ret R p e s m args below meth c T h k n) {cd : ClassFile.Cond} {x : Int32} {o : Int} (hd : decode bytes pc = .ok (.ifCond cd o, 3)) (hp : pc + 3 = pc') (hc : ifCond.holds cd x = false) (K : Wp p e below s n0 ck cs Q (T.setTop (mkF m pc' Ls st))) : Wp p e below s n0 ck cs Q (T.setTop (mkF m pc Ls (.int x :: st))) := by
  obtain ⟨locs, X, N, eT, hx, hZ, hby, hml, hown, hret, hlk, hsz⟩ := A
  subst hp
  exact K.goo fun t q => XS.ifNo X.here hx rfl (hb hby hd) rfl hc q
theorem s_ldc2Long (A : On l Z n0 own bytes maxL ret R p e s m args below meth c T h k n) {i : Nat} {z : Int64} (hd : decode bytes pc = .ok (.ldc2_w i, 3)) (hp : pc + 3 = pc') (w0 : (Cond.constantLong own i z).before a0 Z = true) (K : Wp p e below s n0 ck cs Q (T.setTop (mkF m pc' Ls (.long z :: st)))) : Wp p e below s n0 ck cs Q (T.setTop (mkF m pc Ls st)) := by
  obtain ⟨locs, X, N, eT, hx, hZ, hby, hml, hown, hret, hlk, hsz⟩ := A
  subst hp
  exact K.goo fun t q => X.ldc2Long hx hown (mvT hZ w0) (g := mkF m pc Ls st) rfl (hb hby hd) t q
theorem s_static (A : On l Z n0 own bytes maxL ret R p e s m args below meth c T h k n) {index : Nat} {y : MethodName} {bytes' : ByteArray} {maxL' : Nat} {ret' : Option FieldType} {rm : Room} {argsL rest : List Value} {Q' : Option Value → Heap → Prop} (M : Met l Z n0 y bytes' maxL' ret' rm argsL.toArray h Q') (wl : (Cond.methodLink own index y).before a0 Z = true) (ws : (Cond.static y).before a0 Z = true) (wz : (Cond.initialized y.cls).before a0 Z = true) (wc : (Cond.code y bytes' maxL' ret').before a0 Z = true) (hy : y.cls ≠ "java/lang/invoke/MethodHandle" ∧ y.cls ≠ "java/lang/invoke/VarHandle") {sig : MethodDescriptor} (hsig : parseMethodDescriptor y.desc = some sig) (hlen : argsL.length = sig.parameters.length) {W : Nat} (hf : rm.frames + 1 ≤ R.frames) (hl : W + (maxL' + 11) + rm.locals ≤ R.locals) (hW : (rest.map fun v => v.category).sum ≤ W) (hc : k + rm.cells ≤ R.cells) (hs : n + rm.slots ≤ R.slots) (hLs : Ls.size = maxL) {stk : List Value} (hst : stk = argsL.reverse ++ rest) (hd : decode bytes pc = .ok (.invokestatic index, 3)) (hp : pc + 3 = pc') (K : ∀ T' h' v, On l Z n0 own bytes maxL ret R p e s m args below meth c T' h' (k + rm.cells) (n + rm.slots) → Q' v h' → Wp p e below s n0 ck cs Q (T'.setTop (mkF m pc' Ls (v.toList ++ rest)))) : Wp p e below s n0 ck cs Q (T.setTop (mkF m pc Ls stk)) := by
  obtain ⟨locs, X, N, eT, hx, hZ, hby, hml, hown, hret, hlk, hsz⟩ := A
  subst hp
  obtain ⟨v, _, ⟨T', L', k', n'⟩, -, X', ⟨Lc, ⟨Nq, hQ⟩, l1, l2, l3⟩, q⟩ := Jvm.LawKit.callS X hx (y := y) hown (mvT hZ wl) (mvT hZ ws) (mvT hZ wz) (mvT hZ wc) hy (backOf (Q := fun v h L => Fr n0 L ∧ Q' v h) (W := W) (M []) hZ wc wz hf hl) (g := mkF m pc Ls stk) rfl (by rw [hml]; exact hLs) (argsL := argsL) (rest := rest) (lenOf hsig hlen) hst (by show 2 * 0 + _ ≤ _; simpa using hW) (hb hby hd) (fun _ _ => ⟨rfl, eT, hc, hs⟩)
  dsimp only [Pt.U, Pt.locs, Pt.cells, Pt.slots] at X' l1 l2 l3 q hQ Nq
  subst l1 l2 l3
  exact (K T' T'.heap v ⟨_, X', Fr.app N Nq, rfl, hx, hZ, hby, hml, hown, hret, hlk, hsz⟩ hQ).goo q
theorem r_val (A : On l Z n0 own bytes maxL ret R p e s m args below meth c T h k n) {i : Instr} {t : FieldType} (hr : ret = some t) (hn0 : narrow t v = v) (hi : (i = .ireturn ∧ (t = .int ∨ t = .boolean ∨ t = .byte ∨ t = .char ∨ t = .short) ∧ ∃ z, v = .int z) ∨ (i = .lreturn ∧ t = .long ∧ ∃ z, v = .long z) ∨ (i = .dreturn ∧ t = .double ∧ ∃ z, v = .double z) ∨ (i = .freturn ∧ t = .float ∧ ∃ z, v = .float z) ∨ (i = .areturn ∧ t.isReference = true ∧ v.isRef = true)) (hd : decode bytes pc = .ok (i, 1)) (hk : k ≤ ck) (hn : n ≤ cs) (q : Q (some v) h) : Wp p e below s n0 ck cs Q (T.setTop (mkF m pc Ls (v :: st))) := by
  obtain ⟨locs, X, N, eT, hx, hZ, hby, hml, hown, hret, hlk, hsz⟩ := A
  have hR : meth.sig.returnType = some t := hret.trans hr
  obtain ⟨fs, h1, hrun, hended, hW, hsame⟩ := X.leave (v := some v) (fun z => by rw [hR] at z; cases z) hlk
  exact ⟨_, _, retOut X hx hR hn0 hi (hb hby hd) h1, hrun, hended, _, _, rfl, ⟨N, by show Q (some v) T.heap; rw [eT]; exact q⟩, ⟨_, rfl⟩, hW, hsame.mono hk hn⟩
theorem r_bool (A : On l Z n0 own bytes maxL ret R p e s m args below meth c T h k n) {z : Int32} (hr : ret = some .boolean) (hz : z = 0 ∨ z = 1) (hd : decode bytes pc = .ok (.ireturn, 1)) (hk : k ≤ ck) (hn : n ≤ cs) (q : Q (some (.int z)) h) : Wp p e below s n0 ck cs Q (T.setTop (mkF m pc Ls (.int z :: st))) := r_val A hr (by rcases hz with rfl | rfl <;> rfl) (Or.inl ⟨rfl, Or.inr (Or.inl rfl), _, rfl⟩) hd hk hn q
theorem r_long (A : On l Z n0 own bytes maxL ret R p e s m args below meth c T h k n) {z : Int64} (hr : ret = some .long) (hd : decode bytes pc = .ok (.lreturn, 1)) (hk : k ≤ ck) (hn : n ≤ cs) (q : Q (some (.long z)) h) : Wp p e below s n0 ck cs Q (T.setTop (mkF m pc Ls (.long z :: st))) := r_val A hr rfl (Or.inr (Or.inl ⟨rfl, rfl, _, rfl⟩)) hd hk hn q
end Kit
end Jvm.Ow
namespace Jvm.Pilot.@@N@@
open Jvm Jvm.ClassFile Sem Op Lib Jvm.Free Jvm.Stand Jvm.LawKit Jvm.RoadKit Jvm.Ow Bundle Jvm.Pilot.@@N@@.Jvm.D
theorem d1_0 : decode prog_10_method_17_code 0 = .ok (.lload_n 0, 1) := by decide +kernel
theorem d1_1 : decode prog_10_method_17_code 1 = .ok (.ldc2_w 75, 3) := by decide +kernel
theorem w5 {Z : State} {a0 : Array Value} (hw : ∀ d ∈ tables_1, d.before a0 Z = true) : (Jvm.Cond.constantLong "com/example/stream_tally/streamtally/Sketch" (75 : Nat) (9223372036854775807 : Int64)).before a0 Z = true := hw _ (List.mem_of_getElem? (i := 5) rfl)
theorem d1_4 : decode prog_10_method_17_code 4 = .ok (.lload_n 2, 1) := by decide +kernel
theorem d1_5 : decode prog_10_method_17_code 5 = .ok (.ldiv, 1) := by decide +kernel
theorem d1_6 : decode prog_10_method_17_code 6 = .ok (.lcmp, 1) := by decide +kernel
theorem d1_7 : decode prog_10_method_17_code 7 = .ok (.ifCond .le 9, 3) := by decide +kernel
theorem d1_10 : decode prog_10_method_17_code 10 = .ok (.ldc2_w 75, 3) := by decide +kernel
theorem d1_13 : decode prog_10_method_17_code 13 = .ok (.goto 6, 3) := by decide +kernel
theorem d1_19 : decode prog_10_method_17_code 19 = .ok (.lreturn, 1) := by decide +kernel
theorem d1_16 : decode prog_10_method_17_code 16 = .ok (.lload_n 0, 1) := by decide +kernel
theorem d1_17 : decode prog_10_method_17_code 17 = .ok (.lload_n 2, 1) := by decide +kernel
theorem d1_18 : decode prog_10_method_17_code 18 = .ok (.lmul, 1) := by decide +kernel
abbrev y0_saturatedProduct : MethodName := ⟨"com/example/stream_tally/streamtally/Sketch", "saturatedProduct", "(JJ)J"⟩
theorem pn_com_example_stream_tally_streamtally_Sketch : plainName "com/example/stream_tally/streamtally/Sketch" = true := by first | (simp [plainName, overriddenIn]; done) | decide +kernel
abbrev c0_Sketch : String := "com/example/stream_tally/streamtally/Sketch"
theorem d2_0 : decode method_2_code 0 = .ok (.lload_n 0, 1) := by decide +kernel
theorem d2_1 : decode method_2_code 1 = .ok (.bipush 32, 2) := by decide +kernel
theorem d2_3 : decode method_2_code 3 = .ok (.lushr, 1) := by decide +kernel
theorem d2_4 : decode method_2_code 4 = .ok (.lstore 4, 2) := by decide +kernel
theorem d2_6 : decode method_2_code 6 = .ok (.lload_n 0, 1) := by decide +kernel
theorem d2_7 : decode method_2_code 7 = .ok (.ldc2_w 9, 3) := by decide +kernel
theorem w10 {Z : State} {a0 : Array Value} (hw : ∀ d ∈ tables_1, d.before a0 Z = true) : (Jvm.Cond.constantLong "com/example/stream_tally/streamtally/SketchSaturatedProductPinLaw" (9 : Nat) (4294967295 : Int64)).before a0 Z = true := hw _ (List.mem_of_getElem? (i := 10) rfl)
theorem d2_10 : decode method_2_code 10 = .ok (.land, 1) := by decide +kernel
theorem d2_11 : decode method_2_code 11 = .ok (.lstore 6, 2) := by decide +kernel
theorem d2_13 : decode method_2_code 13 = .ok (.lload_n 2, 1) := by decide +kernel
theorem d2_14 : decode method_2_code 14 = .ok (.bipush 32, 2) := by decide +kernel
theorem d2_16 : decode method_2_code 16 = .ok (.lushr, 1) := by decide +kernel
theorem d2_17 : decode method_2_code 17 = .ok (.lstore 8, 2) := by decide +kernel
theorem d2_19 : decode method_2_code 19 = .ok (.lload_n 2, 1) := by decide +kernel
theorem d2_20 : decode method_2_code 20 = .ok (.ldc2_w 9, 3) := by decide +kernel
theorem d2_23 : decode method_2_code 23 = .ok (.land, 1) := by decide +kernel
theorem d2_24 : decode method_2_code 24 = .ok (.lstore 10, 2) := by decide +kernel
theorem d2_26 : decode method_2_code 26 = .ok (.lload 4, 2) := by decide +kernel
theorem d2_28 : decode method_2_code 28 = .ok (.lconst 0, 1) := by decide +kernel
theorem d2_29 : decode method_2_code 29 = .ok (.lcmp, 1) := by decide +kernel
theorem d2_30 : decode method_2_code 30 = .ok (.ifCond .eq 14, 3) := by decide +kernel
theorem d2_44 : decode method_2_code 44 = .ok (.lload 4, 2) := by decide +kernel
theorem d2_46 : decode method_2_code 46 = .ok (.lload 10, 2) := by decide +kernel
theorem d2_48 : decode method_2_code 48 = .ok (.lmul, 1) := by decide +kernel
theorem d2_49 : decode method_2_code 49 = .ok (.lload 6, 2) := by decide +kernel
theorem d2_51 : decode method_2_code 51 = .ok (.lload 8, 2) := by decide +kernel
theorem d2_53 : decode method_2_code 53 = .ok (.lmul, 1) := by decide +kernel
theorem d2_54 : decode method_2_code 54 = .ok (.ladd, 1) := by decide +kernel
theorem d2_55 : decode method_2_code 55 = .ok (.lstore 12, 2) := by decide +kernel
theorem d2_57 : decode method_2_code 57 = .ok (.lload 12, 2) := by decide +kernel
theorem d2_59 : decode method_2_code 59 = .ok (.ldc2_w 15, 3) := by decide +kernel
theorem w11 {Z : State} {a0 : Array Value} (hw : ∀ d ∈ tables_1, d.before a0 Z = true) : (Jvm.Cond.constantLong "com/example/stream_tally/streamtally/SketchSaturatedProductPinLaw" (15 : Nat) (2147483648 : Int64)).before a0 Z = true := hw _ (List.mem_of_getElem? (i := 11) rfl)
theorem d2_62 : decode method_2_code 62 = .ok (.lcmp, 1) := by decide +kernel
theorem d2_63 : decode method_2_code 63 = .ok (.ifCond .lt 7, 3) := by decide +kernel
theorem d2_70 : decode method_2_code 70 = .ok (.lload 6, 2) := by decide +kernel
theorem d2_72 : decode method_2_code 72 = .ok (.lload 10, 2) := by decide +kernel
theorem d2_74 : decode method_2_code 74 = .ok (.lmul, 1) := by decide +kernel
theorem d2_75 : decode method_2_code 75 = .ok (.lstore 14, 2) := by decide +kernel
theorem d2_77 : decode method_2_code 77 = .ok (.lload 12, 2) := by decide +kernel
theorem d2_79 : decode method_2_code 79 = .ok (.lload 14, 2) := by decide +kernel
theorem d2_81 : decode method_2_code 81 = .ok (.bipush 32, 2) := by decide +kernel
theorem d2_83 : decode method_2_code 83 = .ok (.lushr, 1) := by decide +kernel
theorem d2_84 : decode method_2_code 84 = .ok (.ladd, 1) := by decide +kernel
theorem d2_85 : decode method_2_code 85 = .ok (.lstore 16, 2) := by decide +kernel
theorem d2_87 : decode method_2_code 87 = .ok (.lload 16, 2) := by decide +kernel
theorem d2_89 : decode method_2_code 89 = .ok (.ldc2_w 15, 3) := by decide +kernel
theorem d2_92 : decode method_2_code 92 = .ok (.lcmp, 1) := by decide +kernel
theorem d2_93 : decode method_2_code 93 = .ok (.ifCond .lt 7, 3) := by decide +kernel
theorem d2_100 : decode method_2_code 100 = .ok (.lload 16, 2) := by decide +kernel
theorem d2_102 : decode method_2_code 102 = .ok (.bipush 32, 2) := by decide +kernel
theorem d2_104 : decode method_2_code 104 = .ok (.lshl, 1) := by decide +kernel
theorem d2_105 : decode method_2_code 105 = .ok (.lload 14, 2) := by decide +kernel
theorem d2_107 : decode method_2_code 107 = .ok (.ldc2_w 9, 3) := by decide +kernel
theorem d2_110 : decode method_2_code 110 = .ok (.land, 1) := by decide +kernel
theorem d2_111 : decode method_2_code 111 = .ok (.lor, 1) := by decide +kernel
theorem d2_112 : decode method_2_code 112 = .ok (.lreturn, 1) := by decide +kernel
theorem d2_96 : decode method_2_code 96 = .ok (.ldc2_w 13, 3) := by decide +kernel
theorem w0 {Z : State} {a0 : Array Value} (hw : ∀ d ∈ tables_1, d.before a0 Z = true) : (Jvm.Cond.constantLong "com/example/stream_tally/streamtally/SketchSaturatedProductPinLaw" (13 : Nat) (9223372036854775807 : Int64)).before a0 Z = true := hw _ (List.mem_of_getElem? (i := 0) rfl)
theorem d2_99 : decode method_2_code 99 = .ok (.lreturn, 1) := by decide +kernel
theorem d2_66 : decode method_2_code 66 = .ok (.ldc2_w 13, 3) := by decide +kernel
theorem d2_69 : decode method_2_code 69 = .ok (.lreturn, 1) := by decide +kernel
theorem d2_33 : decode method_2_code 33 = .ok (.lload 8, 2) := by decide +kernel
theorem d2_35 : decode method_2_code 35 = .ok (.lconst 0, 1) := by decide +kernel
theorem d2_36 : decode method_2_code 36 = .ok (.lcmp, 1) := by decide +kernel
theorem d2_37 : decode method_2_code 37 = .ok (.ifCond .eq 7, 3) := by decide +kernel
theorem d2_40 : decode method_2_code 40 = .ok (.ldc2_w 13, 3) := by decide +kernel
theorem d2_43 : decode method_2_code 43 = .ok (.lreturn, 1) := by decide +kernel
abbrev y1_expected : MethodName := ⟨"com/example/stream_tally/streamtally/SketchSaturatedProductPinLaw", "expected", "(JJ)J"⟩
theorem pn_com_example_stream_tally_streamtally_SketchSaturatedProductPinLaw : plainName "com/example/stream_tally/streamtally/SketchSaturatedProductPinLaw" = true := by first | (simp [plainName, overriddenIn]; done) | decide +kernel
abbrev c1_SketchSaturatedProductPinLaw : String := "com/example/stream_tally/streamtally/SketchSaturatedProductPinLaw"
theorem w1 {Z : State} {a0 : Array Value} (hw : ∀ d ∈ tables_1, d.before a0 Z = true) : (Jvm.Cond.methodLink "com/example/stream_tally/streamtally/SketchSaturatedProductPinLaw" (17 : Nat) ({ cls := "com/example/stream_tally/streamtally/Sketch", name := "saturatedProduct", desc := "(JJ)J" } : Jvm.MethodName)).before a0 Z = true := hw _ (List.mem_of_getElem? (i := 1) rfl)
theorem pd__JJ_J : parseMethodDescriptor "(JJ)J" = some ⟨[.long, .long], some .long⟩ := by decide +kernel
theorem w3 {Z : State} {a0 : Array Value} (hw : ∀ d ∈ tables_1, d.before a0 Z = true) : (Jvm.Cond.initialized "com/example/stream_tally/streamtally/Sketch").before a0 Z = true := hw _ (List.mem_of_getElem? (i := 3) rfl)
theorem w4 {Z : State} {a0 : Array Value} (hw : ∀ d ∈ tables_1, d.before a0 Z = true) : (Jvm.Cond.code ({ cls := "com/example/stream_tally/streamtally/Sketch", name := "saturatedProduct", desc := "(JJ)J" } : Jvm.MethodName) prog_10_method_17_code (4 : Nat) (Option.some Jvm.ClassFile.FieldType.long)).before a0 Z = true := hw _ (List.mem_of_getElem? (i := 4) rfl)
theorem w2 {Z : State} {a0 : Array Value} (hw : ∀ d ∈ tables_1, d.before a0 Z = true) : (Jvm.Cond.static ({ cls := "com/example/stream_tally/streamtally/Sketch", name := "saturatedProduct", desc := "(JJ)J" } : Jvm.MethodName)).before a0 Z = true := hw _ (List.mem_of_getElem? (i := 2) rfl)
theorem w6 {Z : State} {a0 : Array Value} (hw : ∀ d ∈ tables_1, d.before a0 Z = true) : (Jvm.Cond.methodLink "com/example/stream_tally/streamtally/SketchSaturatedProductPinLaw" (23 : Nat) ({ cls := "com/example/stream_tally/streamtally/SketchSaturatedProductPinLaw", name := "expected", desc := "(JJ)J" } : Jvm.MethodName)).before a0 Z = true := hw _ (List.mem_of_getElem? (i := 6) rfl)
theorem w8 {Z : State} {a0 : Array Value} (hw : ∀ d ∈ tables_1, d.before a0 Z = true) : (Jvm.Cond.initialized "com/example/stream_tally/streamtally/SketchSaturatedProductPinLaw").before a0 Z = true := hw _ (List.mem_of_getElem? (i := 8) rfl)
theorem w9 {Z : State} {a0 : Array Value} (hw : ∀ d ∈ tables_1, d.before a0 Z = true) : (Jvm.Cond.code ({ cls := "com/example/stream_tally/streamtally/SketchSaturatedProductPinLaw", name := "expected", desc := "(JJ)J" } : Jvm.MethodName) method_2_code (18 : Nat) (Option.some Jvm.ClassFile.FieldType.long)).before a0 Z = true := hw _ (List.mem_of_getElem? (i := 9) rfl)
theorem w7 {Z : State} {a0 : Array Value} (hw : ∀ d ∈ tables_1, d.before a0 Z = true) : (Jvm.Cond.static ({ cls := "com/example/stream_tally/streamtally/SketchSaturatedProductPinLaw", name := "expected", desc := "(JJ)J" } : Jvm.MethodName)).before a0 Z = true := hw _ (List.mem_of_getElem? (i := 7) rfl)
theorem own_mulb {x y c d : Int} (h1 : 0 ≤ x) (h2 : x ≤ c) (h3 : 0 ≤ y) (h4 : y ≤ d) : 0 ≤ x * y ∧ x * y ≤ c * d :=
  ⟨Int.mul_nonneg h1 h3, Int.mul_le_mul h2 h4 h3 (Int.le_trans h1 h2)⟩
theorem own_exp (p q r s : Int) : (4294967296 * p + q) * (4294967296 * r + s) = 18446744073709551616 * (p * r) + 4294967296 * (p * s + q * r) + q * s := by
  rw [Int.add_mul, Int.mul_add, Int.mul_add]
  have e1 : 4294967296 * p * (4294967296 * r) = 18446744073709551616 * (p * r) := by
    rw [Int.mul_assoc, Int.mul_left_comm p, ← Int.mul_assoc, show (4294967296 : Int) * 4294967296 = 18446744073709551616 from by decide]
  have e2 : 4294967296 * p * s = 4294967296 * (p * s) := Int.mul_assoc _ _ _
  have e3 : q * (4294967296 * r) = 4294967296 * (q * r) := Int.mul_left_comm _ _ _
  rw [e1, e2, e3]
  omega
def sat (n : Int) : Int := if 9223372036854775807 < n then 9223372036854775807 else n
theorem own_sp (a b : Int64) (ha : 0 ≤ a.toInt) (hb : 0 < b.toInt) : ((9223372036854775807 : Int64) / b < a → sat (a.toInt * b.toInt) = 9223372036854775807) ∧ (¬ (9223372036854775807 : Int64) / b < a → sat (a.toInt * b.toInt) = (a * b).toInt) := by
  have hb1 : b ≠ -1 := by intro q; rw [q] at hb; revert hb; decide
  have e1 : ((9223372036854775807 : Int64) / b).toInt = 9223372036854775807 / b.toInt := by
    rw [Int64.toInt_div_of_ne_right _ _ hb1, show (9223372036854775807 : Int64).toInt = 9223372036854775807 from by decide]
    exact Int.tdiv_eq_ediv_of_nonneg (by decide)
  have k := c_lmul a b
  have r := rng64 (a * b)
  rw [Int64.lt_iff_toInt_lt, e1, Int.ediv_lt_iff_lt_mul hb]
  have p0 : 0 ≤ a.toInt * b.toInt := Int.mul_nonneg ha (Int.le_of_lt hb)
  generalize a.toInt * b.toInt = n at *
  unfold sat
  constructor
  · intro h; rw [if_pos h]
  · intro h; rw [if_neg h]; omega
theorem own_ush32 (a : Int64) (ha : 0 ≤ a.toInt) : (ushL a (32 : Int32)).toInt = a.toInt / 4294967296 := by
  have h : (ushL a (32 : Int32)).toInt = (a.toInt % 18446744073709551616) / 4294967296 := c_lushr a 32 32 (by decide) (by decide)
  have r := rng64 a
  rw [h, Int.emod_eq_of_lt ha (by omega)]
theorem own_ush32' (a : Int64) : (ushL a (32 : Int32)).toInt = (a.toInt % 18446744073709551616) / 4294967296 := c_lushr a 32 32 (by decide) (by decide)
theorem own_lo32 (a : Int64) : (a &&& (4294967295 : Int64)).toInt = a.toInt % 4294967296 := c_maskL a 4294967295 32 (by decide) (by decide)
theorem own_parts (a b : Int64) (ha : 0 ≤ a.toInt) (hb : 0 ≤ b.toInt) :
    a.toInt * b.toInt = 18446744073709551616 * ((ushL a (32 : Int32)).toInt * (ushL b (32 : Int32)).toInt) + 4294967296 * ((ushL a (32 : Int32)).toInt * (b &&& (4294967295 : Int64)).toInt + (a &&& (4294967295 : Int64)).toInt * (ushL b (32 : Int32)).toInt) + (a &&& (4294967295 : Int64)).toInt * (b &&& (4294967295 : Int64)).toInt ∧
    (0 ≤ (ushL a (32 : Int32)).toInt ∧ (ushL a (32 : Int32)).toInt ≤ 2147483647) ∧ (0 ≤ (ushL b (32 : Int32)).toInt ∧ (ushL b (32 : Int32)).toInt ≤ 2147483647) ∧
    (0 ≤ (a &&& (4294967295 : Int64)).toInt ∧ (a &&& (4294967295 : Int64)).toInt ≤ 4294967295) ∧ (0 ≤ (b &&& (4294967295 : Int64)).toInt ∧ (b &&& (4294967295 : Int64)).toInt ≤ 4294967295) := by
  have r1 := rng64 a
  have r2 := rng64 b
  rw [own_ush32 a ha, own_ush32 b hb, own_lo32, own_lo32, ← own_exp]
  refine ⟨?_, by omega, by omega, by omega, by omega⟩
  rw [show 4294967296 * (a.toInt / 4294967296) + a.toInt % 4294967296 = a.toInt by omega, show 4294967296 * (b.toInt / 4294967296) + b.toInt % 4294967296 = b.toInt by omega]
theorem own_x1 (a b : Int64) (ha : 0 ≤ a.toInt) (hb : 0 ≤ b.toInt) (h1 : ¬ ushL a (32 : Int32) = 0) (h2 : ¬ ushL b (32 : Int32) = 0) : (9223372036854775807 : Int64).toInt = sat (a.toInt * b.toInt) := by
  have z0 : (0 : Int64).toInt = 0 := by decide
  have p := own_parts a b ha hb
  have n1 : ¬ (ushL a (32 : Int32)).toInt = 0 := fun q => h1 (Int64.toInt_inj.mp (q.trans z0.symm))
  have n2 : ¬ (ushL b (32 : Int32)).toInt = 0 := fun q => h2 (Int64.toInt_inj.mp (q.trans z0.symm))
  generalize (ushL a (32 : Int32)).toInt = AH at *
  generalize (ushL b (32 : Int32)).toInt = BH at *
  generalize (a &&& (4294967295 : Int64)).toInt = AL at *
  generalize (b &&& (4294967295 : Int64)).toInt = BL at *
  obtain ⟨e, hA, hB, hC, hD⟩ := p
  have m1 : 1 * 1 ≤ AH * BH := Int.mul_le_mul (by omega) (by omega) (by decide) hA.1
  have m2 := own_mulb hA.1 hA.2 hD.1 hD.2
  have m3 := own_mulb hC.1 hC.2 hB.1 hB.2
  have m4 := own_mulb hC.1 hC.2 hD.1 hD.2
  unfold sat
  rw [e, if_pos (by omega)]
  decide
theorem own_cross (a b : Int64) (ha : 0 ≤ a.toInt) (hb : 0 ≤ b.toInt) (h : ushL a (32 : Int32) = 0 ∨ ushL b (32 : Int32) = 0) :
    (((ushL a (32 : Int32)) * (b &&& (4294967295 : Int64))) + ((a &&& (4294967295 : Int64)) * (ushL b (32 : Int32)))).toInt = (ushL a (32 : Int32)).toInt * (b &&& (4294967295 : Int64)).toInt + (a &&& (4294967295 : Int64)).toInt * (ushL b (32 : Int32)).toInt ∧ (ushL a (32 : Int32)).toInt * (ushL b (32 : Int32)).toInt = 0 := by
  have z0 : (0 : Int64).toInt = 0 := by decide
  have p := own_parts a b ha hb
  have k1 := c_lmul (ushL a (32 : Int32)) (b &&& (4294967295 : Int64))
  have k2 := c_lmul (a &&& (4294967295 : Int64)) (ushL b (32 : Int32))
  have k3 := c_ladd ((ushL a (32 : Int32)) * (b &&& (4294967295 : Int64))) ((a &&& (4294967295 : Int64)) * (ushL b (32 : Int32)))
  have r1 := rng64 ((ushL a (32 : Int32)) * (b &&& (4294967295 : Int64)))
  have r2 := rng64 ((a &&& (4294967295 : Int64)) * (ushL b (32 : Int32)))
  have r3 := rng64 (((ushL a (32 : Int32)) * (b &&& (4294967295 : Int64))) + ((a &&& (4294967295 : Int64)) * (ushL b (32 : Int32))))
  have hz : (ushL a (32 : Int32)).toInt = 0 ∨ (ushL b (32 : Int32)).toInt = 0 := by rcases h with h | h <;> rw [h] <;> simp [z0]
  generalize (((ushL a (32 : Int32)) * (b &&& (4294967295 : Int64))) + ((a &&& (4294967295 : Int64)) * (ushL b (32 : Int32)))).toInt = T1 at *
  generalize ((ushL a (32 : Int32)) * (b &&& (4294967295 : Int64))).toInt = T2 at *
  generalize ((a &&& (4294967295 : Int64)) * (ushL b (32 : Int32))).toInt = T3 at *
  generalize (ushL a (32 : Int32)).toInt = AH at *
  generalize (ushL b (32 : Int32)).toInt = BH at *
  generalize (a &&& (4294967295 : Int64)).toInt = AL at *
  generalize (b &&& (4294967295 : Int64)).toInt = BL at *
  obtain ⟨e, hA, hB, hC, hD⟩ := p
  have m2 := own_mulb hA.1 hA.2 hD.1 hD.2
  have m3 := own_mulb hC.1 hC.2 hB.1 hB.2
  rcases hz with rfl | rfl
  · simp only [Int.zero_mul] at *; refine ⟨?_, trivial⟩; omega
  · simp only [Int.mul_zero] at *; refine ⟨?_, trivial⟩; omega
theorem own_x2 (a b : Int64) (ha : 0 ≤ a.toInt) (hb : 0 ≤ b.toInt) (h : ushL a (32 : Int32) = 0 ∨ ushL b (32 : Int32) = 0) (hc : ¬ (((ushL a (32 : Int32)) * (b &&& (4294967295 : Int64))) + ((a &&& (4294967295 : Int64)) * (ushL b (32 : Int32)))) < (2147483648 : Int64)) : (9223372036854775807 : Int64).toInt = sat (a.toInt * b.toInt) := by
  have p := own_parts a b ha hb
  have cr := own_cross a b ha hb h
  rw [Int64.lt_iff_toInt_lt, cr.1, show (2147483648 : Int64).toInt = 2147483648 from by decide] at hc
  generalize (ushL a (32 : Int32)).toInt = AH at *
  generalize (ushL b (32 : Int32)).toInt = BH at *
  generalize (a &&& (4294967295 : Int64)).toInt = AL at *
  generalize (b &&& (4294967295 : Int64)).toInt = BL at *
  obtain ⟨e, hA, hB, hC, hD⟩ := p
  have m4 := own_mulb hC.1 hC.2 hD.1 hD.2
  unfold sat
  rw [e, cr.2, if_pos (by omega)]
  decide
theorem own_lowhi (a b : Int64) (ha : 0 ≤ a.toInt) (hb : 0 ≤ b.toInt) : (ushL ((a &&& (4294967295 : Int64)) * (b &&& (4294967295 : Int64))) (32 : Int32)).toInt = ((a &&& (4294967295 : Int64)).toInt * (b &&& (4294967295 : Int64)).toInt) / 4294967296 ∧ (((a &&& (4294967295 : Int64)) * (b &&& (4294967295 : Int64))) &&& (4294967295 : Int64)).toInt = ((a &&& (4294967295 : Int64)).toInt * (b &&& (4294967295 : Int64)).toInt) % 4294967296 ∧ 0 ≤ (a &&& (4294967295 : Int64)).toInt * (b &&& (4294967295 : Int64)).toInt ∧ (a &&& (4294967295 : Int64)).toInt * (b &&& (4294967295 : Int64)).toInt < 18446744073709551616 := by
  have p := own_parts a b ha hb
  have k1 := c_lmul (a &&& (4294967295 : Int64)) (b &&& (4294967295 : Int64))
  rw [own_ush32', own_lo32 ((a &&& (4294967295 : Int64)) * (b &&& (4294967295 : Int64)))]
  generalize ((a &&& (4294967295 : Int64)) * (b &&& (4294967295 : Int64))).toInt = L1 at *
  generalize (a &&& (4294967295 : Int64)).toInt = AL at *
  generalize (b &&& (4294967295 : Int64)).toInt = BL at *
  obtain ⟨-, -, -, hC, hD⟩ := p
  have m4 := own_mulb hC.1 hC.2 hD.1 hD.2
  generalize AL * BL = V at *
  refine ⟨?_, ?_, by omega, by omega⟩
  · congr 1; omega
  · omega
theorem own_hi (a b : Int64) (ha : 0 ≤ a.toInt) (hb : 0 ≤ b.toInt) (h : ushL a (32 : Int32) = 0 ∨ ushL b (32 : Int32) = 0) (hc : (((ushL a (32 : Int32)) * (b &&& (4294967295 : Int64))) + ((a &&& (4294967295 : Int64)) * (ushL b (32 : Int32)))) < (2147483648 : Int64)) : ((((ushL a (32 : Int32)) * (b &&& (4294967295 : Int64))) + ((a &&& (4294967295 : Int64)) * (ushL b (32 : Int32)))) + (ushL ((a &&& (4294967295 : Int64)) * (b &&& (4294967295 : Int64))) (32 : Int32))).toInt = (((ushL a (32 : Int32)) * (b &&& (4294967295 : Int64))) + ((a &&& (4294967295 : Int64)) * (ushL b (32 : Int32)))).toInt + ((a &&& (4294967295 : Int64)).toInt * (b &&& (4294967295 : Int64)).toInt) / 4294967296 ∧ 0 ≤ (((ushL a (32 : Int32)) * (b &&& (4294967295 : Int64))) + ((a &&& (4294967295 : Int64)) * (ushL b (32 : Int32)))).toInt ∧ (((ushL a (32 : Int32)) * (b &&& (4294967295 : Int64))) + ((a &&& (4294967295 : Int64)) * (ushL b (32 : Int32)))).toInt < 2147483648 := by
  have lh := own_lowhi a b ha hb
  have p := own_parts a b ha hb
  have cr := own_cross a b ha hb h
  have k := c_ladd (((ushL a (32 : Int32)) * (b &&& (4294967295 : Int64))) + ((a &&& (4294967295 : Int64)) * (ushL b (32 : Int32)))) (ushL ((a &&& (4294967295 : Int64)) * (b &&& (4294967295 : Int64))) (32 : Int32))
  have r := rng64 ((((ushL a (32 : Int32)) * (b &&& (4294967295 : Int64))) + ((a &&& (4294967295 : Int64)) * (ushL b (32 : Int32)))) + (ushL ((a &&& (4294967295 : Int64)) * (b &&& (4294967295 : Int64))) (32 : Int32)))
  rw [Int64.lt_iff_toInt_lt, show (2147483648 : Int64).toInt = 2147483648 from by decide] at hc
  rw [lh.1] at k
  obtain ⟨-, -, l3, l4⟩ := lh
  have c0 : 0 ≤ (((ushL a (32 : Int32)) * (b &&& (4294967295 : Int64))) + ((a &&& (4294967295 : Int64)) * (ushL b (32 : Int32)))).toInt := by
    rw [cr.1]
    obtain ⟨-, hA, hB, hC, hD⟩ := p
    have := Int.mul_nonneg hA.1 hD.1
    have := Int.mul_nonneg hC.1 hB.1
    omega
  generalize ((((ushL a (32 : Int32)) * (b &&& (4294967295 : Int64))) + ((a &&& (4294967295 : Int64)) * (ushL b (32 : Int32)))) + (ushL ((a &&& (4294967295 : Int64)) * (b &&& (4294967295 : Int64))) (32 : Int32))).toInt = H1 at *
  generalize (((ushL a (32 : Int32)) * (b &&& (4294967295 : Int64))) + ((a &&& (4294967295 : Int64)) * (ushL b (32 : Int32)))).toInt = C1 at *
  generalize (a &&& (4294967295 : Int64)).toInt * (b &&& (4294967295 : Int64)).toInt = V at *
  refine ⟨by omega, c0, hc⟩
theorem own_x3 (a b : Int64) (ha : 0 ≤ a.toInt) (hb : 0 ≤ b.toInt) (h : ushL a (32 : Int32) = 0 ∨ ushL b (32 : Int32) = 0) (hc : (((ushL a (32 : Int32)) * (b &&& (4294967295 : Int64))) + ((a &&& (4294967295 : Int64)) * (ushL b (32 : Int32)))) < (2147483648 : Int64)) (hh : ¬ ((((ushL a (32 : Int32)) * (b &&& (4294967295 : Int64))) + ((a &&& (4294967295 : Int64)) * (ushL b (32 : Int32)))) + (ushL ((a &&& (4294967295 : Int64)) * (b &&& (4294967295 : Int64))) (32 : Int32))) < (2147483648 : Int64)) : (9223372036854775807 : Int64).toInt = sat (a.toInt * b.toInt) := by
  have q := own_hi a b ha hb h hc
  have lh := own_lowhi a b ha hb
  have p := own_parts a b ha hb
  have cr := own_cross a b ha hb h
  rw [Int64.lt_iff_toInt_lt, q.1, show (2147483648 : Int64).toInt = 2147483648 from by decide] at hh
  rw [cr.1] at hh q
  unfold sat
  rw [p.1, cr.2]
  generalize (ushL a (32 : Int32)).toInt * (b &&& (4294967295 : Int64)).toInt + (a &&& (4294967295 : Int64)).toInt * (ushL b (32 : Int32)).toInt = C1 at *
  generalize (a &&& (4294967295 : Int64)).toInt * (b &&& (4294967295 : Int64)).toInt = V at *
  rw [if_pos (by omega)]
  decide
theorem own_x4 (a b : Int64) (ha : 0 ≤ a.toInt) (hb : 0 ≤ b.toInt) (h : ushL a (32 : Int32) = 0 ∨ ushL b (32 : Int32) = 0) (hc : (((ushL a (32 : Int32)) * (b &&& (4294967295 : Int64))) + ((a &&& (4294967295 : Int64)) * (ushL b (32 : Int32)))) < (2147483648 : Int64)) (hh : ((((ushL a (32 : Int32)) * (b &&& (4294967295 : Int64))) + ((a &&& (4294967295 : Int64)) * (ushL b (32 : Int32)))) + (ushL ((a &&& (4294967295 : Int64)) * (b &&& (4294967295 : Int64))) (32 : Int32))) < (2147483648 : Int64)) : ((((((ushL a (32 : Int32)) * (b &&& (4294967295 : Int64))) + ((a &&& (4294967295 : Int64)) * (ushL b (32 : Int32)))) + (ushL ((a &&& (4294967295 : Int64)) * (b &&& (4294967295 : Int64))) (32 : Int32))) <<< ((32 : Int32) &&& 63).toInt64) ||| (((a &&& (4294967295 : Int64)) * (b &&& (4294967295 : Int64))) &&& (4294967295 : Int64))).toInt = sat (a.toInt * b.toInt) := by
  have q := own_hi a b ha hb h hc
  have lh := own_lowhi a b ha hb
  have p := own_parts a b ha hb
  have cr := own_cross a b ha hb h
  rw [Int64.lt_iff_toInt_lt, show (2147483648 : Int64).toInt = 2147483648 from by decide] at hh
  have s1 := c_lshl ((((ushL a (32 : Int32)) * (b &&& (4294967295 : Int64))) + ((a &&& (4294967295 : Int64)) * (ushL b (32 : Int32)))) + (ushL ((a &&& (4294967295 : Int64)) * (b &&& (4294967295 : Int64))) (32 : Int32))) 32 32 (by decide)
  have s2 := rng64 (((((ushL a (32 : Int32)) * (b &&& (4294967295 : Int64))) + ((a &&& (4294967295 : Int64)) * (ushL b (32 : Int32)))) + (ushL ((a &&& (4294967295 : Int64)) * (b &&& (4294967295 : Int64))) (32 : Int32))) <<< ((32 : Int32) &&& 63).toInt64)
  have s3 := c_orL (((((ushL a (32 : Int32)) * (b &&& (4294967295 : Int64))) + ((a &&& (4294967295 : Int64)) * (ushL b (32 : Int32)))) + (ushL ((a &&& (4294967295 : Int64)) * (b &&& (4294967295 : Int64))) (32 : Int32))) <<< ((32 : Int32) &&& 63).toInt64) (((a &&& (4294967295 : Int64)) * (b &&& (4294967295 : Int64))) &&& (4294967295 : Int64)) 32 (by decide) 4294967296 (by decide)
  have s4 := rng64 ((((((ushL a (32 : Int32)) * (b &&& (4294967295 : Int64))) + ((a &&& (4294967295 : Int64)) * (ushL b (32 : Int32)))) + (ushL ((a &&& (4294967295 : Int64)) * (b &&& (4294967295 : Int64))) (32 : Int32))) <<< ((32 : Int32) &&& 63).toInt64) ||| (((a &&& (4294967295 : Int64)) * (b &&& (4294967295 : Int64))) &&& (4294967295 : Int64)))
  rw [show ((2 ^ 32 : Nat) : Int) = 4294967296 from by decide] at s1
  rw [lh.2.1] at s3
  unfold sat
  rw [p.1, cr.2]
  rw [cr.1] at q
  generalize ((((((ushL a (32 : Int32)) * (b &&& (4294967295 : Int64))) + ((a &&& (4294967295 : Int64)) * (ushL b (32 : Int32)))) + (ushL ((a &&& (4294967295 : Int64)) * (b &&& (4294967295 : Int64))) (32 : Int32))) <<< ((32 : Int32) &&& 63).toInt64) ||| (((a &&& (4294967295 : Int64)) * (b &&& (4294967295 : Int64))) &&& (4294967295 : Int64))).toInt = R at *
  have s1' : ((((((ushL a (32 : Int32)) * (b &&& (4294967295 : Int64))) + ((a &&& (4294967295 : Int64)) * (ushL b (32 : Int32)))) + (ushL ((a &&& (4294967295 : Int64)) * (b &&& (4294967295 : Int64))) (32 : Int32))) <<< ((32 : Int32) &&& 63).toInt64).toInt - ((((ushL a (32 : Int32)) * (b &&& (4294967295 : Int64))) + ((a &&& (4294967295 : Int64)) * (ushL b (32 : Int32)))) + (ushL ((a &&& (4294967295 : Int64)) * (b &&& (4294967295 : Int64))) (32 : Int32))).toInt * 4294967296) % 18446744073709551616 = 0 := s1
  clear s1
  generalize (((((ushL a (32 : Int32)) * (b &&& (4294967295 : Int64))) + ((a &&& (4294967295 : Int64)) * (ushL b (32 : Int32)))) + (ushL ((a &&& (4294967295 : Int64)) * (b &&& (4294967295 : Int64))) (32 : Int32))) <<< ((32 : Int32) &&& 63).toInt64).toInt = S at *
  generalize ((((ushL a (32 : Int32)) * (b &&& (4294967295 : Int64))) + ((a &&& (4294967295 : Int64)) * (ushL b (32 : Int32)))) + (ushL ((a &&& (4294967295 : Int64)) * (b &&& (4294967295 : Int64))) (32 : Int32))).toInt = H1 at *
  generalize (ushL a (32 : Int32)).toInt * (b &&& (4294967295 : Int64)).toInt + (a &&& (4294967295 : Int64)).toInt * (ushL b (32 : Int32)).toInt = C1 at *
  obtain ⟨-, -, l3, l4⟩ := lh
  generalize (a &&& (4294967295 : Int64)).toInt * (b &&& (4294967295 : Int64)).toInt = V at *
  have s5 : S = H1 * 4294967296 := by omega
  have s6 := s3 (by omega) (by omega) (by omega)
  rw [if_neg (by omega)]
  omega
set_option maxRecDepth 65536 in
set_option maxHeartbeats 40000000 in
theorem satp (l : Launch) (Z : State) (a0 : Array Value) (hw : ∀ d ∈ tables_1, d.before a0 Z = true) (n0 : Nat) (h0 : Heap) (Z0 : n0 ≤ h0.size) (a b : Int64) (hb0 : b ≠ 0) :
    Met l Z n0 y0_saturatedProduct prog_10_method_17_code 4 (Option.some Jvm.ClassFile.FieldType.long) ({ frames := 0, cells := 0, slots := 0, locals := 0 } : Room) #[(.long a), (.long b)] h0 (fun v h => ∃ z : Int64, v = some (.long z) ∧ h = h0 ∧ (0 ≤ a.toInt → 0 < b.toInt → z.toInt = sat (a.toInt * b.toInt))) := by
  refine met_intro (own := c0_Sketch) (plainFor_of_name pn_com_example_stream_tally_streamtally_Sketch) rfl Z0 ?_
  intro p e s m below meth c T A hnm
  refine Wp.cast (g' := mkF m 0 #[jv a, S2, jv b, S2] []) (by first | (simp [entryFrame, mkF, argsToLocals, Value.category, maxLocals, jv, S2, U0, iv, rv]; done) | rfl) ?_
  refine s_lloadN (pc' := 1) A d1_0 rfl rfl ?_
  refine s_ldc2Long (pc' := 4) A d1_1 rfl (w5 hw) ?_
  refine s_lloadN (pc' := 5) A d1_4 rfl rfl ?_
  refine s_ldiv (pc' := 6) (z := ((9223372036854775807 : Int64) / b)) A d1_5 rfl hb0 rfl ?_
  refine s_lcmp (pc' := 7) A d1_6 rfl ?_
  by_cases hc7_1 : ((9223372036854775807 : Int64) / b) < a
  ·
   refine s_ifN (pc' := 10) A d1_7 rfl ((if0 _ _).trans (tlt ((lw_gt a ((9223372036854775807 : Int64) / b)).2 hc7_1)).2.2.2) ?_
   refine s_ldc2Long (pc' := 13) A d1_10 rfl (w5 hw) ?_
   refine s_goto (pc' := 19) A d1_13 (by decide) (by decide) ?_
   exact r_long A rfl d1_19 (by decide) (by decide) (⟨_, rfl, rfl, fun ha hb => ((own_sp a b ha hb).1 hc7_1).symm⟩)
  ·
   refine s_ifY (pc' := 16) A d1_7 ((if0 _ _).trans (flt (fun q => hc7_1 ((lw_gt a ((9223372036854775807 : Int64) / b)).1 q))).2.2.2) (by decide) (by decide) ?_
   refine s_lloadN (pc' := 17) A d1_16 rfl rfl ?_
   refine s_lloadN (pc' := 18) A d1_17 rfl rfl ?_
   refine s_lmul (pc' := 19) (z := (a * b)) A d1_18 rfl rfl ?_
   exact r_long A rfl d1_19 (by decide) (by decide) (⟨_, rfl, rfl, fun ha hb => ((own_sp a b ha hb).2 hc7_1).symm⟩)
set_option maxRecDepth 65536 in
set_option maxHeartbeats 40000000 in
theorem expd (l : Launch) (Z : State) (a0 : Array Value) (hw : ∀ d ∈ tables_1, d.before a0 Z = true) (n0 : Nat) (h0 : Heap) (Z0 : n0 ≤ h0.size) (a b : Int64)  :
    Met l Z n0 y1_expected method_2_code 18 (Option.some Jvm.ClassFile.FieldType.long) ({ frames := 0, cells := 0, slots := 0, locals := 0 } : Room) #[(.long a), (.long b)] h0 (fun v h => ∃ z : Int64, v = some (.long z) ∧ h = h0 ∧ (0 ≤ a.toInt → 0 < b.toInt → z.toInt = sat (a.toInt * b.toInt))) := by
  refine met_intro (own := c1_SketchSaturatedProductPinLaw) (plainFor_of_name pn_com_example_stream_tally_streamtally_SketchSaturatedProductPinLaw) rfl Z0 ?_
  intro p e s m below meth c T A hnm
  refine Wp.cast (g' := mkF m 0 #[jv a, S2, jv b, S2, U0, U0, U0, U0, U0, U0, U0, U0, U0, U0, U0, U0, U0, U0] []) (by first | (simp [entryFrame, mkF, argsToLocals, Value.category, maxLocals, jv, S2, U0, iv, rv]; done) | rfl) ?_
  refine s_lloadN (pc' := 1) A d2_0 rfl rfl ?_
  refine s_bipush (pc' := 3) (z := (32 : Int32)) A d2_1 rfl (by decide) ?_
  refine s_lushr (pc' := 4) (z := (ushL a (32 : Int32))) A d2_3 rfl rfl ?_
  refine s_lstore (pc' := 6) (Ls' := #[jv a, S2, jv b, S2, jv (ushL a (32 : Int32)), S2, U0, U0, U0, U0, U0, U0, U0, U0, U0, U0, U0, U0]) A d2_4 rfl rfl ?_
  refine s_lloadN (pc' := 7) A d2_6 rfl rfl ?_
  refine s_ldc2Long (pc' := 10) A d2_7 rfl (w10 hw) ?_
  refine s_land (pc' := 11) (z := (a &&& (4294967295 : Int64))) A d2_10 rfl rfl ?_
  refine s_lstore (pc' := 13) (Ls' := #[jv a, S2, jv b, S2, jv (ushL a (32 : Int32)), S2, jv (a &&& (4294967295 : Int64)), S2, U0, U0, U0, U0, U0, U0, U0, U0, U0, U0]) A d2_11 rfl rfl ?_
  refine s_lloadN (pc' := 14) A d2_13 rfl rfl ?_
  refine s_bipush (pc' := 16) (z := (32 : Int32)) A d2_14 rfl (by decide) ?_
  refine s_lushr (pc' := 17) (z := (ushL b (32 : Int32))) A d2_16 rfl rfl ?_
  refine s_lstore (pc' := 19) (Ls' := #[jv a, S2, jv b, S2, jv (ushL a (32 : Int32)), S2, jv (a &&& (4294967295 : Int64)), S2, jv (ushL b (32 : Int32)), S2, U0, U0, U0, U0, U0, U0, U0, U0]) A d2_17 rfl rfl ?_
  refine s_lloadN (pc' := 20) A d2_19 rfl rfl ?_
  refine s_ldc2Long (pc' := 23) A d2_20 rfl (w10 hw) ?_
  refine s_land (pc' := 24) (z := (b &&& (4294967295 : Int64))) A d2_23 rfl rfl ?_
  refine s_lstore (pc' := 26) (Ls' := #[jv a, S2, jv b, S2, jv (ushL a (32 : Int32)), S2, jv (a &&& (4294967295 : Int64)), S2, jv (ushL b (32 : Int32)), S2, jv (b &&& (4294967295 : Int64)), S2, U0, U0, U0, U0, U0, U0]) A d2_24 rfl rfl ?_
  refine s_lload (pc' := 28) A d2_26 rfl rfl ?_
  refine s_lconst (pc' := 29) (z := (0 : Int64)) A d2_28 rfl (by decide) ?_
  refine s_lcmp (pc' := 30) A d2_29 rfl ?_
  by_cases hc30_1 : (ushL a (32 : Int32)) = (0 : Int64)
  ·
   refine s_ifY (pc' := 44) A d2_30 ((if0 _ _).trans (teq ((lw_eq (ushL a (32 : Int32)) (0 : Int64)).2 hc30_1)).1) (by decide) (by decide) ?_
   refine s_lload (pc' := 46) A d2_44 rfl rfl ?_
   refine s_lload (pc' := 48) A d2_46 rfl rfl ?_
   refine s_lmul (pc' := 49) (z := ((ushL a (32 : Int32)) * (b &&& (4294967295 : Int64)))) A d2_48 rfl rfl ?_
   refine s_lload (pc' := 51) A d2_49 rfl rfl ?_
   refine s_lload (pc' := 53) A d2_51 rfl rfl ?_
   refine s_lmul (pc' := 54) (z := ((a &&& (4294967295 : Int64)) * (ushL b (32 : Int32)))) A d2_53 rfl rfl ?_
   refine s_ladd (pc' := 55) (z := (((ushL a (32 : Int32)) * (b &&& (4294967295 : Int64))) + ((a &&& (4294967295 : Int64)) * (ushL b (32 : Int32))))) A d2_54 rfl rfl ?_
   refine s_lstore (pc' := 57) (Ls' := #[jv a, S2, jv b, S2, jv (ushL a (32 : Int32)), S2, jv (a &&& (4294967295 : Int64)), S2, jv (ushL b (32 : Int32)), S2, jv (b &&& (4294967295 : Int64)), S2, jv (((ushL a (32 : Int32)) * (b &&& (4294967295 : Int64))) + ((a &&& (4294967295 : Int64)) * (ushL b (32 : Int32)))), S2, U0, U0, U0, U0]) A d2_55 rfl rfl ?_
   refine s_lload (pc' := 59) A d2_57 rfl rfl ?_
   refine s_ldc2Long (pc' := 62) A d2_59 rfl (w11 hw) ?_
   refine s_lcmp (pc' := 63) A d2_62 rfl ?_
   by_cases hc63_1 : (((ushL a (32 : Int32)) * (b &&& (4294967295 : Int64))) + ((a &&& (4294967295 : Int64)) * (ushL b (32 : Int32)))) < (2147483648 : Int64)
   ·
    refine s_ifY (pc' := 70) A d2_63 ((if0 _ _).trans (tlt ((lw_lt (((ushL a (32 : Int32)) * (b &&& (4294967295 : Int64))) + ((a &&& (4294967295 : Int64)) * (ushL b (32 : Int32)))) (2147483648 : Int64)).2 hc63_1)).1) (by decide) (by decide) ?_
    refine s_lload (pc' := 72) A d2_70 rfl rfl ?_
    refine s_lload (pc' := 74) A d2_72 rfl rfl ?_
    refine s_lmul (pc' := 75) (z := ((a &&& (4294967295 : Int64)) * (b &&& (4294967295 : Int64)))) A d2_74 rfl rfl ?_
    refine s_lstore (pc' := 77) (Ls' := #[jv a, S2, jv b, S2, jv (ushL a (32 : Int32)), S2, jv (a &&& (4294967295 : Int64)), S2, jv (ushL b (32 : Int32)), S2, jv (b &&& (4294967295 : Int64)), S2, jv (((ushL a (32 : Int32)) * (b &&& (4294967295 : Int64))) + ((a &&& (4294967295 : Int64)) * (ushL b (32 : Int32)))), S2, jv ((a &&& (4294967295 : Int64)) * (b &&& (4294967295 : Int64))), S2, U0, U0]) A d2_75 rfl rfl ?_
    refine s_lload (pc' := 79) A d2_77 rfl rfl ?_
    refine s_lload (pc' := 81) A d2_79 rfl rfl ?_
    refine s_bipush (pc' := 83) (z := (32 : Int32)) A d2_81 rfl (by decide) ?_
    refine s_lushr (pc' := 84) (z := (ushL ((a &&& (4294967295 : Int64)) * (b &&& (4294967295 : Int64))) (32 : Int32))) A d2_83 rfl rfl ?_
    refine s_ladd (pc' := 85) (z := ((((ushL a (32 : Int32)) * (b &&& (4294967295 : Int64))) + ((a &&& (4294967295 : Int64)) * (ushL b (32 : Int32)))) + (ushL ((a &&& (4294967295 : Int64)) * (b &&& (4294967295 : Int64))) (32 : Int32)))) A d2_84 rfl rfl ?_
    refine s_lstore (pc' := 87) (Ls' := #[jv a, S2, jv b, S2, jv (ushL a (32 : Int32)), S2, jv (a &&& (4294967295 : Int64)), S2, jv (ushL b (32 : Int32)), S2, jv (b &&& (4294967295 : Int64)), S2, jv (((ushL a (32 : Int32)) * (b &&& (4294967295 : Int64))) + ((a &&& (4294967295 : Int64)) * (ushL b (32 : Int32)))), S2, jv ((a &&& (4294967295 : Int64)) * (b &&& (4294967295 : Int64))), S2, jv ((((ushL a (32 : Int32)) * (b &&& (4294967295 : Int64))) + ((a &&& (4294967295 : Int64)) * (ushL b (32 : Int32)))) + (ushL ((a &&& (4294967295 : Int64)) * (b &&& (4294967295 : Int64))) (32 : Int32))), S2]) A d2_85 rfl rfl ?_
    refine s_lload (pc' := 89) A d2_87 rfl rfl ?_
    refine s_ldc2Long (pc' := 92) A d2_89 rfl (w11 hw) ?_
    refine s_lcmp (pc' := 93) A d2_92 rfl ?_
    by_cases hc93_1 : ((((ushL a (32 : Int32)) * (b &&& (4294967295 : Int64))) + ((a &&& (4294967295 : Int64)) * (ushL b (32 : Int32)))) + (ushL ((a &&& (4294967295 : Int64)) * (b &&& (4294967295 : Int64))) (32 : Int32))) < (2147483648 : Int64)
    ·
     refine s_ifY (pc' := 100) A d2_93 ((if0 _ _).trans (tlt ((lw_lt ((((ushL a (32 : Int32)) * (b &&& (4294967295 : Int64))) + ((a &&& (4294967295 : Int64)) * (ushL b (32 : Int32)))) + (ushL ((a &&& (4294967295 : Int64)) * (b &&& (4294967295 : Int64))) (32 : Int32))) (2147483648 : Int64)).2 hc93_1)).1) (by decide) (by decide) ?_
     refine s_lload (pc' := 102) A d2_100 rfl rfl ?_
     refine s_bipush (pc' := 104) (z := (32 : Int32)) A d2_102 rfl (by decide) ?_
     refine s_lshl (pc' := 105) (z := (((((ushL a (32 : Int32)) * (b &&& (4294967295 : Int64))) + ((a &&& (4294967295 : Int64)) * (ushL b (32 : Int32)))) + (ushL ((a &&& (4294967295 : Int64)) * (b &&& (4294967295 : Int64))) (32 : Int32))) <<< ((32 : Int32) &&& 63).toInt64)) A d2_104 rfl rfl ?_
     refine s_lload (pc' := 107) A d2_105 rfl rfl ?_
     refine s_ldc2Long (pc' := 110) A d2_107 rfl (w10 hw) ?_
     refine s_land (pc' := 111) (z := (((a &&& (4294967295 : Int64)) * (b &&& (4294967295 : Int64))) &&& (4294967295 : Int64))) A d2_110 rfl rfl ?_
     refine s_lor (pc' := 112) (z := ((((((ushL a (32 : Int32)) * (b &&& (4294967295 : Int64))) + ((a &&& (4294967295 : Int64)) * (ushL b (32 : Int32)))) + (ushL ((a &&& (4294967295 : Int64)) * (b &&& (4294967295 : Int64))) (32 : Int32))) <<< ((32 : Int32) &&& 63).toInt64) ||| (((a &&& (4294967295 : Int64)) * (b &&& (4294967295 : Int64))) &&& (4294967295 : Int64)))) A d2_111 rfl rfl ?_
     exact r_long A rfl d2_112 (by decide) (by decide) (⟨_, rfl, rfl, fun ha hb => own_x4 a b ha (Int.le_of_lt hb) (Or.inl hc30_1) hc63_1 hc93_1⟩)
    ·
     refine s_ifN (pc' := 96) A d2_93 rfl ((if0 _ _).trans (flt (fun q => hc93_1 ((lw_lt ((((ushL a (32 : Int32)) * (b &&& (4294967295 : Int64))) + ((a &&& (4294967295 : Int64)) * (ushL b (32 : Int32)))) + (ushL ((a &&& (4294967295 : Int64)) * (b &&& (4294967295 : Int64))) (32 : Int32))) (2147483648 : Int64)).1 q))).1) ?_
     refine s_ldc2Long (pc' := 99) A d2_96 rfl (w0 hw) ?_
     exact r_long A rfl d2_99 (by decide) (by decide) (⟨_, rfl, rfl, fun ha hb => own_x3 a b ha (Int.le_of_lt hb) (Or.inl hc30_1) hc63_1 hc93_1⟩)
   ·
    refine s_ifN (pc' := 66) A d2_63 rfl ((if0 _ _).trans (flt (fun q => hc63_1 ((lw_lt (((ushL a (32 : Int32)) * (b &&& (4294967295 : Int64))) + ((a &&& (4294967295 : Int64)) * (ushL b (32 : Int32)))) (2147483648 : Int64)).1 q))).1) ?_
    refine s_ldc2Long (pc' := 69) A d2_66 rfl (w0 hw) ?_
    exact r_long A rfl d2_69 (by decide) (by decide) (⟨_, rfl, rfl, fun ha hb => own_x2 a b ha (Int.le_of_lt hb) (Or.inl hc30_1) hc63_1⟩)
  ·
   refine s_ifN (pc' := 33) A d2_30 rfl ((if0 _ _).trans (feq (fun q => hc30_1 ((lw_eq (ushL a (32 : Int32)) (0 : Int64)).1 q))).1) ?_
   refine s_lload (pc' := 35) A d2_33 rfl rfl ?_
   refine s_lconst (pc' := 36) (z := (0 : Int64)) A d2_35 rfl (by decide) ?_
   refine s_lcmp (pc' := 37) A d2_36 rfl ?_
   by_cases hc37_1 : (ushL b (32 : Int32)) = (0 : Int64)
   ·
    refine s_ifY (pc' := 44) A d2_37 ((if0 _ _).trans (teq ((lw_eq (ushL b (32 : Int32)) (0 : Int64)).2 hc37_1)).1) (by decide) (by decide) ?_
    refine s_lload (pc' := 46) A d2_44 rfl rfl ?_
    refine s_lload (pc' := 48) A d2_46 rfl rfl ?_
    refine s_lmul (pc' := 49) (z := ((ushL a (32 : Int32)) * (b &&& (4294967295 : Int64)))) A d2_48 rfl rfl ?_
    refine s_lload (pc' := 51) A d2_49 rfl rfl ?_
    refine s_lload (pc' := 53) A d2_51 rfl rfl ?_
    refine s_lmul (pc' := 54) (z := ((a &&& (4294967295 : Int64)) * (ushL b (32 : Int32)))) A d2_53 rfl rfl ?_
    refine s_ladd (pc' := 55) (z := (((ushL a (32 : Int32)) * (b &&& (4294967295 : Int64))) + ((a &&& (4294967295 : Int64)) * (ushL b (32 : Int32))))) A d2_54 rfl rfl ?_
    refine s_lstore (pc' := 57) (Ls' := #[jv a, S2, jv b, S2, jv (ushL a (32 : Int32)), S2, jv (a &&& (4294967295 : Int64)), S2, jv (ushL b (32 : Int32)), S2, jv (b &&& (4294967295 : Int64)), S2, jv (((ushL a (32 : Int32)) * (b &&& (4294967295 : Int64))) + ((a &&& (4294967295 : Int64)) * (ushL b (32 : Int32)))), S2, U0, U0, U0, U0]) A d2_55 rfl rfl ?_
    refine s_lload (pc' := 59) A d2_57 rfl rfl ?_
    refine s_ldc2Long (pc' := 62) A d2_59 rfl (w11 hw) ?_
    refine s_lcmp (pc' := 63) A d2_62 rfl ?_
    by_cases hc63_1 : (((ushL a (32 : Int32)) * (b &&& (4294967295 : Int64))) + ((a &&& (4294967295 : Int64)) * (ushL b (32 : Int32)))) < (2147483648 : Int64)
    ·
     refine s_ifY (pc' := 70) A d2_63 ((if0 _ _).trans (tlt ((lw_lt (((ushL a (32 : Int32)) * (b &&& (4294967295 : Int64))) + ((a &&& (4294967295 : Int64)) * (ushL b (32 : Int32)))) (2147483648 : Int64)).2 hc63_1)).1) (by decide) (by decide) ?_
     refine s_lload (pc' := 72) A d2_70 rfl rfl ?_
     refine s_lload (pc' := 74) A d2_72 rfl rfl ?_
     refine s_lmul (pc' := 75) (z := ((a &&& (4294967295 : Int64)) * (b &&& (4294967295 : Int64)))) A d2_74 rfl rfl ?_
     refine s_lstore (pc' := 77) (Ls' := #[jv a, S2, jv b, S2, jv (ushL a (32 : Int32)), S2, jv (a &&& (4294967295 : Int64)), S2, jv (ushL b (32 : Int32)), S2, jv (b &&& (4294967295 : Int64)), S2, jv (((ushL a (32 : Int32)) * (b &&& (4294967295 : Int64))) + ((a &&& (4294967295 : Int64)) * (ushL b (32 : Int32)))), S2, jv ((a &&& (4294967295 : Int64)) * (b &&& (4294967295 : Int64))), S2, U0, U0]) A d2_75 rfl rfl ?_
     refine s_lload (pc' := 79) A d2_77 rfl rfl ?_
     refine s_lload (pc' := 81) A d2_79 rfl rfl ?_
     refine s_bipush (pc' := 83) (z := (32 : Int32)) A d2_81 rfl (by decide) ?_
     refine s_lushr (pc' := 84) (z := (ushL ((a &&& (4294967295 : Int64)) * (b &&& (4294967295 : Int64))) (32 : Int32))) A d2_83 rfl rfl ?_
     refine s_ladd (pc' := 85) (z := ((((ushL a (32 : Int32)) * (b &&& (4294967295 : Int64))) + ((a &&& (4294967295 : Int64)) * (ushL b (32 : Int32)))) + (ushL ((a &&& (4294967295 : Int64)) * (b &&& (4294967295 : Int64))) (32 : Int32)))) A d2_84 rfl rfl ?_
     refine s_lstore (pc' := 87) (Ls' := #[jv a, S2, jv b, S2, jv (ushL a (32 : Int32)), S2, jv (a &&& (4294967295 : Int64)), S2, jv (ushL b (32 : Int32)), S2, jv (b &&& (4294967295 : Int64)), S2, jv (((ushL a (32 : Int32)) * (b &&& (4294967295 : Int64))) + ((a &&& (4294967295 : Int64)) * (ushL b (32 : Int32)))), S2, jv ((a &&& (4294967295 : Int64)) * (b &&& (4294967295 : Int64))), S2, jv ((((ushL a (32 : Int32)) * (b &&& (4294967295 : Int64))) + ((a &&& (4294967295 : Int64)) * (ushL b (32 : Int32)))) + (ushL ((a &&& (4294967295 : Int64)) * (b &&& (4294967295 : Int64))) (32 : Int32))), S2]) A d2_85 rfl rfl ?_
     refine s_lload (pc' := 89) A d2_87 rfl rfl ?_
     refine s_ldc2Long (pc' := 92) A d2_89 rfl (w11 hw) ?_
     refine s_lcmp (pc' := 93) A d2_92 rfl ?_
     by_cases hc93_1 : ((((ushL a (32 : Int32)) * (b &&& (4294967295 : Int64))) + ((a &&& (4294967295 : Int64)) * (ushL b (32 : Int32)))) + (ushL ((a &&& (4294967295 : Int64)) * (b &&& (4294967295 : Int64))) (32 : Int32))) < (2147483648 : Int64)
     ·
      refine s_ifY (pc' := 100) A d2_93 ((if0 _ _).trans (tlt ((lw_lt ((((ushL a (32 : Int32)) * (b &&& (4294967295 : Int64))) + ((a &&& (4294967295 : Int64)) * (ushL b (32 : Int32)))) + (ushL ((a &&& (4294967295 : Int64)) * (b &&& (4294967295 : Int64))) (32 : Int32))) (2147483648 : Int64)).2 hc93_1)).1) (by decide) (by decide) ?_
      refine s_lload (pc' := 102) A d2_100 rfl rfl ?_
      refine s_bipush (pc' := 104) (z := (32 : Int32)) A d2_102 rfl (by decide) ?_
      refine s_lshl (pc' := 105) (z := (((((ushL a (32 : Int32)) * (b &&& (4294967295 : Int64))) + ((a &&& (4294967295 : Int64)) * (ushL b (32 : Int32)))) + (ushL ((a &&& (4294967295 : Int64)) * (b &&& (4294967295 : Int64))) (32 : Int32))) <<< ((32 : Int32) &&& 63).toInt64)) A d2_104 rfl rfl ?_
      refine s_lload (pc' := 107) A d2_105 rfl rfl ?_
      refine s_ldc2Long (pc' := 110) A d2_107 rfl (w10 hw) ?_
      refine s_land (pc' := 111) (z := (((a &&& (4294967295 : Int64)) * (b &&& (4294967295 : Int64))) &&& (4294967295 : Int64))) A d2_110 rfl rfl ?_
      refine s_lor (pc' := 112) (z := ((((((ushL a (32 : Int32)) * (b &&& (4294967295 : Int64))) + ((a &&& (4294967295 : Int64)) * (ushL b (32 : Int32)))) + (ushL ((a &&& (4294967295 : Int64)) * (b &&& (4294967295 : Int64))) (32 : Int32))) <<< ((32 : Int32) &&& 63).toInt64) ||| (((a &&& (4294967295 : Int64)) * (b &&& (4294967295 : Int64))) &&& (4294967295 : Int64)))) A d2_111 rfl rfl ?_
      exact r_long A rfl d2_112 (by decide) (by decide) (⟨_, rfl, rfl, fun ha hb => own_x4 a b ha (Int.le_of_lt hb) (Or.inr hc37_1) hc63_1 hc93_1⟩)
     ·
      refine s_ifN (pc' := 96) A d2_93 rfl ((if0 _ _).trans (flt (fun q => hc93_1 ((lw_lt ((((ushL a (32 : Int32)) * (b &&& (4294967295 : Int64))) + ((a &&& (4294967295 : Int64)) * (ushL b (32 : Int32)))) + (ushL ((a &&& (4294967295 : Int64)) * (b &&& (4294967295 : Int64))) (32 : Int32))) (2147483648 : Int64)).1 q))).1) ?_
      refine s_ldc2Long (pc' := 99) A d2_96 rfl (w0 hw) ?_
      exact r_long A rfl d2_99 (by decide) (by decide) (⟨_, rfl, rfl, fun ha hb => own_x3 a b ha (Int.le_of_lt hb) (Or.inr hc37_1) hc63_1 hc93_1⟩)
    ·
     refine s_ifN (pc' := 66) A d2_63 rfl ((if0 _ _).trans (flt (fun q => hc63_1 ((lw_lt (((ushL a (32 : Int32)) * (b &&& (4294967295 : Int64))) + ((a &&& (4294967295 : Int64)) * (ushL b (32 : Int32)))) (2147483648 : Int64)).1 q))).1) ?_
     refine s_ldc2Long (pc' := 69) A d2_66 rfl (w0 hw) ?_
     exact r_long A rfl d2_69 (by decide) (by decide) (⟨_, rfl, rfl, fun ha hb => own_x2 a b ha (Int.le_of_lt hb) (Or.inr hc37_1) hc63_1⟩)
   ·
    refine s_ifN (pc' := 40) A d2_37 rfl ((if0 _ _).trans (feq (fun q => hc37_1 ((lw_eq (ushL b (32 : Int32)) (0 : Int64)).1 q))).1) ?_
    refine s_ldc2Long (pc' := 43) A d2_40 rfl (w0 hw) ?_
    exact r_long A rfl d2_43 (by decide) (by decide) (⟨_, rfl, rfl, fun ha hb => own_x1 a b ha (Int.le_of_lt hb) hc30_1 hc37_1⟩)
set_option maxRecDepth 65536 in
set_option maxHeartbeats 40000000 in
theorem rm0 (l : Launch) (Z : State) (a0 : Array Value) (hw : ∀ d ∈ tables_1, d.before a0 Z = true) (n0 : Nat) (h0 : Heap) (Z0 : n0 ≤ h0.size) (q0 q1 : Int64)  :
    Met l Z n0 x code maxLocals ret room_1 #[(.long q0), (.long q1)] h0 (fun v h => v = some (.int 1)) := by
  refine met_intro (own := c1_SketchSaturatedProductPinLaw) (plainFor_of_name pn_com_example_stream_tally_streamtally_SketchSaturatedProductPinLaw) rfl Z0 ?_
  intro p e s m below meth c T A hnm
  refine Wp.cast (g' := mkF m 0 #[jv q0, S2, jv q1, S2, U0, U0, U0, U0, U0, U0] []) (by first | (simp [entryFrame, mkF, argsToLocals, Value.category, maxLocals, jv, S2, U0, iv, rv]; done) | rfl) ?_
  refine s_lloadN (pc' := 1) A at_0 rfl rfl ?_
  refine s_ldc2Long (pc' := 4) A at_1 rfl (w0 hw) ?_
  obtain ⟨na, ena⟩ : ∃ z, z = (q0 &&& (9223372036854775807 : Int64)) := ⟨_, rfl⟩
  have fna : 0 ≤ na.toInt := by rw [ena]; have _ := rng64 q0; have _ : (9223372036854775807 : Int64).toInt = 9223372036854775807 := (by decide); have _ := rng64 (q0 &&& (9223372036854775807 : Int64)); have _ : (q0 &&& (9223372036854775807 : Int64)).toInt = q0.toInt % 9223372036854775808 := c_maskL q0 (9223372036854775807 : Int64) 63 (by decide) (by decide); omega
  refine s_land (pc' := 5) (z := na) A at_4 rfl ena.symm ?_
  refine s_lstore (pc' := 7) (Ls' := #[jv q0, S2, jv q1, S2, jv na, S2, U0, U0, U0, U0]) A at_5 rfl rfl ?_
  refine s_lloadN (pc' := 8) A at_7 rfl rfl ?_
  refine s_ldc2Long (pc' := 11) A at_8 rfl (w0 hw) ?_
  obtain ⟨nb, enb⟩ : ∃ z, z = (q1 &&& (9223372036854775807 : Int64)) := ⟨_, rfl⟩
  have fnb : 0 ≤ nb.toInt := by rw [enb]; have _ := rng64 q1; have _ : (9223372036854775807 : Int64).toInt = 9223372036854775807 := (by decide); have _ := rng64 (q1 &&& (9223372036854775807 : Int64)); have _ : (q1 &&& (9223372036854775807 : Int64)).toInt = q1.toInt % 9223372036854775808 := c_maskL q1 (9223372036854775807 : Int64) 63 (by decide) (by decide); omega
  refine s_land (pc' := 12) (z := nb) A at_11 rfl enb.symm ?_
  refine s_lstore (pc' := 14) (Ls' := #[jv q0, S2, jv q1, S2, jv na, S2, jv nb, S2, U0, U0]) A at_12 rfl rfl ?_
  refine s_lload (pc' := 16) A at_14 rfl rfl ?_
  refine s_lconst (pc' := 17) (z := (0 : Int64)) A at_16 rfl (by decide) ?_
  refine s_lcmp (pc' := 18) A at_17 rfl ?_
  by_cases hc18_1 : nb = (0 : Int64)
  ·
   refine s_ifN (pc' := 21) A at_18 rfl ((if0 _ _).trans (teq ((lw_eq nb (0 : Int64)).2 hc18_1)).2) ?_
   refine s_iconst (pc' := 22) (z := (1 : Int32)) A at_21 rfl (by decide) ?_
   exact r_bool A rfl (by decide) at_22 (by decide) (by decide) (rfl)
  ·
   refine s_ifY (pc' := 23) A at_18 ((if0 _ _).trans (feq (fun q => hc18_1 ((lw_eq nb (0 : Int64)).1 q))).2) (by decide) (by decide) ?_
   refine s_lload (pc' := 25) A at_23 rfl rfl ?_
   refine s_lload (pc' := 27) A at_25 rfl rfl ?_
   have gnb : 0 < nb.toInt := by rcases Int.lt_or_eq_of_le fnb with q | q; exact q; exact absurd (Int64.toInt_inj.mp (q.symm.trans (by decide : (0 : Int) = (0 : Int64).toInt))) hc18_1
   refine s_static (pc' := 30) (y := y0_saturatedProduct) (argsL := [(.long na), (.long nb)]) (rest := []) A (satp l Z a0 hw n0 h0 A.size na nb hc18_1) (w1 hw) (w2 hw) (w3 hw) (w4 hw) (by decide) pd__JJ_J rfl (W := 0) (by decide) (by decide) (Nat.le_of_eq rfl) (by decide) (by decide) rfl rfl at_27 rfl fun T h1 v2 A Q3 => ?_
   obtain ⟨z1, rfl, eh, hz1⟩ := Q3
   rw [eh] at A
   refine Wp.stk (st' := [(.long z1)]) rfl ?_
   refine s_lstore (pc' := 32) (Ls' := #[jv q0, S2, jv q1, S2, jv na, S2, jv nb, S2, jv z1, S2]) A at_30 rfl rfl ?_
   refine s_lload (pc' := 34) A at_32 rfl rfl ?_
   refine s_lload (pc' := 36) A at_34 rfl rfl ?_
   refine s_lload (pc' := 38) A at_36 rfl rfl ?_
   refine s_static (pc' := 41) (y := y1_expected) (argsL := [(.long na), (.long nb)]) (rest := [(.long z1)]) A (expd l Z a0 hw n0 h0 A.size na nb) (w6 hw) (w7 hw) (w8 hw) (w9 hw) (by decide) pd__JJ_J rfl (W := 2) (by decide) (by decide) (Nat.le_of_eq rfl) (by decide) (by decide) rfl rfl at_38 rfl fun T h4 v5 A Q6 => ?_
   obtain ⟨z2, rfl, eh, hz2⟩ := Q6
   rw [eh] at A
   refine Wp.stk (st' := [(.long z2), (.long z1)]) rfl ?_
   refine s_lcmp (pc' := 42) A at_41 rfl ?_
   refine s_ifN (pc' := 45) A at_42 rfl ((if0 _ _).trans (teq ((lw_eq z1 z2).2 (Int64.toInt_inj.mp ((hz1 fna gnb).trans (hz2 fna gnb).symm)))).2) ?_
   refine s_iconst (pc' := 46) (z := (1 : Int32)) A at_45 rfl (by decide) ?_
   refine s_goto (pc' := 50) A at_46 (by decide) (by decide) ?_
   exact r_bool A rfl (by decide) at_50 (by decide) (by decide) (rfl)
set_option maxRecDepth 65536 in
set_option maxHeartbeats 40000000 in
theorem comes_1 {Post : Tables → Env → Array Value → State → Outcome → State → Prop} (hpost : ∀ tb e args s v u, (limb_1_1.after args s (.returned v) u = true ∧ limb_1_2.after args s (.returned v) u = true ∧ True) → FrameEnd s (.returned v) u (Jvm.fieldLocs frame_1_writes args s ++ Jvm.arrayLocs frame_1_arrays args s ++ Jvm.staticLocs frame_1_statics s) 0 0 → Post tb e args s (.returned v) u) :
    ArmFor flags0 classFile x code maxLocals ret World_1 tables_1 room_1 Calls_1 rest_1 Pre_1 Post := by
  intro l hfl _ _ p e ha hc hk s m args below hf hA hF happ hP
  obtain ⟨hcalls, hrest, hpre⟩ := hP
  obtain ⟨-, -, -, hnamed, -, -, -, hat⟩ := (Spec.applies_iff hf).mp happ
  obtain ⟨hg, hn⟩ := and_e (Cond.before_iff.mp (show (Jvm.Cond.and given_1 narrow_1).before args s = true from hpre))
  obtain ⟨hcnt, hg⟩ := and_e hg
  obtain ⟨w0, w1, rfl⟩ : ∃ w0 w1 : Value, args = #[w0, w1] := by
    have hs : args.size = 2 := by simpa [Cond.value, given_1] using hcnt
    obtain ⟨L⟩ := args
    match L, hs with
    | [w0, w1], _ => exact ⟨w0, w1, rfl⟩
  have hw := fun d (hd : d ∈ tables_1) => atoms_spec (ws := Jvm.Cond.code x code maxLocals ret :: tables_1) hat d (List.mem_cons_of_mem _ hd)
  have hfit : Fit s := fun {y c} hc i hi => by
    obtain ⟨ha, rfl⟩ := Array.getElem?_eq_some_iff.mp hc
    have q := List.all_eq_true.mp ((Array.all_eq_true_iff_forall_mem.mp hF) _ (Array.getElem_mem ha)) i (List.mem_range.mpr hi)
    simpa [Array.getElem?_eq_getElem hi] using q
  obtain ⟨g0, hg⟩ := and_e hg
  obtain ⟨x0, e0⟩ := isL_v g0
  obtain rfl : w0 = (.long x0) := Option.some.inj e0
  obtain ⟨x1, e1⟩ := isL_v hg
  obtain rfl : w1 = (.long x1) := Option.some.inj e1
  obtain ⟨n, o, h1, h2, h3, _, L, rfl, ⟨N, rfl⟩, hq⟩ := rm0 l s _ hw s.heap.size s.heap (Nat.le_refl _) x0 x1 tables_1 p e ha hc hk s m _ below hf ((Spec.applies_iff_loose hf).mp happ).1 ⟨rfl, State.Warmed39.refl s, rfl⟩ trivial
  refine ⟨n, _, h1, h2, h3, hpost _ _ _ _ _ _ ⟨Cond.after_iff.mpr rfl, Cond.after_iff.mpr (eq_i res_at (Term.int_eval (1)) rfl), trivial⟩ ⟨hq.1, hq.2.1, (hq.2.2.sift fun y hy => Or.inr (N y hy)).mono (by decide) (by decide)⟩⟩
theorem main_1_1 : Claimed_1_1 := comes_1 fun _ _ _ _ _ _ h hF => ⟨h.1, hF⟩
theorem main_1_2 : Claimed_1_2 := comes_1 fun _ _ _ _ _ _ h hF => ⟨h.2.1, hF⟩
end Jvm.Pilot.@@N@@
namespace Jvm.Pilot.@@N@@
open Jvm Jvm.ClassFile Sem Op Lib Jvm.Free Jvm.Stand Jvm.Pilot.@@N@@.Jvm.D
/-! MADE BY PROGRAM (witnessworld.py) out of the Statement's table words and the real class files: 9 classes; the members and pool entries that the words name. The judged class is class 1, her method 2. -/
namespace start1
open Jvm.ClassFile
def u (s : String) : CpInfo := .utf8 (stringToUtf16 s)
/-- a pool by its gaps: so many unusable entries, then the entry; so many at the end -/
def gap : Nat → List CpInfo → List CpInfo
  | 0, r => r
  | n + 1, r => .unusable :: gap n r
def poolList (es : List (Nat × CpInfo)) (last : Nat) : List CpInfo := es.foldr (fun e r => gap e.1 (e.2 :: r)) (gap last [])
def pool (es : List (Nat × CpInfo)) (last : Nat) : Array CpInfo := ⟨poolList es last⟩
def fileOf (pool : Array CpInfo) (this : Nat) (attrs : Array Attribute := #[]) (ms : Array MethodInfo := #[]) (fl : Nat := 33) (sup : Nat := 0) (ifs : Array Nat := #[]) (fds : Array FieldInfo := #[]) : ClassFile where
  minorVersion := 0
  majorVersion := 65
  constantPool := pool
  accessFlags := fl
  thisClass := this
  superClass := sup
  interfaces := ifs
  fields := fds
  methods := ms
  attributes := attrs
def plain (name : String) (sup : Option ClassId) : Class where
  name := name
  kind := .ordinary
  loader := none
  accessFlags := 33
  super := sup
  interfaces := #[]
  cf := none
  fields := #[]
  methods := #[]
  instanceTypes := #[]
  staticTypes := #[]
  resolved := #[]
  callSites := []
  init := .initialized
  statics := none
  mirror := none

def pool0 : Array CpInfo := pool [(5, u "<init>"), (0, u "()V"), (1, .class_ 10), (1, u "java/lang/Object")] 113

def k0m0 : Method := { name := "<init>", desc := "()V", sig := { parameters := [], returnType := none }, accessFlags := 1, code := none }
/-- java/lang/Object -/
def k0 : Class := { plain "java/lang/Object" none with
  accessFlags := 33
  interfaces := #[]
  cf := some (fileOf pool0 8 #[] #[{ accessFlags := 1, nameIndex := 5, descriptorIndex := 6, attributes := #[] }] 33 0 #[] #[])
  fields := #[]
  methods := #[k0m0]
  instanceTypes := #[]
  staticTypes := #[]
  resolved := Array.replicate 124 none
  statics := none }

def pool1 : Array CpInfo := pool [(2, .class_ 4), (1, u "java/lang/Object"), (0, u "<init>"), (0, u "()V"), (0, .class_ 8), (0, u "com/example/stream_tally/streamtally/SketchSaturatedProductPinLaw"), (0, .long 4294967295), (3, .long 9223372036854775807), (1, .long 2147483648), (1, .methodref 18 19), (0, .class_ 20), (0, .nameAndType 21 22), (0, u "com/example/stream_tally/streamtally/Sketch"), (0, u "saturatedProduct"), (0, u "(JJ)J"), (0, .methodref 7 24), (0, .nameAndType 25 22), (0, u "expected"), (0, u "LOW32"), (0, u "J"), (1, u "TWO31"), (3, u "law"), (0, u "(JJ)Z")] 2

def k1m0 : Method := { name := "<init>", desc := "()V", sig := { parameters := [], returnType := none }, accessFlags := 1, code := none }
def k1c1 : Code := { maxStack := 6, maxLocals := 18, code := method_2_code, exceptionTable := #[], attributes := #[] }
def k1m1 : Method := { name := "expected", desc := "(JJ)J", sig := { parameters := [.long, .long], returnType := some .long }, accessFlags := 10, code := some k1c1 }
def k1c2 : Code := { maxStack := 6, maxLocals := 10, code := code, exceptionTable := #[], attributes := #[] }
def k1m2 : Method := { name := "law", desc := "(JJ)Z", sig := { parameters := [.long, .long], returnType := some .boolean }, accessFlags := 9, code := some k1c2 }
/-- com/example/stream_tally/streamtally/SketchSaturatedProductPinLaw -/
def k1 : Class := { plain "com/example/stream_tally/streamtally/SketchSaturatedProductPinLaw" (some 0) with
  accessFlags := 49
  interfaces := #[]
  cf := some (fileOf pool1 7 #[] #[{ accessFlags := 1, nameIndex := 5, descriptorIndex := 6, attributes := #[] }, { accessFlags := 10, nameIndex := 25, descriptorIndex := 22, attributes := #[] }, { accessFlags := 9, nameIndex := 33, descriptorIndex := 34, attributes := #[] }] 49 2 #[] #[{ accessFlags := 26, nameIndex := 26, descriptorIndex := 27, attributes := #[] }, { accessFlags := 26, nameIndex := 29, descriptorIndex := 27, attributes := #[] }])
  fields := #[{ name := "LOW32", type := .long, accessFlags := 26, slot := 0, constantValue := 0 }, { name := "TWO31", type := .long, accessFlags := 26, slot := 1, constantValue := 0 }]
  methods := #[k1m0, k1m1, k1m2]
  instanceTypes := #[]
  staticTypes := #[.long, .long]
  resolved := Array.replicate 37 none
  statics := none }

def pool2 : Array CpInfo := pool [(2, .class_ 4), (1, u "java/lang/Object"), (3, .class_ 10), (1, u "com/example/stream_tally/streamtally/Sketch"), (0, u "shape"), (0, u "Lcom/example/stream_tally/streamtally/SketchShape;"), (2, u "seed"), (0, u "J"), (2, u "total"), (37, u "(JJ)J"), (13, u "changed"), (0, u "Z"), (2, .long 9223372036854775807), (25, u "saturatedProduct")] 17

def k2c0 : Code := { maxStack := 6, maxLocals := 4, code := prog_10_method_17_code, exceptionTable := #[], attributes := #[] }
def k2m0 : Method := { name := "saturatedProduct", desc := "(JJ)J", sig := { parameters := [.long, .long], returnType := some .long }, accessFlags := 8, code := some k2c0 }
/-- com/example/stream_tally/streamtally/Sketch -/
def k2 : Class := { plain "com/example/stream_tally/streamtally/Sketch" (some 0) with
  accessFlags := 1057
  interfaces := #[]
  cf := some (fileOf pool2 8 #[] #[{ accessFlags := 8, nameIndex := 101, descriptorIndex := 57, attributes := #[] }] 1057 2 #[] #[{ accessFlags := 18, nameIndex := 11, descriptorIndex := 12, attributes := #[] }, { accessFlags := 18, nameIndex := 15, descriptorIndex := 16, attributes := #[] }, { accessFlags := 2, nameIndex := 19, descriptorIndex := 16, attributes := #[] }, { accessFlags := 2, nameIndex := 71, descriptorIndex := 72, attributes := #[] }])
  fields := #[{ name := "shape", type := (.object "com/example/stream_tally/streamtally/SketchShape"), accessFlags := 18, slot := 0, constantValue := 0 }, { name := "seed", type := .long, accessFlags := 18, slot := 1, constantValue := 0 }, { name := "total", type := .long, accessFlags := 2, slot := 2, constantValue := 0 }, { name := "changed", type := .boolean, accessFlags := 2, slot := 3, constantValue := 0 }]
  methods := #[k2m0]
  instanceTypes := #[(.object "com/example/stream_tally/streamtally/SketchShape"), .long, .long, .boolean]
  staticTypes := #[]
  resolved := Array.replicate 119 none
  statics := none }

def pool3 : Array CpInfo := pool [(1, u "java/lang/Cloneable"), (0, .class_ 1), (0, u "java/lang/Object"), (0, .class_ 3)] 3

/-- java/lang/Cloneable -/
def k3 : Class := { plain "java/lang/Cloneable" (some 0) with
  accessFlags := 1537
  interfaces := #[]
  cf := some (fileOf pool3 2 #[] #[] 1537 4 #[] #[])
  fields := #[]
  methods := #[]
  instanceTypes := #[]
  staticTypes := #[]
  resolved := Array.replicate 8 none
  statics := none }

def pool4 : Array CpInfo := pool [(1, u "java/io/Serializable"), (0, .class_ 1), (0, u "java/lang/Object"), (0, .class_ 3)] 3

/-- java/io/Serializable -/
def k4 : Class := { plain "java/io/Serializable" (some 0) with
  accessFlags := 1537
  interfaces := #[]
  cf := some (fileOf pool4 2 #[] #[] 1537 4 #[] #[])
  fields := #[]
  methods := #[]
  instanceTypes := #[]
  staticTypes := #[]
  resolved := Array.replicate 8 none
  statics := none }

/-- the primitive byte -/
def k5 : Class := { plain "byte" none with kind := .primitive 'B', accessFlags := 0x411 }
/-- [B -/
def k6 : Class := { plain "[B" (some 0) with kind := .array 5 .byte, interfaces := #[3, 4], accessFlags := 1041 }

/-- the primitive int -/
def k7 : Class := { plain "int" none with kind := .primitive 'I', accessFlags := 0x411 }
/-- [I -/
def k8 : Class := { plain "[I" (some 0) with kind := .array 7 .int, interfaces := #[3, 4], accessFlags := 1041 }

def heap : Heap := #[]
def classes : Array Class := #[k0, k1, k2, k3, k4, k5, k6, k7, k8]
def interned : List (Array UInt16 × Addr) := []
def slotsUsed : Nat := 0
def theMethod : MethodId := ⟨1, 2⟩
def args0 : Array Value := #[.long 5, .long 7]
def aboutOver (below : List Frame) : State where
  vm := { classes := classes, interned := interned.toArray }
  heap := heap
  slotsUsed := slotsUsed
  threads := #[{ frames := .invoking theMethod args0 :: below }]
def below0 : List Frame := [.native { method := ⟨0, 0⟩, args := #[] }]
def about1 : State := aboutOver below0
def p0 : Program := .bare "" "" ""
def e0 : Env := launch0.env 0 0 0
theorem w_frames : about1.frames = Frame.invoking theMethod args0 :: below0 := rfl
set_option maxRecDepth 65536 in
theorem w_args : argsFit about1.vm theMethod args0 = true := by decide +kernel
set_option maxRecDepth 65536 in
theorem w_heap : heapFits about1 = true := by decide +kernel
set_option maxRecDepth 65536 in
theorem w_runnable : about1.curStatus? = some .runnable := by decide +kernel
set_option maxRecDepth 65536 in
theorem w_alone : about1.alone = true := by decide +kernel
set_option maxRecDepth 65536 in
theorem w_named : about1.methodNamed? x = some theMethod := by decide +kernel
set_option maxRecDepth 65536 in
theorem w_hears : about1.hears theMethod below0 = true := by decide +kernel
set_option maxRecDepth 65536 in
theorem w_ripe : about1.ripe theMethod args0 below0 = true := by decide +kernel
theorem w_running : about1.status = .running := rfl
set_option maxRecDepth 65536 in
theorem w_room : about1.hasRoom e0.platform room_1 = true :=
  launch0.hasRoom_least _ room_1 (by decide +kernel) (by decide +kernel) (by decide +kernel) (by decide +kernel) (by decide +kernel) (by decide +kernel)
theorem allAtoms_all (ts : List Jvm.Cond) (a : Array Jvm.Value) (st : Jvm.State) : (allAtoms ts).before a st = ts.all (fun c => c.before a st) := by
  induction ts with
  | nil => rfl
  | cons c t ih =>
    show (Jvm.Cond.and c (allAtoms t)).before a st = _
    rw [Jvm.Cond.before_and, ih, List.all_cons]
def words1 : List Jvm.Cond := Jvm.Cond.code x code maxLocals ret :: tables_1
/-- a 'code' word, met by the world's own term for the bytes: nothing is compared byte by byte -/
theorem code_word {y : MethodName} {bytes : ByteArray} {mx : Nat} {rt : Option FieldType} {a : Array Value} {s : State} {m : MethodId} {meth : Method} {c : Code} (h1 : s.methodNamed? y = some m) (h2 : s.vm.method? m = some meth) (h3 : meth.code = some c) (h4 : c.code = bytes)
    (h5 : (c.maxLocals == mx && c.exceptionTable.isEmpty && decide (c.maxStack ≤ mostOperands) && decide (meth.sig.returnType = rt) && !meth.locks && decide (parseMethodDescriptor y.desc = some meth.sig)) = true) : (Jvm.Cond.code y bytes mx rt).before a s = true := by
  simp only [Bool.and_eq_true, beq_iff_eq, Bool.not_eq_true', decide_eq_true_eq] at h5
  obtain ⟨⟨⟨⟨⟨g1, g2⟩, g3⟩, g4⟩, g5⟩, g6⟩ := h5
  simp [Cond.before, Cond.holds, Cond.value, h1, h2, h3, h4, g1, g2, g3, g4, g5, g6]
def isCode : Jvm.Cond → Bool
  | .code _ _ _ _ => true
  | _ => false
theorem all_split {L : List Jvm.Cond} {P : Jvm.Cond → Bool} (h1 : L.all (fun c => isCode c || P c) = true) (h2 : ∀ c ∈ L.filter isCode, P c = true) : L.all P = true := by
  refine List.all_eq_true.mpr fun c hc => ?_
  have h := List.all_eq_true.mp h1 c hc
  rcases Bool.eq_false_or_eq_true (isCode c) with hi | hi
  · exact h2 c (List.mem_filter.mpr ⟨hc, hi⟩)
  · simpa [hi] using h
set_option maxRecDepth 65536 in
theorem w_c0 : (Jvm.Cond.code x code maxLocals ret).before args0 about1 = true := code_word (m := ⟨1, 2⟩) (meth := k1m2) (c := k1c2) (by decide +kernel) rfl rfl rfl (by decide +kernel)
set_option maxRecDepth 65536 in
theorem w_c1 : (Jvm.Cond.code ({ cls := "com/example/stream_tally/streamtally/Sketch", name := "saturatedProduct", desc := "(JJ)J" } : Jvm.MethodName) prog_10_method_17_code (4 : Nat) (Option.some Jvm.ClassFile.FieldType.long)).before args0 about1 = true := code_word (m := ⟨2, 0⟩) (meth := k2m0) (c := k2c0) (by decide +kernel) rfl rfl rfl (by decide +kernel)
set_option maxRecDepth 65536 in
theorem w_c2 : (Jvm.Cond.code ({ cls := "com/example/stream_tally/streamtally/SketchSaturatedProductPinLaw", name := "expected", desc := "(JJ)J" } : Jvm.MethodName) method_2_code (18 : Nat) (Option.some Jvm.ClassFile.FieldType.long)).before args0 about1 = true := code_word (m := ⟨1, 1⟩) (meth := k1m1) (c := k1c1) (by decide +kernel) rfl rfl rfl (by decide +kernel)
def codes1 : List Jvm.Cond := [Jvm.Cond.code x code maxLocals ret, Jvm.Cond.code ({ cls := "com/example/stream_tally/streamtally/Sketch", name := "saturatedProduct", desc := "(JJ)J" } : Jvm.MethodName) prog_10_method_17_code (4 : Nat) (Option.some Jvm.ClassFile.FieldType.long), Jvm.Cond.code ({ cls := "com/example/stream_tally/streamtally/SketchSaturatedProductPinLaw", name := "expected", desc := "(JJ)J" } : Jvm.MethodName) method_2_code (18 : Nat) (Option.some Jvm.ClassFile.FieldType.long)]
set_option maxRecDepth 65536 in
theorem codes_eq : words1.filter isCode = codes1 := rfl
theorem w_codes : ∀ c ∈ words1.filter isCode, c.before args0 about1 = true := by
  rw [codes_eq]
  intro c hc
  simp only [codes1, List.mem_cons, List.not_mem_nil, or_false] at hc
  rcases hc with rfl | rfl | rfl
  · exact w_c0
  · exact w_c1
  · exact w_c2
set_option maxRecDepth 65536 in
theorem w_t1 : words1.all (fun c => isCode c || c.before args0 about1) = true := by decide +kernel
theorem w_tables : (allAtoms (Jvm.Cond.code x code maxLocals ret :: tables_1)).before args0 about1 = true := by
  rw [allAtoms_all]
  show words1.all (fun c => c.before args0 about1) = true
  refine all_split ?_ w_codes
  rw [w_t1]
set_option maxRecDepth 65536 in
theorem w_case : (Jvm.Cond.and given_1 narrow_1).before args0 about1 = true := by decide +kernel
theorem w_applies : (headSpec (Jvm.Cond.code x code maxLocals ret :: tables_1) room_1).applies x e0.platform about1 = true :=
  (Spec.applies_iff w_frames).mpr ⟨w_running, w_runnable, w_alone, w_named, w_hears, w_ripe, w_room, w_tables⟩
theorem atStart : AtStart classFile x code maxLocals ret World_1 tables_1 room_1 Calls_1 rest_1 Pre_1 launch0 p0 e0 about1 theMethod args0 below0 :=
  ⟨lists_1, trivial, launch0.admits_env _ _ _, launch0.least_env, fairChoices_fair.cas, fairChoices_fair.clock, w_frames, w_args, w_heap, w_applies, trivial, trivial, w_case⟩
end start1
theorem witness_1 : WitnessClaimed_1 := ⟨start1.p0, start1.e0, start1.about1, start1.theMethod, start1.args0, start1.below0, start1.atStart⟩
end Jvm.Pilot.@@N@@
