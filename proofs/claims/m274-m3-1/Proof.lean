import JvmDerived
import JvmDerived.Pilot.@@N@@Statement
import JvmDerived.Pilot.@@N@@Code
set_option linter.unusedVariables false
set_option linter.unusedSimpArgs false
namespace Jvm.Pilot.@@N@@
open Jvm Jvm.ClassFile Sem Op Lib Jvm.Free Jvm.Stand Jvm.LawKit Jvm.RoadKit Bundle Jvm.Pilot.@@N@@.Jvm.D

set_option maxRecDepth 65536
set_option maxHeartbeats 40000000


section Layer
variable {p : Program} {l : Launch} {e : Env} {R : Room} {s : State} {m : MethodId} {args : Array Value} {below : List Frame} {meth : Method} {c : Code} {bytes : ByteArray} {mxl : Nat} {rt : Option FieldType} {Z : State} {a0 : Array Value} {EL : List (String × Nat)} {own : String} {n0 : Nat} {h0 : Heap} {ws : List Addr} {S0 : State} {V : Vm} {h : Heap} {cells slots pc pc' : Nat} {L : Array Slot} {st : List Value}
def Wk (p : Program) (l : Launch) (e : Env) (R : Room) (s : State) (m : MethodId) (args : Array Value) (below : List Frame) (meth : Method) (c : Code) (bytes : ByteArray) (mxl : Nat) (rt : Option FieldType) (Z : State) (a0 : Array Value) (EL : List (String × Nat)) (own : String) (n0 : Nat) (h0 : Heap) (ws : List Addr) (S0 : State) (V : Vm) (h : Heap) (cells slots : Nat) (g : JFrame) : Prop :=
  (p.tables.exec = Jvm.exec ∧ c.code = bytes ∧ c.maxLocals = mxl ∧ meth.sig.returnType = rt ∧ meth.locks = false ∧ EW Z a0 EL ∧ (∀ x ∈ ws, n0 ≤ x) ∧ n0 ≤ h0.size ∧ s.heap = h0 ∧ Old Z n0 h0) ∧
  (Z.Warmed39 V ∧ V.findClass own = some m.cls ∧ V = s.vm ∧ Old Z n0 h ∧ CHr Z EL s.vm h0 V h ∧ Keep h0 h ws) ∧
  ∃ (T : State) (locs : List Loc), Stand p l e R (s.setVm V) m args below meth c T locs cells slots ∧ T.heap = h ∧ Fr n0 locs ∧ ∀ t, Steps p.tables e below (T.setTop g) t → Steps p.tables e below S0 t
theorem Wk.plain {g g' : JFrame} (W : Wk p l e R s m args below meth c bytes mxl rt Z a0 EL own n0 h0 ws S0 V h cells slots g) (f : ∀ (T : State), At T m c below → p.tables.exec = Jvm.exec → c.code = bytes → ∀ t, Steps p.tables e below (T.setTop g') t → Steps p.tables e below (T.setTop g) t) : Wk p l e R s m args below meth c bytes mxl rt Z a0 EL own n0 h0 ws S0 V h cells slots g' := by
  obtain ⟨a, b, T, locs, X, eT, N, k⟩ := W
  exact ⟨a, b, T, locs, X, eT, N, fun t q => k t (f T X.here a.1 a.2.1 t q)⟩
theorem Wk.reads {g g' : JFrame} (W : Wk p l e R s m args below meth c bytes mxl rt Z a0 EL own n0 h0 ws S0 V h cells slots g) (f : ∀ (T : State) (locs : List Loc), Stand p l e R (s.setVm V) m args below meth c T locs cells slots → T.heap = h → p.tables.exec = Jvm.exec → c.code = bytes → Z.Warmed39 (s.setVm V).vm → (s.setVm V).vm.findClass own = some m.cls → ∃ T', Stand p l e R (s.setVm V) m args below meth c T' locs cells slots ∧ T'.heap = h ∧ ∀ t, Steps p.tables e below (T'.setTop g') t → Steps p.tables e below (T.setTop g) t) : Wk p l e R s m args below meth c bytes mxl rt Z a0 EL own n0 h0 ws S0 V h cells slots g' := by
  obtain ⟨a, b, T, locs, X, eT, N, k⟩ := W
  obtain ⟨T', X', eT', q⟩ := f T locs X eT a.1 a.2.1 b.1 b.2.1
  exact ⟨a, b, T', locs, X', eT', N, fun t z => k t (q t z)⟩
theorem Wk.cast {st' : List Value} (W : Wk p l e R s m args below meth c bytes mxl rt Z a0 EL own n0 h0 ws S0 V h cells slots (mkF m pc L st)) (q : st = st') : Wk p l e R s m args below meth c bytes mxl rt Z a0 EL own n0 h0 ws S0 V h cells slots (mkF m pc L st') := by subst q; exact W
theorem Wk.castL {L' : Array Slot} (W : Wk p l e R s m args below meth c bytes mxl rt Z a0 EL own n0 h0 ws S0 V h cells slots (mkF m pc L st)) (q : L = L') : Wk p l e R s m args below meth c bytes mxl rt Z a0 EL own n0 h0 ws S0 V h cells slots (mkF m pc L' st) := by subst q; exact W
theorem Wk.more {g : JFrame} {cells' slots' : Nat} (W : Wk p l e R s m args below meth c bytes mxl rt Z a0 EL own n0 h0 ws S0 V h cells slots g) (hc : cells ≤ cells') (hs : slots ≤ slots') : Wk p l e R s m args below meth c bytes mxl rt Z a0 EL own n0 h0 ws S0 V h cells' slots' g := by
  obtain ⟨a, b, T, locs, X, eT, N, k⟩ := W
  exact ⟨a, b, T, locs, X.mono hc hs, eT, N, k⟩
theorem Wk.alike {g : JFrame} (W : Wk p l e R s m args below meth c bytes mxl rt Z a0 EL own n0 h0 ws S0 V h cells slots g) : Z.vm.Alike V := W.2.1.1.alike
theorem Wk.old {g : JFrame} (W : Wk p l e R s m args below meth c bytes mxl rt Z a0 EL own n0 h0 ws S0 V h cells slots g) : Old Z n0 h := W.2.1.2.2.2.1
theorem Wk.n0le {g : JFrame} (W : Wk p l e R s m args below meth c bytes mxl rt Z a0 EL own n0 h0 ws S0 V h cells slots g) : n0 ≤ h.size := by have q := W.old; rw [← q.1]; exact q.2.1
theorem Wk.kept {g : JFrame} (W : Wk p l e R s m args below meth c bytes mxl rt Z a0 EL own n0 h0 ws S0 V h cells slots g) : Keep h0 h ws := W.2.1.2.2.2.2.2
theorem Wk.chv {g : JFrame} (W : Wk p l e R s m args below meth c bytes mxl rt Z a0 EL own n0 h0 ws S0 V h cells slots g) : CHv Z EL V h := W.2.1.2.2.2.2.1.1
theorem Wk.el {g : JFrame} (W : Wk p l e R s m args below meth c bytes mxl rt Z a0 EL own n0 h0 ws S0 V h cells slots g) : EW Z a0 EL := W.1.2.2.2.2.2.1
theorem Wk.sta {g : JFrame} (W : Wk p l e R s m args below meth c bytes mxl rt Z a0 EL own n0 h0 ws S0 V h cells slots g) {C n d : String} {v : Value} (S : Sta Z Z.heap C n d v) : Sta Z h C n d v := S.ext W.old.2
theorem Wk.safeE {g : JFrame} (W : Wk p l e R s m args below meth c bytes mxl rt Z a0 EL own n0 h0 ws S0 V h cells slots g) {a : Addr} {C : String} (E : Exa Z h a C) (h1 : C ≠ "java/lang/String") (h2 : C ≠ "[B") : Safe Z EL V h a := Safe.exa W.alike E h1 h2
theorem Wk.safeA {g : JFrame} (W : Wk p l e R s m args below meth c bytes mxl rt Z a0 EL own n0 h0 ws S0 V h cells slots g) {a : Addr} {k : ClassId} {ty : FieldType} {z : Int32} {vs : List Value} {dv : Value} (A : Arv Z h a k ty z vs dv) (ht : ty ≠ .byte) : Safe Z EL V h a := Safe.arv W.alike A ht
theorem Wk.wrote {g g' : JFrame} {h' : Heap} {a : Addr} {sl : Nat} {v : Value} {cells' slots' : Nat} (W : Wk p l e R s m args below meth c bytes mxl rt Z a0 EL own n0 h0 ws S0 V h cells slots g) (sf : Safe Z EL V h a) (q : a ∈ ws ∨ h0.size ≤ a) (f : ∀ (T : State) (locs : List Loc), Stand p l e R (s.setVm V) m args below meth c T locs cells slots → T.heap = h → p.tables.exec = Jvm.exec → c.code = bytes → Z.Warmed39 (s.setVm V).vm → (s.setVm V).vm.findClass own = some m.cls → ∃ T' h', Stand p l e R (s.setVm V) m args below meth c T' (locs ++ [⟨a, sl⟩]) cells slots ∧ T'.heap = h' ∧ Wr h h' a sl v ∧ ∀ t, Steps p.tables e below (T'.setTop g') t → Steps p.tables e below (T.setTop g) t) :
    ∃ h', Wk p l e R s m args below meth c bytes mxl rt Z a0 EL own n0 h0 ws S0 V h' cells slots g' ∧ Wr h h' a sl v ∧ ∀ x, Safe Z EL V h x → Safe Z EL V h' x := by
  obtain ⟨a1, b, T, locs, X, eT, N, k⟩ := W
  obtain ⟨T', h', X', eT', w, st⟩ := f T locs X eT a1.1 a1.2.1 b.1 b.2.1
  have hge : n0 ≤ a := q.elim (fun z => a1.2.2.2.2.2.2.1 a z) (fun z => Nat.le_trans a1.2.2.2.2.2.2.2.1 z)
  refine ⟨h', ⟨a1, ⟨b.1, b.2.1, b.2.2.1, b.2.2.2.1.wr w hge, b.2.2.2.2.1.trans (CHr.wr w sf b.2.2.2.2.1.1), b.2.2.2.2.2.wr w q⟩, T', _, X', eT', Fr.snoc X' N hge, fun t z => k t (st t z)⟩, w, fun x sx => Safe.wr w sf b.2.2.2.2.1.1 sx⟩
theorem Wk.grew {g : JFrame} {G : Addr → JFrame} {cells' slots' : Nat} {Q : Heap → Prop} (W : Wk p l e R s m args below meth c bytes mxl rt Z a0 EL own n0 h0 ws S0 V h cells slots g) (f : ∀ (T : State) (locs : List Loc), Stand p l e R (s.setVm V) m args below meth c T locs cells slots → T.heap = h → p.tables.exec = Jvm.exec → c.code = bytes → Z.Warmed39 (s.setVm V).vm → (s.setVm V).vm.findClass own = some m.cls → ∃ T' h', Stand p l e R (s.setVm V) m args below meth c T' locs cells' slots' ∧ T'.heap = h' ∧ Ext h h' ∧ Q h' ∧ ∀ t, Steps p.tables e below (T'.setTop (G h.size)) t → Steps p.tables e below (T.setTop g) t) :
    ∃ h' a, Wk p l e R s m args below meth c bytes mxl rt Z a0 EL own n0 h0 ws S0 V h' cells' slots' (G a) ∧ Ext h h' ∧ a = h.size ∧ Q h' ∧ Safe Z EL V h' a ∧ ∀ x, Safe Z EL V h x → Safe Z EL V h' x := by
  obtain ⟨a1, b, T, locs, X, eT, N, k⟩ := W
  obtain ⟨T', h', X', eT', E, q, st⟩ := f T locs X eT a1.1 a1.2.1 b.1 b.2.1
  have H := b.2.2.2.2.1.1
  exact ⟨h', h.size, ⟨a1, ⟨b.1, b.2.1, b.2.2.1, b.2.2.2.1.ext E, b.2.2.2.2.1.trans (CHr.ext E H), b.2.2.2.2.2.ext E⟩, T', _, X', eT', N, fun t z => k t (st t z)⟩, E, rfl, q, Safe.ext E H (Safe.new (Nat.le_refl _)), fun x sx => Safe.ext E H sx⟩

theorem Wk.aloadN {k : Fin 4} {v : Value} (W : Wk p l e R s m args below meth c bytes mxl rt Z a0 EL own n0 h0 ws S0 V h cells slots (mkF m pc L st)) (hd : decode bytes pc = .ok (.aload_n k, 1)) (hl : L[k.val]? = some (.val v)) (hv : v.isRef = true) (hp : pc + 1 = pc') : Wk p l e R s m args below meth c bytes mxl rt Z a0 EL own n0 h0 ws S0 V h cells slots (mkF m pc' L (v :: st)) := by
  subst hp
  exact W.plain fun T hq hx hby t k => XS.aloadN hq hx rfl (hb hby hd) hl hv k
theorem Wk.aload {k : Nat} {v : Value} (W : Wk p l e R s m args below meth c bytes mxl rt Z a0 EL own n0 h0 ws S0 V h cells slots (mkF m pc L st)) (hd : decode bytes pc = .ok (.aload k, 2)) (hl : L[k]? = some (.val v)) (hv : v.isRef = true) (hp : pc + 2 = pc') : Wk p l e R s m args below meth c bytes mxl rt Z a0 EL own n0 h0 ws S0 V h cells slots (mkF m pc' L (v :: st)) := by
  subst hp
  exact W.plain fun T hq hx hby t k => XS.aload hq hx rfl (hb hby hd) hl hv k
theorem Wk.iloadN {k : Fin 4} {v : Int32} (W : Wk p l e R s m args below meth c bytes mxl rt Z a0 EL own n0 h0 ws S0 V h cells slots (mkF m pc L st)) (hd : decode bytes pc = .ok (.iload_n k, 1)) (hl : L[k.val]? = some (.val (.int v))) (hp : pc + 1 = pc') : Wk p l e R s m args below meth c bytes mxl rt Z a0 EL own n0 h0 ws S0 V h cells slots (mkF m pc' L (.int v :: st)) := by
  subst hp
  exact W.plain fun T hq hx hby t k => XS.iloadN hq hx rfl (hb hby hd) hl k
theorem Wk.iload {k : Nat} {v : Int32} (W : Wk p l e R s m args below meth c bytes mxl rt Z a0 EL own n0 h0 ws S0 V h cells slots (mkF m pc L st)) (hd : decode bytes pc = .ok (.iload k, 2)) (hl : L[k]? = some (.val (.int v))) (hp : pc + 2 = pc') : Wk p l e R s m args below meth c bytes mxl rt Z a0 EL own n0 h0 ws S0 V h cells slots (mkF m pc' L (.int v :: st)) := by
  subst hp
  exact W.plain fun T hq hx hby t k => XS.iload hq hx rfl (hb hby hd) hl k
theorem Wk.lloadN {k : Fin 4} {v : Int64} (W : Wk p l e R s m args below meth c bytes mxl rt Z a0 EL own n0 h0 ws S0 V h cells slots (mkF m pc L st)) (hd : decode bytes pc = .ok (.lload_n k, 1)) (hl : L[k.val]? = some (.val (.long v))) (hp : pc + 1 = pc') : Wk p l e R s m args below meth c bytes mxl rt Z a0 EL own n0 h0 ws S0 V h cells slots (mkF m pc' L (.long v :: st)) := by
  subst hp
  exact W.plain fun T hq hx hby t k => Jvm.Free.XT.lloadN hq hx rfl (hb hby hd) hl k
theorem Wk.lload {k : Nat} {v : Int64} (W : Wk p l e R s m args below meth c bytes mxl rt Z a0 EL own n0 h0 ws S0 V h cells slots (mkF m pc L st)) (hd : decode bytes pc = .ok (.lload k, 2)) (hl : L[k]? = some (.val (.long v))) (hp : pc + 2 = pc') : Wk p l e R s m args below meth c bytes mxl rt Z a0 EL own n0 h0 ws S0 V h cells slots (mkF m pc' L (.long v :: st)) := by
  subst hp
  exact W.plain fun T hq hx hby t k => Jvm.Free.XT.lload hq hx rfl (hb hby hd) hl k
theorem Wk.iconst {i : Int} {v : Int32} (W : Wk p l e R s m args below meth c bytes mxl rt Z a0 EL own n0 h0 ws S0 V h cells slots (mkF m pc L st)) (hd : decode bytes pc = .ok (.iconst i, 1)) (hv : Int32.ofInt i = v) (hp : pc + 1 = pc') : Wk p l e R s m args below meth c bytes mxl rt Z a0 EL own n0 h0 ws S0 V h cells slots (mkF m pc' L (.int v :: st)) := by
  subst hv hp
  exact W.plain fun T hq hx hby t k => XS.iconst hq hx rfl (hb hby hd)  k
theorem Wk.bipush {i : Int} {v : Int32} (W : Wk p l e R s m args below meth c bytes mxl rt Z a0 EL own n0 h0 ws S0 V h cells slots (mkF m pc L st)) (hd : decode bytes pc = .ok (.bipush i, 2)) (hv : (Int8.ofInt i).toInt32 = v) (hp : pc + 2 = pc') : Wk p l e R s m args below meth c bytes mxl rt Z a0 EL own n0 h0 ws S0 V h cells slots (mkF m pc' L (.int v :: st)) := by
  subst hv hp
  exact W.plain fun T hq hx hby t k => XS.bipush hq hx rfl (hb hby hd)  k
theorem Wk.sipush {i : Int} {v : Int32} (W : Wk p l e R s m args below meth c bytes mxl rt Z a0 EL own n0 h0 ws S0 V h cells slots (mkF m pc L st)) (hd : decode bytes pc = .ok (.sipush i, 3)) (hv : (Int16.ofInt i).toInt32 = v) (hp : pc + 3 = pc') : Wk p l e R s m args below meth c bytes mxl rt Z a0 EL own n0 h0 ws S0 V h cells slots (mkF m pc' L (.int v :: st)) := by
  subst hv hp
  exact W.plain fun T hq hx hby t k => XS.sipush hq hx rfl (hb hby hd)  k
theorem Wk.lconst {k : Fin 2} {v : Int64} (W : Wk p l e R s m args below meth c bytes mxl rt Z a0 EL own n0 h0 ws S0 V h cells slots (mkF m pc L st)) (hd : decode bytes pc = .ok (.lconst k, 1)) (hv : Int64.ofNat k = v) (hp : pc + 1 = pc') : Wk p l e R s m args below meth c bytes mxl rt Z a0 EL own n0 h0 ws S0 V h cells slots (mkF m pc' L (.long v :: st)) := by
  subst hv hp
  exact W.plain fun T hq hx hby t k => Jvm.Free.XT.lconst hq hx rfl (hb hby hd)  k
theorem Wk.aconstNull  (W : Wk p l e R s m args below meth c bytes mxl rt Z a0 EL own n0 h0 ws S0 V h cells slots (mkF m pc L st)) (hd : decode bytes pc = .ok (.aconst_null, 1))  (hp : pc + 1 = pc') : Wk p l e R s m args below meth c bytes mxl rt Z a0 EL own n0 h0 ws S0 V h cells slots (mkF m pc' L (.null :: st)) := by
  subst hp
  exact W.plain fun T hq hx hby t k => XS.aconstNull hq hx rfl (hb hby hd)  k
theorem Wk.iadd {x y v : Int32} (W : Wk p l e R s m args below meth c bytes mxl rt Z a0 EL own n0 h0 ws S0 V h cells slots (mkF m pc L (.int y :: .int x :: st))) (hd : decode bytes pc = .ok (.iadd, 1)) (hv : x + y = v) (hp : pc + 1 = pc') : Wk p l e R s m args below meth c bytes mxl rt Z a0 EL own n0 h0 ws S0 V h cells slots (mkF m pc' L (.int v :: st)) := by
  subst hv hp
  exact W.plain fun T hq hx hby t k => XS.iadd hq hx rfl (hb hby hd) rfl k
theorem Wk.isub {x y v : Int32} (W : Wk p l e R s m args below meth c bytes mxl rt Z a0 EL own n0 h0 ws S0 V h cells slots (mkF m pc L (.int y :: .int x :: st))) (hd : decode bytes pc = .ok (.isub, 1)) (hv : x - y = v) (hp : pc + 1 = pc') : Wk p l e R s m args below meth c bytes mxl rt Z a0 EL own n0 h0 ws S0 V h cells slots (mkF m pc' L (.int v :: st)) := by
  subst hv hp
  exact W.plain fun T hq hx hby t k => XS.isub hq hx rfl (hb hby hd) rfl k
theorem Wk.imul {x y v : Int32} (W : Wk p l e R s m args below meth c bytes mxl rt Z a0 EL own n0 h0 ws S0 V h cells slots (mkF m pc L (.int y :: .int x :: st))) (hd : decode bytes pc = .ok (.imul, 1)) (hv : x * y = v) (hp : pc + 1 = pc') : Wk p l e R s m args below meth c bytes mxl rt Z a0 EL own n0 h0 ws S0 V h cells slots (mkF m pc' L (.int v :: st)) := by
  subst hv hp
  exact W.plain fun T hq hx hby t k => XS.imul hq hx rfl (hb hby hd) rfl k
theorem Wk.iand {x y v : Int32} (W : Wk p l e R s m args below meth c bytes mxl rt Z a0 EL own n0 h0 ws S0 V h cells slots (mkF m pc L (.int y :: .int x :: st))) (hd : decode bytes pc = .ok (.iand, 1)) (hv : x &&& y = v) (hp : pc + 1 = pc') : Wk p l e R s m args below meth c bytes mxl rt Z a0 EL own n0 h0 ws S0 V h cells slots (mkF m pc' L (.int v :: st)) := by
  subst hv hp
  exact W.plain fun T hq hx hby t k => XS.iand hq hx rfl (hb hby hd) rfl k
theorem Wk.ior {x y v : Int32} (W : Wk p l e R s m args below meth c bytes mxl rt Z a0 EL own n0 h0 ws S0 V h cells slots (mkF m pc L (.int y :: .int x :: st))) (hd : decode bytes pc = .ok (.ior, 1)) (hv : x ||| y = v) (hp : pc + 1 = pc') : Wk p l e R s m args below meth c bytes mxl rt Z a0 EL own n0 h0 ws S0 V h cells slots (mkF m pc' L (.int v :: st)) := by
  subst hv hp
  exact W.plain fun T hq hx hby t k => Jvm.Free.XT.ior hq hx rfl (hb hby hd) rfl k
theorem Wk.ixor {x y v : Int32} (W : Wk p l e R s m args below meth c bytes mxl rt Z a0 EL own n0 h0 ws S0 V h cells slots (mkF m pc L (.int y :: .int x :: st))) (hd : decode bytes pc = .ok (.ixor, 1)) (hv : x ^^^ y = v) (hp : pc + 1 = pc') : Wk p l e R s m args below meth c bytes mxl rt Z a0 EL own n0 h0 ws S0 V h cells slots (mkF m pc' L (.int v :: st)) := by
  subst hv hp
  exact W.plain fun T hq hx hby t k => Jvm.Free.XT.ixor hq hx rfl (hb hby hd) rfl k
theorem Wk.ishl {x y v : Int32} (W : Wk p l e R s m args below meth c bytes mxl rt Z a0 EL own n0 h0 ws S0 V h cells slots (mkF m pc L (.int y :: .int x :: st))) (hd : decode bytes pc = .ok (.ishl, 1)) (hv : x <<< (y &&& 31) = v) (hp : pc + 1 = pc') : Wk p l e R s m args below meth c bytes mxl rt Z a0 EL own n0 h0 ws S0 V h cells slots (mkF m pc' L (.int v :: st)) := by
  subst hv hp
  exact W.plain fun T hq hx hby t k => Jvm.Free.XT.ishl hq hx rfl (hb hby hd) rfl k
theorem Wk.ishr {x y v : Int32} (W : Wk p l e R s m args below meth c bytes mxl rt Z a0 EL own n0 h0 ws S0 V h cells slots (mkF m pc L (.int y :: .int x :: st))) (hd : decode bytes pc = .ok (.ishr, 1)) (hv : x >>> (y &&& 31) = v) (hp : pc + 1 = pc') : Wk p l e R s m args below meth c bytes mxl rt Z a0 EL own n0 h0 ws S0 V h cells slots (mkF m pc' L (.int v :: st)) := by
  subst hv hp
  exact W.plain fun T hq hx hby t k => Jvm.Free.XT.ishr hq hx rfl (hb hby hd) rfl k
theorem Wk.iushr {x y v : Int32} (W : Wk p l e R s m args below meth c bytes mxl rt Z a0 EL own n0 h0 ws S0 V h cells slots (mkF m pc L (.int y :: .int x :: st))) (hd : decode bytes pc = .ok (.iushr, 1)) (hv : Jvm.Free.XT.ushr x y = v) (hp : pc + 1 = pc') : Wk p l e R s m args below meth c bytes mxl rt Z a0 EL own n0 h0 ws S0 V h cells slots (mkF m pc' L (.int v :: st)) := by
  subst hv hp
  exact W.plain fun T hq hx hby t k => Jvm.Free.XT.iushr hq hx rfl (hb hby hd) rfl k
theorem Wk.idiv {x y v : Int32} (W : Wk p l e R s m args below meth c bytes mxl rt Z a0 EL own n0 h0 ws S0 V h cells slots (mkF m pc L (.int y :: .int x :: st))) (hd : decode bytes pc = .ok (.idiv, 1)) (hy : y ≠ 0) (hv : x / y = v) (hp : pc + 1 = pc') : Wk p l e R s m args below meth c bytes mxl rt Z a0 EL own n0 h0 ws S0 V h cells slots (mkF m pc' L (.int v :: st)) := by
  subst hv hp
  exact W.plain fun T hq hx hby t k => XS.idiv hq hx rfl (hb hby hd) rfl hy k
theorem Wk.irem {x y v : Int32} (W : Wk p l e R s m args below meth c bytes mxl rt Z a0 EL own n0 h0 ws S0 V h cells slots (mkF m pc L (.int y :: .int x :: st))) (hd : decode bytes pc = .ok (.irem, 1)) (hy : y ≠ 0) (hv : x - (x / y) * y = v) (hp : pc + 1 = pc') : Wk p l e R s m args below meth c bytes mxl rt Z a0 EL own n0 h0 ws S0 V h cells slots (mkF m pc' L (.int v :: st)) := by
  subst hv hp
  exact W.plain fun T hq hx hby t k => XS.irem hq hx rfl (hb hby hd) rfl hy k
theorem Wk.ineg {x v : Int32} (W : Wk p l e R s m args below meth c bytes mxl rt Z a0 EL own n0 h0 ws S0 V h cells slots (mkF m pc L (.int x :: st))) (hd : decode bytes pc = .ok (.ineg, 1)) (hv : -x = v) (hp : pc + 1 = pc') : Wk p l e R s m args below meth c bytes mxl rt Z a0 EL own n0 h0 ws S0 V h cells slots (mkF m pc' L (.int v :: st)) := by
  subst hv hp
  exact W.plain fun T hq hx hby t k => XS.ineg hq hx rfl (hb hby hd) rfl k
theorem Wk.i2b {x v : Int32} (W : Wk p l e R s m args below meth c bytes mxl rt Z a0 EL own n0 h0 ws S0 V h cells slots (mkF m pc L (.int x :: st))) (hd : decode bytes pc = .ok (.i2b, 1)) (hv : x.toInt8.toInt32 = v) (hp : pc + 1 = pc') : Wk p l e R s m args below meth c bytes mxl rt Z a0 EL own n0 h0 ws S0 V h cells slots (mkF m pc' L (.int v :: st)) := by
  subst hv hp
  exact W.plain fun T hq hx hby t k => Jvm.Free.XT.i2b hq hx rfl (hb hby hd) rfl k
theorem Wk.i2c {x v : Int32} (W : Wk p l e R s m args below meth c bytes mxl rt Z a0 EL own n0 h0 ws S0 V h cells slots (mkF m pc L (.int x :: st))) (hd : decode bytes pc = .ok (.i2c, 1)) (hv : x.toUInt32.toUInt16.toUInt32.toInt32 = v) (hp : pc + 1 = pc') : Wk p l e R s m args below meth c bytes mxl rt Z a0 EL own n0 h0 ws S0 V h cells slots (mkF m pc' L (.int v :: st)) := by
  subst hv hp
  exact W.plain fun T hq hx hby t k => Jvm.Free.XT.i2c hq hx rfl (hb hby hd) rfl k
theorem Wk.i2s {x v : Int32} (W : Wk p l e R s m args below meth c bytes mxl rt Z a0 EL own n0 h0 ws S0 V h cells slots (mkF m pc L (.int x :: st))) (hd : decode bytes pc = .ok (.i2s, 1)) (hv : x.toInt16.toInt32 = v) (hp : pc + 1 = pc') : Wk p l e R s m args below meth c bytes mxl rt Z a0 EL own n0 h0 ws S0 V h cells slots (mkF m pc' L (.int v :: st)) := by
  subst hv hp
  exact W.plain fun T hq hx hby t k => Jvm.Free.XT.i2s hq hx rfl (hb hby hd) rfl k
theorem Wk.ladd {x y v : Int64} (W : Wk p l e R s m args below meth c bytes mxl rt Z a0 EL own n0 h0 ws S0 V h cells slots (mkF m pc L (.long y :: .long x :: st))) (hd : decode bytes pc = .ok (.ladd, 1)) (hv : x + y = v) (hp : pc + 1 = pc') : Wk p l e R s m args below meth c bytes mxl rt Z a0 EL own n0 h0 ws S0 V h cells slots (mkF m pc' L (.long v :: st)) := by
  subst hv hp
  exact W.plain fun T hq hx hby t k => Jvm.Free.XT.ladd hq hx rfl (hb hby hd) rfl k
theorem Wk.lsub {x y v : Int64} (W : Wk p l e R s m args below meth c bytes mxl rt Z a0 EL own n0 h0 ws S0 V h cells slots (mkF m pc L (.long y :: .long x :: st))) (hd : decode bytes pc = .ok (.lsub, 1)) (hv : x - y = v) (hp : pc + 1 = pc') : Wk p l e R s m args below meth c bytes mxl rt Z a0 EL own n0 h0 ws S0 V h cells slots (mkF m pc' L (.long v :: st)) := by
  subst hv hp
  exact W.plain fun T hq hx hby t k => Jvm.Free.XT.lsub hq hx rfl (hb hby hd) rfl k
theorem Wk.lmul {x y v : Int64} (W : Wk p l e R s m args below meth c bytes mxl rt Z a0 EL own n0 h0 ws S0 V h cells slots (mkF m pc L (.long y :: .long x :: st))) (hd : decode bytes pc = .ok (.lmul, 1)) (hv : x * y = v) (hp : pc + 1 = pc') : Wk p l e R s m args below meth c bytes mxl rt Z a0 EL own n0 h0 ws S0 V h cells slots (mkF m pc' L (.long v :: st)) := by
  subst hv hp
  exact W.plain fun T hq hx hby t k => Jvm.Free.XT.lmul hq hx rfl (hb hby hd) rfl k
theorem Wk.land {x y v : Int64} (W : Wk p l e R s m args below meth c bytes mxl rt Z a0 EL own n0 h0 ws S0 V h cells slots (mkF m pc L (.long y :: .long x :: st))) (hd : decode bytes pc = .ok (.land, 1)) (hv : x &&& y = v) (hp : pc + 1 = pc') : Wk p l e R s m args below meth c bytes mxl rt Z a0 EL own n0 h0 ws S0 V h cells slots (mkF m pc' L (.long v :: st)) := by
  subst hv hp
  exact W.plain fun T hq hx hby t k => Jvm.Free.XT.land hq hx rfl (hb hby hd) rfl k
theorem Wk.lor {x y v : Int64} (W : Wk p l e R s m args below meth c bytes mxl rt Z a0 EL own n0 h0 ws S0 V h cells slots (mkF m pc L (.long y :: .long x :: st))) (hd : decode bytes pc = .ok (.lor, 1)) (hv : x ||| y = v) (hp : pc + 1 = pc') : Wk p l e R s m args below meth c bytes mxl rt Z a0 EL own n0 h0 ws S0 V h cells slots (mkF m pc' L (.long v :: st)) := by
  subst hv hp
  exact W.plain fun T hq hx hby t k => Jvm.Free.XT.lor hq hx rfl (hb hby hd) rfl k
theorem Wk.lxor {x y v : Int64} (W : Wk p l e R s m args below meth c bytes mxl rt Z a0 EL own n0 h0 ws S0 V h cells slots (mkF m pc L (.long y :: .long x :: st))) (hd : decode bytes pc = .ok (.lxor, 1)) (hv : x ^^^ y = v) (hp : pc + 1 = pc') : Wk p l e R s m args below meth c bytes mxl rt Z a0 EL own n0 h0 ws S0 V h cells slots (mkF m pc' L (.long v :: st)) := by
  subst hv hp
  exact W.plain fun T hq hx hby t k => Jvm.Free.XT.lxor hq hx rfl (hb hby hd) rfl k
theorem Wk.ldiv {x y v : Int64} (W : Wk p l e R s m args below meth c bytes mxl rt Z a0 EL own n0 h0 ws S0 V h cells slots (mkF m pc L (.long y :: .long x :: st))) (hd : decode bytes pc = .ok (.ldiv, 1)) (hy : y ≠ 0) (hv : x / y = v) (hp : pc + 1 = pc') : Wk p l e R s m args below meth c bytes mxl rt Z a0 EL own n0 h0 ws S0 V h cells slots (mkF m pc' L (.long v :: st)) := by
  subst hv hp
  exact W.plain fun T hq hx hby t k => Jvm.Free.XT.ldiv hq hx rfl (hb hby hd) rfl hy k
theorem Wk.lrem {x y v : Int64} (W : Wk p l e R s m args below meth c bytes mxl rt Z a0 EL own n0 h0 ws S0 V h cells slots (mkF m pc L (.long y :: .long x :: st))) (hd : decode bytes pc = .ok (.lrem, 1)) (hy : y ≠ 0) (hv : x - (x / y) * y = v) (hp : pc + 1 = pc') : Wk p l e R s m args below meth c bytes mxl rt Z a0 EL own n0 h0 ws S0 V h cells slots (mkF m pc' L (.long v :: st)) := by
  subst hv hp
  exact W.plain fun T hq hx hby t k => Jvm.Free.XT.lrem hq hx rfl (hb hby hd) rfl hy k
theorem Wk.lshl {x v : Int64} {y : Int32} (W : Wk p l e R s m args below meth c bytes mxl rt Z a0 EL own n0 h0 ws S0 V h cells slots (mkF m pc L (.int y :: .long x :: st))) (hd : decode bytes pc = .ok (.lshl, 1)) (hv : x <<< (y.toInt64 &&& 63) = v) (hp : pc + 1 = pc') : Wk p l e R s m args below meth c bytes mxl rt Z a0 EL own n0 h0 ws S0 V h cells slots (mkF m pc' L (.long v :: st)) := by
  subst hv hp
  exact W.plain fun T hq hx hby t k => Jvm.Free.XT.lshl hq hx rfl (hb hby hd) rfl k
theorem Wk.lshr {x v : Int64} {y : Int32} (W : Wk p l e R s m args below meth c bytes mxl rt Z a0 EL own n0 h0 ws S0 V h cells slots (mkF m pc L (.int y :: .long x :: st))) (hd : decode bytes pc = .ok (.lshr, 1)) (hv : x >>> (y.toInt64 &&& 63) = v) (hp : pc + 1 = pc') : Wk p l e R s m args below meth c bytes mxl rt Z a0 EL own n0 h0 ws S0 V h cells slots (mkF m pc' L (.long v :: st)) := by
  subst hv hp
  exact W.plain fun T hq hx hby t k => Jvm.Free.XT.lshr hq hx rfl (hb hby hd) rfl k
theorem Wk.lushr {x v : Int64} {y : Int32} (W : Wk p l e R s m args below meth c bytes mxl rt Z a0 EL own n0 h0 ws S0 V h cells slots (mkF m pc L (.int y :: .long x :: st))) (hd : decode bytes pc = .ok (.lushr, 1)) (hv : Jvm.Free.XT.ushrL x y = v) (hp : pc + 1 = pc') : Wk p l e R s m args below meth c bytes mxl rt Z a0 EL own n0 h0 ws S0 V h cells slots (mkF m pc' L (.long v :: st)) := by
  subst hv hp
  exact W.plain fun T hq hx hby t k => Jvm.Free.XT.lushr hq hx rfl (hb hby hd) rfl k
theorem Wk.lneg {x v : Int64} (W : Wk p l e R s m args below meth c bytes mxl rt Z a0 EL own n0 h0 ws S0 V h cells slots (mkF m pc L (.long x :: st))) (hd : decode bytes pc = .ok (.lneg, 1)) (hv : -x = v) (hp : pc + 1 = pc') : Wk p l e R s m args below meth c bytes mxl rt Z a0 EL own n0 h0 ws S0 V h cells slots (mkF m pc' L (.long v :: st)) := by
  subst hv hp
  exact W.plain fun T hq hx hby t k => Jvm.Free.XT.lneg hq hx rfl (hb hby hd) rfl k
theorem Wk.i2l {x : Int32} {v : Int64} (W : Wk p l e R s m args below meth c bytes mxl rt Z a0 EL own n0 h0 ws S0 V h cells slots (mkF m pc L (.int x :: st))) (hd : decode bytes pc = .ok (.i2l, 1)) (hv : x.toInt64 = v) (hp : pc + 1 = pc') : Wk p l e R s m args below meth c bytes mxl rt Z a0 EL own n0 h0 ws S0 V h cells slots (mkF m pc' L (.long v :: st)) := by
  subst hv hp
  exact W.plain fun T hq hx hby t k => Jvm.Free.XT.i2l hq hx rfl (hb hby hd) rfl k
theorem Wk.l2i {x : Int64} {v : Int32} (W : Wk p l e R s m args below meth c bytes mxl rt Z a0 EL own n0 h0 ws S0 V h cells slots (mkF m pc L (.long x :: st))) (hd : decode bytes pc = .ok (.l2i, 1)) (hv : x.toInt32 = v) (hp : pc + 1 = pc') : Wk p l e R s m args below meth c bytes mxl rt Z a0 EL own n0 h0 ws S0 V h cells slots (mkF m pc' L (.int v :: st)) := by
  subst hv hp
  exact W.plain fun T hq hx hby t k => Jvm.Free.XT.l2i hq hx rfl (hb hby hd) rfl k
theorem Wk.lcmp {x y : Int64} {v : Int32} (W : Wk p l e R s m args below meth c bytes mxl rt Z a0 EL own n0 h0 ws S0 V h cells slots (mkF m pc L (.long y :: .long x :: st))) (hd : decode bytes pc = .ok (.lcmp, 1)) (hv : Jvm.Free.XT.cmpL x y = v) (hp : pc + 1 = pc') : Wk p l e R s m args below meth c bytes mxl rt Z a0 EL own n0 h0 ws S0 V h cells slots (mkF m pc' L (.int v :: st)) := by
  subst hv hp
  exact W.plain fun T hq hx hby t k => Jvm.Free.XT.lcmp hq hx rfl (hb hby hd) rfl k
theorem Wk.dup {x : Value} (W : Wk p l e R s m args below meth c bytes mxl rt Z a0 EL own n0 h0 ws S0 V h cells slots (mkF m pc L (x :: st))) (hd : decode bytes pc = .ok (.dup, 1)) (hc : x.category = 1) (hp : pc + 1 = pc') : Wk p l e R s m args below meth c bytes mxl rt Z a0 EL own n0 h0 ws S0 V h cells slots (mkF m pc' L (x :: x :: st)) := by
  subst hp
  exact W.plain fun T hq hx hby t k => XS.dup hq hx rfl (hb hby hd) rfl hc k
theorem Wk.pop {x : Value} (W : Wk p l e R s m args below meth c bytes mxl rt Z a0 EL own n0 h0 ws S0 V h cells slots (mkF m pc L (x :: st))) (hd : decode bytes pc = .ok (.pop, 1)) (hc : x.category = 1) (hp : pc + 1 = pc') : Wk p l e R s m args below meth c bytes mxl rt Z a0 EL own n0 h0 ws S0 V h cells slots (mkF m pc' L st) := by
  subst hp
  exact W.plain fun T hq hx hby t k => Jvm.Free.XT.pop hq hx rfl (hb hby hd) rfl hc k
theorem Wk.dupX1 {x y : Value} (W : Wk p l e R s m args below meth c bytes mxl rt Z a0 EL own n0 h0 ws S0 V h cells slots (mkF m pc L (x :: y :: st))) (hd : decode bytes pc = .ok (.dup_x1, 1)) (hc : x.category = 1) (hc' : y.category = 1) (hp : pc + 1 = pc') : Wk p l e R s m args below meth c bytes mxl rt Z a0 EL own n0 h0 ws S0 V h cells slots (mkF m pc' L (x :: y :: x :: st)) := by
  subst hp
  exact W.plain fun T hq hx hby t k => Jvm.Free.XT.dupX1 hq hx rfl (hb hby hd) rfl hc hc' k
theorem Wk.dup2 {x y : Value} (W : Wk p l e R s m args below meth c bytes mxl rt Z a0 EL own n0 h0 ws S0 V h cells slots (mkF m pc L (x :: y :: st))) (hd : decode bytes pc = .ok (.dup2, 1)) (hc : x.category = 1) (hc' : y.category = 1) (hp : pc + 1 = pc') : Wk p l e R s m args below meth c bytes mxl rt Z a0 EL own n0 h0 ws S0 V h cells slots (mkF m pc' L (x :: y :: x :: y :: st)) := by
  subst hp
  exact W.plain fun T hq hx hby t k => Jvm.Free.XT.dup2 hq hx rfl (hb hby hd) rfl hc hc' k
theorem Wk.dup2L {x : Int64} (W : Wk p l e R s m args below meth c bytes mxl rt Z a0 EL own n0 h0 ws S0 V h cells slots (mkF m pc L (.long x :: st))) (hd : decode bytes pc = .ok (.dup2, 1))  (hp : pc + 1 = pc') : Wk p l e R s m args below meth c bytes mxl rt Z a0 EL own n0 h0 ws S0 V h cells slots (mkF m pc' L (.long x :: .long x :: st)) := by
  subst hp
  exact W.plain fun T hq hx hby t k => Jvm.Free.XT.dup2L hq hx rfl (hb hby hd) rfl k
theorem Wk.istoreN {k : Fin 4} {x : Int32} {L' : Array Slot} (W : Wk p l e R s m args below meth c bytes mxl rt Z a0 EL own n0 h0 ws S0 V h cells slots (mkF m pc L (.int x :: st))) (hd : decode bytes pc = .ok (.istore_n k, 1)) (hl : storeLocals L k.val (.int x) = some L') (hp : pc + 1 = pc') : Wk p l e R s m args below meth c bytes mxl rt Z a0 EL own n0 h0 ws S0 V h cells slots (mkF m pc' L' st) := by
  subst hp
  exact W.plain fun T hq hx hby t k => XS.istoreN hq hx rfl (hb hby hd) rfl hl k
theorem Wk.istore {k : Nat} {x : Int32} {L' : Array Slot} (W : Wk p l e R s m args below meth c bytes mxl rt Z a0 EL own n0 h0 ws S0 V h cells slots (mkF m pc L (.int x :: st))) (hd : decode bytes pc = .ok (.istore k, 2)) (hl : storeLocals L k (.int x) = some L') (hp : pc + 2 = pc') : Wk p l e R s m args below meth c bytes mxl rt Z a0 EL own n0 h0 ws S0 V h cells slots (mkF m pc' L' st) := by
  subst hp
  exact W.plain fun T hq hx hby t k => XS.istore hq hx rfl (hb hby hd) rfl hl k
theorem Wk.astoreN {k : Fin 4} {x : Value} {L' : Array Slot} (W : Wk p l e R s m args below meth c bytes mxl rt Z a0 EL own n0 h0 ws S0 V h cells slots (mkF m pc L (x :: st))) (hd : decode bytes pc = .ok (.astore_n k, 1)) (hr : x.isRef = true) (hl : storeLocals L k.val x = some L') (hp : pc + 1 = pc') : Wk p l e R s m args below meth c bytes mxl rt Z a0 EL own n0 h0 ws S0 V h cells slots (mkF m pc' L' st) := by
  subst hp
  exact W.plain fun T hq hx hby t k => XS.astoreN hq hx rfl (hb hby hd) rfl hr hl k
theorem Wk.astore {k : Nat} {x : Value} {L' : Array Slot} (W : Wk p l e R s m args below meth c bytes mxl rt Z a0 EL own n0 h0 ws S0 V h cells slots (mkF m pc L (x :: st))) (hd : decode bytes pc = .ok (.astore k, 2)) (hr : x.isRef = true) (hl : storeLocals L k x = some L') (hp : pc + 2 = pc') : Wk p l e R s m args below meth c bytes mxl rt Z a0 EL own n0 h0 ws S0 V h cells slots (mkF m pc' L' st) := by
  subst hp
  exact W.plain fun T hq hx hby t k => XS.astore hq hx rfl (hb hby hd) rfl hr hl k
theorem Wk.lstoreN {k : Fin 4} {x : Int64} {L' : Array Slot} (W : Wk p l e R s m args below meth c bytes mxl rt Z a0 EL own n0 h0 ws S0 V h cells slots (mkF m pc L (.long x :: st))) (hd : decode bytes pc = .ok (.lstore_n k, 1)) (hl : storeLocals L k.val (.long x) = some L') (hp : pc + 1 = pc') : Wk p l e R s m args below meth c bytes mxl rt Z a0 EL own n0 h0 ws S0 V h cells slots (mkF m pc' L' st) := by
  subst hp
  exact W.plain fun T hq hx hby t k => Jvm.Free.XT.lstoreN hq hx rfl (hb hby hd) rfl hl k
theorem Wk.lstore {k : Nat} {x : Int64} {L' : Array Slot} (W : Wk p l e R s m args below meth c bytes mxl rt Z a0 EL own n0 h0 ws S0 V h cells slots (mkF m pc L (.long x :: st))) (hd : decode bytes pc = .ok (.lstore k, 2)) (hl : storeLocals L k (.long x) = some L') (hp : pc + 2 = pc') : Wk p l e R s m args below meth c bytes mxl rt Z a0 EL own n0 h0 ws S0 V h cells slots (mkF m pc' L' st) := by
  subst hp
  exact W.plain fun T hq hx hby t k => Jvm.Free.XT.lstore hq hx rfl (hb hby hd) rfl hl k
theorem Wk.iinc {k : Nat} {cst : Int} {x v : Int32} {L' : Array Slot} (W : Wk p l e R s m args below meth c bytes mxl rt Z a0 EL own n0 h0 ws S0 V h cells slots (mkF m pc L st)) (hd : decode bytes pc = .ok (.iinc k cst, 3)) (hl : L[k]? = some (.val (.int x))) (hv : x + Int32.ofInt cst = v) (hl' : storeLocals L k (.int v) = some L') (hp : pc + 3 = pc') : Wk p l e R s m args below meth c bytes mxl rt Z a0 EL own n0 h0 ws S0 V h cells slots (mkF m pc' L' st) := by
  subst hv hp
  exact W.plain fun T hq hx hby t k => XS.iinc hq hx rfl (hb hby hd) hl hl' k
theorem Wk.goto {o : Int} (W : Wk p l e R s m args below meth c bytes mxl rt Z a0 EL own n0 h0 ws S0 V h cells slots (mkF m pc L st)) (hd : decode bytes pc = .ok (.goto o, 3))  (ho : 0 ≤ (pc : Int) + o) (hp : ((pc : Int) + o).toNat = pc') : Wk p l e R s m args below meth c bytes mxl rt Z a0 EL own n0 h0 ws S0 V h cells slots (mkF m pc' L st) := by
  exact W.plain fun T hq hx hby t k => XS.goto hq hx rfl (pc0 := pc) rfl (hb hby hd)  ho hp k
theorem Wk.ifT {cd : ClassFile.Cond} {x : Int32} {o : Int} (W : Wk p l e R s m args below meth c bytes mxl rt Z a0 EL own n0 h0 ws S0 V h cells slots (mkF m pc L (.int x :: st))) (hd : decode bytes pc = .ok (.ifCond cd o, 3)) (hc : if_icmp.holds cd x 0 = true) (ho : 0 ≤ (pc : Int) + o) (hp : ((pc : Int) + o).toNat = pc') : Wk p l e R s m args below meth c bytes mxl rt Z a0 EL own n0 h0 ws S0 V h cells slots (mkF m pc' L st) := by
  exact W.plain fun T hq hx hby t k => XS.ifYes hq hx rfl (pc0 := pc) rfl (hb hby hd) rfl ((if0 cd x).trans hc) ho hp k
theorem Wk.ifF {cd : ClassFile.Cond} {x : Int32} {o : Int} (W : Wk p l e R s m args below meth c bytes mxl rt Z a0 EL own n0 h0 ws S0 V h cells slots (mkF m pc L (.int x :: st))) (hd : decode bytes pc = .ok (.ifCond cd o, 3)) (hc : if_icmp.holds cd x 0 = false) (hp : pc + 3 = pc') : Wk p l e R s m args below meth c bytes mxl rt Z a0 EL own n0 h0 ws S0 V h cells slots (mkF m pc' L st) := by
  subst hp
  exact W.plain fun T hq hx hby t k => XS.ifNo hq hx rfl (hb hby hd) rfl ((if0 cd x).trans hc) k
theorem Wk.icmpT {cd : ClassFile.Cond} {x y : Int32} {o : Int} (W : Wk p l e R s m args below meth c bytes mxl rt Z a0 EL own n0 h0 ws S0 V h cells slots (mkF m pc L (.int y :: .int x :: st))) (hd : decode bytes pc = .ok (.if_icmp cd o, 3)) (hc : if_icmp.holds cd x y = true) (ho : 0 ≤ (pc : Int) + o) (hp : ((pc : Int) + o).toNat = pc') : Wk p l e R s m args below meth c bytes mxl rt Z a0 EL own n0 h0 ws S0 V h cells slots (mkF m pc' L st) := by
  exact W.plain fun T hq hx hby t k => XS.icmpYes hq hx rfl (pc0 := pc) rfl (hb hby hd) rfl hc ho hp k
theorem Wk.icmpF {cd : ClassFile.Cond} {x y : Int32} {o : Int} (W : Wk p l e R s m args below meth c bytes mxl rt Z a0 EL own n0 h0 ws S0 V h cells slots (mkF m pc L (.int y :: .int x :: st))) (hd : decode bytes pc = .ok (.if_icmp cd o, 3)) (hc : if_icmp.holds cd x y = false) (hp : pc + 3 = pc') : Wk p l e R s m args below meth c bytes mxl rt Z a0 EL own n0 h0 ws S0 V h cells slots (mkF m pc' L st) := by
  subst hp
  exact W.plain fun T hq hx hby t k => XS.icmpNo hq hx rfl (hb hby hd) rfl hc k
theorem Wk.ifnullT {o : Int} (W : Wk p l e R s m args below meth c bytes mxl rt Z a0 EL own n0 h0 ws S0 V h cells slots (mkF m pc L (.null :: st))) (hd : decode bytes pc = .ok (.ifnull o, 3))  (ho : 0 ≤ (pc : Int) + o) (hp : ((pc : Int) + o).toNat = pc') : Wk p l e R s m args below meth c bytes mxl rt Z a0 EL own n0 h0 ws S0 V h cells slots (mkF m pc' L st) := by
  exact W.plain fun T hq hx hby t k => XS.ifnullYes hq hx rfl (pc0 := pc) rfl (hb hby hd) rfl ho hp k
theorem Wk.ifnullF {o : Int} {b : Addr} (W : Wk p l e R s m args below meth c bytes mxl rt Z a0 EL own n0 h0 ws S0 V h cells slots (mkF m pc L (.ref b :: st))) (hd : decode bytes pc = .ok (.ifnull o, 3))  (hp : pc + 3 = pc') : Wk p l e R s m args below meth c bytes mxl rt Z a0 EL own n0 h0 ws S0 V h cells slots (mkF m pc' L st) := by
  subst hp
  exact W.plain fun T hq hx hby t k => XS.ifnullNo hq hx rfl (hb hby hd) rfl k
theorem Wk.ifnonnullT {o : Int} {b : Addr} (W : Wk p l e R s m args below meth c bytes mxl rt Z a0 EL own n0 h0 ws S0 V h cells slots (mkF m pc L (.ref b :: st))) (hd : decode bytes pc = .ok (.ifnonnull o, 3))  (ho : 0 ≤ (pc : Int) + o) (hp : ((pc : Int) + o).toNat = pc') : Wk p l e R s m args below meth c bytes mxl rt Z a0 EL own n0 h0 ws S0 V h cells slots (mkF m pc' L st) := by
  exact W.plain fun T hq hx hby t k => Jvm.Free.XT.ifnonnullYes hq hx rfl (pc0 := pc) rfl (hb hby hd) rfl ho hp k
theorem Wk.ifnonnullF {o : Int} (W : Wk p l e R s m args below meth c bytes mxl rt Z a0 EL own n0 h0 ws S0 V h cells slots (mkF m pc L (.null :: st))) (hd : decode bytes pc = .ok (.ifnonnull o, 3))  (hp : pc + 3 = pc') : Wk p l e R s m args below meth c bytes mxl rt Z a0 EL own n0 h0 ws S0 V h cells slots (mkF m pc' L st) := by
  subst hp
  exact W.plain fun T hq hx hby t k => Jvm.Free.XT.ifnonnullNo hq hx rfl (hb hby hd) rfl k
theorem Wk.acmpT {cd : ClassFile.ACond} {x y : Value} {o : Int} (W : Wk p l e R s m args below meth c bytes mxl rt Z a0 EL own n0 h0 ws S0 V h cells slots (mkF m pc L (y :: x :: st))) (hd : decode bytes pc = .ok (.if_acmp cd o, 3)) (hx' : x.isRef = true) (hy' : y.isRef = true) (hc : Jvm.Free.XT.acmp cd x y = true) (ho : 0 ≤ (pc : Int) + o) (hp : ((pc : Int) + o).toNat = pc') : Wk p l e R s m args below meth c bytes mxl rt Z a0 EL own n0 h0 ws S0 V h cells slots (mkF m pc' L st) := by
  exact W.plain fun T hq hx hby t k => Jvm.Free.XT.acmpYes hq hx rfl (pc0 := pc) rfl (hb hby hd) rfl hx' hy' hc ho hp k
theorem Wk.acmpF {cd : ClassFile.ACond} {x y : Value} {o : Int} (W : Wk p l e R s m args below meth c bytes mxl rt Z a0 EL own n0 h0 ws S0 V h cells slots (mkF m pc L (y :: x :: st))) (hd : decode bytes pc = .ok (.if_acmp cd o, 3)) (hx' : x.isRef = true) (hy' : y.isRef = true) (hc : Jvm.Free.XT.acmp cd x y = false) (hp : pc + 3 = pc') : Wk p l e R s m args below meth c bytes mxl rt Z a0 EL own n0 h0 ws S0 V h cells slots (mkF m pc' L st) := by
  subst hp
  exact W.plain fun T hq hx hby t k => Jvm.Free.XT.acmpNo hq hx rfl (hb hby hd) rfl hx' hy' hc k
theorem Wk.new {C : String} {index n cells' slots' : Nat} (W : Wk p l e R s m args below meth c bytes mxl rt Z a0 EL own n0 h0 ws S0 V h cells slots (mkF m pc L st)) (hd : decode bytes pc = .ok (.new index, 3)) (w : (Jvm.Cond.classLink own index C).before a0 Z = true) (wi : (Jvm.Cond.instantiable C n).before a0 Z = true) (wz : (Jvm.Cond.initialized C).before a0 Z = true) (hp : pc + 3 = pc') (hc : cells + 1 = cells') (hs : slots + n = slots') (hc' : cells' ≤ R.cells) (hs' : slots' ≤ R.slots) :
    ∃ h' a, Wk p l e R s m args below meth c bytes mxl rt Z a0 EL own n0 h0 ws S0 V h' cells' slots' (mkF m pc' L (.ref a :: st)) ∧ Ext h h' ∧ a = h.size ∧ (Exa Z h' h.size C ∧ (∀ {O nm d : String} {ty : FieldType}, Laid Z a0 C O nm d → parseFieldDescriptor d = some ty → Fld Z h' h.size O nm d (defaultValue ty)) ∧ Unt h' h.size) ∧ Safe Z EL V h' a ∧ ∀ x, Safe Z EL V h x → Safe Z EL V h' x := by
  subst hp hc hs
  refine W.grew (G := fun a => mkF m (pc + 3) L (.ref a :: st)) (Q := fun h' => Exa Z h' h.size C ∧ (∀ {O nm d : String} {ty : FieldType}, Laid Z a0 C O nm d → parseFieldDescriptor d = some ty → Fld Z h' h.size O nm d (defaultValue ty)) ∧ Unt h' h.size) fun T locs X eT hx hby hZ hown => ?_
  obtain ⟨T', h', X', e', E, A, D, U, st'⟩ := newO X hx hZ hown w wi wz eT (g := mkF m pc L st) rfl (hb hby hd) hc' hs'
  exact ⟨T', h', X', e', E, ⟨A, D, U⟩, st'⟩
theorem Wk.newarr {aty : ArrayType} {z : Int32} {cap cells' slots' : Nat} (W : Wk p l e R s m args below meth c bytes mxl rt Z a0 EL own n0 h0 ws S0 V h cells slots (mkF m pc L (.int z :: st))) (hd : decode bytes pc = .ok (.newarray aty, 2)) (w : (Jvm.Cond.arrayClass (newarray.typeOf aty)).before a0 Z = true) (hn : ¬ z < 0) (hcap : z.toNatClampNeg ≤ cap) (hbig : cap * 8 ≤ 536870912) (hp : pc + 2 = pc') (hc : cells + 1 = cells') (hs : slots + cap = slots') (hc' : cells' ≤ R.cells) (hs' : slots' ≤ R.slots) :
    ∃ h' a, Wk p l e R s m args below meth c bytes mxl rt Z a0 EL own n0 h0 ws S0 V h' cells' slots' (mkF m pc' L (.ref a :: st)) ∧ Ext h h' ∧ a = h.size ∧ (∃ k, Arv Z h' h.size k (newarray.typeOf aty) z [] (defaultValue (newarray.typeOf aty))) ∧ Safe Z EL V h' a ∧ ∀ x, Safe Z EL V h x → Safe Z EL V h' x := by
  subst hp hc hs
  refine W.grew (G := fun a => mkF m (pc + 2) L (.ref a :: st)) (Q := fun h' => ∃ k, Arv Z h' h.size k (newarray.typeOf aty) z [] (defaultValue (newarray.typeOf aty))) fun T locs X eT hx hby hZ hown => ?_
  obtain ⟨T', h', k, X', e', E, A, st'⟩ := newP X hx hZ w eT (g := mkF m pc L (.int z :: st)) rfl (hb hby hd) rfl hn (cap := cap) hcap hbig hc' hs'
  exact ⟨T', h', X', e', E, ⟨k, Arv.new A hn⟩, st'⟩
theorem Wk.newarrE {aty : ArrayType} {z : Int32} {ad : String} {cap cells' slots' : Nat} (W : Wk p l e R s m args below meth c bytes mxl rt Z a0 EL own n0 h0 ws S0 V h cells slots (mkF m pc L (.int z :: st))) (hd : decode bytes pc = .ok (.newarray aty, 2)) (w : (Jvm.Cond.arrayClass (newarray.typeOf aty)).before a0 Z = true) (had : "[" ++ (newarray.typeOf aty).toString = ad) (hn : ¬ z < 0) (hcap : z.toNatClampNeg ≤ cap) (hbig : cap * 8 ≤ 536870912) (hp : pc + 2 = pc') (hc : cells + 1 = cells') (hs : slots + cap = slots') (hc' : cells' ≤ R.cells) (hs' : slots' ≤ R.slots) :
    ∃ h' a, Wk p l e R s m args below meth c bytes mxl rt Z a0 EL own n0 h0 ws S0 V h' cells' slots' (mkF m pc' L (.ref a :: st)) ∧ Ext h h' ∧ a = h.size ∧ ((∃ k, Arv Z h' h.size k (newarray.typeOf aty) z [] (defaultValue (newarray.typeOf aty))) ∧ Exa Z h' h.size ad) ∧ Safe Z EL V h' a ∧ ∀ x, Safe Z EL V h x → Safe Z EL V h' x := by
  subst hp hc hs
  refine W.grew (G := fun a => mkF m (pc + 2) L (.ref a :: st)) (Q := fun h' => (∃ k, Arv Z h' h.size k (newarray.typeOf aty) z [] (defaultValue (newarray.typeOf aty))) ∧ Exa Z h' h.size ad) fun T locs X eT hx hby hZ hown => ?_
  obtain ⟨T', h', k, X', e', E, A, B, st'⟩ := newPE X hx hZ w eT (g := mkF m pc L (.int z :: st)) rfl (hb hby hd) rfl hn (cap := cap) hcap hbig hc' hs' had
  exact ⟨T', h', X', e', E, ⟨⟨k, Arv.new A hn⟩, B⟩, st'⟩
theorem Wk.clone {index : Nat} {ad : String} {a : Addr} {k : ClassId} {ty : FieldType} {z : Int32} {vs : List Value} {dv : Value} {cap Wd cells' slots' : Nat} (W : Wk p l e R s m args below meth c bytes mxl rt Z a0 EL own n0 h0 ws S0 V h cells slots (mkF m pc L (.ref a :: st))) (hd : decode bytes pc = .ok (.invokevirtual index, 3)) (w1 : (Jvm.Cond.methodLink own index ⟨ad, "clone", "()Ljava/lang/Object;"⟩).before a0 Z = true) (w2 : (Jvm.Cond.sameMethod ad "java/lang/Object" "clone" "()Ljava/lang/Object;").before a0 Z = true) (w3 : (Jvm.Cond.native ⟨"java/lang/Object", "clone", "()Ljava/lang/Object;"⟩).before a0 Z = true) (w4 : (Jvm.Cond.instanceMethod ⟨"java/lang/Object", "clone", "()Ljava/lang/Object;"⟩).before a0 Z = true) (w5 : (Jvm.Cond.selects ad ⟨ad, "clone", "()Ljava/lang/Object;"⟩ ⟨"java/lang/Object", "clone", "()Ljava/lang/Object;"⟩).before a0 Z = true) (w6 : (Jvm.Cond.castable ad "java/lang/Cloneable").before a0 Z = true) (A : Arv Z h a k ty z vs dv) (E : Exa Z h a ad) (hL : L.size = mxl) (hW : (st.map fun v => v.category).sum = Wd) (hf : 1 ≤ R.frames) (hl : Wd + 14 ≤ R.locals) (hcap : z.toNatClampNeg ≤ cap) (hp : pc + 3 = pc') (hc : cells + 1 = cells') (hs : slots + cap = slots') (hc' : cells' ≤ R.cells) (hs' : slots' ≤ R.slots) :
    ∃ h' a, Wk p l e R s m args below meth c bytes mxl rt Z a0 EL own n0 h0 ws S0 V h' cells' slots' (mkF m pc' L (.ref a :: st)) ∧ Ext h h' ∧ a = h.size ∧ (Arv Z h' h.size k ty z vs dv ∧ Exa Z h' h.size ad) ∧ Safe Z EL V h' a ∧ ∀ x, Safe Z EL V h x → Safe Z EL V h' x := by
  subst hp hc hs hW
  have hml := W.1.2.2.1
  refine W.grew (G := fun b => mkF m (pc + 3) L (.ref b :: st)) (Q := fun h' => Arv Z h' h.size k ty z vs dv ∧ Exa Z h' h.size ad) fun T locs X eT hx hby hZ hown => ?_
  obtain ⟨T', h', X', e', E', ⟨c', B1, B2, B3, B4, B5, B6⟩, C, st'⟩ := cloneH X hx hZ hown w1 w2 w3 w4 w5 w6 eT (Arv.arh A) E (g := mkF m pc L (.ref a :: st)) rfl (hL.trans hml.symm) rfl (hb hby hd) hf (by show 2 * 0 + _ ≤ _; exact Nat.le_of_eq (Nat.zero_add _)) hl hcap hc' hs'
  exact ⟨T', h', X', e', E', ⟨⟨c', B1, B2, B3, B4, B5, B6⟩, C⟩, st'⟩
theorem Wk.getf {index : Nat} {R0 O n d : String} {a : Addr} {v : Value} (W : Wk p l e R s m args below meth c bytes mxl rt Z a0 EL own n0 h0 ws S0 V h cells slots (mkF m pc L (.ref a :: st))) (hd : decode bytes pc = .ok (.getfield index, 3)) (w : (Jvm.Cond.fieldLink own index R0 n d).before a0 Z = true) (via : Via Z R0 O n d) (F : Fld Z h a O n d v) (hp : pc + 3 = pc') : Wk p l e R s m args below meth c bytes mxl rt Z a0 EL own n0 h0 ws S0 V h cells slots (mkF m pc' L (v :: st)) := by
  subst hp
  exact W.reads fun T locs X eT hx hby hZ hown => getF X hx hZ hown (host := "") (Or.inl w) via eT F (g := mkF m pc L (.ref a :: st)) rfl rfl (hb hby hd)
theorem Wk.gets {index : Nat} {O n d : String} {v : Value} (W : Wk p l e R s m args below meth c bytes mxl rt Z a0 EL own n0 h0 ws S0 V h cells slots (mkF m pc L st)) (hd : decode bytes pc = .ok (.getstatic index, 3)) (w : (Jvm.Cond.fieldLink own index O n d).before a0 Z = true) (S : Sta Z Z.heap O n d v) (hp : pc + 3 = pc') : Wk p l e R s m args below meth c bytes mxl rt Z a0 EL own n0 h0 ws S0 V h cells slots (mkF m pc' L (v :: st)) := by
  subst hp
  have S' := W.sta S
  exact W.reads fun T locs X eT hx hby hZ hown => getS (host := "") X hx hZ hown w Via.refl eT S' (g := mkF m pc L st) rfl (hb hby hd)
theorem Wk.castY {index : Nat} {K : String} {a : Addr} (W : Wk p l e R s m args below meth c bytes mxl rt Z a0 EL own n0 h0 ws S0 V h cells slots (mkF m pc L (.ref a :: st))) (hd : decode bytes pc = .ok (.checkcast index, 3)) (w : (Jvm.Cond.classLink own index K).before a0 Z = true) (I : Ins Z h a K true) (hp : pc + 3 = pc') : Wk p l e R s m args below meth c bytes mxl rt Z a0 EL own n0 h0 ws S0 V h cells slots (mkF m pc' L (.ref a :: st)) := by
  subst hp
  exact W.reads fun T locs X eT hx hby hZ hown => Jvm.RoadKit.castY X hx hZ hown w eT I (g := mkF m pc L (.ref a :: st)) rfl rfl (hb hby hd)
theorem Wk.instY {index : Nat} {K : String} {a : Addr} (W : Wk p l e R s m args below meth c bytes mxl rt Z a0 EL own n0 h0 ws S0 V h cells slots (mkF m pc L (.ref a :: st))) (hd : decode bytes pc = .ok (.instanceof index, 3)) (w : (Jvm.Cond.classLink own index K).before a0 Z = true) (I : Ins Z h a K true) (hp : pc + 3 = pc') : Wk p l e R s m args below meth c bytes mxl rt Z a0 EL own n0 h0 ws S0 V h cells slots (mkF m pc' L (.int 1 :: st)) := by
  subst hp
  exact W.reads fun T locs X eT hx hby hZ hown => Jvm.RoadKit.instY X hx hZ hown w eT I (g := mkF m pc L (.ref a :: st)) rfl rfl (hb hby hd)
theorem Wk.putf {index kk : Nat} {R0 O n d C : String} {ty : FieldType} {a : Addr} {v old : Value} (W : Wk p l e R s m args below meth c bytes mxl rt Z a0 EL own n0 h0 ws S0 V h cells slots (mkF m pc L (v :: .ref a :: st))) (hd : decode bytes pc = .ok (.putfield index, 3)) (w : (Jvm.Cond.fieldLink own index R0 n d).before a0 Z = true) (via : Via Z R0 O n d) (F : Fld Z h a O n d old) (E : Exa Z h a C) (Lw : (Jvm.Cond.lays C O n d).before a0 Z = true ∨ ((Jvm.Cond.laysFinal C O n d).before a0 Z = true ∧ own = O ∧ meth.name = "<init>")) (wi : (Jvm.Cond.instantiable C kk).before a0 Z = true) (hty : parseFieldDescriptor d = some ty) (hn : narrow ty v = v) (hf : fits ty v = true) (sf : Safe Z EL V h a) (q : a ∈ ws ∨ h0.size ≤ a) (hp : pc + 3 = pc') :
    ∃ h', Wk p l e R s m args below meth c bytes mxl rt Z a0 EL own n0 h0 ws S0 V h' cells slots (mkF m pc' L st) ∧ Wr h h' a (Jvm.RoadKit.slotOf Z O n d) v ∧ ∀ x, Safe Z EL V h x → Safe Z EL V h' x := by
  subst hp
  exact W.wrote (cells' := 0) (slots' := 0) (h' := h) sf q fun T locs X eT hx hby hZ hown => putF X hx hZ hown (host := "") (Or.inl w) via eT F E Lw wi hty hn hf (g := mkF m pc L (v :: .ref a :: st)) rfl rfl (hb hby hd)
theorem Wk.initO {index : Nat} {a : Addr} {Wd : Nat} (W : Wk p l e R s m args below meth c bytes mxl rt Z a0 EL own n0 h0 ws S0 V h cells slots (mkF m pc L (.ref a :: st))) (hd : decode bytes pc = .ok (.invokespecial index, 3)) (w1 : (Jvm.Cond.methodLink own index Lib.objectInit).before a0 Z = true) (w2 : (Jvm.Cond.instanceMethod Lib.objectInit).before a0 Z = true) (w3 : (Jvm.Cond.code Lib.objectInit ⟨#[0xb1]⟩ 1 none).before a0 Z = true) (hL : L.size = mxl) (hW : (st.map fun v => v.category).sum = Wd) (hf : 1 ≤ R.frames) (hl : Wd + 12 ≤ R.locals) (hp : pc + 3 = pc') : Wk p l e R s m args below meth c bytes mxl rt Z a0 EL own n0 h0 ws S0 V h cells slots (mkF m pc' L st) := by
  subst hp hW
  have hml := W.1.2.2.1
  exact W.reads fun T locs X eT hx hby hZ hown => Jvm.RoadKit.initO X hx hZ hown w1 w2 w3 eT (g := mkF m pc L (.ref a :: st)) rfl (hL.trans hml.symm) rfl (hb hby hd) hf (by show 2 * 0 + _ ≤ _; exact Nat.le_of_eq (Nat.zero_add _)) hl
theorem Wk.ldcI {index : Nat} {v : Int32} (W : Wk p l e R s m args below meth c bytes mxl rt Z a0 EL own n0 h0 ws S0 V h cells slots (mkF m pc L st)) (hd : decode bytes pc = .ok (.ldc index, 2)) (w : (Jvm.Cond.constant own index v).before a0 Z = true) (hp : pc + 2 = pc') : Wk p l e R s m args below meth c bytes mxl rt Z a0 EL own n0 h0 ws S0 V h cells slots (mkF m pc' L (.int v :: st)) := by
  subst hp
  exact W.reads fun T locs X eT hx hby hZ hown => ⟨T, X, eT, X.ldcInt hx hown (mvT hZ w) (g := mkF m pc L st) rfl (hb hby hd)⟩
theorem Wk.ldc2 {index : Nat} {v : Int64} (W : Wk p l e R s m args below meth c bytes mxl rt Z a0 EL own n0 h0 ws S0 V h cells slots (mkF m pc L st)) (hd : decode bytes pc = .ok (.ldc2_w index, 3)) (w : (Jvm.Cond.constantLong own index v).before a0 Z = true) (hp : pc + 3 = pc') : Wk p l e R s m args below meth c bytes mxl rt Z a0 EL own n0 h0 ws S0 V h cells slots (mkF m pc' L (.long v :: st)) := by
  subst hp
  exact W.reads fun T locs X eT hx hby hZ hown => ⟨T, X, eT, X.ldc2Long hx hown (mvT hZ w) (g := mkF m pc L st) rfl (hb hby hd)⟩
section Arrays
variable {a : Addr} {k : ClassId} {z j : Int32} {vs : List Value} {dv w : Value} {ty : FieldType} {i : Nat}
theorem Wk.alen (W : Wk p l e R s m args below meth c bytes mxl rt Z a0 EL own n0 h0 ws S0 V h cells slots (mkF m pc L (.ref a :: st))) (hd : decode bytes pc = .ok (.arraylength, 1)) (A : Arv Z h a k ty z vs dv) (hp : pc + 1 = pc') : Wk p l e R s m args below meth c bytes mxl rt Z a0 EL own n0 h0 ws S0 V h cells slots (mkF m pc' L (.int z :: st)) := by
  subst hp
  obtain ⟨cl, A1, -, S, M, -, -⟩ := A
  exact W.reads fun T locs X eT hx hby hZ hown => ⟨T, X, eT, fun t q => X.arraylength hx (by rw [eT]; exact A1.1) (State.isArrayOf_alike hZ.alike A1.2.1) (g := mkF m pc L (.ref a :: st)) rfl rfl (hb hby hd) t (by rw [len_of S M]; exact q)⟩
theorem Wk.caload (W : Wk p l e R s m args below meth c bytes mxl rt Z a0 EL own n0 h0 ws S0 V h cells slots (mkF m pc L (.int j :: .ref a :: st))) (hd : decode bytes pc = .ok (.caload, 1)) (A : Arv Z h a k .char z vs dv) (hj : ¬ j < 0 ∧ j < z) (hv : vs.getD j.toNatClampNeg dv = w) (hp : pc + 1 = pc') : Wk p l e R s m args below meth c bytes mxl rt Z a0 EL own n0 h0 ws S0 V h cells slots (mkF m pc' L (w :: st)) := by
  subst hp
  obtain ⟨cl, A1, -, S, M, H, -⟩ := A
  have hin := inb_of S hj
  exact W.reads fun T locs X eT hx hby hZ hown => ⟨T, X, eT, X.caload hx (by rw [eT]; exact A1.1) (State.isArrayOf_alike hZ.alike A1.2.1) A1.2.2 hin (H.at hin hv) (g := mkF m pc L (.int j :: .ref a :: st)) rfl rfl (hb hby hd)⟩
theorem Wk.baload (W : Wk p l e R s m args below meth c bytes mxl rt Z a0 EL own n0 h0 ws S0 V h cells slots (mkF m pc L (.int j :: .ref a :: st))) (hd : decode bytes pc = .ok (.baload, 1)) (A : Arv Z h a k .byte z vs dv) (hj : ¬ j < 0 ∧ j < z) (hv : vs.getD j.toNatClampNeg dv = w) (hp : pc + 1 = pc') : Wk p l e R s m args below meth c bytes mxl rt Z a0 EL own n0 h0 ws S0 V h cells slots (mkF m pc' L (w :: st)) := by
  subst hp
  obtain ⟨cl, A1, -, S, M, H, -⟩ := A
  have hin := inb_of S hj
  exact W.reads fun T locs X eT hx hby hZ hown => ⟨T, X, eT, X.baloadBytes hx (by rw [eT]; exact A1.1) (State.isArrayOf_alike hZ.alike A1.2.1) A1.2.2 hin (H.at hin hv) (g := mkF m pc L (.int j :: .ref a :: st)) rfl rfl (hb hby hd)⟩
theorem Wk.iaload (W : Wk p l e R s m args below meth c bytes mxl rt Z a0 EL own n0 h0 ws S0 V h cells slots (mkF m pc L (.int j :: .ref a :: st))) (hd : decode bytes pc = .ok (.iaload, 1)) (A : Arv Z h a k .int z vs dv) (hj : ¬ j < 0 ∧ j < z) (hv : vs.getD j.toNatClampNeg dv = w) (hp : pc + 1 = pc') : Wk p l e R s m args below meth c bytes mxl rt Z a0 EL own n0 h0 ws S0 V h cells slots (mkF m pc' L (w :: st)) := by
  subst hp
  obtain ⟨cl, A1, -, S, M, H, -⟩ := A
  have hin := inb_of S hj
  exact W.reads fun T locs X eT hx hby hZ hown => ⟨T, X, eT, X.iaload hx (by rw [eT]; exact A1.1) (State.isArrayOf_alike hZ.alike A1.2.1) A1.2.2 hin (H.at hin hv) (g := mkF m pc L (.int j :: .ref a :: st)) rfl rfl (hb hby hd)⟩
theorem Wk.laload (W : Wk p l e R s m args below meth c bytes mxl rt Z a0 EL own n0 h0 ws S0 V h cells slots (mkF m pc L (.int j :: .ref a :: st))) (hd : decode bytes pc = .ok (.laload, 1)) (A : Arv Z h a k .long z vs dv) (hj : ¬ j < 0 ∧ j < z) (hv : vs.getD j.toNatClampNeg dv = w) (hp : pc + 1 = pc') : Wk p l e R s m args below meth c bytes mxl rt Z a0 EL own n0 h0 ws S0 V h cells slots (mkF m pc' L (w :: st)) := by
  subst hp
  obtain ⟨cl, A1, -, S, M, H, -⟩ := A
  have hin := inb_of S hj
  exact W.reads fun T locs X eT hx hby hZ hown => ⟨T, X, eT, X.laload hx (by rw [eT]; exact A1.1) (State.isArrayOf_alike hZ.alike A1.2.1) A1.2.2 hin (H.at hin hv) (g := mkF m pc L (.int j :: .ref a :: st)) rfl rfl (hb hby hd)⟩
theorem Wk.saload (W : Wk p l e R s m args below meth c bytes mxl rt Z a0 EL own n0 h0 ws S0 V h cells slots (mkF m pc L (.int j :: .ref a :: st))) (hd : decode bytes pc = .ok (.saload, 1)) (A : Arv Z h a k .short z vs dv) (hj : ¬ j < 0 ∧ j < z) (hv : vs.getD j.toNatClampNeg dv = w) (hp : pc + 1 = pc') : Wk p l e R s m args below meth c bytes mxl rt Z a0 EL own n0 h0 ws S0 V h cells slots (mkF m pc' L (w :: st)) := by
  subst hp
  obtain ⟨cl, A1, -, S, M, H, -⟩ := A
  have hin := inb_of S hj
  exact W.reads fun T locs X eT hx hby hZ hown => ⟨T, X, eT, X.saload hx (by rw [eT]; exact A1.1) (State.isArrayOf_alike hZ.alike A1.2.1) A1.2.2 hin (H.at hin hv) (g := mkF m pc L (.int j :: .ref a :: st)) rfl rfl (hb hby hd)⟩
theorem Wk.aaload (W : Wk p l e R s m args below meth c bytes mxl rt Z a0 EL own n0 h0 ws S0 V h cells slots (mkF m pc L (.int j :: .ref a :: st))) (hd : decode bytes pc = .ok (.aaload, 1)) (A : Arv Z h a k ty z vs dv) (ht : ty.isReference = true) (hj : ¬ j < 0 ∧ j < z) (hv : vs.getD j.toNatClampNeg dv = w) (hp : pc + 1 = pc') : Wk p l e R s m args below meth c bytes mxl rt Z a0 EL own n0 h0 ws S0 V h cells slots (mkF m pc' L (w :: st)) := by
  subst hp
  obtain ⟨cl, A1, -, S, M, H, -⟩ := A
  have hin := inb_of S hj
  exact W.reads fun T locs X eT hx hby hZ hown => ⟨T, X, eT, X.aaload hx (by rw [eT]; exact A1.1) (State.isArrayOf_alike hZ.alike A1.2.1) ht A1.2.2 hin (H.at hin hv) (g := mkF m pc L (.int j :: .ref a :: st)) rfl rfl (hb hby hd)⟩
theorem Wk.castore {x x' : Int32} (W : Wk p l e R s m args below meth c bytes mxl rt Z a0 EL own n0 h0 ws S0 V h cells slots (mkF m pc L (.int x :: .int j :: .ref a :: st))) (hd : decode bytes pc = .ok (.castore, 1)) (A : Arv Z h a k .char z vs dv) (hj : ¬ j < 0 ∧ j < z) (hi : j.toNatClampNeg = i) (hlt : i < vs.length) (hx' : nar .char x = x') (sf : Safe Z EL V h a) (q : a ∈ ws ∨ h0.size ≤ a) (hp : pc + 1 = pc') :
    ∃ h', Wk p l e R s m args below meth c bytes mxl rt Z a0 EL own n0 h0 ws S0 V h' cells slots (mkF m pc' L st) ∧ Wr h h' a j.toNatClampNeg (.int x') ∧ Arv Z h' a k .char z (vs.set i (.int x')) dv ∧ ∀ x, Safe Z EL V h x → Safe Z EL V h' x := by
  subst hp hx'
  obtain ⟨cl, A1, q1, S, M, H, G⟩ := A
  have hin := inb_of S hj
  obtain ⟨h', W', w', sf'⟩ := W.wrote (cells' := 0) (slots' := 0) (h' := h) sf q fun T locs X eT hx hby hZ hown => stC X hx hZ eT A1 hin (g := mkF m pc L (.int x :: .int j :: .ref a :: st)) rfl rfl (hb hby hd)
  exact ⟨h', W', w', Arv.set A1 q1 S M H G (fits_nar_char _) w' i hi hlt, sf'⟩
theorem Wk.bastore {x x' : Int32} (W : Wk p l e R s m args below meth c bytes mxl rt Z a0 EL own n0 h0 ws S0 V h cells slots (mkF m pc L (.int x :: .int j :: .ref a :: st))) (hd : decode bytes pc = .ok (.bastore, 1)) (A : Arv Z h a k .byte z vs dv) (hj : ¬ j < 0 ∧ j < z) (hi : j.toNatClampNeg = i) (hlt : i < vs.length) (hx' : nar .byte x = x') (sf : Safe Z EL V h a) (q : a ∈ ws ∨ h0.size ≤ a) (hp : pc + 1 = pc') :
    ∃ h', Wk p l e R s m args below meth c bytes mxl rt Z a0 EL own n0 h0 ws S0 V h' cells slots (mkF m pc' L st) ∧ Wr h h' a j.toNatClampNeg (.int x') ∧ Arv Z h' a k .byte z (vs.set i (.int x')) dv ∧ ∀ x, Safe Z EL V h x → Safe Z EL V h' x := by
  subst hp hx'
  obtain ⟨cl, A1, q1, S, M, H, G⟩ := A
  have hin := inb_of S hj
  obtain ⟨h', W', w', sf'⟩ := W.wrote (cells' := 0) (slots' := 0) (h' := h) sf q fun T locs X eT hx hby hZ hown => stB X hx hZ eT A1 hin (g := mkF m pc L (.int x :: .int j :: .ref a :: st)) rfl rfl (hb hby hd)
  exact ⟨h', W', w', Arv.set A1 q1 S M H G (fits_nar_byte _) w' i hi hlt, sf'⟩
theorem Wk.iastore {x x' : Int32} (W : Wk p l e R s m args below meth c bytes mxl rt Z a0 EL own n0 h0 ws S0 V h cells slots (mkF m pc L (.int x :: .int j :: .ref a :: st))) (hd : decode bytes pc = .ok (.iastore, 1)) (A : Arv Z h a k .int z vs dv) (hj : ¬ j < 0 ∧ j < z) (hi : j.toNatClampNeg = i) (hlt : i < vs.length) (hx' : x = x') (sf : Safe Z EL V h a) (q : a ∈ ws ∨ h0.size ≤ a) (hp : pc + 1 = pc') :
    ∃ h', Wk p l e R s m args below meth c bytes mxl rt Z a0 EL own n0 h0 ws S0 V h' cells slots (mkF m pc' L st) ∧ Wr h h' a j.toNatClampNeg (.int x') ∧ Arv Z h' a k .int z (vs.set i (.int x')) dv ∧ ∀ x, Safe Z EL V h x → Safe Z EL V h' x := by
  subst hp hx'
  obtain ⟨cl, A1, q1, S, M, H, G⟩ := A
  have hin := inb_of S hj
  obtain ⟨h', W', w', sf'⟩ := W.wrote (cells' := 0) (slots' := 0) (h' := h) sf q fun T locs X eT hx hby hZ hown => stI X hx hZ eT A1 hin (g := mkF m pc L (.int x :: .int j :: .ref a :: st)) rfl rfl (hb hby hd)
  exact ⟨h', W', w', Arv.set A1 q1 S M H G rfl w' i hi hlt, sf'⟩
theorem Wk.lastore {x x' : Int64} (W : Wk p l e R s m args below meth c bytes mxl rt Z a0 EL own n0 h0 ws S0 V h cells slots (mkF m pc L (.long x :: .int j :: .ref a :: st))) (hd : decode bytes pc = .ok (.lastore, 1)) (A : Arv Z h a k .long z vs dv) (hj : ¬ j < 0 ∧ j < z) (hi : j.toNatClampNeg = i) (hlt : i < vs.length) (hx' : x = x') (sf : Safe Z EL V h a) (q : a ∈ ws ∨ h0.size ≤ a) (hp : pc + 1 = pc') :
    ∃ h', Wk p l e R s m args below meth c bytes mxl rt Z a0 EL own n0 h0 ws S0 V h' cells slots (mkF m pc' L st) ∧ Wr h h' a j.toNatClampNeg (.long x') ∧ Arv Z h' a k .long z (vs.set i (.long x')) dv ∧ ∀ x, Safe Z EL V h x → Safe Z EL V h' x := by
  subst hp hx'
  obtain ⟨cl, A1, q1, S, M, H, G⟩ := A
  have hin := inb_of S hj
  obtain ⟨h', W', w', sf'⟩ := W.wrote (cells' := 0) (slots' := 0) (h' := h) sf q fun T locs X eT hx hby hZ hown => stJ X hx hZ eT A1 hin (g := mkF m pc L (.long x :: .int j :: .ref a :: st)) rfl rfl (hb hby hd)
  exact ⟨h', W', w', Arv.set A1 q1 S M H G rfl w' i hi hlt, sf'⟩
end Arrays

def Done (p : Program) (e : Env) (below : List Frame) (S0 s : State) (Z : State) (EL : List (String × Nat)) (n0 : Nat) (h0 : Heap) (ws : List Addr) (R : Room) (Q : Option Value → Heap → Vm → Prop) : Prop :=
  ∃ s₂ o, Steps p.tables e below S0 s₂ ∧ s₂.status = .running ∧ Ended s₂ below o ∧ ∃ v L, o = .returned v ∧ (Fr n0 L ∧ Keep h0 s₂.heap ws ∧ Q v s₂.heap s₂.vm) ∧ CHr Z EL s.vm h0 s₂.vm s₂.heap ∧ FrameEnd s o s₂ L R.cells R.slots
theorem Wk.fin {g : JFrame} (W : Wk p l e R s m args below meth c bytes mxl rt Z a0 EL own n0 h0 ws S0 V h cells slots g) {v : Option Value} {Q : Option Value → Heap → Vm → Prop} (hv : rt = none → v = none) (hc : cells ≤ R.cells) (hs : slots ≤ R.slots) (hQ : ∀ V', (∀ x, x < h.size → Safe Z EL V h x → Safe Z EL V' h x) → Q v h V')
    (f : ∀ (T : State) (locs : List Loc) (fs : List Frame), Stand p l e R (s.setVm V) m args below meth c T locs cells slots → p.tables.exec = Jvm.exec → c.code = bytes → (∀ (f : JFrame) (acts : List Action), f.method = m → f.locked = none → f.entered = [] → (doReturn e (T.setTop f) acts v).1 = T.setFrames fs) → Steps p.tables e below (T.setTop g) (T.setFrames fs)) : Done p e below S0 s Z EL n0 h0 ws R Q := by
  obtain ⟨a1, b, T, locs, X, eT, N, k⟩ := W
  have hVs := b.2.2.1
  subst hVs
  obtain ⟨fs, hr, hrun, hended, r2, r4⟩ := (show Stand p l e R s m args below meth c T locs cells slots from X).leave (v := v) (fun z => hv (by rw [← a1.2.2.2.1]; exact z)) a1.2.2.2.2.1
  have hh : (T.setFrames fs).heap = h := eT
  have hC2 := CHv.at X b.1 a1.2.2.2.2.2.1 b.2.2.2.2.1.1
  have hC : CHr Z EL s.vm h0 (T.setFrames fs).vm (T.setFrames fs).heap := by
    rw [hh]
    exact b.2.2.2.2.1.trans hC2
  refine ⟨_, _, k _ (f T locs fs X a1.1 a1.2.1 hr), hrun, hended, v, locs, rfl, ⟨N, by rw [hh]; exact b.2.2.2.2.2, by rw [hh]; exact hQ _ fun x hx sx => hC2.safe hx sx⟩, hC, ⟨v, rfl⟩, r2, r4.mono hc hs⟩
theorem Wk.vret (W : Wk p l e R s m args below meth c bytes mxl rt Z a0 EL own n0 h0 ws S0 V h cells slots (mkF m pc L [])) (hd : decode bytes pc = .ok (.return_, 1)) (hr : rt = none) {Q : Option Value → Heap → Vm → Prop} (hc : cells ≤ R.cells) (hs : slots ≤ R.slots) (hQ : ∀ V', (∀ x, x < h.size → Safe Z EL V h x → Safe Z EL V' h x) → Q none h V') : Done p e below S0 s Z EL n0 h0 ws R Q := by
  have hrt := W.1.2.2.2.1
  exact W.fin (v := none) (fun _ => rfl) hc hs hQ fun T locs fs X hx hby hr' => X.returnOut hx (hrt.trans hr) (hb hby hd) hr'
theorem Wk.aret {w : Value} {t : FieldType} (W : Wk p l e R s m args below meth c bytes mxl rt Z a0 EL own n0 h0 ws S0 V h cells slots (mkF m pc L (w :: st))) (hd : decode bytes pc = .ok (.areturn, 1)) (hr : rt = some t) (ht : t.isReference = true) (hw : w.isRef = true) (hn : narrow t w = w) {Q : Option Value → Heap → Vm → Prop} (hc : cells ≤ R.cells) (hs : slots ≤ R.slots) (hQ : ∀ V', (∀ x, x < h.size → Safe Z EL V h x → Safe Z EL V' h x) → Q (some w) h V') : Done p e below S0 s Z EL n0 h0 ws R Q := by
  have hrt := W.1.2.2.2.1
  exact W.fin (v := some w) (fun z => by rw [hr] at z; cases z) hc hs hQ fun T locs fs X hx hby hr' => retOut X hx (hrt.trans hr) hn (Or.inr (Or.inr (Or.inr (Or.inr ⟨rfl, ht, hw⟩)))) (hb hby hd) hr'
theorem Wk.iret {z : Int32} {t : FieldType} (W : Wk p l e R s m args below meth c bytes mxl rt Z a0 EL own n0 h0 ws S0 V h cells slots (mkF m pc L (.int z :: st))) (hd : decode bytes pc = .ok (.ireturn, 1)) (hr : rt = some t) (ht : t = .int ∨ t = .boolean ∨ t = .byte ∨ t = .char ∨ t = .short) (hn : narrow t (.int z) = .int z) {Q : Option Value → Heap → Vm → Prop} (hc : cells ≤ R.cells) (hs : slots ≤ R.slots) (hQ : ∀ V', (∀ x, x < h.size → Safe Z EL V h x → Safe Z EL V' h x) → Q (some (.int z)) h V') : Done p e below S0 s Z EL n0 h0 ws R Q := by
  have hrt := W.1.2.2.2.1
  exact W.fin (v := some (.int z)) (fun z => by rw [hr] at z; cases z) hc hs hQ fun T locs fs X hx hby hr' => retOut X hx (hrt.trans hr) hn (Or.inl ⟨rfl, ht, z, rfl⟩) (hb hby hd) hr'
theorem Wk.lret {z : Int64} (W : Wk p l e R s m args below meth c bytes mxl rt Z a0 EL own n0 h0 ws S0 V h cells slots (mkF m pc L (.long z :: st))) (hd : decode bytes pc = .ok (.lreturn, 1)) (hr : rt = some .long) {Q : Option Value → Heap → Vm → Prop} (hc : cells ≤ R.cells) (hs : slots ≤ R.slots) (hQ : ∀ V', (∀ x, x < h.size → Safe Z EL V h x → Safe Z EL V' h x) → Q (some (.long z)) h V') : Done p e below S0 s Z EL n0 h0 ws R Q := by
  have hrt := W.1.2.2.2.1
  exact W.fin (v := some (.long z)) (fun z => by rw [hr] at z; cases z) hc hs hQ fun T locs fs X hx hby hr' => retOut X hx (hrt.trans hr) rfl (Or.inr (Or.inl ⟨rfl, rfl, z, rfl⟩)) (hb hby hd) hr'
def Con (l : Launch) (Z : State) (EL : List (String × Nat)) (n0 : Nat) (y : MethodName) (bytes : ByteArray) (mxl : Nat) (rt : Option FieldType) (rm : Room) (as' : Array Value) (h : Heap) (ws : List Addr) (Q : Option Value → Heap → Vm → Prop) (wds : List Jvm.Cond) : Prop :=
  MetFree l y (head1 (Jvm.Cond.code y bytes mxl rt :: wds) rm) (fun a U => a = as' ∧ Z.Warmed39 U.vm ∧ U.heap = h ∧ CHv Z EL U.vm h ∧ ∀ x ∈ ws, Safe Z EL U.vm h x) (fun _ _ _ _ _ => True) (fun _ U o U' => ∃ v L, o = .returned v ∧ (Fr n0 L ∧ Keep h U'.heap ws ∧ Q v U'.heap U'.vm) ∧ CHr Z EL U.vm U.heap U'.vm U'.heap ∧ FrameEnd U o U' L rm.cells rm.slots)
theorem Con.of {y : MethodName} {rm : Room} {as' : Array Value} {Q : Option Value → Heap → Vm → Prop} {wds : List Jvm.Cond} {L0 : Array Slot} (hpn : plainFor y = true) (hef : ∀ m, entryFrame m as' mxl = mkF m 0 L0 []) (hws : ∀ x ∈ ws, n0 ≤ x) (hO : Old Z n0 h0) (hEL : EW Z a0 EL)
    (body : ∀ (p : Program) (e : Env) (s : State) (m : MethodId) (below : List Frame) (meth : Method) (c : Code) (S0 : State), meth.name = y.name → (∀ x ∈ ws, Safe Z EL s.vm h0 x) → Wk p l e rm s m as' below meth c bytes mxl rt Z a0 EL y.cls n0 h0 ws S0 s.vm h0 0 0 (mkF m 0 L0 []) → Done p e below S0 s Z EL n0 h0 ws rm Q) : Con l Z EL n0 y bytes mxl rt rm as' h0 ws Q wds := by
  refine MetFree.of_bodySF hpn hisR ?_
  intro p e s m args below meth c s₁ Bd hml hP hK
  obtain ⟨rfl, hZ, hh, hC, hsf⟩ := hP
  have hnm := (name_of_methodNamed Bd.named Bd.method).1
  have e0 : s₁.heap = h0 := by rw [← hh, Bd.state]; rfl
  have hn0 : n0 ≤ h0.size := by rw [← hO.1]; exact hO.2.1
  have X0 : Stand p l e rm (s.setVm s.vm) m args below meth c s₁ [] 0 0 := Stand.of_body Bd
  obtain ⟨s₂, o, g1, g2, g3, v, L, g4, g5, g6, g7⟩ := body p e s m below meth c (s₁.setTop (entryFrame m args mxl)) hnm hsf ⟨⟨Bd.exec, Bd.bytes, hml, Bd.returns, Bd.notSynchronized, hEL, hws, hn0, hh, hO⟩, ⟨hZ, findClass_of_methodNamed Bd.named, rfl, hO, CHr.refl hC, Keep.refl _ _⟩, s₁, [], X0, e0, Fr.nil n0, fun t k => castTop (hef m) k⟩
  exact ⟨s₂, o, g1, g2, g3, v, L, g4, g5, by rw [hh]; exact g6, g7⟩

theorem Con.back {y : MethodName} {bytes' : ByteArray} {mxl' : Nat} {rt' : Option FieldType} {rm : Room} {as' : Array Value} {ws' : List Addr} {Q : Option Value → Heap → Vm → Prop} {len Wd : Nat} (con : Con l Z EL n0 y bytes' mxl' rt' rm as' h ws' Q []) (hZ : Z.Warmed39 V) (wc : (Jvm.Cond.code y bytes' mxl' rt').before a0 Z = true) (wz : (Jvm.Cond.initialized y.cls).before a0 Z = true) (hf : rm.frames + 1 ≤ R.frames) (hl : Wd + (mxl' + 11) + rm.locals ≤ R.locals) (hEL : EW Z a0 EL) (H : CHv Z EL V h) (hsf : ∀ x ∈ ws', Safe Z EL V h x) :
    Back l R p e below (s.setVm V) args y len Wd (fun A a => a = as' ∧ A.U.heap = h ∧ A.cells + rm.cells ≤ R.cells ∧ A.slots + rm.slots ≤ R.slots) (fun A _ v B => ∃ L, (Fr n0 L ∧ Keep h B.U.heap ws' ∧ Q v B.U.heap B.U.vm) ∧ B.locs = A.locs ++ L ∧ B.cells = A.cells + rm.cells ∧ B.slots = A.slots + rm.slots) := by
  refine Back.of_free (bytes := bytes') (maxL := mxl') (ret := rt') (E := fun _ first o t L k n => k = rm.cells ∧ n = rm.slots ∧ (∃ v, o = .returned v ∧ (Fr n0 L ∧ Keep h t.heap ws' ∧ Q v t.heap t.vm))) con hf hl ?_ ?_ (fun _ _ _ _ _ _ _ _ _ => trivial) ?_ ?_
  · intro m meth c A a Y hp
    have hU : Z.Warmed39 A.U.vm := wtrans (s := s.setVm V) hZ Y.warmed
    exact ⟨by show (Jvm.Cond.and _ .tt).before a A.U = true; rw [Cond.before_and, mv hU wc]; rfl, mv hU wc, mv hU wz, hp.2.2.1, hp.2.2.2⟩
  · intro m meth c A a g mk Y hp
    have q := CHv.at Y hZ hEL H
    exact ⟨hp.1, wtrans (s := s.setVm V) hZ Y.warmed, hp.2.1, q.1, fun x hx => (Nat.lt_or_ge x h.size).elim (fun z => q.safe z (hsf x hx)) (fun z => Safe.new z)⟩
  · rintro _ _ _ _ ⟨v, L, h1, h2, h3, h4⟩
    exact ⟨L, _, _, h4, rfl, rfl, v, h1, h2⟩
  · intro m meth c A a g mk v t L k n Y hp _ _ he
    obtain ⟨e1, e2, v', e3, e4⟩ := he
    cases e3; subst e1 e2
    exact ⟨L, e4, rfl, rfl, rfl⟩
theorem Wk.called {g : JFrame} {G : Option Value → JFrame} {rm : Room} {ws' : List Addr} {Q : Option Value → Heap → Vm → Prop} {cells' slots' : Nat} (W : Wk p l e R s m args below meth c bytes mxl rt Z a0 EL own n0 h0 ws S0 V h cells slots g) (hq : ∀ x ∈ ws', x ∈ ws ∨ h0.size ≤ x) (hsf : ∀ x ∈ ws', Safe Z EL V h x) (hc : cells + rm.cells = cells') (hs : slots + rm.slots = slots')
    (f : ∀ (T : State) (locs : List Loc), Stand p l e R (s.setVm V) m args below meth c T locs cells slots → T.heap = h → p.tables.exec = Jvm.exec → c.code = bytes → Z.Warmed39 (s.setVm V).vm → (s.setVm V).vm.findClass own = some m.cls → ∃ (v : Option Value) (vm₁ : Vm) (B : Pt), (s.setVm V).WarmedH vm₁ ∧ Stand p l e R (s.setVm V) m args below meth c B.U B.locs B.cells B.slots ∧ (∃ L, (Fr n0 L ∧ Keep h B.U.heap ws' ∧ Q v B.U.heap B.U.vm) ∧ B.locs = locs ++ L ∧ B.cells = cells + rm.cells ∧ B.slots = slots + rm.slots) ∧ ∀ t, Steps p.tables e below (B.U.setTop (G v)) t → Steps p.tables e below (T.setTop g) t) :
    ∃ V' h' v, Wk p l e R s m args below meth c bytes mxl rt Z a0 EL own n0 h0 ws S0 V' h' cells' slots' (G v) ∧ Keep h h' ws' ∧ (∃ V2, Q v h' V2) ∧ ∀ x, x < h.size → Safe Z EL V h x → Safe Z EL V' h' x := by
  obtain ⟨a1, b, T, locs, X, eT, N, k⟩ := W
  obtain ⟨v, vm₁, B, -, X2, ⟨L', hQ, l1, l2, l3⟩, stp⟩ := f T locs X eT a1.1 a1.2.1 b.1 b.2.1
  rw [l1, l2, l3, hc, hs] at X2
  have hge : ∀ x ∈ ws', n0 ≤ x := fun x hx => (hq x hx).elim (fun z => a1.2.2.2.2.2.2.1 x z) (fun z => Nat.le_trans a1.2.2.2.2.2.2.2.1 z)
  have H := b.2.2.2.2.1.1
  exact ⟨V, B.U.heap, v, ⟨a1, ⟨b.1, b.2.1, b.2.2.1, b.2.2.2.1.keep hQ.2.1 hge, b.2.2.2.2.1.trans (CHr.keep hQ.2.1 hsf H), b.2.2.2.2.2.trans hQ.2.1 hq⟩, B.U, _, X2, rfl, N.app hQ.1, fun t z => k t (stp t z)⟩, hQ.2.1, ⟨_, hQ.2.2⟩, fun x _ sx => Safe.keep hQ.2.1 hsf H sx⟩
section Calls
variable {y z : MethodName} {bytes' : ByteArray} {mxl' : Nat} {rt' : Option FieldType} {rm : Room} {ws' : List Addr} {Q : Option Value → Heap → Vm → Prop} {argsL rest stk : List Value} {index Wd cells' slots' : Nat}
theorem Wk.callS (W : Wk p l e R s m args below meth c bytes mxl rt Z a0 EL own n0 h0 ws S0 V h cells slots (mkF m pc L stk)) (hd : decode bytes pc = .ok (.invokestatic index, 3)) (con : Con l Z EL n0 y bytes' mxl' rt' rm argsL.toArray h ws' Q []) (w1 : (Jvm.Cond.methodLink own index y).before a0 Z = true) (w2 : (Jvm.Cond.static y).before a0 Z = true) (w3 : (Jvm.Cond.initialized y.cls).before a0 Z = true) (w4 : (Jvm.Cond.code y bytes' mxl' rt').before a0 Z = true) (hy : y.cls ≠ "java/lang/invoke/MethodHandle" ∧ y.cls ≠ "java/lang/invoke/VarHandle") (hlen : ∀ sig, parseMethodDescriptor y.desc = some sig → argsL.length = sig.parameters.length) (hstk : stk = argsL.reverse ++ rest) (hW : (rest.map fun v => v.category).sum = Wd) (hf : rm.frames + 1 ≤ R.frames) (hl : Wd + (mxl' + 11) + rm.locals ≤ R.locals) (hL : L.size = mxl) (hsf : ∀ x ∈ ws', Safe Z EL V h x) (hq : ∀ x ∈ ws', x ∈ ws ∨ h0.size ≤ x) (hp : pc + 3 = pc' := by rfl) (hc : cells + rm.cells = cells' := by rfl) (hs : slots + rm.slots = slots' := by rfl) (hc' : cells' ≤ R.cells := by decide) (hs' : slots' ≤ R.slots := by decide) :
    ∃ V' h' v, Wk p l e R s m args below meth c bytes mxl rt Z a0 EL own n0 h0 ws S0 V' h' cells' slots' (mkF m pc' L (v.toList ++ rest)) ∧ Keep h h' ws' ∧ (∃ V2, Q v h' V2) ∧ ∀ x, x < h.size → Safe Z EL V h x → Safe Z EL V' h' x := by
  subst hp
  have hml := W.1.2.2.1
  have hEL := W.el
  have H := W.chv
  refine W.called (G := fun v => mkF m (pc + 3) L (v.toList ++ rest)) hq hsf hc hs fun T locs X eT hx hby hZ hown => ?_
  exact Jvm.LawKit.callS X hx (y := y) hown (mvT hZ w1) (mvT hZ w2) (mvT hZ w3) (mvT hZ w4) hy (con.back hZ w4 w3 hf hl hEL H hsf) (g := mkF m pc L stk) rfl (hL.trans hml.symm) (argsL := argsL) (rest := rest) hlen hstk (by subst hW; show 2 * 0 + _ ≤ _; exact Nat.le_of_eq (Nat.zero_add _)) (hb hby hd) (fun _ _ => ⟨rfl, eT, by rw [← hc] at hc'; exact hc', by rw [← hs] at hs'; exact hs'⟩)
theorem Wk.callI {a : Addr} (W : Wk p l e R s m args below meth c bytes mxl rt Z a0 EL own n0 h0 ws S0 V h cells slots (mkF m pc L stk)) (hd : decode bytes pc = .ok (.invokespecial index, 3)) (con : Con l Z EL n0 y bytes' mxl' none rm (.ref a :: argsL).toArray h ws' Q []) (hy1 : y.name = "<init>") (w1 : (Jvm.Cond.methodLink own index y).before a0 Z = true) (w2 : (Jvm.Cond.instanceMethod y).before a0 Z = true) (w3 : (Jvm.Cond.initialized y.cls).before a0 Z = true) (w4 : (Jvm.Cond.code y bytes' mxl' none).before a0 Z = true) (hy : y.cls ≠ "java/lang/invoke/MethodHandle" ∧ y.cls ≠ "java/lang/invoke/VarHandle") (hlen : ∀ sig, parseMethodDescriptor y.desc = some sig → argsL.length = sig.parameters.length) (hstk : stk = argsL.reverse ++ .ref a :: rest) (hW : (rest.map fun v => v.category).sum = Wd) (hf : rm.frames + 1 ≤ R.frames) (hl : Wd + (mxl' + 11) + rm.locals ≤ R.locals) (hL : L.size = mxl) (hsf : ∀ x ∈ ws', Safe Z EL V h x) (hq : ∀ x ∈ ws', x ∈ ws ∨ h0.size ≤ x) (hp : pc + 3 = pc' := by rfl) (hc : cells + rm.cells = cells' := by rfl) (hs : slots + rm.slots = slots' := by rfl) (hc' : cells' ≤ R.cells := by decide) (hs' : slots' ≤ R.slots := by decide) :
    ∃ V' h' v, Wk p l e R s m args below meth c bytes mxl rt Z a0 EL own n0 h0 ws S0 V' h' cells' slots' (mkF m pc' L (v.toList ++ rest)) ∧ Keep h h' ws' ∧ (∃ V2, Q v h' V2) ∧ ∀ x, x < h.size → Safe Z EL V h x → Safe Z EL V' h' x := by
  subst hp
  have hml := W.1.2.2.1
  have hEL := W.el
  have H := W.chv
  refine W.called (G := fun v => mkF m (pc + 3) L (v.toList ++ rest)) hq hsf hc hs fun T locs X eT hx hby hZ hown => ?_
  obtain ⟨v, vm₁, B, g1, g2, g3, g4⟩ := X.specialBack hx (y := y) hy1 hown (mvT hZ w1) (mvT hZ w2) (mvT hZ w4) hy (con.back hZ w4 w3 hf hl hEL H hsf) (g := mkF m pc L stk) rfl (hL.trans hml.symm) (Steps.refl _) (a := a) (argsL := argsL) (rest := rest) hlen hstk (by subst hW; show 2 * 0 + _ ≤ _; exact Nat.le_of_eq (Nat.zero_add _)) (hb hby hd) (fun _ _ => ⟨rfl, eT, by rw [← hc] at hc'; exact hc', by rw [← hs] at hs'; exact hs'⟩)
  exact ⟨v, vm₁, B, g1, g2, g3, fun t k => g4.trans k⟩
theorem Wk.callV {a : Addr} {C : String} (W : Wk p l e R s m args below meth c bytes mxl rt Z a0 EL own n0 h0 ws S0 V h cells slots (mkF m pc L stk)) (hd : decode bytes pc = .ok (.invokevirtual index, 3)) (con : Con l Z EL n0 z bytes' mxl' rt' rm (.ref a :: argsL).toArray h ws' Q []) (E : Exa Z h a C) (w1 : (Jvm.Cond.methodLink own index y).before a0 Z = true) (wd : (Jvm.Cond.declares y).before a0 Z = true) (wn : (Jvm.Cond.selects C y y).before a0 Z = true ∨ ∃ S, (Jvm.Cond.superclass y.cls S).before a0 Z = true) (ws1 : (Jvm.Cond.selects C y z).before a0 Z = true) (w2 : (Jvm.Cond.instanceMethod z).before a0 Z = true) (w3 : (Jvm.Cond.initialized z.cls).before a0 Z = true) (w4 : (Jvm.Cond.code z bytes' mxl' rt').before a0 Z = true) (hy : y.cls ≠ "java/lang/invoke/MethodHandle" ∧ y.cls ≠ "java/lang/invoke/VarHandle") (hlen : ∀ sig, parseMethodDescriptor y.desc = some sig → argsL.length = sig.parameters.length) (hstk : stk = argsL.reverse ++ .ref a :: rest) (hW : (rest.map fun v => v.category).sum = Wd) (hf : rm.frames + 1 ≤ R.frames) (hl : Wd + (mxl' + 11) + rm.locals ≤ R.locals) (hL : L.size = mxl) (hsf : ∀ x ∈ ws', Safe Z EL V h x) (hq : ∀ x ∈ ws', x ∈ ws ∨ h0.size ≤ x) (hp : pc + 3 = pc' := by rfl) (hc : cells + rm.cells = cells' := by rfl) (hs : slots + rm.slots = slots' := by rfl) (hc' : cells' ≤ R.cells := by decide) (hs' : slots' ≤ R.slots := by decide) :
    ∃ V' h' v, Wk p l e R s m args below meth c bytes mxl rt Z a0 EL own n0 h0 ws S0 V' h' cells' slots' (mkF m pc' L (v.toList ++ rest)) ∧ Keep h h' ws' ∧ (∃ V2, Q v h' V2) ∧ ∀ x, x < h.size → Safe Z EL V h x → Safe Z EL V' h' x := by
  subst hp
  have hml := W.1.2.2.1
  have hEL := W.el
  have H := W.chv
  refine W.called (G := fun v => mkF m (pc + 3) L (v.toList ++ rest)) hq hsf hc hs fun T locs X eT hx hby hZ hown => ?_
  obtain ⟨cB, kB, q1, q2, q3⟩ := isOf hZ eT E
  have hnf : NotFace (s.setVm V) y := wn.elim (fun w => notFace_of_selects (args := #[]) (mvT hZ w)) (fun ⟨S, w⟩ => nf_super (args := #[]) (mvT hZ w))
  obtain ⟨v, vm₁, B, g1, g2, g3, g4⟩ := X.virtualBack hx (y := y) (z := z) hown (mvT hZ w1) (mvT hZ wd) hnf (mvT hZ ws1) (mvT hZ w2) hy (con.back hZ w4 w3 hf hl hEL H hsf) q1 q3 (g := mkF m pc L stk) rfl (hL.trans hml.symm) (Steps.refl _) (argsL := argsL) (rest := rest) hlen hstk (by subst hW; show 2 * 0 + _ ≤ _; exact Nat.le_of_eq (Nat.zero_add _)) (hb hby hd) (fun _ _ => ⟨rfl, eT, by rw [← hc] at hc'; exact hc', by rw [← hs] at hs'; exact hs'⟩)
  exact ⟨v, vm₁, B, g1, g2, g3, fun t k => g4.trans k⟩
theorem Wk.callP {a : Addr} {C : String} (W : Wk p l e R s m args below meth c bytes mxl rt Z a0 EL own n0 h0 ws S0 V h cells slots (mkF m pc L stk)) (hd : decode bytes pc = .ok (.invokevirtual index, 3)) (con : Con l Z EL n0 y bytes' mxl' rt' rm (.ref a :: argsL).toArray h ws' Q []) (E : Exa Z h a C) (w1 : (Jvm.Cond.methodLink own index y).before a0 Z = true) (w2 : (Jvm.Cond.instanceMethod y).before a0 Z = true) (ws1 : (Jvm.Cond.selects y.cls y y).before a0 Z = true) (wp : (Jvm.Cond.privateMethod y).before a0 Z = true) (w3 : (Jvm.Cond.initialized y.cls).before a0 Z = true) (w4 : (Jvm.Cond.code y bytes' mxl' rt').before a0 Z = true) (hy : y.cls ≠ "java/lang/invoke/MethodHandle" ∧ y.cls ≠ "java/lang/invoke/VarHandle") (hlen : ∀ sig, parseMethodDescriptor y.desc = some sig → argsL.length = sig.parameters.length) (hstk : stk = argsL.reverse ++ .ref a :: rest) (hW : (rest.map fun v => v.category).sum = Wd) (hf : rm.frames + 1 ≤ R.frames) (hl : Wd + (mxl' + 11) + rm.locals ≤ R.locals) (hL : L.size = mxl) (hsf : ∀ x ∈ ws', Safe Z EL V h x) (hq : ∀ x ∈ ws', x ∈ ws ∨ h0.size ≤ x) (hp : pc + 3 = pc' := by rfl) (hc : cells + rm.cells = cells' := by rfl) (hs : slots + rm.slots = slots' := by rfl) (hc' : cells' ≤ R.cells := by decide) (hs' : slots' ≤ R.slots := by decide) :
    ∃ V' h' v, Wk p l e R s m args below meth c bytes mxl rt Z a0 EL own n0 h0 ws S0 V' h' cells' slots' (mkF m pc' L (v.toList ++ rest)) ∧ Keep h h' ws' ∧ (∃ V2, Q v h' V2) ∧ ∀ x, x < h.size → Safe Z EL V h x → Safe Z EL V' h' x := by
  subst hp
  have hml := W.1.2.2.1
  have hEL := W.el
  have H := W.chv
  refine W.called (G := fun v => mkF m (pc + 3) L (v.toList ++ rest)) hq hsf hc hs fun T locs X eT hx hby hZ hown => ?_
  obtain ⟨cl, q1, q2⟩ := (Ins.self E).cell
  obtain ⟨v, vm₁, B, g1, g2, g3, g4⟩ := X.privateBack hx (y := y) hown (mvT hZ w1) (mvT hZ w2) (mvT hZ ws1) (Cond.privateMethod_at (mvP hZ wp (args := #[]))) (mvT hZ w4) hy (con.back hZ w4 w3 hf hl hEL H hsf) (g := mkF m pc L stk) rfl (hL.trans hml.symm) (Steps.refl _) (a := a) (by rw [eT]; exact q1) q2 (argsL := argsL) (rest := rest) hlen hstk (by subst hW; show 2 * 0 + _ ≤ _; exact Nat.le_of_eq (Nat.zero_add _)) (hb hby hd) (fun _ _ => ⟨rfl, eT, by rw [← hc] at hc'; exact hc', by rw [← hs] at hs'; exact hs'⟩)
  exact ⟨v, vm₁, B, g1, g2, g3, fun t k => g4.trans k⟩
theorem Wk.callU {a : Addr} {C owner : String} (W : Wk p l e R s m args below meth c bytes mxl rt Z a0 EL own n0 h0 ws S0 V h cells slots (mkF m pc L stk)) (hd : decode bytes pc = .ok (.invokevirtual index, 3)) (con : Con l Z EL n0 z bytes' mxl' rt' rm (.ref a :: argsL).toArray h ws' Q []) (E : Exa Z h a C) (w1 : (Jvm.Cond.methodLink own index y).before a0 Z = true) (wsm : (Jvm.Cond.sameMethod y.cls owner y.name y.desc).before a0 Z = true) (wd : (Jvm.Cond.declares ⟨owner, y.name, y.desc⟩).before a0 Z = true) (how : owner ≠ "java/lang/invoke/MethodHandle" ∧ owner ≠ "java/lang/invoke/VarHandle") (ws1 : (Jvm.Cond.selects C y z).before a0 Z = true) (w2 : (Jvm.Cond.instanceMethod z).before a0 Z = true) (w3 : (Jvm.Cond.initialized z.cls).before a0 Z = true) (w4 : (Jvm.Cond.code z bytes' mxl' rt').before a0 Z = true) (hlen : ∀ sig, parseMethodDescriptor y.desc = some sig → argsL.length = sig.parameters.length) (hstk : stk = argsL.reverse ++ .ref a :: rest) (hW : (rest.map fun v => v.category).sum = Wd) (hf : rm.frames + 1 ≤ R.frames) (hl : Wd + (mxl' + 11) + rm.locals ≤ R.locals) (hL : L.size = mxl) (hsf : ∀ x ∈ ws', Safe Z EL V h x) (hq : ∀ x ∈ ws', x ∈ ws ∨ h0.size ≤ x) (hp : pc + 3 = pc' := by rfl) (hc : cells + rm.cells = cells' := by rfl) (hs : slots + rm.slots = slots' := by rfl) (hc' : cells' ≤ R.cells := by decide) (hs' : slots' ≤ R.slots := by decide) :
    ∃ V' h' v, Wk p l e R s m args below meth c bytes mxl rt Z a0 EL own n0 h0 ws S0 V' h' cells' slots' (mkF m pc' L (v.toList ++ rest)) ∧ Keep h h' ws' ∧ (∃ V2, Q v h' V2) ∧ ∀ x, x < h.size → Safe Z EL V h x → Safe Z EL V' h' x := by
  subst hp
  have hml := W.1.2.2.1
  have hEL := W.el
  have H := W.chv
  refine W.called (G := fun v => mkF m (pc + 3) L (v.toList ++ rest)) hq hsf hc hs fun T locs X eT hx hby hZ hown => ?_
  obtain ⟨cB, kB, q1, q2, q3⟩ := isOf hZ eT E
  obtain ⟨v, vm₁, B, g1, g2, g3, g4⟩ := X.virtualBackUp hx (x := y) (y := z) hown (mvT hZ w1) (mvT hZ wsm) (mvT hZ wd) how (mvT hZ ws1) (mvT hZ w2) (con.back hZ w4 w3 hf hl hEL H hsf) q1 q3 (g := mkF m pc L stk) rfl (hL.trans hml.symm) (Steps.refl _) (argsL := argsL) (rest := rest) hlen hstk (by subst hW; show 2 * 0 + _ ≤ _; exact Nat.le_of_eq (Nat.zero_add _)) (hb hby hd) (fun _ _ => ⟨rfl, eT, by rw [← hc] at hc'; exact hc', by rw [← hs] at hs'; exact hs'⟩)
  exact ⟨v, vm₁, B, g1, g2, g3, fun t k => g4.trans k⟩
end Calls
theorem safe0 {V : Vm} {a : Addr} : Safe Z [] V h a := fun B => by obtain ⟨p, hp, -⟩ := B; cases hp

theorem Wk.ldcW {index : Nat} {v : Int32} (W : Wk p l e R s m args below meth c bytes mxl rt Z a0 EL own n0 h0 ws S0 V h cells slots (mkF m pc L st)) (hd : decode bytes pc = .ok (.ldc_w index, 3)) (w : (Jvm.Cond.constant own index v).before a0 Z = true) (hp : pc + 3 = pc') : Wk p l e R s m args below meth c bytes mxl rt Z a0 EL own n0 h0 ws S0 V h cells slots (mkF m pc' L (.int v :: st)) := by
  subst hp
  exact W.reads fun T locs X eT hx hby hZ hown => ⟨T, X, eT, X.ldcWInt hx hown (mvT hZ w) (g := mkF m pc L st) rfl (hb hby hd)⟩
theorem Wk.anewarr {index : Nat} {C ad : String} {z : Int32} {cap cells' slots' : Nat} (W : Wk p l e R s m args below meth c bytes mxl rt Z a0 EL own n0 h0 ws S0 V h cells slots (mkF m pc L (.int z :: st))) (hd : decode bytes pc = .ok (.anewarray index, 3)) (w1 : (Jvm.Cond.classLink own index C).before a0 Z = true) (w2 : (Jvm.Cond.arrayOver (.object C)).before a0 Z = true) (had : "[" ++ (FieldType.object C).toString = ad) (hn : ¬ z < 0) (hcap : z.toNatClampNeg ≤ cap) (hbig : cap * 8 ≤ 536870912) (hp : pc + 3 = pc') (hc : cells + 1 = cells') (hs : slots + cap = slots') (hc' : cells' ≤ R.cells) (hs' : slots' ≤ R.slots) :
    ∃ h' a, Wk p l e R s m args below meth c bytes mxl rt Z a0 EL own n0 h0 ws S0 V h' cells' slots' (mkF m pc' L (.ref a :: st)) ∧ Ext h h' ∧ a = h.size ∧ ((∃ k, Arv Z h' h.size k (.object C) z [] .null ∧ Ovr Z k C) ∧ Exa Z h' h.size ad) ∧ Safe Z EL V h' a ∧ ∀ x, Safe Z EL V h x → Safe Z EL V h' x := by
  subst hp hc hs
  refine W.grew (G := fun a => mkF m (pc + 3) L (.ref a :: st)) (Q := fun h' => (∃ k, Arv Z h' h.size k (.object C) z [] .null ∧ Ovr Z k C) ∧ Exa Z h' h.size ad) fun T locs X eT hx hby hZ hown => ?_
  obtain ⟨T', h', k, X', e', E, A, B, O, st'⟩ := newRE X hx hZ hown w1 w2 eT (g := mkF m pc L (.int z :: st)) rfl (hb hby hd) rfl hn (cap := cap) hcap hbig hc' hs' had
  exact ⟨T', h', X', e', E, ⟨⟨k, Arv.new A hn, O⟩, B⟩, st'⟩
section Arrays2
variable {a : Addr} {k : ClassId} {z j : Int32} {vs : List Value} {dv w : Value} {ty : FieldType} {i : Nat}
theorem Wk.aastore {C : String} {y : Addr} (W : Wk p l e R s m args below meth c bytes mxl rt Z a0 EL own n0 h0 ws S0 V h cells slots (mkF m pc L (.ref y :: .int j :: .ref a :: st))) (hd : decode bytes pc = .ok (.aastore, 1)) (A : Arv Z h a k ty z vs dv) (ht : ty.isReference = true) (O : Ovr Z k C) (I : Ins Z h y C true) (hj : ¬ j < 0 ∧ j < z) (hi : j.toNatClampNeg = i) (hlt : i < vs.length) (hfit : fits ty (.ref y) = true) (sf : Safe Z EL V h a) (q : a ∈ ws ∨ h0.size ≤ a) (hp : pc + 1 = pc') :
    ∃ h', Wk p l e R s m args below meth c bytes mxl rt Z a0 EL own n0 h0 ws S0 V h' cells slots (mkF m pc' L st) ∧ Wr h h' a j.toNatClampNeg (.ref y) ∧ Arv Z h' a k ty z (vs.set i (.ref y)) dv ∧ ∀ x, Safe Z EL V h x → Safe Z EL V h' x := by
  subst hp
  obtain ⟨cl, A1, q1, S, M, H, G⟩ := A
  have hin := inb_of S hj
  obtain ⟨h', W', w', sf'⟩ := W.wrote (cells' := 0) (slots' := 0) (h' := h) sf q fun T locs X eT hx hby hZ hown => stR X hx hZ eT A1 hin ht (Sto.ofV A1 q1 O I) (g := mkF m pc L (.ref y :: .int j :: .ref a :: st)) rfl rfl (hb hby hd)
  exact ⟨h', W', w', Arv.set A1 q1 S M H G hfit w' i hi hlt, sf'⟩
theorem Wk.acopy1 {index : Nat} {b : Addr} {kb : ClassId} {zb : Int32} {vb : List Value} {db : Value} {sp dp x : Int32} {Wd : Nat} (W : Wk p l e R s m args below meth c bytes mxl rt Z a0 EL own n0 h0 ws S0 V h cells slots (mkF m pc L (.int 1 :: .int dp :: .ref a :: .int sp :: .ref b :: st))) (hd : decode bytes pc = .ok (.invokestatic index, 3)) (w1 : (Jvm.Cond.methodLink own index Jvm.arraycopyName).before a0 Z = true) (w2 : (Jvm.Cond.native Jvm.arraycopyName).before a0 Z = true) (w3 : (Jvm.Cond.static Jvm.arraycopyName).before a0 Z = true) (w4 : (Jvm.Cond.initialized "java/lang/System").before a0 Z = true) (B : Arv Z h b kb .int zb vb db) (A : Arv Z h a k .int z vs dv) (hs : ¬ sp < 0 ∧ sp < zb) (hdp : ¬ dp < 0 ∧ dp < z) (hv : vb.getD sp.toNatClampNeg db = .int x) (hi : dp.toNatClampNeg = i) (hlt : i < vs.length) (hL : L.size = mxl) (hW : (st.map fun v => v.category).sum = Wd) (hf : 1 ≤ R.frames) (hl : Wd + 18 ≤ R.locals) (sf : Safe Z EL V h a) (q : a ∈ ws ∨ h0.size ≤ a) (hp : pc + 3 = pc') :
    ∃ h', Wk p l e R s m args below meth c bytes mxl rt Z a0 EL own n0 h0 ws S0 V h' cells slots (mkF m pc' L st) ∧ Wr h h' a dp.toNatClampNeg (.int x) ∧ Arv Z h' a k .int z (vs.set i (.int x)) dv ∧ ∀ y, Safe Z EL V h y → Safe Z EL V h' y := by
  subst hp hW
  have hml := W.1.2.2.1
  obtain ⟨cb, B1, r1, SB, MB, HB, GB⟩ := B
  obtain ⟨cl, A1, q1, S, M, H, G⟩ := A
  have hin := inb_of S hdp
  have hinb := inb_of SB hs
  have hval : cb.slots[sp.toNatClampNeg]? = some (.int x) := HB.at hinb hv
  have hlt2 : dp.toNatClampNeg < cl.slots.size := Nat.lt_of_not_le fun q => hin (Or.inr q)
  have hltb : sp.toNatClampNeg < cb.slots.size := Nat.lt_of_not_le fun q => hinb (Or.inr q)
  have estr : cb.stretch sp.toNatClampNeg (1 : Int32).toNatClampNeg = [.int x] := by
    show (List.range 1).map (fun i => cb.slots.getD (sp.toNatClampNeg + i) .null) = _
    simp [List.range_succ, Array.getD_eq_getD_getElem?, hval]
  obtain ⟨h', W', w', sf'⟩ := W.wrote (cells' := 0) (slots' := 0) (h' := h) (a := a) (sl := dp.toNatClampNeg) (v := .int x) sf q fun T locs X eT hx hby hZ hown => by
    obtain ⟨-, ks, kk1, comps, kk2⟩ := State.isArrayOf_alike (T := s.setVm V) hZ.alike B1.2.1
    obtain ⟨-, kd, kk3, compd, kk4⟩ := State.isArrayOf_alike (T := s.setVm V) hZ.alike A1.2.1
    have e1 : sp.toInt < cb.slots.size := by
      have := hs.1; rw [Int32.lt_iff_toInt_lt] at this
      have e0 : (0 : Int32).toInt = 0 := rfl
      have : sp.toNatClampNeg = sp.toInt.toNat := rfl
      omega
    have e2 : dp.toInt < cl.slots.size := by
      have := hdp.1; rw [Int32.lt_iff_toInt_lt] at this
      have e0 : (0 : Int32).toInt = 0 := rfl
      have : dp.toNatClampNeg = dp.toInt.toNat := rfl
      omega
    have e11 : (1 : Int32).toInt = 1 := rfl
    obtain ⟨vm', X', st'⟩ := X.arraycopy hx hown (mv hZ w1) (mv hZ w2) (mv hZ w3) (mv hZ w4) (src := b) (dst := a) (srcPos := sp) (destPos := dp) (n := 1) (by rw [eT]; exact B1.1) (by rw [eT]; exact A1.1) B1.2.1.1 A1.2.1.1 B1.2.2 A1.2.2 kk1 kk3 kk2 kk4 (by decide) hs.1 hdp.1 (by decide) (by rw [e11]; omega) (by rw [e11]; omega)
      (by
        intro vm'' _ i hi
        have hi' : i < 1 := hi
        obtain rfl : i = 0 := by omega
        rw [Nat.add_zero, Array.getD_eq_getD_getElem?, hval]
        exact ⟨rfl, trivial⟩)
      (g := mkF m pc L (.int 1 :: .int dp :: .ref a :: .int sp :: .ref b :: st)) rfl (hL.trans hml.symm) rfl (hb hby hd) hf (by show 2 * 0 + _ + (5 + 2 + 11) ≤ _; omega)
    refine ⟨_, _, ?_, rfl, ⟨cl, A1.1, A1.plain, hlt2, ?_⟩, st'⟩
    · have e := X'
      rw [estr] at e
      simpa using e
    · show (T.heap.setIfInBounds a (copied cb cl sp dp 1)) = _
      rw [eT]
      show h.setIfInBounds a (cl.storeRun dp.toNatClampNeg (cb.stretch sp.toNatClampNeg (1 : Int32).toNatClampNeg)) = _
      rw [estr]
      rfl
  exact ⟨h', W', w', Arv.set A1 q1 S M H G rfl w' i hi hlt, sf'⟩
end Arrays2
end Layer


section Starts
variable {args : Array Value} {s : State} {t : Term} {a : Addr}
theorem own_evI {v : Int32} (h : (Cond.eq t (Term.int v)).before args s = true) : t.eval args s none [] s = some (.int v) := by
  have q := Cond.before_iff.mp h
  simp only [Cond.value, Term.eval] at q
  cases ht : t.eval args s none [] s with
  | none => simp [ht] at q
  | some x => cases x <;> simp [ht] at q ⊢; exact q
theorem own_evL {v : Int64} (h : (Cond.eq t (Term.long v)).before args s = true) : t.eval args s none [] s = some (.long v) := by
  have q := Cond.before_iff.mp h
  simp only [Cond.value, Term.eval] at q
  cases ht : t.eval args s none [] s with
  | none => simp [ht] at q
  | some x => cases x <;> simp [ht] at q ⊢; exact q
theorem own_fI {C n d : String} {v : Int32} (ht : t.eval args s none [] s = some (.ref a)) (h : (Cond.eq (Term.field t C n d) (Term.int v)).before args s = true) : Fld s s.heap a C n d (.int v) := Fld.start ((fld_at ht).symm.trans (own_evI h))
theorem own_fL {C n d : String} {v : Int64} (ht : t.eval args s none [] s = some (.ref a)) (h : (Cond.eq (Term.field t C n d) (Term.long v)).before args s = true) : Fld s s.heap a C n d (.long v) := Fld.start ((fld_at ht).symm.trans (own_evL h))
theorem own_ex {C : String} (h : (Cond.exactly t C).before args s = true) : ∃ a, t.eval args s none [] s = some (.ref a) ∧ Exa s s.heap a C := by
  obtain ⟨a, e⟩ := exa_v (Cond.before_iff.mp h)
  exact ⟨a, e, Exa.start e (Cond.before_iff.mp h)⟩
theorem own_fR {C n d : String} {b : Addr} (ht : t.eval args s none [] s = some (.ref a)) (h : (Term.field t C n d).eval args s none [] s = some (.ref b)) : Fld s s.heap a C n d (.ref b) := Fld.start ((fld_at ht).symm.trans h)
theorem own_len {z : Int32} {c : Cell} (h : (Term.length t).eval args s none [] s = some (.int z)) (ht : t.eval args s none [] s = some (.ref a)) (hc : s.heap[a]? = some c) : c.slots.size < 2 ^ 31 ∧ c.slots.size.toInt32 = z := by
  simp only [Term.eval, Option.bind_eq_bind] at h
  simp [ht] at h
  obtain ⟨cell, hcell, h⟩ := Option.bind_eq_some_iff.mp h
  have hc' := (State.arrayAt?_spec hcell).1
  cases hc.symm.trans hc'
  by_cases hn : c.slots.size < 2147483648
  · rw [if_pos hn] at h; cases h; exact ⟨hn, rfl⟩
  · rw [if_neg hn] at h; cases h
theorem own_el {j : Int32} {v : Value} {i : Nat} (hi : j.toNatClampNeg = i) (ht : t.eval args s none [] s = some (.ref a)) (h : (Term.elem t (Term.int j)).eval args s none [] s = some v) {c : Cell} (hc : s.heap[a]? = some c) : c.slots[i]? = some v := by
  subst hi
  exact (elem_in h ht (Term.int_eval j) hc).2
theorem own_arv {ty : FieldType} {z : Int32} {vs : List Value} {dv : Value} (hf : Fit s) (ht : t.eval args s none [] s = some (.ref a)) (h1 : (Cond.arrayOf t ty).before args s = true) (h2 : (Cond.eq (Term.length t) (Term.int z)).before args s = true) (hz : ¬ z < 0) (hl : z.toNatClampNeg = vs.length) (H : ∀ c : Cell, s.heap[a]? = some c → HasL c 0 vs) : ∃ k, Arv s s.heap a k ty z vs dv := by
  obtain ⟨c, A⟩ := Arr.start ht (Cond.before_iff.mp h1)
  obtain ⟨q1, q2⟩ := own_len (own_evI h2) ht A.1
  exact ⟨_, Arv.start hf A q1 q2 hz hl (H c A.1)⟩
end Starts

abbrev N0 : MethodName := ⟨"com/example/letters_between_tasks/lettersbetweentasks/service/Backoff", "<init>", "()V"⟩
abbrev N1 : MethodName := ⟨"java/math/BigDecimal", "valueOf", "(J)Ljava/math/BigDecimal;"⟩
abbrev N2 : MethodName := ⟨"java/lang/Number", "<init>", "()V"⟩
abbrev N3 : MethodName := ⟨"java/math/BigDecimal", "<init>", "(Ljava/math/BigInteger;JII)V"⟩
abbrev N4 : MethodName := ⟨"java/math/BigDecimal", "valueOf", "(JI)Ljava/math/BigDecimal;"⟩
abbrev N5 : MethodName := ⟨"java/math/BigDecimal", "checkScale", "(JJ)I"⟩
abbrev N6 : MethodName := ⟨"java/math/BigDecimal", "longMultiplyPowerTen", "(JI)J"⟩
abbrev N7 : MethodName := ⟨"java/math/BigDecimal", "add", "(JJ)J"⟩
abbrev N8 : MethodName := ⟨"java/math/BigDecimal", "add", "(JJI)Ljava/math/BigDecimal;"⟩
abbrev N9 : MethodName := ⟨"java/math/BigDecimal", "add", "(JIJI)Ljava/math/BigDecimal;"⟩
abbrev N10 : MethodName := ⟨"java/math/BigDecimal", "add", "(Ljava/math/BigDecimal;)Ljava/math/BigDecimal;"⟩
abbrev N11 : MethodName := ⟨"java/time/Duration", "toBigDecimalSeconds", "()Ljava/math/BigDecimal;"⟩
abbrev N12 : MethodName := ⟨"java/math/BigDecimal", "checkScale", "(J)I"⟩
abbrev N13 : MethodName := ⟨"java/lang/Math", "abs", "(J)J"⟩
abbrev N14 : MethodName := ⟨"java/math/BigDecimal", "multiply", "(JJ)J"⟩
abbrev N15 : MethodName := ⟨"java/math/BigDecimal", "multiply", "(JJI)Ljava/math/BigDecimal;"⟩
abbrev N16 : MethodName := ⟨"java/math/BigDecimal", "multiply", "(Ljava/math/BigDecimal;)Ljava/math/BigDecimal;"⟩
abbrev N17 : MethodName := ⟨"java/math/BigDecimal", "movePointRight", "(I)Ljava/math/BigDecimal;"⟩
abbrev N18 : MethodName := ⟨"java/math/BigDecimal", "setScale", "(II)Ljava/math/BigDecimal;"⟩
abbrev N19 : MethodName := ⟨"java/math/BigInteger", "<init>", "(J)V"⟩
abbrev N20 : MethodName := ⟨"java/math/BigInteger", "valueOf", "(J)Ljava/math/BigInteger;"⟩
abbrev N21 : MethodName := ⟨"java/math/BigDecimal", "inflated", "()Ljava/math/BigInteger;"⟩
abbrev N22 : MethodName := ⟨"java/math/BigDecimal", "toBigIntegerExact", "()Ljava/math/BigInteger;"⟩
abbrev N23 : MethodName := ⟨"java/math/MutableBigInteger", "<init>", "()V"⟩
abbrev N24 : MethodName := ⟨"java/math/MutableBigInteger", "<init>", "([I)V"⟩
abbrev N25 : MethodName := ⟨"java/math/MutableBigInteger", "compare", "(Ljava/math/MutableBigInteger;)I"⟩
abbrev N26 : MethodName := ⟨"java/math/MutableBigInteger", "divideKnuth", "(Ljava/math/MutableBigInteger;Ljava/math/MutableBigInteger;Z)Ljava/math/MutableBigInteger;"⟩
abbrev N27 : MethodName := ⟨"java/math/MutableBigInteger", "divideKnuth", "(Ljava/math/MutableBigInteger;Ljava/math/MutableBigInteger;)Ljava/math/MutableBigInteger;"⟩
abbrev N28 : MethodName := ⟨"java/math/MutableBigInteger", "getMagnitudeArray", "()[I"⟩
abbrev N29 : MethodName := ⟨"java/math/BigInteger", "<init>", "([II)V"⟩
abbrev N30 : MethodName := ⟨"java/math/MutableBigInteger", "toBigInteger", "(I)Ljava/math/BigInteger;"⟩
abbrev N31 : MethodName := ⟨"java/math/BigInteger", "divideAndRemainderKnuth", "(Ljava/math/BigInteger;)[Ljava/math/BigInteger;"⟩
abbrev N32 : MethodName := ⟨"java/math/BigInteger", "divideAndRemainder", "(Ljava/math/BigInteger;)[Ljava/math/BigInteger;"⟩
abbrev N33 : MethodName := ⟨"java/lang/Integer", "numberOfLeadingZeros", "(I)I"⟩
abbrev N34 : MethodName := ⟨"java/math/BigInteger", "bitLengthForInt", "(I)I"⟩
abbrev N35 : MethodName := ⟨"java/math/BigInteger", "bitLength", "()I"⟩
abbrev N36 : MethodName := ⟨"java/math/BigInteger", "signInt", "()I"⟩
abbrev N37 : MethodName := ⟨"java/math/BigInteger", "getInt", "(I)I"⟩
abbrev N38 : MethodName := ⟨"java/math/BigInteger", "longValue", "()J"⟩
abbrev N39 : MethodName := ⟨"java/math/BigInteger", "intValue", "()I"⟩
abbrev N40 : MethodName := ⟨"java/lang/Math", "floorDiv", "(JJ)J"⟩
abbrev N41 : MethodName := ⟨"java/lang/Math", "addExact", "(JJ)J"⟩
abbrev N42 : MethodName := ⟨"java/lang/Math", "floorMod", "(JJ)J"⟩
abbrev N43 : MethodName := ⟨"java/time/Duration", "<init>", "(JI)V"⟩
abbrev N44 : MethodName := ⟨"java/time/Duration", "create", "(JI)Ljava/time/Duration;"⟩
abbrev N45 : MethodName := ⟨"java/time/Duration", "ofSeconds", "(JJ)Ljava/time/Duration;"⟩
abbrev N46 : MethodName := ⟨"java/time/Duration", "create", "(Ljava/math/BigDecimal;)Ljava/time/Duration;"⟩
abbrev N47 : MethodName := ⟨"java/time/Duration", "multipliedBy", "(J)Ljava/time/Duration;"⟩
abbrev N48 : MethodName := ⟨"java/lang/Long", "compare", "(JJ)I"⟩
abbrev N49 : MethodName := ⟨"java/time/Duration", "compareTo", "(Ljava/time/Duration;)I"⟩
abbrev N50 : MethodName := ⟨"com/example/letters_between_tasks/lettersbetweentasks/service/Backoff", "next", "()Ljava/time/Duration;"⟩
abbrev N51 : MethodName := ⟨"java/lang/Math", "multiplyExact", "(JJ)J"⟩
abbrev N52 : MethodName := ⟨"java/time/Duration", "toNanos", "()J"⟩
abbrev N53 : MethodName := ⟨"java/math/BigDecimal", "zeroValueOf", "(I)Ljava/math/BigDecimal;"⟩
abbrev N54 : MethodName := ⟨"java/math/MutableBigInteger", "clear", "()V"⟩
abbrev N55 : MethodName := ⟨"java/math/MutableBigInteger", "divideOneWord", "(ILjava/math/MutableBigInteger;)I"⟩
abbrev N56 : MethodName := ⟨"java/math/MutableBigInteger", "normalize", "()V"⟩
abbrev N57 : MethodName := ⟨"java/util/Arrays", "checkLength", "(II)V"⟩
abbrev N58 : MethodName := ⟨"java/lang/Math", "min", "(II)I"⟩
abbrev N59 : MethodName := ⟨"java/util/Arrays", "copyOfRangeInt", "([III)[I"⟩
abbrev N60 : MethodName := ⟨"java/util/Arrays", "copyOfRange", "([III)[I"⟩
abbrev N61 : MethodName := ⟨"java/util/Arrays", "fill", "([II)V"⟩
abbrev N62 : MethodName := ⟨"com/example/letters_between_tasks/lettersbetweentasks/service/BackoffNextPinLaw", "law", "()Z"⟩
abbrev N63 : MethodName := ⟨"java/lang/Object", "<init>", "()V"⟩
abbrev N64 : MethodName := ⟨"java/lang/System", "arraycopy", "(Ljava/lang/Object;ILjava/lang/Object;II)V"⟩
abbrev cp13_1 := prog_13_method_1_code
abbrev cp13_2 := prog_13_method_2_code
abbrev c2316_44 := jdk_2316_method_44_code
abbrev c2316_47 := jdk_2316_method_47_code
abbrev c17_21 := jdk_17_method_21_code
abbrev c17_20 := jdk_17_method_20_code
abbrev c17_1 := jdk_17_method_1_code
abbrev c18_1 := jdk_18_method_1_code
abbrev c17_26 := jdk_17_method_26_code
abbrev c17_134 := jdk_17_method_134_code
abbrev c17_113 := jdk_17_method_113_code
abbrev c17_97 := jdk_17_method_97_code
abbrev c17_133 := jdk_17_method_133_code
abbrev c17_132 := jdk_17_method_132_code
abbrev c17_31 := jdk_17_method_31_code
abbrev c17_106 := jdk_17_method_106_code
abbrev c17_157 := jdk_17_method_157_code
abbrev c17_156 := jdk_17_method_156_code
abbrev c29_61 := jdk_29_method_61_code
abbrev c2316_48 := jdk_2316_method_48_code
abbrev c17_67 := jdk_17_method_67_code
abbrev c17_81 := jdk_17_method_81_code
abbrev c17_64 := jdk_17_method_64_code
abbrev c17_99 := jdk_17_method_99_code
abbrev c2097_29 := jdk_2097_method_29_code
abbrev c2097_30 := jdk_2097_method_30_code
abbrev c2097_63 := jdk_2097_method_63_code
abbrev c2097_64 := jdk_2097_method_64_code
abbrev c2101_1 := jdk_2101_method_1_code
abbrev c2101_3 := jdk_2101_method_3_code
abbrev c2101_56 := jdk_2101_method_56_code
abbrev c2101_57 := jdk_2101_method_57_code
abbrev c2101_15 := jdk_2101_method_15_code
abbrev c2101_9 := jdk_2101_method_9_code
abbrev c2101_7 := jdk_2101_method_7_code
abbrev c2097_25 := jdk_2097_method_25_code
abbrev c2097_118 := jdk_2097_method_118_code
abbrev c2097_74 := jdk_2097_method_74_code
abbrev c33_47 := jdk_33_method_47_code
abbrev c2097_136 := jdk_2097_method_136_code
abbrev c2097_148 := jdk_2097_method_148_code
abbrev c2097_147 := jdk_2097_method_147_code
abbrev c2097_135 := jdk_2097_method_135_code
abbrev c2316_5 := jdk_2316_method_5_code
abbrev c29_49 := jdk_29_method_49_code
abbrev c29_25 := jdk_29_method_25_code
abbrev c29_52 := jdk_29_method_52_code
abbrev c2316_16 := jdk_2316_method_16_code
abbrev c2316_17 := jdk_2316_method_17_code
abbrev c2316_66 := jdk_2316_method_66_code
abbrev c35_42 := jdk_35_method_42_code
abbrev c2316_58 := jdk_2316_method_58_code
abbrev c29_30 := jdk_29_method_30_code
abbrev c17_24 := jdk_17_method_24_code
abbrev c2101_13 := jdk_2101_method_13_code
abbrev c2101_53 := jdk_2101_method_53_code
abbrev c2101_21 := jdk_2101_method_21_code
abbrev c65_136 := jdk_65_method_136_code
abbrev c65_137 := jdk_65_method_137_code
abbrev c65_131 := jdk_65_method_131_code
abbrev c29_69 := jdk_29_method_69_code
abbrev c65_103 := jdk_65_method_103_code

abbrev Rm (f c s l : Nat) : Room := { frames := f, cells := c, slots := s, locals := l }
def Gl (Z : State) (gA : Nat → Addr) (gK : Nat → ClassId) : Prop :=
  Exa Z Z.heap (gA 0) "java/time/Duration" ∧
  Exa Z Z.heap (gA 1) "java/time/Duration" ∧
  Exa Z Z.heap (gA 10) "java/math/BigDecimal" ∧
  Exa Z Z.heap (gA 11) "java/math/BigDecimal" ∧
  Exa Z Z.heap (gA 12) "java/math/BigDecimal" ∧
  Exa Z Z.heap (gA 14) "java/math/BigDecimal" ∧
  Exa Z Z.heap (gA 18) "java/math/BigDecimal" ∧
  Exa Z Z.heap (gA 4) "java/math/BigInteger" ∧
  Fld Z Z.heap (gA 0) "java/time/Duration" "nanos" "I" (.int (500000000 : Int32)) ∧
  Fld Z Z.heap (gA 0) "java/time/Duration" "seconds" "J" (.long (0 : Int64)) ∧
  Fld Z Z.heap (gA 1) "java/time/Duration" "nanos" "I" (.int (0 : Int32)) ∧
  Fld Z Z.heap (gA 1) "java/time/Duration" "seconds" "J" (.long (8 : Int64)) ∧
  Fld Z Z.heap (gA 10) "java/math/BigDecimal" "intCompact" "J" (.long (0 : Int64)) ∧
  Fld Z Z.heap (gA 10) "java/math/BigDecimal" "scale" "I" (.int (0 : Int32)) ∧
  Fld Z Z.heap (gA 11) "java/math/BigDecimal" "intCompact" "J" (.long (1 : Int64)) ∧
  Fld Z Z.heap (gA 11) "java/math/BigDecimal" "scale" "I" (.int (0 : Int32)) ∧
  Fld Z Z.heap (gA 12) "java/math/BigDecimal" "intCompact" "J" (.long (2 : Int64)) ∧
  Fld Z Z.heap (gA 12) "java/math/BigDecimal" "scale" "I" (.int (0 : Int32)) ∧
  Fld Z Z.heap (gA 14) "java/math/BigDecimal" "intCompact" "J" (.long (4 : Int64)) ∧
  Fld Z Z.heap (gA 14) "java/math/BigDecimal" "scale" "I" (.int (0 : Int32)) ∧
  Fld Z Z.heap (gA 18) "java/math/BigDecimal" "intCompact" "J" (.long (8 : Int64)) ∧
  Fld Z Z.heap (gA 18) "java/math/BigDecimal" "scale" "I" (.int (0 : Int32)) ∧
  Fld Z Z.heap (gA 2) "java/math/BigInteger" "mag" "[I" (.ref (gA 3)) ∧
  Fld Z Z.heap (gA 2) "java/math/BigInteger" "signum" "I" (.int (1 : Int32)) ∧
  Fld Z Z.heap (gA 30) "java/math/BigDecimal" "intCompact" "J" (.long (0 : Int64)) ∧
  Fld Z Z.heap (gA 30) "java/math/BigDecimal" "scale" "I" (.int (9 : Int32)) ∧
  Fld Z Z.heap (gA 4) "java/math/BigInteger" "mag" "[I" (.ref (gA 5)) ∧
  Fld Z Z.heap (gA 4) "java/math/BigInteger" "signum" "I" (.int (0 : Int32)) ∧
  Sta Z Z.heap "com/example/letters_between_tasks/lettersbetweentasks/service/Backoff" "FIRST" "Ljava/time/Duration;" (.ref (gA 0)) ∧
  Sta Z Z.heap "com/example/letters_between_tasks/lettersbetweentasks/service/Backoff" "LONGEST" "Ljava/time/Duration;" (.ref (gA 1)) ∧
  Sta Z Z.heap "java/math/BigDecimal" "LONG_TEN_POWERS_TABLE" "[J" (.ref (gA 8)) ∧
  Sta Z Z.heap "java/math/BigDecimal" "THRESHOLDS_TABLE" "[J" (.ref (gA 9)) ∧
  Sta Z Z.heap "java/math/BigDecimal" "ZERO_SCALED_BY" "[Ljava/math/BigDecimal;" (.ref (gA 7)) ∧
  Sta Z Z.heap "java/math/BigDecimal" "ZERO_THROUGH_TEN" "[Ljava/math/BigDecimal;" (.ref (gA 6)) ∧
  Sta Z Z.heap "java/math/BigInteger" "ZERO" "Ljava/math/BigInteger;" (.ref (gA 4)) ∧
  Sta Z Z.heap "java/time/Duration" "BI_NANOS_PER_SECOND" "Ljava/math/BigInteger;" (.ref (gA 2)) ∧
  Arv Z Z.heap (gA 3) (gK 0) .int (1 : Int32) [(.int (1000000000 : Int32))] (.int (0 : Int32)) ∧
  Arv Z Z.heap (gA 5) (gK 1) .int (0 : Int32) [] (.int (0 : Int32)) ∧
  Arv Z Z.heap (gA 6) (gK 2) (.object "java/math/BigDecimal") (11 : Int32) [(.ref (gA 10)), (.ref (gA 11)), (.ref (gA 12)), (.ref (gA 13)), (.ref (gA 14)), (.ref (gA 15)), (.ref (gA 16)), (.ref (gA 17)), (.ref (gA 18)), (.ref (gA 19)), (.ref (gA 20))] .null ∧
  Arv Z Z.heap (gA 7) (gK 3) (.object "java/math/BigDecimal") (16 : Int32) [(.ref (gA 21)), (.ref (gA 22)), (.ref (gA 23)), (.ref (gA 24)), (.ref (gA 25)), (.ref (gA 26)), (.ref (gA 27)), (.ref (gA 28)), (.ref (gA 29)), (.ref (gA 30)), (.ref (gA 31)), (.ref (gA 32)), (.ref (gA 33)), (.ref (gA 34)), (.ref (gA 35)), (.ref (gA 36))] .null ∧
  Arv Z Z.heap (gA 8) (gK 4) .long (19 : Int32) [(.long (1 : Int64)), (.long (10 : Int64)), (.long (100 : Int64)), (.long (1000 : Int64)), (.long (10000 : Int64)), (.long (100000 : Int64)), (.long (1000000 : Int64)), (.long (10000000 : Int64)), (.long (100000000 : Int64)), (.long (1000000000 : Int64)), (.long (10000000000 : Int64)), (.long (100000000000 : Int64)), (.long (1000000000000 : Int64)), (.long (10000000000000 : Int64)), (.long (100000000000000 : Int64)), (.long (1000000000000000 : Int64)), (.long (10000000000000000 : Int64)), (.long (100000000000000000 : Int64)), (.long (1000000000000000000 : Int64))] (.long (0 : Int64)) ∧
  Arv Z Z.heap (gA 9) (gK 5) .long (19 : Int32) [(.long (9223372036854775807 : Int64)), (.long (922337203685477580 : Int64)), (.long (92233720368547758 : Int64)), (.long (9223372036854775 : Int64)), (.long (922337203685477 : Int64)), (.long (92233720368547 : Int64)), (.long (9223372036854 : Int64)), (.long (922337203685 : Int64)), (.long (92233720368 : Int64)), (.long (9223372036 : Int64)), (.long (922337203 : Int64)), (.long (92233720 : Int64)), (.long (9223372 : Int64)), (.long (922337 : Int64)), (.long (92233 : Int64)), (.long (9223 : Int64)), (.long (922 : Int64)), (.long (92 : Int64)), (.long (9 : Int64))] (.long (0 : Int64)) ∧
  True
def Cx (Z : State) (a0 : Array Value) (gA : Nat → Addr) (gK : Nat → ClassId) : Prop := (∀ d ∈ tables_1, d.before a0 Z = true) ∧ Gl Z gA gK
variable {l : Launch} {Z : State} {a0 : Array Value} {n0 : Nat} {gA : Nat → Addr} {gK : Nat → ClassId}
theorem gf0 (H : Cx Z a0 gA gK) : Exa Z Z.heap (gA 0) "java/time/Duration" := H.2.1
theorem gf1 (H : Cx Z a0 gA gK) : Exa Z Z.heap (gA 1) "java/time/Duration" := H.2.2.1
theorem gf2 (H : Cx Z a0 gA gK) : Exa Z Z.heap (gA 10) "java/math/BigDecimal" := H.2.2.2.1
theorem gf3 (H : Cx Z a0 gA gK) : Exa Z Z.heap (gA 11) "java/math/BigDecimal" := H.2.2.2.2.1
theorem gf4 (H : Cx Z a0 gA gK) : Exa Z Z.heap (gA 12) "java/math/BigDecimal" := H.2.2.2.2.2.1
theorem gf5 (H : Cx Z a0 gA gK) : Exa Z Z.heap (gA 14) "java/math/BigDecimal" := H.2.2.2.2.2.2.1
theorem gf6 (H : Cx Z a0 gA gK) : Exa Z Z.heap (gA 18) "java/math/BigDecimal" := H.2.2.2.2.2.2.2.1
theorem gf7 (H : Cx Z a0 gA gK) : Exa Z Z.heap (gA 4) "java/math/BigInteger" := H.2.2.2.2.2.2.2.2.1
theorem gf8 (H : Cx Z a0 gA gK) : Fld Z Z.heap (gA 0) "java/time/Duration" "nanos" "I" (.int (500000000 : Int32)) := H.2.2.2.2.2.2.2.2.2.1
theorem gf9 (H : Cx Z a0 gA gK) : Fld Z Z.heap (gA 0) "java/time/Duration" "seconds" "J" (.long (0 : Int64)) := H.2.2.2.2.2.2.2.2.2.2.1
theorem gf10 (H : Cx Z a0 gA gK) : Fld Z Z.heap (gA 1) "java/time/Duration" "nanos" "I" (.int (0 : Int32)) := H.2.2.2.2.2.2.2.2.2.2.2.1
theorem gf11 (H : Cx Z a0 gA gK) : Fld Z Z.heap (gA 1) "java/time/Duration" "seconds" "J" (.long (8 : Int64)) := H.2.2.2.2.2.2.2.2.2.2.2.2.1
theorem gf12 (H : Cx Z a0 gA gK) : Fld Z Z.heap (gA 10) "java/math/BigDecimal" "intCompact" "J" (.long (0 : Int64)) := H.2.2.2.2.2.2.2.2.2.2.2.2.2.1
theorem gf13 (H : Cx Z a0 gA gK) : Fld Z Z.heap (gA 10) "java/math/BigDecimal" "scale" "I" (.int (0 : Int32)) := H.2.2.2.2.2.2.2.2.2.2.2.2.2.2.1
theorem gf14 (H : Cx Z a0 gA gK) : Fld Z Z.heap (gA 11) "java/math/BigDecimal" "intCompact" "J" (.long (1 : Int64)) := H.2.2.2.2.2.2.2.2.2.2.2.2.2.2.2.1
theorem gf15 (H : Cx Z a0 gA gK) : Fld Z Z.heap (gA 11) "java/math/BigDecimal" "scale" "I" (.int (0 : Int32)) := H.2.2.2.2.2.2.2.2.2.2.2.2.2.2.2.2.1
theorem gf16 (H : Cx Z a0 gA gK) : Fld Z Z.heap (gA 12) "java/math/BigDecimal" "intCompact" "J" (.long (2 : Int64)) := H.2.2.2.2.2.2.2.2.2.2.2.2.2.2.2.2.2.1
theorem gf17 (H : Cx Z a0 gA gK) : Fld Z Z.heap (gA 12) "java/math/BigDecimal" "scale" "I" (.int (0 : Int32)) := H.2.2.2.2.2.2.2.2.2.2.2.2.2.2.2.2.2.2.1
theorem gf18 (H : Cx Z a0 gA gK) : Fld Z Z.heap (gA 14) "java/math/BigDecimal" "intCompact" "J" (.long (4 : Int64)) := H.2.2.2.2.2.2.2.2.2.2.2.2.2.2.2.2.2.2.2.1
theorem gf19 (H : Cx Z a0 gA gK) : Fld Z Z.heap (gA 14) "java/math/BigDecimal" "scale" "I" (.int (0 : Int32)) := H.2.2.2.2.2.2.2.2.2.2.2.2.2.2.2.2.2.2.2.2.1
theorem gf20 (H : Cx Z a0 gA gK) : Fld Z Z.heap (gA 18) "java/math/BigDecimal" "intCompact" "J" (.long (8 : Int64)) := H.2.2.2.2.2.2.2.2.2.2.2.2.2.2.2.2.2.2.2.2.2.1
theorem gf21 (H : Cx Z a0 gA gK) : Fld Z Z.heap (gA 18) "java/math/BigDecimal" "scale" "I" (.int (0 : Int32)) := H.2.2.2.2.2.2.2.2.2.2.2.2.2.2.2.2.2.2.2.2.2.2.1
theorem gf22 (H : Cx Z a0 gA gK) : Fld Z Z.heap (gA 2) "java/math/BigInteger" "mag" "[I" (.ref (gA 3)) := H.2.2.2.2.2.2.2.2.2.2.2.2.2.2.2.2.2.2.2.2.2.2.2.1
theorem gf23 (H : Cx Z a0 gA gK) : Fld Z Z.heap (gA 2) "java/math/BigInteger" "signum" "I" (.int (1 : Int32)) := H.2.2.2.2.2.2.2.2.2.2.2.2.2.2.2.2.2.2.2.2.2.2.2.2.1
theorem gf24 (H : Cx Z a0 gA gK) : Fld Z Z.heap (gA 30) "java/math/BigDecimal" "intCompact" "J" (.long (0 : Int64)) := H.2.2.2.2.2.2.2.2.2.2.2.2.2.2.2.2.2.2.2.2.2.2.2.2.2.1
theorem gf25 (H : Cx Z a0 gA gK) : Fld Z Z.heap (gA 30) "java/math/BigDecimal" "scale" "I" (.int (9 : Int32)) := H.2.2.2.2.2.2.2.2.2.2.2.2.2.2.2.2.2.2.2.2.2.2.2.2.2.2.1
theorem gf26 (H : Cx Z a0 gA gK) : Fld Z Z.heap (gA 4) "java/math/BigInteger" "mag" "[I" (.ref (gA 5)) := H.2.2.2.2.2.2.2.2.2.2.2.2.2.2.2.2.2.2.2.2.2.2.2.2.2.2.2.1
theorem gf27 (H : Cx Z a0 gA gK) : Fld Z Z.heap (gA 4) "java/math/BigInteger" "signum" "I" (.int (0 : Int32)) := H.2.2.2.2.2.2.2.2.2.2.2.2.2.2.2.2.2.2.2.2.2.2.2.2.2.2.2.2.1
theorem gf28 (H : Cx Z a0 gA gK) : Sta Z Z.heap "com/example/letters_between_tasks/lettersbetweentasks/service/Backoff" "FIRST" "Ljava/time/Duration;" (.ref (gA 0)) := H.2.2.2.2.2.2.2.2.2.2.2.2.2.2.2.2.2.2.2.2.2.2.2.2.2.2.2.2.2.1
theorem gf29 (H : Cx Z a0 gA gK) : Sta Z Z.heap "com/example/letters_between_tasks/lettersbetweentasks/service/Backoff" "LONGEST" "Ljava/time/Duration;" (.ref (gA 1)) := H.2.2.2.2.2.2.2.2.2.2.2.2.2.2.2.2.2.2.2.2.2.2.2.2.2.2.2.2.2.2.1
theorem gf30 (H : Cx Z a0 gA gK) : Sta Z Z.heap "java/math/BigDecimal" "LONG_TEN_POWERS_TABLE" "[J" (.ref (gA 8)) := H.2.2.2.2.2.2.2.2.2.2.2.2.2.2.2.2.2.2.2.2.2.2.2.2.2.2.2.2.2.2.2.1
theorem gf31 (H : Cx Z a0 gA gK) : Sta Z Z.heap "java/math/BigDecimal" "THRESHOLDS_TABLE" "[J" (.ref (gA 9)) := H.2.2.2.2.2.2.2.2.2.2.2.2.2.2.2.2.2.2.2.2.2.2.2.2.2.2.2.2.2.2.2.2.1
theorem gf32 (H : Cx Z a0 gA gK) : Sta Z Z.heap "java/math/BigDecimal" "ZERO_SCALED_BY" "[Ljava/math/BigDecimal;" (.ref (gA 7)) := H.2.2.2.2.2.2.2.2.2.2.2.2.2.2.2.2.2.2.2.2.2.2.2.2.2.2.2.2.2.2.2.2.2.1
theorem gf33 (H : Cx Z a0 gA gK) : Sta Z Z.heap "java/math/BigDecimal" "ZERO_THROUGH_TEN" "[Ljava/math/BigDecimal;" (.ref (gA 6)) := H.2.2.2.2.2.2.2.2.2.2.2.2.2.2.2.2.2.2.2.2.2.2.2.2.2.2.2.2.2.2.2.2.2.2.1
theorem gf34 (H : Cx Z a0 gA gK) : Sta Z Z.heap "java/math/BigInteger" "ZERO" "Ljava/math/BigInteger;" (.ref (gA 4)) := H.2.2.2.2.2.2.2.2.2.2.2.2.2.2.2.2.2.2.2.2.2.2.2.2.2.2.2.2.2.2.2.2.2.2.2.1
theorem gf35 (H : Cx Z a0 gA gK) : Sta Z Z.heap "java/time/Duration" "BI_NANOS_PER_SECOND" "Ljava/math/BigInteger;" (.ref (gA 2)) := H.2.2.2.2.2.2.2.2.2.2.2.2.2.2.2.2.2.2.2.2.2.2.2.2.2.2.2.2.2.2.2.2.2.2.2.2.1
theorem gf36 (H : Cx Z a0 gA gK) : Arv Z Z.heap (gA 3) (gK 0) .int (1 : Int32) [(.int (1000000000 : Int32))] (.int (0 : Int32)) := H.2.2.2.2.2.2.2.2.2.2.2.2.2.2.2.2.2.2.2.2.2.2.2.2.2.2.2.2.2.2.2.2.2.2.2.2.2.1
theorem gf37 (H : Cx Z a0 gA gK) : Arv Z Z.heap (gA 5) (gK 1) .int (0 : Int32) [] (.int (0 : Int32)) := H.2.2.2.2.2.2.2.2.2.2.2.2.2.2.2.2.2.2.2.2.2.2.2.2.2.2.2.2.2.2.2.2.2.2.2.2.2.2.1
theorem gf38 (H : Cx Z a0 gA gK) : Arv Z Z.heap (gA 6) (gK 2) (.object "java/math/BigDecimal") (11 : Int32) [(.ref (gA 10)), (.ref (gA 11)), (.ref (gA 12)), (.ref (gA 13)), (.ref (gA 14)), (.ref (gA 15)), (.ref (gA 16)), (.ref (gA 17)), (.ref (gA 18)), (.ref (gA 19)), (.ref (gA 20))] .null := H.2.2.2.2.2.2.2.2.2.2.2.2.2.2.2.2.2.2.2.2.2.2.2.2.2.2.2.2.2.2.2.2.2.2.2.2.2.2.2.1
theorem gf39 (H : Cx Z a0 gA gK) : Arv Z Z.heap (gA 7) (gK 3) (.object "java/math/BigDecimal") (16 : Int32) [(.ref (gA 21)), (.ref (gA 22)), (.ref (gA 23)), (.ref (gA 24)), (.ref (gA 25)), (.ref (gA 26)), (.ref (gA 27)), (.ref (gA 28)), (.ref (gA 29)), (.ref (gA 30)), (.ref (gA 31)), (.ref (gA 32)), (.ref (gA 33)), (.ref (gA 34)), (.ref (gA 35)), (.ref (gA 36))] .null := H.2.2.2.2.2.2.2.2.2.2.2.2.2.2.2.2.2.2.2.2.2.2.2.2.2.2.2.2.2.2.2.2.2.2.2.2.2.2.2.2.1
theorem gf40 (H : Cx Z a0 gA gK) : Arv Z Z.heap (gA 8) (gK 4) .long (19 : Int32) [(.long (1 : Int64)), (.long (10 : Int64)), (.long (100 : Int64)), (.long (1000 : Int64)), (.long (10000 : Int64)), (.long (100000 : Int64)), (.long (1000000 : Int64)), (.long (10000000 : Int64)), (.long (100000000 : Int64)), (.long (1000000000 : Int64)), (.long (10000000000 : Int64)), (.long (100000000000 : Int64)), (.long (1000000000000 : Int64)), (.long (10000000000000 : Int64)), (.long (100000000000000 : Int64)), (.long (1000000000000000 : Int64)), (.long (10000000000000000 : Int64)), (.long (100000000000000000 : Int64)), (.long (1000000000000000000 : Int64))] (.long (0 : Int64)) := H.2.2.2.2.2.2.2.2.2.2.2.2.2.2.2.2.2.2.2.2.2.2.2.2.2.2.2.2.2.2.2.2.2.2.2.2.2.2.2.2.2.1
theorem gf41 (H : Cx Z a0 gA gK) : Arv Z Z.heap (gA 9) (gK 5) .long (19 : Int32) [(.long (9223372036854775807 : Int64)), (.long (922337203685477580 : Int64)), (.long (92233720368547758 : Int64)), (.long (9223372036854775 : Int64)), (.long (922337203685477 : Int64)), (.long (92233720368547 : Int64)), (.long (9223372036854 : Int64)), (.long (922337203685 : Int64)), (.long (92233720368 : Int64)), (.long (9223372036 : Int64)), (.long (922337203 : Int64)), (.long (92233720 : Int64)), (.long (9223372 : Int64)), (.long (922337 : Int64)), (.long (92233 : Int64)), (.long (9223 : Int64)), (.long (922 : Int64)), (.long (92 : Int64)), (.long (9 : Int64))] (.long (0 : Int64)) := H.2.2.2.2.2.2.2.2.2.2.2.2.2.2.2.2.2.2.2.2.2.2.2.2.2.2.2.2.2.2.2.2.2.2.2.2.2.2.2.2.2.2.1
theorem tm {d : Jvm.Cond} {i : Nat} (H : Cx Z a0 gA gK) (h : tables_1[i]? = some d) : d.before a0 Z = true := H.1 _ (List.mem_of_getElem? h)

theorem tw0 (H : Cx Z a0 gA gK) : (Jvm.Cond.classLink "com/example/letters_between_tasks/lettersbetweentasks/service/BackoffNextPinLaw" 7 "com/example/letters_between_tasks/lettersbetweentasks/service/Backoff").before a0 Z = true := tm (i := 0) H rfl
theorem tw1 (H : Cx Z a0 gA gK) : (Jvm.Cond.instantiable "com/example/letters_between_tasks/lettersbetweentasks/service/Backoff" 1).before a0 Z = true := tm (i := 1) H rfl
theorem tw2 (H : Cx Z a0 gA gK) : (Jvm.Cond.initialized "com/example/letters_between_tasks/lettersbetweentasks/service/Backoff").before a0 Z = true := tm (i := 2) H rfl
theorem tw3 (H : Cx Z a0 gA gK) : (Jvm.Cond.methodLink "com/example/letters_between_tasks/lettersbetweentasks/service/BackoffNextPinLaw" 9 N0).before a0 Z = true := tm (i := 3) H rfl
theorem tw4 (H : Cx Z a0 gA gK) : (Jvm.Cond.instanceMethod N0).before a0 Z = true := tm (i := 4) H rfl
theorem tw5 (H : Cx Z a0 gA gK) : (Jvm.Cond.code N0 prog_13_method_1_code 1 (Option.none : Option Jvm.ClassFile.FieldType)).before a0 Z = true := tm (i := 5) H rfl
theorem tw6 (H : Cx Z a0 gA gK) : (Jvm.Cond.methodLink "com/example/letters_between_tasks/lettersbetweentasks/service/Backoff" 1 N63).before a0 Z = true := tm (i := 6) H rfl
theorem tw7 (H : Cx Z a0 gA gK) : (Jvm.Cond.instanceMethod N63).before a0 Z = true := tm (i := 7) H rfl
theorem tw8 (H : Cx Z a0 gA gK) : (Jvm.Cond.code N63 object_method_1_code 1 (Option.none : Option Jvm.ClassFile.FieldType)).before a0 Z = true := tm (i := 8) H rfl
theorem tw9 (H : Cx Z a0 gA gK) : (Jvm.Cond.fieldLink "com/example/letters_between_tasks/lettersbetweentasks/service/Backoff" 7 "com/example/letters_between_tasks/lettersbetweentasks/service/Backoff" "FIRST" "Ljava/time/Duration;").before a0 Z = true := tm (i := 9) H rfl
theorem tw11 (H : Cx Z a0 gA gK) : (Jvm.Cond.fieldLink "com/example/letters_between_tasks/lettersbetweentasks/service/Backoff" 13 "com/example/letters_between_tasks/lettersbetweentasks/service/Backoff" "next" "Ljava/time/Duration;").before a0 Z = true := tm (i := 11) H rfl
theorem tw12 (H : Cx Z a0 gA gK) : (Jvm.Cond.lays "com/example/letters_between_tasks/lettersbetweentasks/service/Backoff" "com/example/letters_between_tasks/lettersbetweentasks/service/Backoff" "next" "Ljava/time/Duration;").before a0 Z = true := tm (i := 12) H rfl
theorem tw13 (H : Cx Z a0 gA gK) : (Jvm.Cond.methodLink "com/example/letters_between_tasks/lettersbetweentasks/service/BackoffNextPinLaw" 10 N50).before a0 Z = true := tm (i := 13) H rfl
theorem tw14 (H : Cx Z a0 gA gK) : (Jvm.Cond.declares N50).before a0 Z = true := tm (i := 14) H rfl
theorem tw15 (H : Cx Z a0 gA gK) : (Jvm.Cond.instanceMethod N50).before a0 Z = true := tm (i := 15) H rfl
theorem tw16 (H : Cx Z a0 gA gK) : (Jvm.Cond.selects "com/example/letters_between_tasks/lettersbetweentasks/service/Backoff" N50 N50).before a0 Z = true := tm (i := 16) H rfl
theorem tw17 (H : Cx Z a0 gA gK) : (Jvm.Cond.code N50 prog_13_method_2_code 3 (Option.some (Jvm.ClassFile.FieldType.object "java/time/Duration"))).before a0 Z = true := tm (i := 17) H rfl
theorem tw18 (H : Cx Z a0 gA gK) : (Jvm.Cond.constantLong "com/example/letters_between_tasks/lettersbetweentasks/service/Backoff" 16 (2 : Int64)).before a0 Z = true := tm (i := 18) H rfl
theorem tw19 (H : Cx Z a0 gA gK) : (Jvm.Cond.methodLink "com/example/letters_between_tasks/lettersbetweentasks/service/Backoff" 18 N47).before a0 Z = true := tm (i := 19) H rfl
theorem tw20 (H : Cx Z a0 gA gK) : (Jvm.Cond.declares N47).before a0 Z = true := tm (i := 20) H rfl
theorem tw21 (H : Cx Z a0 gA gK) : (Jvm.Cond.instanceMethod N47).before a0 Z = true := tm (i := 21) H rfl
theorem tw22 (H : Cx Z a0 gA gK) : (Jvm.Cond.selects "java/time/Duration" N47 N47).before a0 Z = true := tm (i := 22) H rfl
theorem tw23 (H : Cx Z a0 gA gK) : (Jvm.Cond.initialized "java/time/Duration").before a0 Z = true := tm (i := 23) H rfl
theorem tw24 (H : Cx Z a0 gA gK) : (Jvm.Cond.code N47 jdk_2316_method_44_code 3 (Option.some (Jvm.ClassFile.FieldType.object "java/time/Duration"))).before a0 Z = true := tm (i := 24) H rfl
theorem tw25 (H : Cx Z a0 gA gK) : (Jvm.Cond.methodLink "java/time/Duration" 309 N11).before a0 Z = true := tm (i := 25) H rfl
theorem tw26 (H : Cx Z a0 gA gK) : (Jvm.Cond.instanceMethod N11).before a0 Z = true := tm (i := 26) H rfl
theorem tw27 (H : Cx Z a0 gA gK) : (Jvm.Cond.privateMethod N11).before a0 Z = true := tm (i := 27) H rfl
theorem tw28 (H : Cx Z a0 gA gK) : (Jvm.Cond.selects "java/time/Duration" N11 N11).before a0 Z = true := tm (i := 28) H rfl
theorem tw29 (H : Cx Z a0 gA gK) : (Jvm.Cond.code N11 jdk_2316_method_47_code 1 (Option.some (Jvm.ClassFile.FieldType.object "java/math/BigDecimal"))).before a0 Z = true := tm (i := 29) H rfl
theorem tw30 (H : Cx Z a0 gA gK) : (Jvm.Cond.fieldLink "java/time/Duration" 221 "java/time/Duration" "seconds" "J").before a0 Z = true := tm (i := 30) H rfl
theorem tw31 (H : Cx Z a0 gA gK) : (Jvm.Cond.laysFinal "java/time/Duration" "java/time/Duration" "seconds" "J").before a0 Z = true := tm (i := 31) H rfl
theorem tw32 (H : Cx Z a0 gA gK) : (Jvm.Cond.methodLink "java/time/Duration" 313 N1).before a0 Z = true := tm (i := 32) H rfl
theorem tw33 (H : Cx Z a0 gA gK) : (Jvm.Cond.static N1).before a0 Z = true := tm (i := 33) H rfl
theorem tw34 (H : Cx Z a0 gA gK) : (Jvm.Cond.initialized "java/math/BigDecimal").before a0 Z = true := tm (i := 34) H rfl
theorem tw35 (H : Cx Z a0 gA gK) : (Jvm.Cond.code N1 jdk_17_method_21_code 2 (Option.some (Jvm.ClassFile.FieldType.object "java/math/BigDecimal"))).before a0 Z = true := tm (i := 35) H rfl
theorem tw36 (H : Cx Z a0 gA gK) : (Jvm.Cond.fieldLink "java/math/BigDecimal" 246 "java/math/BigDecimal" "ZERO_THROUGH_TEN" "[Ljava/math/BigDecimal;").before a0 Z = true := tm (i := 36) H rfl
theorem tw37 (H : Cx Z a0 gA gK) : (Jvm.Cond.fieldLink "java/time/Duration" 224 "java/time/Duration" "nanos" "I").before a0 Z = true := tm (i := 37) H rfl
theorem tw38 (H : Cx Z a0 gA gK) : (Jvm.Cond.laysFinal "java/time/Duration" "java/time/Duration" "nanos" "I").before a0 Z = true := tm (i := 38) H rfl
theorem tw39 (H : Cx Z a0 gA gK) : (Jvm.Cond.methodLink "java/time/Duration" 347 N4).before a0 Z = true := tm (i := 39) H rfl
theorem tw40 (H : Cx Z a0 gA gK) : (Jvm.Cond.static N4).before a0 Z = true := tm (i := 40) H rfl
theorem tw41 (H : Cx Z a0 gA gK) : (Jvm.Cond.code N4 jdk_17_method_20_code 3 (Option.some (Jvm.ClassFile.FieldType.object "java/math/BigDecimal"))).before a0 Z = true := tm (i := 41) H rfl
theorem tw42 (H : Cx Z a0 gA gK) : (Jvm.Cond.classLink "java/math/BigDecimal" 3 "java/math/BigDecimal").before a0 Z = true := tm (i := 42) H rfl
theorem tw43 (H : Cx Z a0 gA gK) : (Jvm.Cond.instantiable "java/math/BigDecimal" 5).before a0 Z = true := tm (i := 43) H rfl
theorem tw44 (H : Cx Z a0 gA gK) : (Jvm.Cond.constantLong "java/math/BigDecimal" 125 (-9223372036854775808 : Int64)).before a0 Z = true := tm (i := 44) H rfl
theorem tw45 (H : Cx Z a0 gA gK) : (Jvm.Cond.methodLink "java/math/BigDecimal" 243 N3).before a0 Z = true := tm (i := 45) H rfl
theorem tw46 (H : Cx Z a0 gA gK) : (Jvm.Cond.instanceMethod N3).before a0 Z = true := tm (i := 46) H rfl
theorem tw48 (H : Cx Z a0 gA gK) : (Jvm.Cond.code N3 jdk_17_method_1_code 6 (Option.none : Option Jvm.ClassFile.FieldType)).before a0 Z = true := tm (i := 48) H rfl
theorem tw49 (H : Cx Z a0 gA gK) : (Jvm.Cond.methodLink "java/math/BigDecimal" 11 N2).before a0 Z = true := tm (i := 49) H rfl
theorem tw50 (H : Cx Z a0 gA gK) : (Jvm.Cond.instanceMethod N2).before a0 Z = true := tm (i := 50) H rfl
theorem tw53 (H : Cx Z a0 gA gK) : (Jvm.Cond.initialized "java/lang/Number").before a0 Z = true := tm (i := 53) H rfl
theorem tw54 (H : Cx Z a0 gA gK) : (Jvm.Cond.code N2 jdk_18_method_1_code 1 (Option.none : Option Jvm.ClassFile.FieldType)).before a0 Z = true := tm (i := 54) H rfl
theorem tw55 (H : Cx Z a0 gA gK) : (Jvm.Cond.methodLink "java/lang/Number" 1 N63).before a0 Z = true := tm (i := 55) H rfl
theorem tw56 (H : Cx Z a0 gA gK) : (Jvm.Cond.fieldLink "java/math/BigDecimal" 17 "java/math/BigDecimal" "scale" "I").before a0 Z = true := tm (i := 56) H rfl
theorem tw57 (H : Cx Z a0 gA gK) : (Jvm.Cond.laysFinal "java/math/BigDecimal" "java/math/BigDecimal" "scale" "I").before a0 Z = true := tm (i := 57) H rfl
theorem tw58 (H : Cx Z a0 gA gK) : (Jvm.Cond.fieldLink "java/math/BigDecimal" 21 "java/math/BigDecimal" "precision" "I").before a0 Z = true := tm (i := 58) H rfl
theorem tw59 (H : Cx Z a0 gA gK) : (Jvm.Cond.lays "java/math/BigDecimal" "java/math/BigDecimal" "precision" "I").before a0 Z = true := tm (i := 59) H rfl
theorem tw60 (H : Cx Z a0 gA gK) : (Jvm.Cond.fieldLink "java/math/BigDecimal" 24 "java/math/BigDecimal" "intCompact" "J").before a0 Z = true := tm (i := 60) H rfl
theorem tw61 (H : Cx Z a0 gA gK) : (Jvm.Cond.laysFinal "java/math/BigDecimal" "java/math/BigDecimal" "intCompact" "J").before a0 Z = true := tm (i := 61) H rfl
theorem tw62 (H : Cx Z a0 gA gK) : (Jvm.Cond.fieldLink "java/math/BigDecimal" 28 "java/math/BigDecimal" "intVal" "Ljava/math/BigInteger;").before a0 Z = true := tm (i := 62) H rfl
theorem tw63 (H : Cx Z a0 gA gK) : (Jvm.Cond.laysFinal "java/math/BigDecimal" "java/math/BigDecimal" "intVal" "Ljava/math/BigInteger;").before a0 Z = true := tm (i := 63) H rfl
theorem tw64 (H : Cx Z a0 gA gK) : (Jvm.Cond.methodLink "java/time/Duration" 350 N10).before a0 Z = true := tm (i := 64) H rfl
theorem tw65 (H : Cx Z a0 gA gK) : (Jvm.Cond.declares N10).before a0 Z = true := tm (i := 65) H rfl
theorem tw66 (H : Cx Z a0 gA gK) : (Jvm.Cond.instanceMethod N10).before a0 Z = true := tm (i := 66) H rfl
theorem tw67 (H : Cx Z a0 gA gK) : (Jvm.Cond.selects "java/math/BigDecimal" N10 N10).before a0 Z = true := tm (i := 67) H rfl
theorem tw68 (H : Cx Z a0 gA gK) : (Jvm.Cond.code N10 jdk_17_method_26_code 2 (Option.some (Jvm.ClassFile.FieldType.object "java/math/BigDecimal"))).before a0 Z = true := tm (i := 68) H rfl
theorem tw69 (H : Cx Z a0 gA gK) : (Jvm.Cond.methodLink "java/math/BigDecimal" 257 N9).before a0 Z = true := tm (i := 69) H rfl
theorem tw70 (H : Cx Z a0 gA gK) : (Jvm.Cond.static N9).before a0 Z = true := tm (i := 70) H rfl
theorem tw71 (H : Cx Z a0 gA gK) : (Jvm.Cond.code N9 jdk_17_method_134_code 12 (Option.some (Jvm.ClassFile.FieldType.object "java/math/BigDecimal"))).before a0 Z = true := tm (i := 71) H rfl
theorem tw72 (H : Cx Z a0 gA gK) : (Jvm.Cond.methodLink "java/math/BigDecimal" 994 N5).before a0 Z = true := tm (i := 72) H rfl
theorem tw73 (H : Cx Z a0 gA gK) : (Jvm.Cond.static N5).before a0 Z = true := tm (i := 73) H rfl
theorem tw74 (H : Cx Z a0 gA gK) : (Jvm.Cond.code N5 jdk_17_method_113_code 5 (Option.some Jvm.ClassFile.FieldType.int)).before a0 Z = true := tm (i := 74) H rfl
theorem tw75 (H : Cx Z a0 gA gK) : (Jvm.Cond.methodLink "java/math/BigDecimal" 599 N6).before a0 Z = true := tm (i := 75) H rfl
theorem tw76 (H : Cx Z a0 gA gK) : (Jvm.Cond.static N6).before a0 Z = true := tm (i := 76) H rfl
theorem tw77 (H : Cx Z a0 gA gK) : (Jvm.Cond.code N6 jdk_17_method_97_code 7 (Option.some Jvm.ClassFile.FieldType.long)).before a0 Z = true := tm (i := 77) H rfl
theorem tw78 (H : Cx Z a0 gA gK) : (Jvm.Cond.methodLink "java/math/BigDecimal" 1000 N8).before a0 Z = true := tm (i := 78) H rfl
theorem tw79 (H : Cx Z a0 gA gK) : (Jvm.Cond.static N8).before a0 Z = true := tm (i := 79) H rfl
theorem tw80 (H : Cx Z a0 gA gK) : (Jvm.Cond.code N8 jdk_17_method_133_code 7 (Option.some (Jvm.ClassFile.FieldType.object "java/math/BigDecimal"))).before a0 Z = true := tm (i := 80) H rfl
theorem tw81 (H : Cx Z a0 gA gK) : (Jvm.Cond.methodLink "java/math/BigDecimal" 996 N7).before a0 Z = true := tm (i := 81) H rfl
theorem tw82 (H : Cx Z a0 gA gK) : (Jvm.Cond.static N7).before a0 Z = true := tm (i := 82) H rfl
theorem tw83 (H : Cx Z a0 gA gK) : (Jvm.Cond.code N7 jdk_17_method_132_code 6 (Option.some Jvm.ClassFile.FieldType.long)).before a0 Z = true := tm (i := 83) H rfl
theorem tw84 (H : Cx Z a0 gA gK) : (Jvm.Cond.methodLink "java/math/BigDecimal" 328 N4).before a0 Z = true := tm (i := 84) H rfl
theorem tw85 (H : Cx Z a0 gA gK) : (Jvm.Cond.methodLink "java/time/Duration" 319 N16).before a0 Z = true := tm (i := 85) H rfl
theorem tw86 (H : Cx Z a0 gA gK) : (Jvm.Cond.declares N16).before a0 Z = true := tm (i := 86) H rfl
theorem tw87 (H : Cx Z a0 gA gK) : (Jvm.Cond.instanceMethod N16).before a0 Z = true := tm (i := 87) H rfl
theorem tw88 (H : Cx Z a0 gA gK) : (Jvm.Cond.selects "java/math/BigDecimal" N16 N16).before a0 Z = true := tm (i := 88) H rfl
theorem tw89 (H : Cx Z a0 gA gK) : (Jvm.Cond.code N16 jdk_17_method_31_code 3 (Option.some (Jvm.ClassFile.FieldType.object "java/math/BigDecimal"))).before a0 Z = true := tm (i := 89) H rfl
theorem tw90 (H : Cx Z a0 gA gK) : (Jvm.Cond.methodLink "java/math/BigDecimal" 325 N12).before a0 Z = true := tm (i := 90) H rfl
theorem tw91 (H : Cx Z a0 gA gK) : (Jvm.Cond.instanceMethod N12).before a0 Z = true := tm (i := 91) H rfl
theorem tw92 (H : Cx Z a0 gA gK) : (Jvm.Cond.privateMethod N12).before a0 Z = true := tm (i := 92) H rfl
theorem tw93 (H : Cx Z a0 gA gK) : (Jvm.Cond.selects "java/math/BigDecimal" N12 N12).before a0 Z = true := tm (i := 93) H rfl
theorem tw94 (H : Cx Z a0 gA gK) : (Jvm.Cond.code N12 jdk_17_method_106_code 5 (Option.some Jvm.ClassFile.FieldType.int)).before a0 Z = true := tm (i := 94) H rfl
theorem tw95 (H : Cx Z a0 gA gK) : (Jvm.Cond.methodLink "java/math/BigDecimal" 342 N15).before a0 Z = true := tm (i := 95) H rfl
theorem tw96 (H : Cx Z a0 gA gK) : (Jvm.Cond.static N15).before a0 Z = true := tm (i := 96) H rfl
theorem tw97 (H : Cx Z a0 gA gK) : (Jvm.Cond.code N15 jdk_17_method_157_code 7 (Option.some (Jvm.ClassFile.FieldType.object "java/math/BigDecimal"))).before a0 Z = true := tm (i := 97) H rfl
theorem tw98 (H : Cx Z a0 gA gK) : (Jvm.Cond.methodLink "java/math/BigDecimal" 1055 N14).before a0 Z = true := tm (i := 98) H rfl
theorem tw99 (H : Cx Z a0 gA gK) : (Jvm.Cond.static N14).before a0 Z = true := tm (i := 99) H rfl
theorem tw100 (H : Cx Z a0 gA gK) : (Jvm.Cond.code N14 jdk_17_method_156_code 10 (Option.some Jvm.ClassFile.FieldType.long)).before a0 Z = true := tm (i := 100) H rfl
theorem tw101 (H : Cx Z a0 gA gK) : (Jvm.Cond.methodLink "java/math/BigDecimal" 440 N13).before a0 Z = true := tm (i := 101) H rfl
theorem tw102 (H : Cx Z a0 gA gK) : (Jvm.Cond.static N13).before a0 Z = true := tm (i := 102) H rfl
theorem tw103 (H : Cx Z a0 gA gK) : (Jvm.Cond.initialized "java/lang/Math").before a0 Z = true := tm (i := 103) H rfl
theorem tw104 (H : Cx Z a0 gA gK) : (Jvm.Cond.code N13 jdk_29_method_61_code 2 (Option.some Jvm.ClassFile.FieldType.long)).before a0 Z = true := tm (i := 104) H rfl
theorem tw105 (H : Cx Z a0 gA gK) : (Jvm.Cond.methodLink "java/time/Duration" 323 N46).before a0 Z = true := tm (i := 105) H rfl
theorem tw106 (H : Cx Z a0 gA gK) : (Jvm.Cond.static N46).before a0 Z = true := tm (i := 106) H rfl
theorem tw107 (H : Cx Z a0 gA gK) : (Jvm.Cond.code N46 jdk_2316_method_48_code 3 (Option.some (Jvm.ClassFile.FieldType.object "java/time/Duration"))).before a0 Z = true := tm (i := 107) H rfl
theorem tw108 (H : Cx Z a0 gA gK) : (Jvm.Cond.methodLink "java/time/Duration" 353 N17).before a0 Z = true := tm (i := 108) H rfl
theorem tw109 (H : Cx Z a0 gA gK) : (Jvm.Cond.declares N17).before a0 Z = true := tm (i := 109) H rfl
theorem tw110 (H : Cx Z a0 gA gK) : (Jvm.Cond.instanceMethod N17).before a0 Z = true := tm (i := 110) H rfl
theorem tw111 (H : Cx Z a0 gA gK) : (Jvm.Cond.selects "java/math/BigDecimal" N17 N17).before a0 Z = true := tm (i := 111) H rfl
theorem tw112 (H : Cx Z a0 gA gK) : (Jvm.Cond.code N17 jdk_17_method_67_code 4 (Option.some (Jvm.ClassFile.FieldType.object "java/math/BigDecimal"))).before a0 Z = true := tm (i := 112) H rfl
theorem tw113 (H : Cx Z a0 gA gK) : (Jvm.Cond.methodLink "java/time/Duration" 357 N22).before a0 Z = true := tm (i := 113) H rfl
theorem tw114 (H : Cx Z a0 gA gK) : (Jvm.Cond.declares N22).before a0 Z = true := tm (i := 114) H rfl
theorem tw115 (H : Cx Z a0 gA gK) : (Jvm.Cond.instanceMethod N22).before a0 Z = true := tm (i := 115) H rfl
theorem tw116 (H : Cx Z a0 gA gK) : (Jvm.Cond.selects "java/math/BigDecimal" N22 N22).before a0 Z = true := tm (i := 116) H rfl
theorem tw117 (H : Cx Z a0 gA gK) : (Jvm.Cond.code N22 jdk_17_method_81_code 1 (Option.some (Jvm.ClassFile.FieldType.object "java/math/BigInteger"))).before a0 Z = true := tm (i := 117) H rfl
theorem tw118 (H : Cx Z a0 gA gK) : (Jvm.Cond.methodLink "java/math/BigDecimal" 419 N18).before a0 Z = true := tm (i := 118) H rfl
theorem tw119 (H : Cx Z a0 gA gK) : (Jvm.Cond.declares N18).before a0 Z = true := tm (i := 119) H rfl
theorem tw120 (H : Cx Z a0 gA gK) : (Jvm.Cond.instanceMethod N18).before a0 Z = true := tm (i := 120) H rfl
theorem tw121 (H : Cx Z a0 gA gK) : (Jvm.Cond.selects "java/math/BigDecimal" N18 N18).before a0 Z = true := tm (i := 121) H rfl
theorem tw122 (H : Cx Z a0 gA gK) : (Jvm.Cond.code N18 jdk_17_method_64_code 8 (Option.some (Jvm.ClassFile.FieldType.object "java/math/BigDecimal"))).before a0 Z = true := tm (i := 122) H rfl
theorem tw123 (H : Cx Z a0 gA gK) : (Jvm.Cond.methodLink "java/math/BigDecimal" 302 N21).before a0 Z = true := tm (i := 123) H rfl
theorem tw124 (H : Cx Z a0 gA gK) : (Jvm.Cond.instanceMethod N21).before a0 Z = true := tm (i := 124) H rfl
theorem tw125 (H : Cx Z a0 gA gK) : (Jvm.Cond.privateMethod N21).before a0 Z = true := tm (i := 125) H rfl
theorem tw126 (H : Cx Z a0 gA gK) : (Jvm.Cond.selects "java/math/BigDecimal" N21 N21).before a0 Z = true := tm (i := 126) H rfl
theorem tw127 (H : Cx Z a0 gA gK) : (Jvm.Cond.code N21 jdk_17_method_99_code 1 (Option.some (Jvm.ClassFile.FieldType.object "java/math/BigInteger"))).before a0 Z = true := tm (i := 127) H rfl
theorem tw128 (H : Cx Z a0 gA gK) : (Jvm.Cond.methodLink "java/math/BigDecimal" 193 N20).before a0 Z = true := tm (i := 128) H rfl
theorem tw129 (H : Cx Z a0 gA gK) : (Jvm.Cond.static N20).before a0 Z = true := tm (i := 129) H rfl
theorem tw130 (H : Cx Z a0 gA gK) : (Jvm.Cond.initialized "java/math/BigInteger").before a0 Z = true := tm (i := 130) H rfl
theorem tw131 (H : Cx Z a0 gA gK) : (Jvm.Cond.code N20 jdk_2097_method_29_code 2 (Option.some (Jvm.ClassFile.FieldType.object "java/math/BigInteger"))).before a0 Z = true := tm (i := 131) H rfl
theorem tw132 (H : Cx Z a0 gA gK) : (Jvm.Cond.constantLong "java/math/BigInteger" 345 (16 : Int64)).before a0 Z = true := tm (i := 132) H rfl
theorem tw133 (H : Cx Z a0 gA gK) : (Jvm.Cond.classLink "java/math/BigInteger" 23 "java/math/BigInteger").before a0 Z = true := tm (i := 133) H rfl
theorem tw134 (H : Cx Z a0 gA gK) : (Jvm.Cond.instantiable "java/math/BigInteger" 6).before a0 Z = true := tm (i := 134) H rfl
theorem tw135 (H : Cx Z a0 gA gK) : (Jvm.Cond.methodLink "java/math/BigInteger" 356 N19).before a0 Z = true := tm (i := 135) H rfl
theorem tw136 (H : Cx Z a0 gA gK) : (Jvm.Cond.instanceMethod N19).before a0 Z = true := tm (i := 136) H rfl
theorem tw138 (H : Cx Z a0 gA gK) : (Jvm.Cond.code N19 jdk_2097_method_30_code 4 (Option.none : Option Jvm.ClassFile.FieldType)).before a0 Z = true := tm (i := 138) H rfl
theorem tw139 (H : Cx Z a0 gA gK) : (Jvm.Cond.methodLink "java/math/BigInteger" 3 N2).before a0 Z = true := tm (i := 139) H rfl
theorem tw141 (H : Cx Z a0 gA gK) : (Jvm.Cond.fieldLink "java/math/BigInteger" 32 "java/math/BigInteger" "signum" "I").before a0 Z = true := tm (i := 141) H rfl
theorem tw142 (H : Cx Z a0 gA gK) : (Jvm.Cond.laysFinal "java/math/BigInteger" "java/math/BigInteger" "signum" "I").before a0 Z = true := tm (i := 142) H rfl
theorem tw143 (H : Cx Z a0 gA gK) : (Jvm.Cond.arrayClass Jvm.ClassFile.FieldType.int).before a0 Z = true := tm (i := 143) H rfl
theorem tw144 (H : Cx Z a0 gA gK) : (Jvm.Cond.fieldLink "java/math/BigInteger" 28 "java/math/BigInteger" "mag" "[I").before a0 Z = true := tm (i := 144) H rfl
theorem tw145 (H : Cx Z a0 gA gK) : (Jvm.Cond.laysFinal "java/math/BigInteger" "java/math/BigInteger" "mag" "[I").before a0 Z = true := tm (i := 145) H rfl
theorem tw146 (H : Cx Z a0 gA gK) : (Jvm.Cond.fieldLink "java/time/Duration" 361 "java/time/Duration" "BI_NANOS_PER_SECOND" "Ljava/math/BigInteger;").before a0 Z = true := tm (i := 146) H rfl
theorem tw147 (H : Cx Z a0 gA gK) : (Jvm.Cond.methodLink "java/time/Duration" 365 N32).before a0 Z = true := tm (i := 147) H rfl
theorem tw148 (H : Cx Z a0 gA gK) : (Jvm.Cond.declares N32).before a0 Z = true := tm (i := 148) H rfl
theorem tw149 (H : Cx Z a0 gA gK) : (Jvm.Cond.instanceMethod N32).before a0 Z = true := tm (i := 149) H rfl
theorem tw150 (H : Cx Z a0 gA gK) : (Jvm.Cond.selects "java/math/BigInteger" N32 N32).before a0 Z = true := tm (i := 150) H rfl
theorem tw151 (H : Cx Z a0 gA gK) : (Jvm.Cond.code N32 jdk_2097_method_63_code 2 (Option.some (Jvm.ClassFile.FieldType.array (Jvm.ClassFile.FieldType.object "java/math/BigInteger")))).before a0 Z = true := tm (i := 151) H rfl
theorem tw152 (H : Cx Z a0 gA gK) : (Jvm.Cond.methodLink "java/math/BigInteger" 551 N31).before a0 Z = true := tm (i := 152) H rfl
theorem tw153 (H : Cx Z a0 gA gK) : (Jvm.Cond.instanceMethod N31).before a0 Z = true := tm (i := 153) H rfl
theorem tw154 (H : Cx Z a0 gA gK) : (Jvm.Cond.privateMethod N31).before a0 Z = true := tm (i := 154) H rfl
theorem tw155 (H : Cx Z a0 gA gK) : (Jvm.Cond.selects "java/math/BigInteger" N31 N31).before a0 Z = true := tm (i := 155) H rfl
theorem tw156 (H : Cx Z a0 gA gK) : (Jvm.Cond.code N31 jdk_2097_method_64_code 7 (Option.some (Jvm.ClassFile.FieldType.array (Jvm.ClassFile.FieldType.object "java/math/BigInteger")))).before a0 Z = true := tm (i := 156) H rfl
theorem tw157 (H : Cx Z a0 gA gK) : (Jvm.Cond.arrayOver (Jvm.ClassFile.FieldType.object "java/math/BigInteger")).before a0 Z = true := tm (i := 157) H rfl
theorem tw158 (H : Cx Z a0 gA gK) : (Jvm.Cond.classLink "java/math/BigInteger" 541 "java/math/MutableBigInteger").before a0 Z = true := tm (i := 158) H rfl
theorem tw159 (H : Cx Z a0 gA gK) : (Jvm.Cond.instantiable "java/math/MutableBigInteger" 3).before a0 Z = true := tm (i := 159) H rfl
theorem tw160 (H : Cx Z a0 gA gK) : (Jvm.Cond.initialized "java/math/MutableBigInteger").before a0 Z = true := tm (i := 160) H rfl
theorem tw161 (H : Cx Z a0 gA gK) : (Jvm.Cond.methodLink "java/math/BigInteger" 543 N23).before a0 Z = true := tm (i := 161) H rfl
theorem tw162 (H : Cx Z a0 gA gK) : (Jvm.Cond.instanceMethod N23).before a0 Z = true := tm (i := 162) H rfl
theorem tw164 (H : Cx Z a0 gA gK) : (Jvm.Cond.code N23 jdk_2101_method_1_code 1 (Option.none : Option Jvm.ClassFile.FieldType)).before a0 Z = true := tm (i := 164) H rfl
theorem tw165 (H : Cx Z a0 gA gK) : (Jvm.Cond.methodLink "java/math/MutableBigInteger" 5 N63).before a0 Z = true := tm (i := 165) H rfl
theorem tw166 (H : Cx Z a0 gA gK) : (Jvm.Cond.fieldLink "java/math/MutableBigInteger" 11 "java/math/MutableBigInteger" "offset" "I").before a0 Z = true := tm (i := 166) H rfl
theorem tw167 (H : Cx Z a0 gA gK) : (Jvm.Cond.lays "java/math/MutableBigInteger" "java/math/MutableBigInteger" "offset" "I").before a0 Z = true := tm (i := 167) H rfl
theorem tw168 (H : Cx Z a0 gA gK) : (Jvm.Cond.fieldLink "java/math/MutableBigInteger" 17 "java/math/MutableBigInteger" "value" "[I").before a0 Z = true := tm (i := 168) H rfl
theorem tw169 (H : Cx Z a0 gA gK) : (Jvm.Cond.lays "java/math/MutableBigInteger" "java/math/MutableBigInteger" "value" "[I").before a0 Z = true := tm (i := 169) H rfl
theorem tw170 (H : Cx Z a0 gA gK) : (Jvm.Cond.fieldLink "java/math/MutableBigInteger" 21 "java/math/MutableBigInteger" "intLen" "I").before a0 Z = true := tm (i := 170) H rfl
theorem tw171 (H : Cx Z a0 gA gK) : (Jvm.Cond.lays "java/math/MutableBigInteger" "java/math/MutableBigInteger" "intLen" "I").before a0 Z = true := tm (i := 171) H rfl
theorem tw172 (H : Cx Z a0 gA gK) : (Jvm.Cond.methodLink "java/math/BigInteger" 544 N24).before a0 Z = true := tm (i := 172) H rfl
theorem tw173 (H : Cx Z a0 gA gK) : (Jvm.Cond.instanceMethod N24).before a0 Z = true := tm (i := 173) H rfl
theorem tw174 (H : Cx Z a0 gA gK) : (Jvm.Cond.code N24 jdk_2101_method_3_code 2 (Option.none : Option Jvm.ClassFile.FieldType)).before a0 Z = true := tm (i := 174) H rfl
theorem tw175 (H : Cx Z a0 gA gK) : (Jvm.Cond.methodLink "java/math/BigInteger" 558 N27).before a0 Z = true := tm (i := 175) H rfl
theorem tw176 (H : Cx Z a0 gA gK) : (Jvm.Cond.declares N27).before a0 Z = true := tm (i := 176) H rfl
theorem tw177 (H : Cx Z a0 gA gK) : (Jvm.Cond.instanceMethod N27).before a0 Z = true := tm (i := 177) H rfl
theorem tw178 (H : Cx Z a0 gA gK) : (Jvm.Cond.selects "java/math/MutableBigInteger" N27 N27).before a0 Z = true := tm (i := 178) H rfl
theorem tw179 (H : Cx Z a0 gA gK) : (Jvm.Cond.code N27 jdk_2101_method_56_code 3 (Option.some (Jvm.ClassFile.FieldType.object "java/math/MutableBigInteger"))).before a0 Z = true := tm (i := 179) H rfl
theorem tw180 (H : Cx Z a0 gA gK) : (Jvm.Cond.methodLink "java/math/MutableBigInteger" 163 N26).before a0 Z = true := tm (i := 180) H rfl
theorem tw181 (H : Cx Z a0 gA gK) : (Jvm.Cond.declares N26).before a0 Z = true := tm (i := 181) H rfl
theorem tw182 (H : Cx Z a0 gA gK) : (Jvm.Cond.instanceMethod N26).before a0 Z = true := tm (i := 182) H rfl
theorem tw183 (H : Cx Z a0 gA gK) : (Jvm.Cond.selects "java/math/MutableBigInteger" N26 N26).before a0 Z = true := tm (i := 183) H rfl
theorem tw184 (H : Cx Z a0 gA gK) : (Jvm.Cond.code N26 jdk_2101_method_57_code 8 (Option.some (Jvm.ClassFile.FieldType.object "java/math/MutableBigInteger"))).before a0 Z = true := tm (i := 184) H rfl
theorem tw185 (H : Cx Z a0 gA gK) : (Jvm.Cond.methodLink "java/math/MutableBigInteger" 142 N25).before a0 Z = true := tm (i := 185) H rfl
theorem tw186 (H : Cx Z a0 gA gK) : (Jvm.Cond.declares N25).before a0 Z = true := tm (i := 186) H rfl
theorem tw187 (H : Cx Z a0 gA gK) : (Jvm.Cond.instanceMethod N25).before a0 Z = true := tm (i := 187) H rfl
theorem tw188 (H : Cx Z a0 gA gK) : (Jvm.Cond.selects "java/math/MutableBigInteger" N25 N25).before a0 Z = true := tm (i := 188) H rfl
theorem tw189 (H : Cx Z a0 gA gK) : (Jvm.Cond.code N25 jdk_2101_method_15_code 8 (Option.some Jvm.ClassFile.FieldType.int)).before a0 Z = true := tm (i := 189) H rfl
theorem tw190 (H : Cx Z a0 gA gK) : (Jvm.Cond.constant "java/math/MutableBigInteger" 88 (-2147483648 : Int32)).before a0 Z = true := tm (i := 190) H rfl
theorem tw191 (H : Cx Z a0 gA gK) : (Jvm.Cond.classLink "java/math/MutableBigInteger" 12 "java/math/MutableBigInteger").before a0 Z = true := tm (i := 191) H rfl
theorem tw192 (H : Cx Z a0 gA gK) : (Jvm.Cond.methodLink "java/math/MutableBigInteger" 177 N23).before a0 Z = true := tm (i := 192) H rfl
theorem tw193 (H : Cx Z a0 gA gK) : (Jvm.Cond.methodLink "java/math/BigInteger" 548 N30).before a0 Z = true := tm (i := 193) H rfl
theorem tw194 (H : Cx Z a0 gA gK) : (Jvm.Cond.declares N30).before a0 Z = true := tm (i := 194) H rfl
theorem tw195 (H : Cx Z a0 gA gK) : (Jvm.Cond.instanceMethod N30).before a0 Z = true := tm (i := 195) H rfl
theorem tw196 (H : Cx Z a0 gA gK) : (Jvm.Cond.selects "java/math/MutableBigInteger" N30 N30).before a0 Z = true := tm (i := 196) H rfl
theorem tw197 (H : Cx Z a0 gA gK) : (Jvm.Cond.code N30 jdk_2101_method_9_code 2 (Option.some (Jvm.ClassFile.FieldType.object "java/math/BigInteger"))).before a0 Z = true := tm (i := 197) H rfl
theorem tw198 (H : Cx Z a0 gA gK) : (Jvm.Cond.classLink "java/math/MutableBigInteger" 1 "java/math/BigInteger").before a0 Z = true := tm (i := 198) H rfl
theorem tw199 (H : Cx Z a0 gA gK) : (Jvm.Cond.methodLink "java/math/MutableBigInteger" 58 N28).before a0 Z = true := tm (i := 199) H rfl
theorem tw200 (H : Cx Z a0 gA gK) : (Jvm.Cond.instanceMethod N28).before a0 Z = true := tm (i := 200) H rfl
theorem tw201 (H : Cx Z a0 gA gK) : (Jvm.Cond.privateMethod N28).before a0 Z = true := tm (i := 201) H rfl
theorem tw202 (H : Cx Z a0 gA gK) : (Jvm.Cond.selects "java/math/MutableBigInteger" N28 N28).before a0 Z = true := tm (i := 202) H rfl
theorem tw203 (H : Cx Z a0 gA gK) : (Jvm.Cond.code N28 jdk_2101_method_7_code 2 (Option.some (Jvm.ClassFile.FieldType.array Jvm.ClassFile.FieldType.int))).before a0 Z = true := tm (i := 203) H rfl
theorem tw204 (H : Cx Z a0 gA gK) : (Jvm.Cond.methodLink "java/math/MutableBigInteger" 62 N29).before a0 Z = true := tm (i := 204) H rfl
theorem tw205 (H : Cx Z a0 gA gK) : (Jvm.Cond.instanceMethod N29).before a0 Z = true := tm (i := 205) H rfl
theorem tw206 (H : Cx Z a0 gA gK) : (Jvm.Cond.code N29 jdk_2097_method_25_code 3 (Option.none : Option Jvm.ClassFile.FieldType)).before a0 Z = true := tm (i := 206) H rfl
theorem tw207 (H : Cx Z a0 gA gK) : (Jvm.Cond.constant "java/math/BigInteger" 43 (67108864 : Int32)).before a0 Z = true := tm (i := 207) H rfl
theorem tw208 (H : Cx Z a0 gA gK) : (Jvm.Cond.fieldLink "java/math/MutableBigInteger" 54 "java/math/BigInteger" "ZERO" "Ljava/math/BigInteger;").before a0 Z = true := tm (i := 208) H rfl
theorem tw209 (H : Cx Z a0 gA gK) : (Jvm.Cond.methodLink "java/time/Duration" 371 N35).before a0 Z = true := tm (i := 209) H rfl
theorem tw210 (H : Cx Z a0 gA gK) : (Jvm.Cond.declares N35).before a0 Z = true := tm (i := 210) H rfl
theorem tw211 (H : Cx Z a0 gA gK) : (Jvm.Cond.instanceMethod N35).before a0 Z = true := tm (i := 211) H rfl
theorem tw212 (H : Cx Z a0 gA gK) : (Jvm.Cond.selects "java/math/BigInteger" N35 N35).before a0 Z = true := tm (i := 212) H rfl
theorem tw213 (H : Cx Z a0 gA gK) : (Jvm.Cond.code N35 jdk_2097_method_118_code 7 (Option.some Jvm.ClassFile.FieldType.int)).before a0 Z = true := tm (i := 213) H rfl
theorem tw214 (H : Cx Z a0 gA gK) : (Jvm.Cond.fieldLink "java/math/BigInteger" 747 "java/math/BigInteger" "bitLengthPlusOne" "I").before a0 Z = true := tm (i := 214) H rfl
theorem tw215 (H : Cx Z a0 gA gK) : (Jvm.Cond.lays "java/math/BigInteger" "java/math/BigInteger" "bitLengthPlusOne" "I").before a0 Z = true := tm (i := 215) H rfl
theorem tw216 (H : Cx Z a0 gA gK) : (Jvm.Cond.methodLink "java/math/BigInteger" 605 N34).before a0 Z = true := tm (i := 216) H rfl
theorem tw217 (H : Cx Z a0 gA gK) : (Jvm.Cond.static N34).before a0 Z = true := tm (i := 217) H rfl
theorem tw218 (H : Cx Z a0 gA gK) : (Jvm.Cond.code N34 jdk_2097_method_74_code 1 (Option.some Jvm.ClassFile.FieldType.int)).before a0 Z = true := tm (i := 218) H rfl
theorem tw219 (H : Cx Z a0 gA gK) : (Jvm.Cond.methodLink "java/math/BigInteger" 602 N33).before a0 Z = true := tm (i := 219) H rfl
theorem tw220 (H : Cx Z a0 gA gK) : (Jvm.Cond.static N33).before a0 Z = true := tm (i := 220) H rfl
theorem tw221 (H : Cx Z a0 gA gK) : (Jvm.Cond.initialized "java/lang/Integer").before a0 Z = true := tm (i := 221) H rfl
theorem tw222 (H : Cx Z a0 gA gK) : (Jvm.Cond.code N33 jdk_33_method_47_code 2 (Option.some Jvm.ClassFile.FieldType.int)).before a0 Z = true := tm (i := 222) H rfl
theorem tw223 (H : Cx Z a0 gA gK) : (Jvm.Cond.constant "java/lang/Integer" 264 (65536 : Int32)).before a0 Z = true := tm (i := 223) H rfl
theorem tw224 (H : Cx Z a0 gA gK) : (Jvm.Cond.methodLink "java/time/Duration" 376 N38).before a0 Z = true := tm (i := 224) H rfl
theorem tw225 (H : Cx Z a0 gA gK) : (Jvm.Cond.declares N38).before a0 Z = true := tm (i := 225) H rfl
theorem tw226 (H : Cx Z a0 gA gK) : (Jvm.Cond.instanceMethod N38).before a0 Z = true := tm (i := 226) H rfl
theorem tw227 (H : Cx Z a0 gA gK) : (Jvm.Cond.selects "java/math/BigInteger" N38 N38).before a0 Z = true := tm (i := 227) H rfl
theorem tw228 (H : Cx Z a0 gA gK) : (Jvm.Cond.code N38 jdk_2097_method_136_code 4 (Option.some Jvm.ClassFile.FieldType.long)).before a0 Z = true := tm (i := 228) H rfl
theorem tw229 (H : Cx Z a0 gA gK) : (Jvm.Cond.methodLink "java/math/BigInteger" 736 N37).before a0 Z = true := tm (i := 229) H rfl
theorem tw230 (H : Cx Z a0 gA gK) : (Jvm.Cond.instanceMethod N37).before a0 Z = true := tm (i := 230) H rfl
theorem tw231 (H : Cx Z a0 gA gK) : (Jvm.Cond.privateMethod N37).before a0 Z = true := tm (i := 231) H rfl
theorem tw232 (H : Cx Z a0 gA gK) : (Jvm.Cond.selects "java/math/BigInteger" N37 N37).before a0 Z = true := tm (i := 232) H rfl
theorem tw233 (H : Cx Z a0 gA gK) : (Jvm.Cond.code N37 jdk_2097_method_148_code 3 (Option.some Jvm.ClassFile.FieldType.int)).before a0 Z = true := tm (i := 233) H rfl
theorem tw234 (H : Cx Z a0 gA gK) : (Jvm.Cond.methodLink "java/math/BigInteger" 860 N36).before a0 Z = true := tm (i := 234) H rfl
theorem tw235 (H : Cx Z a0 gA gK) : (Jvm.Cond.instanceMethod N36).before a0 Z = true := tm (i := 235) H rfl
theorem tw236 (H : Cx Z a0 gA gK) : (Jvm.Cond.privateMethod N36).before a0 Z = true := tm (i := 236) H rfl
theorem tw237 (H : Cx Z a0 gA gK) : (Jvm.Cond.selects "java/math/BigInteger" N36 N36).before a0 Z = true := tm (i := 237) H rfl
theorem tw238 (H : Cx Z a0 gA gK) : (Jvm.Cond.code N36 jdk_2097_method_147_code 1 (Option.some Jvm.ClassFile.FieldType.int)).before a0 Z = true := tm (i := 238) H rfl
theorem tw239 (H : Cx Z a0 gA gK) : (Jvm.Cond.constantLong "java/math/BigInteger" 130 (4294967295 : Int64)).before a0 Z = true := tm (i := 239) H rfl
theorem tw240 (H : Cx Z a0 gA gK) : (Jvm.Cond.methodLink "java/time/Duration" 379 N39).before a0 Z = true := tm (i := 240) H rfl
theorem tw241 (H : Cx Z a0 gA gK) : (Jvm.Cond.declares N39).before a0 Z = true := tm (i := 241) H rfl
theorem tw242 (H : Cx Z a0 gA gK) : (Jvm.Cond.instanceMethod N39).before a0 Z = true := tm (i := 242) H rfl
theorem tw243 (H : Cx Z a0 gA gK) : (Jvm.Cond.selects "java/math/BigInteger" N39 N39).before a0 Z = true := tm (i := 243) H rfl
theorem tw244 (H : Cx Z a0 gA gK) : (Jvm.Cond.code N39 jdk_2097_method_135_code 2 (Option.some Jvm.ClassFile.FieldType.int)).before a0 Z = true := tm (i := 244) H rfl
theorem tw245 (H : Cx Z a0 gA gK) : (Jvm.Cond.methodLink "java/time/Duration" 176 N45).before a0 Z = true := tm (i := 245) H rfl
theorem tw246 (H : Cx Z a0 gA gK) : (Jvm.Cond.static N45).before a0 Z = true := tm (i := 246) H rfl
theorem tw247 (H : Cx Z a0 gA gK) : (Jvm.Cond.code N45 jdk_2316_method_5_code 7 (Option.some (Jvm.ClassFile.FieldType.object "java/time/Duration"))).before a0 Z = true := tm (i := 247) H rfl
theorem tw248 (H : Cx Z a0 gA gK) : (Jvm.Cond.constantLong "java/time/Duration" 16 (1000000000 : Int64)).before a0 Z = true := tm (i := 248) H rfl
theorem tw249 (H : Cx Z a0 gA gK) : (Jvm.Cond.methodLink "java/time/Duration" 18 N40).before a0 Z = true := tm (i := 249) H rfl
theorem tw250 (H : Cx Z a0 gA gK) : (Jvm.Cond.static N40).before a0 Z = true := tm (i := 250) H rfl
theorem tw251 (H : Cx Z a0 gA gK) : (Jvm.Cond.code N40 jdk_29_method_49_code 6 (Option.some Jvm.ClassFile.FieldType.long)).before a0 Z = true := tm (i := 251) H rfl
theorem tw252 (H : Cx Z a0 gA gK) : (Jvm.Cond.methodLink "java/time/Duration" 22 N41).before a0 Z = true := tm (i := 252) H rfl
theorem tw253 (H : Cx Z a0 gA gK) : (Jvm.Cond.static N41).before a0 Z = true := tm (i := 253) H rfl
theorem tw254 (H : Cx Z a0 gA gK) : (Jvm.Cond.code N41 jdk_29_method_25_code 6 (Option.some Jvm.ClassFile.FieldType.long)).before a0 Z = true := tm (i := 254) H rfl
theorem tw255 (H : Cx Z a0 gA gK) : (Jvm.Cond.methodLink "java/time/Duration" 25 N42).before a0 Z = true := tm (i := 255) H rfl
theorem tw256 (H : Cx Z a0 gA gK) : (Jvm.Cond.static N42).before a0 Z = true := tm (i := 256) H rfl
theorem tw257 (H : Cx Z a0 gA gK) : (Jvm.Cond.code N42 jdk_29_method_52_code 6 (Option.some Jvm.ClassFile.FieldType.long)).before a0 Z = true := tm (i := 257) H rfl
theorem tw258 (H : Cx Z a0 gA gK) : (Jvm.Cond.methodLink "java/time/Duration" 10 N44).before a0 Z = true := tm (i := 258) H rfl
theorem tw259 (H : Cx Z a0 gA gK) : (Jvm.Cond.static N44).before a0 Z = true := tm (i := 259) H rfl
theorem tw260 (H : Cx Z a0 gA gK) : (Jvm.Cond.code N44 jdk_2316_method_16_code 3 (Option.some (Jvm.ClassFile.FieldType.object "java/time/Duration"))).before a0 Z = true := tm (i := 260) H rfl
theorem tw261 (H : Cx Z a0 gA gK) : (Jvm.Cond.classLink "java/time/Duration" 11 "java/time/Duration").before a0 Z = true := tm (i := 261) H rfl
theorem tw262 (H : Cx Z a0 gA gK) : (Jvm.Cond.instantiable "java/time/Duration" 2).before a0 Z = true := tm (i := 262) H rfl
theorem tw263 (H : Cx Z a0 gA gK) : (Jvm.Cond.methodLink "java/time/Duration" 215 N43).before a0 Z = true := tm (i := 263) H rfl
theorem tw264 (H : Cx Z a0 gA gK) : (Jvm.Cond.instanceMethod N43).before a0 Z = true := tm (i := 264) H rfl
theorem tw266 (H : Cx Z a0 gA gK) : (Jvm.Cond.code N43 jdk_2316_method_17_code 4 (Option.none : Option Jvm.ClassFile.FieldType)).before a0 Z = true := tm (i := 266) H rfl
theorem tw267 (H : Cx Z a0 gA gK) : (Jvm.Cond.methodLink "java/time/Duration" 218 N63).before a0 Z = true := tm (i := 267) H rfl
theorem tw268 (H : Cx Z a0 gA gK) : (Jvm.Cond.fieldLink "com/example/letters_between_tasks/lettersbetweentasks/service/Backoff" 24 "com/example/letters_between_tasks/lettersbetweentasks/service/Backoff" "LONGEST" "Ljava/time/Duration;").before a0 Z = true := tm (i := 268) H rfl
theorem tw270 (H : Cx Z a0 gA gK) : (Jvm.Cond.methodLink "com/example/letters_between_tasks/lettersbetweentasks/service/Backoff" 27 N49).before a0 Z = true := tm (i := 270) H rfl
theorem tw271 (H : Cx Z a0 gA gK) : (Jvm.Cond.declares N49).before a0 Z = true := tm (i := 271) H rfl
theorem tw272 (H : Cx Z a0 gA gK) : (Jvm.Cond.instanceMethod N49).before a0 Z = true := tm (i := 272) H rfl
theorem tw273 (H : Cx Z a0 gA gK) : (Jvm.Cond.selects "java/time/Duration" N49 N49).before a0 Z = true := tm (i := 273) H rfl
theorem tw274 (H : Cx Z a0 gA gK) : (Jvm.Cond.code N49 jdk_2316_method_66_code 3 (Option.some Jvm.ClassFile.FieldType.int)).before a0 Z = true := tm (i := 274) H rfl
theorem tw275 (H : Cx Z a0 gA gK) : (Jvm.Cond.methodLink "java/time/Duration" 416 N48).before a0 Z = true := tm (i := 275) H rfl
theorem tw276 (H : Cx Z a0 gA gK) : (Jvm.Cond.static N48).before a0 Z = true := tm (i := 276) H rfl
theorem tw277 (H : Cx Z a0 gA gK) : (Jvm.Cond.initialized "java/lang/Long").before a0 Z = true := tm (i := 277) H rfl
theorem tw278 (H : Cx Z a0 gA gK) : (Jvm.Cond.code N48 jdk_35_method_42_code 4 (Option.some Jvm.ClassFile.FieldType.int)).before a0 Z = true := tm (i := 278) H rfl
theorem tw279 (H : Cx Z a0 gA gK) : (Jvm.Cond.methodLink "com/example/letters_between_tasks/lettersbetweentasks/service/BackoffNextPinLaw" 14 N52).before a0 Z = true := tm (i := 279) H rfl
theorem tw280 (H : Cx Z a0 gA gK) : (Jvm.Cond.declares N52).before a0 Z = true := tm (i := 280) H rfl
theorem tw281 (H : Cx Z a0 gA gK) : (Jvm.Cond.instanceMethod N52).before a0 Z = true := tm (i := 281) H rfl
theorem tw282 (H : Cx Z a0 gA gK) : (Jvm.Cond.selects "java/time/Duration" N52 N52).before a0 Z = true := tm (i := 282) H rfl
theorem tw283 (H : Cx Z a0 gA gK) : (Jvm.Cond.code N52 jdk_2316_method_58_code 7 (Option.some Jvm.ClassFile.FieldType.long)).before a0 Z = true := tm (i := 283) H rfl
theorem tw284 (H : Cx Z a0 gA gK) : (Jvm.Cond.methodLink "java/time/Duration" 289 N51).before a0 Z = true := tm (i := 284) H rfl
theorem tw285 (H : Cx Z a0 gA gK) : (Jvm.Cond.static N51).before a0 Z = true := tm (i := 285) H rfl
theorem tw286 (H : Cx Z a0 gA gK) : (Jvm.Cond.code N51 jdk_29_method_30_code 10 (Option.some Jvm.ClassFile.FieldType.long)).before a0 Z = true := tm (i := 286) H rfl
theorem tw287 (H : Cx Z a0 gA gK) : (Jvm.Cond.methodLink "java/lang/Math" 122 N13).before a0 Z = true := tm (i := 287) H rfl
theorem tw288 (H : Cx Z a0 gA gK) : (Jvm.Cond.methodLink "java/math/BigDecimal" 239 N53).before a0 Z = true := tm (i := 288) H rfl
theorem tw289 (H : Cx Z a0 gA gK) : (Jvm.Cond.static N53).before a0 Z = true := tm (i := 289) H rfl
theorem tw290 (H : Cx Z a0 gA gK) : (Jvm.Cond.code N53 jdk_17_method_24_code 1 (Option.some (Jvm.ClassFile.FieldType.object "java/math/BigDecimal"))).before a0 Z = true := tm (i := 290) H rfl
theorem tw291 (H : Cx Z a0 gA gK) : (Jvm.Cond.fieldLink "java/math/BigDecimal" 250 "java/math/BigDecimal" "ZERO_SCALED_BY" "[Ljava/math/BigDecimal;").before a0 Z = true := tm (i := 291) H rfl
theorem tw292 (H : Cx Z a0 gA gK) : (Jvm.Cond.fieldLink "java/math/BigDecimal" 95 "java/math/BigDecimal" "LONG_TEN_POWERS_TABLE" "[J").before a0 Z = true := tm (i := 292) H rfl
theorem tw293 (H : Cx Z a0 gA gK) : (Jvm.Cond.fieldLink "java/math/BigDecimal" 825 "java/math/BigDecimal" "THRESHOLDS_TABLE" "[J").before a0 Z = true := tm (i := 293) H rfl
theorem tw294 (H : Cx Z a0 gA gK) : (Jvm.Cond.methodLink "java/math/MutableBigInteger" 149 N54).before a0 Z = true := tm (i := 294) H rfl
theorem tw295 (H : Cx Z a0 gA gK) : (Jvm.Cond.declares N54).before a0 Z = true := tm (i := 295) H rfl
theorem tw296 (H : Cx Z a0 gA gK) : (Jvm.Cond.instanceMethod N54).before a0 Z = true := tm (i := 296) H rfl
theorem tw297 (H : Cx Z a0 gA gK) : (Jvm.Cond.selects "java/math/MutableBigInteger" N54 N54).before a0 Z = true := tm (i := 297) H rfl
theorem tw298 (H : Cx Z a0 gA gK) : (Jvm.Cond.code N54 jdk_2101_method_13_code 3 (Option.none : Option Jvm.ClassFile.FieldType)).before a0 Z = true := tm (i := 298) H rfl
theorem tw299 (H : Cx Z a0 gA gK) : (Jvm.Cond.methodLink "java/math/MutableBigInteger" 178 N55).before a0 Z = true := tm (i := 299) H rfl
theorem tw300 (H : Cx Z a0 gA gK) : (Jvm.Cond.declares N55).before a0 Z = true := tm (i := 300) H rfl
theorem tw301 (H : Cx Z a0 gA gK) : (Jvm.Cond.instanceMethod N55).before a0 Z = true := tm (i := 301) H rfl
theorem tw302 (H : Cx Z a0 gA gK) : (Jvm.Cond.selects "java/math/MutableBigInteger" N55 N55).before a0 Z = true := tm (i := 302) H rfl
theorem tw303 (H : Cx Z a0 gA gK) : (Jvm.Cond.code N55 jdk_2101_method_53_code 15 (Option.some Jvm.ClassFile.FieldType.int)).before a0 Z = true := tm (i := 303) H rfl
theorem tw304 (H : Cx Z a0 gA gK) : (Jvm.Cond.constantLong "java/math/MutableBigInteger" 52 (4294967295 : Int64)).before a0 Z = true := tm (i := 304) H rfl
theorem tw305 (H : Cx Z a0 gA gK) : (Jvm.Cond.methodLink "java/math/MutableBigInteger" 152 N33).before a0 Z = true := tm (i := 305) H rfl
theorem tw306 (H : Cx Z a0 gA gK) : (Jvm.Cond.methodLink "java/math/MutableBigInteger" 64 N56).before a0 Z = true := tm (i := 306) H rfl
theorem tw307 (H : Cx Z a0 gA gK) : (Jvm.Cond.declares N56).before a0 Z = true := tm (i := 307) H rfl
theorem tw308 (H : Cx Z a0 gA gK) : (Jvm.Cond.instanceMethod N56).before a0 Z = true := tm (i := 308) H rfl
theorem tw309 (H : Cx Z a0 gA gK) : (Jvm.Cond.selects "java/math/MutableBigInteger" N56 N56).before a0 Z = true := tm (i := 309) H rfl
theorem tw310 (H : Cx Z a0 gA gK) : (Jvm.Cond.code N56 jdk_2101_method_21_code 4 (Option.none : Option Jvm.ClassFile.FieldType)).before a0 Z = true := tm (i := 310) H rfl
theorem tw311 (H : Cx Z a0 gA gK) : (Jvm.Cond.methodLink "java/math/MutableBigInteger" 33 N60).before a0 Z = true := tm (i := 311) H rfl
theorem tw312 (H : Cx Z a0 gA gK) : (Jvm.Cond.static N60).before a0 Z = true := tm (i := 312) H rfl
theorem tw313 (H : Cx Z a0 gA gK) : (Jvm.Cond.initialized "java/util/Arrays").before a0 Z = true := tm (i := 313) H rfl
theorem tw314 (H : Cx Z a0 gA gK) : (Jvm.Cond.code N60 jdk_65_method_136_code 3 (Option.some (Jvm.ClassFile.FieldType.array Jvm.ClassFile.FieldType.int))).before a0 Z = true := tm (i := 314) H rfl
theorem tw315 (H : Cx Z a0 gA gK) : (Jvm.Cond.methodLink "java/util/Arrays" 351 N59).before a0 Z = true := tm (i := 315) H rfl
theorem tw316 (H : Cx Z a0 gA gK) : (Jvm.Cond.static N59).before a0 Z = true := tm (i := 316) H rfl
theorem tw317 (H : Cx Z a0 gA gK) : (Jvm.Cond.code N59 jdk_65_method_137_code 5 (Option.some (Jvm.ClassFile.FieldType.array Jvm.ClassFile.FieldType.int))).before a0 Z = true := tm (i := 317) H rfl
theorem tw318 (H : Cx Z a0 gA gK) : (Jvm.Cond.methodLink "java/util/Arrays" 343 N57).before a0 Z = true := tm (i := 318) H rfl
theorem tw319 (H : Cx Z a0 gA gK) : (Jvm.Cond.static N57).before a0 Z = true := tm (i := 319) H rfl
theorem tw320 (H : Cx Z a0 gA gK) : (Jvm.Cond.code N57 jdk_65_method_131_code 2 (Option.none : Option Jvm.ClassFile.FieldType)).before a0 Z = true := tm (i := 320) H rfl
theorem tw321 (H : Cx Z a0 gA gK) : (Jvm.Cond.methodLink "java/util/Arrays" 304 N58).before a0 Z = true := tm (i := 321) H rfl
theorem tw322 (H : Cx Z a0 gA gK) : (Jvm.Cond.static N58).before a0 Z = true := tm (i := 322) H rfl
theorem tw323 (H : Cx Z a0 gA gK) : (Jvm.Cond.code N58 jdk_29_method_69_code 2 (Option.some Jvm.ClassFile.FieldType.int)).before a0 Z = true := tm (i := 323) H rfl
theorem tw324 (H : Cx Z a0 gA gK) : (Jvm.Cond.methodLink "java/util/Arrays" 150 N64).before a0 Z = true := tm (i := 324) H rfl
theorem tw325 (H : Cx Z a0 gA gK) : (Jvm.Cond.static N64).before a0 Z = true := tm (i := 325) H rfl
theorem tw326 (H : Cx Z a0 gA gK) : (Jvm.Cond.initialized "java/lang/System").before a0 Z = true := tm (i := 326) H rfl
theorem tw327 (H : Cx Z a0 gA gK) : (Jvm.Cond.native N64).before a0 Z = true := tm (i := 327) H rfl
theorem tw328 (H : Cx Z a0 gA gK) : (Jvm.Cond.methodLink "java/math/MutableBigInteger" 37 N61).before a0 Z = true := tm (i := 328) H rfl
theorem tw329 (H : Cx Z a0 gA gK) : (Jvm.Cond.static N61).before a0 Z = true := tm (i := 329) H rfl
theorem tw330 (H : Cx Z a0 gA gK) : (Jvm.Cond.code N61 jdk_65_method_103_code 4 (Option.none : Option Jvm.ClassFile.FieldType)).before a0 Z = true := tm (i := 330) H rfl
theorem tw331 (H : Cx Z a0 gA gK) : (Jvm.Cond.constantLong "com/example/letters_between_tasks/lettersbetweentasks/service/BackoffNextPinLaw" 20 (8000000000 : Int64)).before a0 Z = true := tm (i := 331) H rfl
theorem tw332 (H : Cx Z a0 gA gK) : (Jvm.Cond.constantLong "com/example/letters_between_tasks/lettersbetweentasks/service/BackoffNextPinLaw" 22 (500000000 : Int64)).before a0 Z = true := tm (i := 332) H rfl
theorem tw333 (H : Cx Z a0 gA gK) : (Jvm.Cond.constantLong "com/example/letters_between_tasks/lettersbetweentasks/service/BackoffNextPinLaw" 24 (1000000000 : Int64)).before a0 Z = true := tm (i := 333) H rfl
theorem tw334 (H : Cx Z a0 gA gK) : (Jvm.Cond.constantLong "com/example/letters_between_tasks/lettersbetweentasks/service/BackoffNextPinLaw" 26 (2000000000 : Int64)).before a0 Z = true := tm (i := 334) H rfl
theorem tw335 (H : Cx Z a0 gA gK) : (Jvm.Cond.constantLong "com/example/letters_between_tasks/lettersbetweentasks/service/BackoffNextPinLaw" 28 (4000000000 : Int64)).before a0 Z = true := tm (i := 335) H rfl
theorem tw336 (H : Cx Z a0 gA gK) : (Jvm.Cond.fieldLink "com/example/letters_between_tasks/lettersbetweentasks/service/BackoffNextPinLaw" 30 "com/example/letters_between_tasks/lettersbetweentasks/service/Backoff" "LONGEST" "Ljava/time/Duration;").before a0 Z = true := tm (i := 336) H rfl
theorem pd0 : parseMethodDescriptor "()V" = some ⟨[], none⟩ := by decide +kernel
theorem pd1 : parseMethodDescriptor "(J)Ljava/math/BigDecimal;" = some ⟨[.long], some (.object "java/math/BigDecimal")⟩ := by decide +kernel
theorem pd2 : parseMethodDescriptor "(Ljava/math/BigInteger;JII)V" = some ⟨[(.object "java/math/BigInteger"), .long, .int, .int], none⟩ := by decide +kernel
theorem pd3 : parseMethodDescriptor "(JI)Ljava/math/BigDecimal;" = some ⟨[.long, .int], some (.object "java/math/BigDecimal")⟩ := by decide +kernel
theorem pd4 : parseMethodDescriptor "(JJ)I" = some ⟨[.long, .long], some .int⟩ := by decide +kernel
theorem pd5 : parseMethodDescriptor "(JI)J" = some ⟨[.long, .int], some .long⟩ := by decide +kernel
theorem pd6 : parseMethodDescriptor "(JJ)J" = some ⟨[.long, .long], some .long⟩ := by decide +kernel
theorem pd7 : parseMethodDescriptor "(JJI)Ljava/math/BigDecimal;" = some ⟨[.long, .long, .int], some (.object "java/math/BigDecimal")⟩ := by decide +kernel
theorem pd8 : parseMethodDescriptor "(JIJI)Ljava/math/BigDecimal;" = some ⟨[.long, .int, .long, .int], some (.object "java/math/BigDecimal")⟩ := by decide +kernel
theorem pd9 : parseMethodDescriptor "(Ljava/math/BigDecimal;)Ljava/math/BigDecimal;" = some ⟨[(.object "java/math/BigDecimal")], some (.object "java/math/BigDecimal")⟩ := by decide +kernel
theorem pd10 : parseMethodDescriptor "()Ljava/math/BigDecimal;" = some ⟨[], some (.object "java/math/BigDecimal")⟩ := by decide +kernel
theorem pd11 : parseMethodDescriptor "(J)I" = some ⟨[.long], some .int⟩ := by decide +kernel
theorem pd12 : parseMethodDescriptor "(J)J" = some ⟨[.long], some .long⟩ := by decide +kernel
theorem pd13 : parseMethodDescriptor "(I)Ljava/math/BigDecimal;" = some ⟨[.int], some (.object "java/math/BigDecimal")⟩ := by decide +kernel
theorem pd14 : parseMethodDescriptor "(II)Ljava/math/BigDecimal;" = some ⟨[.int, .int], some (.object "java/math/BigDecimal")⟩ := by decide +kernel
theorem pd15 : parseMethodDescriptor "(J)V" = some ⟨[.long], none⟩ := by decide +kernel
theorem pd16 : parseMethodDescriptor "(J)Ljava/math/BigInteger;" = some ⟨[.long], some (.object "java/math/BigInteger")⟩ := by decide +kernel
theorem pd17 : parseMethodDescriptor "()Ljava/math/BigInteger;" = some ⟨[], some (.object "java/math/BigInteger")⟩ := by decide +kernel
theorem pd18 : parseMethodDescriptor "([I)V" = some ⟨[(.array .int)], none⟩ := by decide +kernel
theorem pd19 : parseMethodDescriptor "(Ljava/math/MutableBigInteger;)I" = some ⟨[(.object "java/math/MutableBigInteger")], some .int⟩ := by decide +kernel
theorem pd20 : parseMethodDescriptor "(Ljava/math/MutableBigInteger;Ljava/math/MutableBigInteger;Z)Ljava/math/MutableBigInteger;" = some ⟨[(.object "java/math/MutableBigInteger"), (.object "java/math/MutableBigInteger"), .boolean], some (.object "java/math/MutableBigInteger")⟩ := by decide +kernel
theorem pd21 : parseMethodDescriptor "(Ljava/math/MutableBigInteger;Ljava/math/MutableBigInteger;)Ljava/math/MutableBigInteger;" = some ⟨[(.object "java/math/MutableBigInteger"), (.object "java/math/MutableBigInteger")], some (.object "java/math/MutableBigInteger")⟩ := by decide +kernel
theorem pd22 : parseMethodDescriptor "()[I" = some ⟨[], some (.array .int)⟩ := by decide +kernel
theorem pd23 : parseMethodDescriptor "([II)V" = some ⟨[(.array .int), .int], none⟩ := by decide +kernel
theorem pd24 : parseMethodDescriptor "(I)Ljava/math/BigInteger;" = some ⟨[.int], some (.object "java/math/BigInteger")⟩ := by decide +kernel
theorem pd25 : parseMethodDescriptor "(Ljava/math/BigInteger;)[Ljava/math/BigInteger;" = some ⟨[(.object "java/math/BigInteger")], some (.array (.object "java/math/BigInteger"))⟩ := by decide +kernel
theorem pd26 : parseMethodDescriptor "(I)I" = some ⟨[.int], some .int⟩ := by decide +kernel
theorem pd27 : parseMethodDescriptor "()I" = some ⟨[], some .int⟩ := by decide +kernel
theorem pd28 : parseMethodDescriptor "()J" = some ⟨[], some .long⟩ := by decide +kernel
theorem pd29 : parseMethodDescriptor "(JI)V" = some ⟨[.long, .int], none⟩ := by decide +kernel
theorem pd30 : parseMethodDescriptor "(JI)Ljava/time/Duration;" = some ⟨[.long, .int], some (.object "java/time/Duration")⟩ := by decide +kernel
theorem pd31 : parseMethodDescriptor "(JJ)Ljava/time/Duration;" = some ⟨[.long, .long], some (.object "java/time/Duration")⟩ := by decide +kernel
theorem pd32 : parseMethodDescriptor "(Ljava/math/BigDecimal;)Ljava/time/Duration;" = some ⟨[(.object "java/math/BigDecimal")], some (.object "java/time/Duration")⟩ := by decide +kernel
theorem pd33 : parseMethodDescriptor "(J)Ljava/time/Duration;" = some ⟨[.long], some (.object "java/time/Duration")⟩ := by decide +kernel
theorem pd34 : parseMethodDescriptor "(Ljava/time/Duration;)I" = some ⟨[(.object "java/time/Duration")], some .int⟩ := by decide +kernel
theorem pd35 : parseMethodDescriptor "()Ljava/time/Duration;" = some ⟨[], some (.object "java/time/Duration")⟩ := by decide +kernel
theorem pd36 : parseMethodDescriptor "(ILjava/math/MutableBigInteger;)I" = some ⟨[.int, (.object "java/math/MutableBigInteger")], some .int⟩ := by decide +kernel
theorem pd37 : parseMethodDescriptor "(II)V" = some ⟨[.int, .int], none⟩ := by decide +kernel
theorem pd38 : parseMethodDescriptor "(II)I" = some ⟨[.int, .int], some .int⟩ := by decide +kernel
theorem pd39 : parseMethodDescriptor "([III)[I" = some ⟨[(.array .int), .int, .int], some (.array .int)⟩ := by decide +kernel
theorem e13_1_0 : decode cp13_1 0 = .ok (.aload_n 0, 1) := by decide +kernel
theorem e13_1_1 : decode cp13_1 1 = .ok (.invokespecial 1, 3) := by decide +kernel
theorem e13_1_4 : decode cp13_1 4 = .ok (.aload_n 0, 1) := by decide +kernel
theorem e13_1_5 : decode cp13_1 5 = .ok (.getstatic 7, 3) := by decide +kernel
theorem e13_1_8 : decode cp13_1 8 = .ok (.putfield 13, 3) := by decide +kernel
theorem e13_1_11 : decode cp13_1 11 = .ok (.return_, 1) := by decide +kernel
theorem e13_2_0 : decode cp13_2 0 = .ok (.aload_n 0, 1) := by decide +kernel
theorem e13_2_1 : decode cp13_2 1 = .ok (.getfield 13, 3) := by decide +kernel
theorem e13_2_4 : decode cp13_2 4 = .ok (.astore_n 1, 1) := by decide +kernel
theorem e13_2_5 : decode cp13_2 5 = .ok (.aload_n 0, 1) := by decide +kernel
theorem e13_2_6 : decode cp13_2 6 = .ok (.getfield 13, 3) := by decide +kernel
theorem e13_2_9 : decode cp13_2 9 = .ok (.ldc2_w 16, 3) := by decide +kernel
theorem d2316_44_0 : decode c2316_44 0 = .ok (.lload_n 1, 1) := by decide +kernel
theorem d2316_44_1 : decode c2316_44 1 = .ok (.lconst 0, 1) := by decide +kernel
theorem d2316_44_2 : decode c2316_44 2 = .ok (.lcmp, 1) := by decide +kernel
theorem d2316_44_3 : decode c2316_44 3 = .ok (.ifCond .ne 7, 3) := by decide +kernel
theorem d2316_44_10 : decode c2316_44 10 = .ok (.lload_n 1, 1) := by decide +kernel
theorem d2316_44_11 : decode c2316_44 11 = .ok (.lconst 1, 1) := by decide +kernel
theorem d2316_44_12 : decode c2316_44 12 = .ok (.lcmp, 1) := by decide +kernel
theorem d2316_44_13 : decode c2316_44 13 = .ok (.ifCond .ne 5, 3) := by decide +kernel
theorem d2316_44_18 : decode c2316_44 18 = .ok (.aload_n 0, 1) := by decide +kernel
theorem d2316_47_0 : decode c2316_47 0 = .ok (.aload_n 0, 1) := by decide +kernel
theorem d2316_47_1 : decode c2316_47 1 = .ok (.getfield 221, 3) := by decide +kernel
theorem d17_21_0 : decode c17_21 0 = .ok (.lload_n 0, 1) := by decide +kernel
theorem d17_21_1 : decode c17_21 1 = .ok (.lconst 0, 1) := by decide +kernel
theorem d17_21_2 : decode c17_21 2 = .ok (.lcmp, 1) := by decide +kernel
theorem d17_21_3 : decode c17_21 3 = .ok (.ifCond .lt 20, 3) := by decide +kernel
theorem d17_21_6 : decode c17_21 6 = .ok (.lload_n 0, 1) := by decide +kernel
theorem d17_21_7 : decode c17_21 7 = .ok (.getstatic 246, 3) := by decide +kernel
theorem d17_21_10 : decode c17_21 10 = .ok (.arraylength, 1) := by decide +kernel
theorem d17_21_11 : decode c17_21 11 = .ok (.i2l, 1) := by decide +kernel
theorem d17_21_12 : decode c17_21 12 = .ok (.lcmp, 1) := by decide +kernel
theorem d17_21_13 : decode c17_21 13 = .ok (.ifCond .ge 10, 3) := by decide +kernel
theorem d17_21_16 : decode c17_21 16 = .ok (.getstatic 246, 3) := by decide +kernel
theorem d17_21_19 : decode c17_21 19 = .ok (.lload_n 0, 1) := by decide +kernel
theorem d17_21_20 : decode c17_21 20 = .ok (.l2i, 1) := by decide +kernel
theorem d17_21_21 : decode c17_21 21 = .ok (.aaload, 1) := by decide +kernel
theorem d17_21_22 : decode c17_21 22 = .ok (.areturn, 1) := by decide +kernel
theorem d2316_47_4 : decode c2316_47 4 = .ok (.invokestatic 313, 3) := by decide +kernel
theorem d2316_47_7 : decode c2316_47 7 = .ok (.aload_n 0, 1) := by decide +kernel
theorem d2316_47_8 : decode c2316_47 8 = .ok (.getfield 224, 3) := by decide +kernel
theorem d2316_47_11 : decode c2316_47 11 = .ok (.i2l, 1) := by decide +kernel
theorem d2316_47_12 : decode c2316_47 12 = .ok (.bipush 9, 2) := by decide +kernel
theorem d17_20_0 : decode c17_20 0 = .ok (.iload_n 2, 1) := by decide +kernel
theorem d17_20_1 : decode c17_20 1 = .ok (.ifCond .ne 8, 3) := by decide +kernel
theorem d17_20_9 : decode c17_20 9 = .ok (.lload_n 0, 1) := by decide +kernel
theorem d17_20_10 : decode c17_20 10 = .ok (.lconst 0, 1) := by decide +kernel
theorem d17_20_11 : decode c17_20 11 = .ok (.lcmp, 1) := by decide +kernel
theorem d17_20_12 : decode c17_20 12 = .ok (.ifCond .ne 8, 3) := by decide +kernel
theorem d17_20_20 : decode c17_20 20 = .ok (.new 3, 3) := by decide +kernel
theorem d17_20_23 : decode c17_20 23 = .ok (.dup, 1) := by decide +kernel
theorem d17_20_24 : decode c17_20 24 = .ok (.lload_n 0, 1) := by decide +kernel
theorem d17_20_25 : decode c17_20 25 = .ok (.ldc2_w 125, 3) := by decide +kernel
theorem d17_20_28 : decode c17_20 28 = .ok (.lcmp, 1) := by decide +kernel
theorem d17_20_29 : decode c17_20 29 = .ok (.ifCond .ne 9, 3) := by decide +kernel
theorem d17_20_38 : decode c17_20 38 = .ok (.aconst_null, 1) := by decide +kernel
theorem d17_20_39 : decode c17_20 39 = .ok (.lload_n 0, 1) := by decide +kernel
theorem d17_20_40 : decode c17_20 40 = .ok (.iload_n 2, 1) := by decide +kernel
theorem d17_20_41 : decode c17_20 41 = .ok (.iconst 0, 1) := by decide +kernel
theorem d17_1_0 : decode c17_1 0 = .ok (.aload_n 0, 1) := by decide +kernel
theorem d18_1_0 : decode c18_1 0 = .ok (.aload_n 0, 1) := by decide +kernel
theorem d18_1_1 : decode c18_1 1 = .ok (.invokespecial 1, 3) := by decide +kernel
theorem d18_1_4 : decode c18_1 4 = .ok (.return_, 1) := by decide +kernel
theorem d17_1_1 : decode c17_1 1 = .ok (.invokespecial 11, 3) := by decide +kernel
theorem d17_1_4 : decode c17_1 4 = .ok (.aload_n 0, 1) := by decide +kernel
theorem d17_1_5 : decode c17_1 5 = .ok (.iload 4, 2) := by decide +kernel
theorem d17_1_7 : decode c17_1 7 = .ok (.putfield 17, 3) := by decide +kernel
theorem d17_1_10 : decode c17_1 10 = .ok (.aload_n 0, 1) := by decide +kernel
theorem d17_1_11 : decode c17_1 11 = .ok (.iload 5, 2) := by decide +kernel
theorem d17_1_13 : decode c17_1 13 = .ok (.putfield 21, 3) := by decide +kernel
theorem d17_1_16 : decode c17_1 16 = .ok (.aload_n 0, 1) := by decide +kernel
theorem d17_1_17 : decode c17_1 17 = .ok (.lload_n 2, 1) := by decide +kernel
theorem d17_1_18 : decode c17_1 18 = .ok (.putfield 24, 3) := by decide +kernel
theorem d17_1_21 : decode c17_1 21 = .ok (.aload_n 0, 1) := by decide +kernel
theorem d17_1_22 : decode c17_1 22 = .ok (.aload_n 1, 1) := by decide +kernel
theorem d17_1_23 : decode c17_1 23 = .ok (.putfield 28, 3) := by decide +kernel
theorem d17_1_26 : decode c17_1 26 = .ok (.return_, 1) := by decide +kernel
theorem d17_20_42 : decode c17_20 42 = .ok (.invokespecial 243, 3) := by decide +kernel
theorem d17_20_45 : decode c17_20 45 = .ok (.areturn, 1) := by decide +kernel
theorem d2316_47_14 : decode c2316_47 14 = .ok (.invokestatic 347, 3) := by decide +kernel
theorem d17_26_0 : decode c17_26 0 = .ok (.aload_n 0, 1) := by decide +kernel
theorem d17_26_1 : decode c17_26 1 = .ok (.getfield 24, 3) := by decide +kernel
theorem d17_26_4 : decode c17_26 4 = .ok (.ldc2_w 125, 3) := by decide +kernel
theorem d17_26_7 : decode c17_26 7 = .ok (.lcmp, 1) := by decide +kernel
theorem d17_26_8 : decode c17_26 8 = .ok (.ifCond .eq 54, 3) := by decide +kernel
theorem d17_26_11 : decode c17_26 11 = .ok (.aload_n 1, 1) := by decide +kernel
theorem d17_26_12 : decode c17_26 12 = .ok (.getfield 24, 3) := by decide +kernel
theorem d17_26_15 : decode c17_26 15 = .ok (.ldc2_w 125, 3) := by decide +kernel
theorem d17_26_18 : decode c17_26 18 = .ok (.lcmp, 1) := by decide +kernel
theorem d17_26_19 : decode c17_26 19 = .ok (.ifCond .eq 23, 3) := by decide +kernel
theorem d17_26_22 : decode c17_26 22 = .ok (.aload_n 0, 1) := by decide +kernel
theorem d17_26_23 : decode c17_26 23 = .ok (.getfield 24, 3) := by decide +kernel
theorem d17_26_26 : decode c17_26 26 = .ok (.aload_n 0, 1) := by decide +kernel
theorem d17_26_27 : decode c17_26 27 = .ok (.getfield 17, 3) := by decide +kernel
theorem d17_26_30 : decode c17_26 30 = .ok (.aload_n 1, 1) := by decide +kernel
theorem d17_26_31 : decode c17_26 31 = .ok (.getfield 24, 3) := by decide +kernel
theorem d17_26_34 : decode c17_26 34 = .ok (.aload_n 1, 1) := by decide +kernel
theorem d17_26_35 : decode c17_26 35 = .ok (.getfield 17, 3) := by decide +kernel
theorem d17_134_0 : decode c17_134 0 = .ok (.iload_n 2, 1) := by decide +kernel
theorem d17_134_1 : decode c17_134 1 = .ok (.i2l, 1) := by decide +kernel
theorem d17_134_2 : decode c17_134 2 = .ok (.iload 5, 2) := by decide +kernel
theorem d17_134_4 : decode c17_134 4 = .ok (.i2l, 1) := by decide +kernel
theorem d17_134_5 : decode c17_134 5 = .ok (.lsub, 1) := by decide +kernel
theorem d17_134_6 : decode c17_134 6 = .ok (.lstore 6, 2) := by decide +kernel
theorem d17_134_8 : decode c17_134 8 = .ok (.lload 6, 2) := by decide +kernel
theorem d17_134_10 : decode c17_134 10 = .ok (.lconst 0, 1) := by decide +kernel
theorem d17_134_11 : decode c17_134 11 = .ok (.lcmp, 1) := by decide +kernel
theorem d17_134_12 : decode c17_134 12 = .ok (.ifCond .ne 10, 3) := by decide +kernel
theorem d17_134_22 : decode c17_134 22 = .ok (.lload 6, 2) := by decide +kernel
theorem d17_134_24 : decode c17_134 24 = .ok (.lconst 0, 1) := by decide +kernel
theorem d17_134_25 : decode c17_134 25 = .ok (.lcmp, 1) := by decide +kernel
theorem d17_134_26 : decode c17_134 26 = .ok (.ifCond .ge 85, 3) := by decide +kernel
theorem d17_134_29 : decode c17_134 29 = .ok (.lload_n 0, 1) := by decide +kernel
theorem d17_134_30 : decode c17_134 30 = .ok (.lload 6, 2) := by decide +kernel
theorem d17_134_32 : decode c17_134 32 = .ok (.lneg, 1) := by decide +kernel
theorem d17_113_0 : decode c17_113 0 = .ok (.lload_n 2, 1) := by decide +kernel
theorem d17_113_1 : decode c17_113 1 = .ok (.l2i, 1) := by decide +kernel
theorem d17_113_2 : decode c17_113 2 = .ok (.istore 4, 2) := by decide +kernel
theorem d17_113_4 : decode c17_113 4 = .ok (.iload 4, 2) := by decide +kernel
theorem d17_113_6 : decode c17_113 6 = .ok (.i2l, 1) := by decide +kernel
theorem d17_113_7 : decode c17_113 7 = .ok (.lload_n 2, 1) := by decide +kernel
theorem d17_113_8 : decode c17_113 8 = .ok (.lcmp, 1) := by decide +kernel
theorem d17_113_9 : decode c17_113 9 = .ok (.ifCond .eq 50, 3) := by decide +kernel
theorem d17_113_59 : decode c17_113 59 = .ok (.iload 4, 2) := by decide +kernel
theorem d17_113_61 : decode c17_113 61 = .ok (.ireturn, 1) := by decide +kernel
theorem d17_134_33 : decode c17_134 33 = .ok (.invokestatic 994, 3) := by decide +kernel
theorem d17_134_36 : decode c17_134 36 = .ok (.istore 8, 2) := by decide +kernel
theorem d17_134_38 : decode c17_134 38 = .ok (.lload_n 0, 1) := by decide +kernel
theorem d17_134_39 : decode c17_134 39 = .ok (.iload 8, 2) := by decide +kernel
theorem d17_97_0 : decode c17_97 0 = .ok (.lload_n 0, 1) := by decide +kernel
theorem d17_97_1 : decode c17_97 1 = .ok (.lconst 0, 1) := by decide +kernel
theorem d17_97_2 : decode c17_97 2 = .ok (.lcmp, 1) := by decide +kernel
theorem d17_97_3 : decode c17_97 3 = .ok (.ifCond .eq 7, 3) := by decide +kernel
theorem d17_97_10 : decode c17_97 10 = .ok (.lload_n 0, 1) := by decide +kernel
theorem d17_97_11 : decode c17_97 11 = .ok (.lreturn, 1) := by decide +kernel
theorem d17_134_41 : decode c17_134 41 = .ok (.invokestatic 599, 3) := by decide +kernel
theorem d17_134_44 : decode c17_134 44 = .ok (.lstore 9, 2) := by decide +kernel
theorem d17_134_46 : decode c17_134 46 = .ok (.lload 9, 2) := by decide +kernel
theorem d17_134_48 : decode c17_134 48 = .ok (.ldc2_w 125, 3) := by decide +kernel
theorem d17_134_51 : decode c17_134 51 = .ok (.lcmp, 1) := by decide +kernel
theorem d17_134_52 : decode c17_134 52 = .ok (.ifCond .eq 12, 3) := by decide +kernel
theorem d17_134_55 : decode c17_134 55 = .ok (.lload 9, 2) := by decide +kernel
theorem d17_134_57 : decode c17_134 57 = .ok (.lload_n 3, 1) := by decide +kernel
theorem d17_134_58 : decode c17_134 58 = .ok (.iload 5, 2) := by decide +kernel
theorem d17_133_0 : decode c17_133 0 = .ok (.lload_n 0, 1) := by decide +kernel
theorem d17_133_1 : decode c17_133 1 = .ok (.lload_n 2, 1) := by decide +kernel
theorem d17_132_0 : decode c17_132 0 = .ok (.lload_n 0, 1) := by decide +kernel
theorem d17_132_1 : decode c17_132 1 = .ok (.lload_n 2, 1) := by decide +kernel
theorem d17_132_2 : decode c17_132 2 = .ok (.ladd, 1) := by decide +kernel
theorem d17_132_3 : decode c17_132 3 = .ok (.lstore 4, 2) := by decide +kernel
theorem d17_132_5 : decode c17_132 5 = .ok (.lload 4, 2) := by decide +kernel
theorem d17_132_7 : decode c17_132 7 = .ok (.lload_n 0, 1) := by decide +kernel
theorem d17_132_8 : decode c17_132 8 = .ok (.lxor, 1) := by decide +kernel
theorem d17_132_9 : decode c17_132 9 = .ok (.lload 4, 2) := by decide +kernel
theorem d17_132_11 : decode c17_132 11 = .ok (.lload_n 2, 1) := by decide +kernel
theorem d17_132_12 : decode c17_132 12 = .ok (.lxor, 1) := by decide +kernel
theorem d17_132_13 : decode c17_132 13 = .ok (.land, 1) := by decide +kernel
theorem d17_132_14 : decode c17_132 14 = .ok (.lconst 0, 1) := by decide +kernel
theorem d17_132_15 : decode c17_132 15 = .ok (.lcmp, 1) := by decide +kernel
theorem d17_132_16 : decode c17_132 16 = .ok (.ifCond .lt 6, 3) := by decide +kernel
theorem d17_132_19 : decode c17_132 19 = .ok (.lload 4, 2) := by decide +kernel
theorem d17_132_21 : decode c17_132 21 = .ok (.lreturn, 1) := by decide +kernel
theorem d17_133_2 : decode c17_133 2 = .ok (.invokestatic 996, 3) := by decide +kernel
theorem d17_133_5 : decode c17_133 5 = .ok (.lstore 5, 2) := by decide +kernel
theorem d17_133_7 : decode c17_133 7 = .ok (.lload 5, 2) := by decide +kernel
theorem d17_133_9 : decode c17_133 9 = .ok (.ldc2_w 125, 3) := by decide +kernel
theorem d17_133_12 : decode c17_133 12 = .ok (.lcmp, 1) := by decide +kernel
theorem d17_133_13 : decode c17_133 13 = .ok (.ifCond .eq 11, 3) := by decide +kernel
theorem d17_133_16 : decode c17_133 16 = .ok (.lload 5, 2) := by decide +kernel
theorem d17_133_18 : decode c17_133 18 = .ok (.iload 4, 2) := by decide +kernel
theorem d17_133_20 : decode c17_133 20 = .ok (.invokestatic 328, 3) := by decide +kernel
theorem d17_133_23 : decode c17_133 23 = .ok (.areturn, 1) := by decide +kernel
theorem d17_134_60 : decode c17_134 60 = .ok (.invokestatic 1000, 3) := by decide +kernel
theorem d17_134_63 : decode c17_134 63 = .ok (.areturn, 1) := by decide +kernel
theorem d17_26_38 : decode c17_26 38 = .ok (.invokestatic 257, 3) := by decide +kernel
theorem d17_26_41 : decode c17_26 41 = .ok (.areturn, 1) := by decide +kernel
theorem d2316_47_17 : decode c2316_47 17 = .ok (.invokevirtual 350, 3) := by decide +kernel
theorem d2316_47_20 : decode c2316_47 20 = .ok (.areturn, 1) := by decide +kernel
theorem d2316_44_19 : decode c2316_44 19 = .ok (.invokevirtual 309, 3) := by decide +kernel
theorem d2316_44_22 : decode c2316_44 22 = .ok (.lload_n 1, 1) := by decide +kernel
theorem d2316_44_23 : decode c2316_44 23 = .ok (.invokestatic 313, 3) := by decide +kernel
theorem d17_31_0 : decode c17_31 0 = .ok (.aload_n 0, 1) := by decide +kernel
theorem d17_31_1 : decode c17_31 1 = .ok (.aload_n 0, 1) := by decide +kernel
theorem d17_31_2 : decode c17_31 2 = .ok (.getfield 17, 3) := by decide +kernel
theorem d17_31_5 : decode c17_31 5 = .ok (.i2l, 1) := by decide +kernel
theorem d17_31_6 : decode c17_31 6 = .ok (.aload_n 1, 1) := by decide +kernel
theorem d17_31_7 : decode c17_31 7 = .ok (.getfield 17, 3) := by decide +kernel
theorem d17_31_10 : decode c17_31 10 = .ok (.i2l, 1) := by decide +kernel
theorem d17_31_11 : decode c17_31 11 = .ok (.ladd, 1) := by decide +kernel
theorem d17_106_0 : decode c17_106 0 = .ok (.lload_n 1, 1) := by decide +kernel
theorem d17_106_1 : decode c17_106 1 = .ok (.l2i, 1) := by decide +kernel
theorem d17_106_2 : decode c17_106 2 = .ok (.istore_n 3, 1) := by decide +kernel
theorem d17_106_3 : decode c17_106 3 = .ok (.iload_n 3, 1) := by decide +kernel
theorem d17_106_4 : decode c17_106 4 = .ok (.i2l, 1) := by decide +kernel
theorem d17_106_5 : decode c17_106 5 = .ok (.lload_n 1, 1) := by decide +kernel
theorem d17_106_6 : decode c17_106 6 = .ok (.lcmp, 1) := by decide +kernel
theorem d17_106_7 : decode c17_106 7 = .ok (.ifCond .eq 69, 3) := by decide +kernel
theorem d17_106_76 : decode c17_106 76 = .ok (.iload_n 3, 1) := by decide +kernel
theorem d17_106_77 : decode c17_106 77 = .ok (.ireturn, 1) := by decide +kernel
theorem d17_31_12 : decode c17_31 12 = .ok (.invokevirtual 325, 3) := by decide +kernel
theorem d17_31_15 : decode c17_31 15 = .ok (.istore_n 2, 1) := by decide +kernel
theorem d17_31_16 : decode c17_31 16 = .ok (.aload_n 0, 1) := by decide +kernel
theorem d17_31_17 : decode c17_31 17 = .ok (.getfield 24, 3) := by decide +kernel
theorem d17_31_20 : decode c17_31 20 = .ok (.ldc2_w 125, 3) := by decide +kernel
theorem d17_31_23 : decode c17_31 23 = .ok (.lcmp, 1) := by decide +kernel
theorem d17_31_24 : decode c17_31 24 = .ok (.ifCond .eq 40, 3) := by decide +kernel
theorem d17_31_27 : decode c17_31 27 = .ok (.aload_n 1, 1) := by decide +kernel
theorem d17_31_28 : decode c17_31 28 = .ok (.getfield 24, 3) := by decide +kernel
theorem d17_31_31 : decode c17_31 31 = .ok (.ldc2_w 125, 3) := by decide +kernel
theorem d17_31_34 : decode c17_31 34 = .ok (.lcmp, 1) := by decide +kernel
theorem d17_31_35 : decode c17_31 35 = .ok (.ifCond .eq 16, 3) := by decide +kernel
theorem d17_31_38 : decode c17_31 38 = .ok (.aload_n 0, 1) := by decide +kernel
theorem d17_31_39 : decode c17_31 39 = .ok (.getfield 24, 3) := by decide +kernel
theorem d17_31_42 : decode c17_31 42 = .ok (.aload_n 1, 1) := by decide +kernel
theorem d17_31_43 : decode c17_31 43 = .ok (.getfield 24, 3) := by decide +kernel
theorem d17_31_46 : decode c17_31 46 = .ok (.iload_n 2, 1) := by decide +kernel
theorem d17_157_0 : decode c17_157 0 = .ok (.lload_n 0, 1) := by decide +kernel
theorem d17_157_1 : decode c17_157 1 = .ok (.lload_n 2, 1) := by decide +kernel
theorem d17_156_0 : decode c17_156 0 = .ok (.lload_n 0, 1) := by decide +kernel
theorem d17_156_1 : decode c17_156 1 = .ok (.lload_n 2, 1) := by decide +kernel
theorem d17_156_2 : decode c17_156 2 = .ok (.lmul, 1) := by decide +kernel
theorem d17_156_3 : decode c17_156 3 = .ok (.lstore 4, 2) := by decide +kernel
theorem d17_156_5 : decode c17_156 5 = .ok (.lload_n 0, 1) := by decide +kernel
theorem d29_61_0 : decode c29_61 0 = .ok (.lload_n 0, 1) := by decide +kernel
theorem d29_61_1 : decode c29_61 1 = .ok (.lconst 0, 1) := by decide +kernel
theorem d29_61_2 : decode c29_61 2 = .ok (.lcmp, 1) := by decide +kernel
theorem d29_61_3 : decode c29_61 3 = .ok (.ifCond .ge 8, 3) := by decide +kernel
theorem d29_61_11 : decode c29_61 11 = .ok (.lload_n 0, 1) := by decide +kernel
theorem d29_61_12 : decode c29_61 12 = .ok (.lreturn, 1) := by decide +kernel
theorem d17_156_6 : decode c17_156 6 = .ok (.invokestatic 440, 3) := by decide +kernel
theorem d17_156_9 : decode c17_156 9 = .ok (.lstore 6, 2) := by decide +kernel
theorem d17_156_11 : decode c17_156 11 = .ok (.lload_n 2, 1) := by decide +kernel
theorem d17_156_12 : decode c17_156 12 = .ok (.invokestatic 440, 3) := by decide +kernel
theorem d17_156_15 : decode c17_156 15 = .ok (.lstore 8, 2) := by decide +kernel
theorem d17_156_17 : decode c17_156 17 = .ok (.lload 6, 2) := by decide +kernel
theorem d17_156_19 : decode c17_156 19 = .ok (.lload 8, 2) := by decide +kernel
theorem d17_156_21 : decode c17_156 21 = .ok (.lor, 1) := by decide +kernel
theorem d17_156_22 : decode c17_156 22 = .ok (.bipush 31, 2) := by decide +kernel
theorem d17_156_24 : decode c17_156 24 = .ok (.lushr, 1) := by decide +kernel
theorem d17_156_25 : decode c17_156 25 = .ok (.lconst 0, 1) := by decide +kernel
theorem d17_156_26 : decode c17_156 26 = .ok (.lcmp, 1) := by decide +kernel
theorem d17_156_27 : decode c17_156 27 = .ok (.ifCond .eq 18, 3) := by decide +kernel
theorem d17_156_45 : decode c17_156 45 = .ok (.lload 4, 2) := by decide +kernel
theorem d17_156_47 : decode c17_156 47 = .ok (.lreturn, 1) := by decide +kernel
theorem d17_157_2 : decode c17_157 2 = .ok (.invokestatic 1055, 3) := by decide +kernel
theorem d17_157_5 : decode c17_157 5 = .ok (.lstore 5, 2) := by decide +kernel
theorem d17_157_7 : decode c17_157 7 = .ok (.lload 5, 2) := by decide +kernel
theorem d17_157_9 : decode c17_157 9 = .ok (.ldc2_w 125, 3) := by decide +kernel
theorem d17_157_12 : decode c17_157 12 = .ok (.lcmp, 1) := by decide +kernel
theorem d17_157_13 : decode c17_157 13 = .ok (.ifCond .eq 11, 3) := by decide +kernel
theorem d17_157_16 : decode c17_157 16 = .ok (.lload 5, 2) := by decide +kernel
theorem d17_157_18 : decode c17_157 18 = .ok (.iload 4, 2) := by decide +kernel
theorem d17_157_20 : decode c17_157 20 = .ok (.invokestatic 328, 3) := by decide +kernel
theorem d17_157_23 : decode c17_157 23 = .ok (.areturn, 1) := by decide +kernel
theorem d17_31_47 : decode c17_31 47 = .ok (.invokestatic 342, 3) := by decide +kernel
theorem d17_31_50 : decode c17_31 50 = .ok (.areturn, 1) := by decide +kernel
theorem d2316_44_26 : decode c2316_44 26 = .ok (.invokevirtual 319, 3) := by decide +kernel
theorem d2316_48_0 : decode c2316_48 0 = .ok (.aload_n 0, 1) := by decide +kernel
theorem d2316_48_1 : decode c2316_48 1 = .ok (.bipush 9, 2) := by decide +kernel
theorem d17_67_0 : decode c17_67 0 = .ok (.iload_n 1, 1) := by decide +kernel
theorem d17_67_1 : decode c17_67 1 = .ok (.ifCond .ne 12, 3) := by decide +kernel
theorem d17_67_13 : decode c17_67 13 = .ok (.aload_n 0, 1) := by decide +kernel
theorem d17_67_14 : decode c17_67 14 = .ok (.aload_n 0, 1) := by decide +kernel
theorem d17_67_15 : decode c17_67 15 = .ok (.getfield 17, 3) := by decide +kernel
theorem d17_67_18 : decode c17_67 18 = .ok (.i2l, 1) := by decide +kernel
theorem d17_67_19 : decode c17_67 19 = .ok (.iload_n 1, 1) := by decide +kernel
theorem d17_67_20 : decode c17_67 20 = .ok (.i2l, 1) := by decide +kernel
theorem d17_67_21 : decode c17_67 21 = .ok (.lsub, 1) := by decide +kernel
theorem d17_67_22 : decode c17_67 22 = .ok (.invokevirtual 325, 3) := by decide +kernel
theorem d17_67_25 : decode c17_67 25 = .ok (.istore_n 2, 1) := by decide +kernel
theorem d17_67_26 : decode c17_67 26 = .ok (.new 3, 3) := by decide +kernel
theorem d17_67_29 : decode c17_67 29 = .ok (.dup, 1) := by decide +kernel
theorem d17_67_30 : decode c17_67 30 = .ok (.aload_n 0, 1) := by decide +kernel
theorem d17_67_31 : decode c17_67 31 = .ok (.getfield 28, 3) := by decide +kernel
theorem d17_67_34 : decode c17_67 34 = .ok (.aload_n 0, 1) := by decide +kernel
theorem d17_67_35 : decode c17_67 35 = .ok (.getfield 24, 3) := by decide +kernel
theorem d17_67_38 : decode c17_67 38 = .ok (.iload_n 2, 1) := by decide +kernel
theorem d17_67_39 : decode c17_67 39 = .ok (.iconst 0, 1) := by decide +kernel
theorem d17_67_40 : decode c17_67 40 = .ok (.invokespecial 243, 3) := by decide +kernel
theorem d17_67_43 : decode c17_67 43 = .ok (.astore_n 3, 1) := by decide +kernel
theorem d17_67_44 : decode c17_67 44 = .ok (.aload_n 3, 1) := by decide +kernel
theorem d17_67_45 : decode c17_67 45 = .ok (.getfield 17, 3) := by decide +kernel
theorem d17_67_48 : decode c17_67 48 = .ok (.ifCond .ge 13, 3) := by decide +kernel
theorem d17_67_61 : decode c17_67 61 = .ok (.aload_n 3, 1) := by decide +kernel
theorem d17_67_62 : decode c17_67 62 = .ok (.areturn, 1) := by decide +kernel
theorem d2316_48_3 : decode c2316_48 3 = .ok (.invokevirtual 353, 3) := by decide +kernel
theorem d17_81_0 : decode c17_81 0 = .ok (.aload_n 0, 1) := by decide +kernel
theorem d17_81_1 : decode c17_81 1 = .ok (.iconst 0, 1) := by decide +kernel
theorem d17_81_2 : decode c17_81 2 = .ok (.bipush 7, 2) := by decide +kernel
theorem d17_64_0 : decode c17_64 0 = .ok (.iload_n 2, 1) := by decide +kernel
theorem d17_64_1 : decode c17_64 1 = .ok (.ifCond .lt 9, 3) := by decide +kernel
theorem d17_64_4 : decode c17_64 4 = .ok (.iload_n 2, 1) := by decide +kernel
theorem d17_64_5 : decode c17_64 5 = .ok (.bipush 7, 2) := by decide +kernel
theorem d17_64_7 : decode c17_64 7 = .ok (.if_icmp .le 14, 3) := by decide +kernel
theorem d17_64_21 : decode c17_64 21 = .ok (.aload_n 0, 1) := by decide +kernel
theorem d17_64_22 : decode c17_64 22 = .ok (.getfield 17, 3) := by decide +kernel
theorem d17_64_25 : decode c17_64 25 = .ok (.istore_n 3, 1) := by decide +kernel
theorem d17_64_26 : decode c17_64 26 = .ok (.iload_n 1, 1) := by decide +kernel
theorem d17_64_27 : decode c17_64 27 = .ok (.iload_n 3, 1) := by decide +kernel
theorem d17_64_28 : decode c17_64 28 = .ok (.if_icmp .ne 5, 3) := by decide +kernel
theorem d17_64_31 : decode c17_64 31 = .ok (.aload_n 0, 1) := by decide +kernel
theorem d17_64_32 : decode c17_64 32 = .ok (.areturn, 1) := by decide +kernel
theorem d17_81_4 : decode c17_81 4 = .ok (.invokevirtual 419, 3) := by decide +kernel
theorem d17_99_0 : decode c17_99 0 = .ok (.aload_n 0, 1) := by decide +kernel
theorem d17_99_1 : decode c17_99 1 = .ok (.getfield 28, 3) := by decide +kernel
theorem d17_99_4 : decode c17_99 4 = .ok (.ifnonnull 11, 3) := by decide +kernel
theorem d17_99_7 : decode c17_99 7 = .ok (.aload_n 0, 1) := by decide +kernel
theorem d17_99_8 : decode c17_99 8 = .ok (.getfield 24, 3) := by decide +kernel
theorem d2097_29_0 : decode c2097_29 0 = .ok (.lload_n 0, 1) := by decide +kernel
theorem d2097_29_1 : decode c2097_29 1 = .ok (.lconst 0, 1) := by decide +kernel
theorem d2097_29_2 : decode c2097_29 2 = .ok (.lcmp, 1) := by decide +kernel
theorem d2097_29_3 : decode c2097_29 3 = .ok (.ifCond .ne 7, 3) := by decide +kernel
theorem d2097_29_10 : decode c2097_29 10 = .ok (.lload_n 0, 1) := by decide +kernel
theorem d2097_29_11 : decode c2097_29 11 = .ok (.lconst 0, 1) := by decide +kernel
theorem d2097_29_12 : decode c2097_29 12 = .ok (.lcmp, 1) := by decide +kernel
theorem d2097_29_13 : decode c2097_29 13 = .ok (.ifCond .le 18, 3) := by decide +kernel
theorem d2097_29_16 : decode c2097_29 16 = .ok (.lload_n 0, 1) := by decide +kernel
theorem d2097_29_17 : decode c2097_29 17 = .ok (.ldc2_w 345, 3) := by decide +kernel
theorem d2097_29_20 : decode c2097_29 20 = .ok (.lcmp, 1) := by decide +kernel
theorem d2097_29_21 : decode c2097_29 21 = .ok (.ifCond .gt 10, 3) := by decide +kernel
theorem d2097_29_31 : decode c2097_29 31 = .ok (.lload_n 0, 1) := by decide +kernel
theorem d2097_29_32 : decode c2097_29 32 = .ok (.lconst 0, 1) := by decide +kernel
theorem d2097_29_33 : decode c2097_29 33 = .ok (.lcmp, 1) := by decide +kernel
theorem d2097_29_34 : decode c2097_29 34 = .ok (.ifCond .ge 19, 3) := by decide +kernel
theorem d2097_29_53 : decode c2097_29 53 = .ok (.new 23, 3) := by decide +kernel
theorem d2097_29_56 : decode c2097_29 56 = .ok (.dup, 1) := by decide +kernel
theorem d2097_29_57 : decode c2097_29 57 = .ok (.lload_n 0, 1) := by decide +kernel
theorem d2097_30_0 : decode c2097_30 0 = .ok (.aload_n 0, 1) := by decide +kernel
theorem d2097_30_1 : decode c2097_30 1 = .ok (.invokespecial 3, 3) := by decide +kernel
theorem d2097_30_4 : decode c2097_30 4 = .ok (.lload_n 1, 1) := by decide +kernel
theorem d2097_30_5 : decode c2097_30 5 = .ok (.lconst 0, 1) := by decide +kernel
theorem d2097_30_6 : decode c2097_30 6 = .ok (.lcmp, 1) := by decide +kernel
theorem d2097_30_7 : decode c2097_30 7 = .ok (.ifCond .ge 14, 3) := by decide +kernel
theorem d2097_30_21 : decode c2097_30 21 = .ok (.aload_n 0, 1) := by decide +kernel
theorem d2097_30_22 : decode c2097_30 22 = .ok (.iconst 1, 1) := by decide +kernel
theorem d2097_30_23 : decode c2097_30 23 = .ok (.putfield 32, 3) := by decide +kernel
theorem d2097_30_26 : decode c2097_30 26 = .ok (.lload_n 1, 1) := by decide +kernel
theorem d2097_30_27 : decode c2097_30 27 = .ok (.bipush 32, 2) := by decide +kernel
theorem d2097_30_29 : decode c2097_30 29 = .ok (.lushr, 1) := by decide +kernel
theorem d2097_30_30 : decode c2097_30 30 = .ok (.l2i, 1) := by decide +kernel
theorem d2097_30_31 : decode c2097_30 31 = .ok (.istore_n 3, 1) := by decide +kernel
theorem d2097_30_32 : decode c2097_30 32 = .ok (.iload_n 3, 1) := by decide +kernel
theorem d2097_30_33 : decode c2097_30 33 = .ok (.ifCond .ne 21, 3) := by decide +kernel
theorem d2097_30_36 : decode c2097_30 36 = .ok (.aload_n 0, 1) := by decide +kernel
theorem d2097_30_37 : decode c2097_30 37 = .ok (.iconst 1, 1) := by decide +kernel
theorem d2097_30_38 : decode c2097_30 38 = .ok (.newarray .int, 2) := by decide +kernel
theorem d2097_30_40 : decode c2097_30 40 = .ok (.putfield 28, 3) := by decide +kernel
theorem d2097_30_43 : decode c2097_30 43 = .ok (.aload_n 0, 1) := by decide +kernel
theorem d2097_30_44 : decode c2097_30 44 = .ok (.getfield 28, 3) := by decide +kernel
theorem d2097_30_47 : decode c2097_30 47 = .ok (.iconst 0, 1) := by decide +kernel
theorem d2097_30_48 : decode c2097_30 48 = .ok (.lload_n 1, 1) := by decide +kernel
theorem d2097_30_49 : decode c2097_30 49 = .ok (.l2i, 1) := by decide +kernel
theorem d2097_30_50 : decode c2097_30 50 = .ok (.iastore, 1) := by decide +kernel
theorem d2097_30_51 : decode c2097_30 51 = .ok (.goto 25, 3) := by decide +kernel
theorem d2097_30_76 : decode c2097_30 76 = .ok (.return_, 1) := by decide +kernel
theorem d2097_29_58 : decode c2097_29 58 = .ok (.invokespecial 356, 3) := by decide +kernel
theorem d2097_29_61 : decode c2097_29 61 = .ok (.areturn, 1) := by decide +kernel
theorem d17_99_11 : decode c17_99 11 = .ok (.invokestatic 193, 3) := by decide +kernel
theorem d17_99_14 : decode c17_99 14 = .ok (.areturn, 1) := by decide +kernel
theorem d17_81_7 : decode c17_81 7 = .ok (.invokevirtual 302, 3) := by decide +kernel
theorem d17_81_10 : decode c17_81 10 = .ok (.areturn, 1) := by decide +kernel
theorem d2316_48_6 : decode c2316_48 6 = .ok (.invokevirtual 357, 3) := by decide +kernel
theorem d2316_48_9 : decode c2316_48 9 = .ok (.astore_n 1, 1) := by decide +kernel
theorem d2316_48_10 : decode c2316_48 10 = .ok (.aload_n 1, 1) := by decide +kernel
theorem d2316_48_11 : decode c2316_48 11 = .ok (.getstatic 361, 3) := by decide +kernel
theorem d2097_63_0 : decode c2097_63 0 = .ok (.aload_n 1, 1) := by decide +kernel
theorem d2097_63_1 : decode c2097_63 1 = .ok (.getfield 28, 3) := by decide +kernel
theorem d2097_63_4 : decode c2097_63 4 = .ok (.arraylength, 1) := by decide +kernel
theorem d2097_63_5 : decode c2097_63 5 = .ok (.bipush 80, 2) := by decide +kernel
theorem d2097_63_7 : decode c2097_63 7 = .ok (.if_icmp .lt 19, 3) := by decide +kernel
theorem d2097_63_26 : decode c2097_63 26 = .ok (.aload_n 0, 1) := by decide +kernel
theorem d2097_63_27 : decode c2097_63 27 = .ok (.aload_n 1, 1) := by decide +kernel
theorem d2097_64_0 : decode c2097_64 0 = .ok (.iconst 2, 1) := by decide +kernel
theorem d2097_64_1 : decode c2097_64 1 = .ok (.anewarray 23, 3) := by decide +kernel
theorem d2097_64_4 : decode c2097_64 4 = .ok (.astore_n 2, 1) := by decide +kernel
theorem d2097_64_5 : decode c2097_64 5 = .ok (.new 541, 3) := by decide +kernel
theorem d2097_64_8 : decode c2097_64 8 = .ok (.dup, 1) := by decide +kernel
theorem d2101_1_0 : decode c2101_1 0 = .ok (.aload_n 0, 1) := by decide +kernel
theorem d2101_1_1 : decode c2101_1 1 = .ok (.invokespecial 5, 3) := by decide +kernel
theorem d2101_1_4 : decode c2101_1 4 = .ok (.aload_n 0, 1) := by decide +kernel
theorem d2101_1_5 : decode c2101_1 5 = .ok (.iconst 0, 1) := by decide +kernel
theorem d2101_1_6 : decode c2101_1 6 = .ok (.putfield 11, 3) := by decide +kernel
theorem d2101_1_9 : decode c2101_1 9 = .ok (.aload_n 0, 1) := by decide +kernel
theorem d2101_1_10 : decode c2101_1 10 = .ok (.iconst 1, 1) := by decide +kernel
theorem d2101_1_11 : decode c2101_1 11 = .ok (.newarray .int, 2) := by decide +kernel
theorem d2101_1_13 : decode c2101_1 13 = .ok (.putfield 17, 3) := by decide +kernel
theorem d2101_1_16 : decode c2101_1 16 = .ok (.aload_n 0, 1) := by decide +kernel
theorem d2101_1_17 : decode c2101_1 17 = .ok (.iconst 0, 1) := by decide +kernel
theorem d2101_1_18 : decode c2101_1 18 = .ok (.putfield 21, 3) := by decide +kernel
theorem d2101_1_21 : decode c2101_1 21 = .ok (.return_, 1) := by decide +kernel
theorem d2097_64_9 : decode c2097_64 9 = .ok (.invokespecial 543, 3) := by decide +kernel
theorem d2097_64_12 : decode c2097_64 12 = .ok (.astore_n 3, 1) := by decide +kernel
theorem d2097_64_13 : decode c2097_64 13 = .ok (.new 541, 3) := by decide +kernel
theorem d2097_64_16 : decode c2097_64 16 = .ok (.dup, 1) := by decide +kernel
theorem d2097_64_17 : decode c2097_64 17 = .ok (.aload_n 0, 1) := by decide +kernel
theorem d2097_64_18 : decode c2097_64 18 = .ok (.getfield 28, 3) := by decide +kernel
theorem d2101_3_0 : decode c2101_3 0 = .ok (.aload_n 0, 1) := by decide +kernel
theorem d2101_3_1 : decode c2101_3 1 = .ok (.invokespecial 5, 3) := by decide +kernel
theorem d2101_3_4 : decode c2101_3 4 = .ok (.aload_n 0, 1) := by decide +kernel
theorem d2101_3_5 : decode c2101_3 5 = .ok (.iconst 0, 1) := by decide +kernel
theorem d2101_3_6 : decode c2101_3 6 = .ok (.putfield 11, 3) := by decide +kernel
theorem d2101_3_9 : decode c2101_3 9 = .ok (.aload_n 0, 1) := by decide +kernel
theorem d2101_3_10 : decode c2101_3 10 = .ok (.aload_n 1, 1) := by decide +kernel
theorem d2101_3_11 : decode c2101_3 11 = .ok (.putfield 17, 3) := by decide +kernel
theorem d2101_3_14 : decode c2101_3 14 = .ok (.aload_n 0, 1) := by decide +kernel
theorem d2101_3_15 : decode c2101_3 15 = .ok (.aload_n 1, 1) := by decide +kernel
theorem d2101_3_16 : decode c2101_3 16 = .ok (.arraylength, 1) := by decide +kernel
theorem d2101_3_17 : decode c2101_3 17 = .ok (.putfield 21, 3) := by decide +kernel
theorem d2101_3_20 : decode c2101_3 20 = .ok (.return_, 1) := by decide +kernel
theorem d2097_64_21 : decode c2097_64 21 = .ok (.invokespecial 544, 3) := by decide +kernel
theorem d2097_64_24 : decode c2097_64 24 = .ok (.astore 4, 2) := by decide +kernel
theorem d2097_64_26 : decode c2097_64 26 = .ok (.new 541, 3) := by decide +kernel
theorem d2097_64_29 : decode c2097_64 29 = .ok (.dup, 1) := by decide +kernel
theorem d2097_64_30 : decode c2097_64 30 = .ok (.aload_n 1, 1) := by decide +kernel
theorem d2097_64_31 : decode c2097_64 31 = .ok (.getfield 28, 3) := by decide +kernel
theorem d2097_64_34 : decode c2097_64 34 = .ok (.invokespecial 544, 3) := by decide +kernel
theorem d2097_64_37 : decode c2097_64 37 = .ok (.astore 5, 2) := by decide +kernel
theorem d2097_64_39 : decode c2097_64 39 = .ok (.aload 4, 2) := by decide +kernel
theorem d2097_64_41 : decode c2097_64 41 = .ok (.aload 5, 2) := by decide +kernel
theorem d2097_64_43 : decode c2097_64 43 = .ok (.aload_n 3, 1) := by decide +kernel
theorem d2101_56_0 : decode c2101_56 0 = .ok (.aload_n 0, 1) := by decide +kernel
theorem d2101_56_1 : decode c2101_56 1 = .ok (.aload_n 1, 1) := by decide +kernel
theorem d2101_56_2 : decode c2101_56 2 = .ok (.aload_n 2, 1) := by decide +kernel
theorem d2101_56_3 : decode c2101_56 3 = .ok (.iconst 1, 1) := by decide +kernel
theorem d2101_57_0 : decode c2101_57 0 = .ok (.aload_n 1, 1) := by decide +kernel
theorem d2101_57_1 : decode c2101_57 1 = .ok (.getfield 21, 3) := by decide +kernel
theorem d2101_57_4 : decode c2101_57 4 = .ok (.ifCond .ne 13, 3) := by decide +kernel
theorem d2101_57_17 : decode c2101_57 17 = .ok (.aload_n 0, 1) := by decide +kernel
theorem d2101_57_18 : decode c2101_57 18 = .ok (.getfield 21, 3) := by decide +kernel
theorem d2101_57_21 : decode c2101_57 21 = .ok (.ifCond .ne 29, 3) := by decide +kernel
theorem d2101_57_50 : decode c2101_57 50 = .ok (.aload_n 0, 1) := by decide +kernel
theorem d2101_57_51 : decode c2101_57 51 = .ok (.aload_n 1, 1) := by decide +kernel
theorem d2101_15_0 : decode c2101_15 0 = .ok (.aload_n 1, 1) := by decide +kernel
theorem d2101_15_1 : decode c2101_15 1 = .ok (.getfield 21, 3) := by decide +kernel
theorem d2101_15_4 : decode c2101_15 4 = .ok (.istore_n 2, 1) := by decide +kernel
theorem d2101_15_5 : decode c2101_15 5 = .ok (.aload_n 0, 1) := by decide +kernel
theorem d2101_15_6 : decode c2101_15 6 = .ok (.getfield 21, 3) := by decide +kernel
theorem d2101_15_9 : decode c2101_15 9 = .ok (.iload_n 2, 1) := by decide +kernel
theorem d2101_15_10 : decode c2101_15 10 = .ok (.if_icmp .ge 5, 3) := by decide +kernel
theorem d2101_15_15 : decode c2101_15 15 = .ok (.aload_n 0, 1) := by decide +kernel
theorem d2101_15_16 : decode c2101_15 16 = .ok (.getfield 21, 3) := by decide +kernel
theorem d2101_15_19 : decode c2101_15 19 = .ok (.iload_n 2, 1) := by decide +kernel
theorem d2101_15_20 : decode c2101_15 20 = .ok (.if_icmp .le 5, 3) := by decide +kernel
theorem d2101_15_25 : decode c2101_15 25 = .ok (.aload_n 1, 1) := by decide +kernel
theorem d2101_15_26 : decode c2101_15 26 = .ok (.getfield 17, 3) := by decide +kernel
theorem d2101_15_29 : decode c2101_15 29 = .ok (.astore_n 3, 1) := by decide +kernel
theorem d2101_15_30 : decode c2101_15 30 = .ok (.aload_n 0, 1) := by decide +kernel
theorem d2101_15_31 : decode c2101_15 31 = .ok (.getfield 11, 3) := by decide +kernel
theorem d2101_15_34 : decode c2101_15 34 = .ok (.istore 4, 2) := by decide +kernel
theorem d2101_15_36 : decode c2101_15 36 = .ok (.aload_n 1, 1) := by decide +kernel
theorem d2101_15_37 : decode c2101_15 37 = .ok (.getfield 11, 3) := by decide +kernel
theorem d2101_15_40 : decode c2101_15 40 = .ok (.istore 5, 2) := by decide +kernel
theorem d2101_15_42 : decode c2101_15 42 = .ok (.iload 4, 2) := by decide +kernel
theorem d2101_15_44 : decode c2101_15 44 = .ok (.aload_n 0, 1) := by decide +kernel
theorem d2101_15_45 : decode c2101_15 45 = .ok (.getfield 21, 3) := by decide +kernel
theorem d2101_15_48 : decode c2101_15 48 = .ok (.aload_n 0, 1) := by decide +kernel
theorem d2101_15_49 : decode c2101_15 49 = .ok (.getfield 11, 3) := by decide +kernel
theorem d2101_15_52 : decode c2101_15 52 = .ok (.iadd, 1) := by decide +kernel
theorem d2101_15_53 : decode c2101_15 53 = .ok (.if_icmp .ge 51, 3) := by decide +kernel
theorem d2101_15_56 : decode c2101_15 56 = .ok (.aload_n 0, 1) := by decide +kernel
theorem d2101_15_57 : decode c2101_15 57 = .ok (.getfield 17, 3) := by decide +kernel
theorem d2101_15_60 : decode c2101_15 60 = .ok (.iload 4, 2) := by decide +kernel
theorem d2101_15_62 : decode c2101_15 62 = .ok (.iaload, 1) := by decide +kernel
theorem d2101_15_63 : decode c2101_15 63 = .ok (.ldc 88, 2) := by decide +kernel
theorem d2101_15_65 : decode c2101_15 65 = .ok (.iadd, 1) := by decide +kernel
theorem d2101_15_66 : decode c2101_15 66 = .ok (.istore 6, 2) := by decide +kernel
theorem d2101_15_68 : decode c2101_15 68 = .ok (.aload_n 3, 1) := by decide +kernel
theorem d2101_15_69 : decode c2101_15 69 = .ok (.iload 5, 2) := by decide +kernel
theorem d2101_15_71 : decode c2101_15 71 = .ok (.iaload, 1) := by decide +kernel
theorem d2101_15_72 : decode c2101_15 72 = .ok (.ldc 88, 2) := by decide +kernel
theorem d2101_15_74 : decode c2101_15 74 = .ok (.iadd, 1) := by decide +kernel
theorem d2101_15_75 : decode c2101_15 75 = .ok (.istore 7, 2) := by decide +kernel
theorem d2101_15_77 : decode c2101_15 77 = .ok (.iload 6, 2) := by decide +kernel
theorem d2101_15_79 : decode c2101_15 79 = .ok (.iload 7, 2) := by decide +kernel
theorem d2101_15_81 : decode c2101_15 81 = .ok (.if_icmp .ge 5, 3) := by decide +kernel
theorem d2101_15_86 : decode c2101_15 86 = .ok (.iload 6, 2) := by decide +kernel
theorem d2101_15_88 : decode c2101_15 88 = .ok (.iload 7, 2) := by decide +kernel
theorem d2101_15_90 : decode c2101_15 90 = .ok (.if_icmp .le 5, 3) := by decide +kernel
theorem d2101_15_95 : decode c2101_15 95 = .ok (.iinc 4 1, 3) := by decide +kernel
theorem d2101_15_98 : decode c2101_15 98 = .ok (.iinc 5 1, 3) := by decide +kernel
theorem d2101_15_101 : decode c2101_15 101 = .ok (.goto (-59), 3) := by decide +kernel
theorem d2101_15_104 : decode c2101_15 104 = .ok (.iconst 0, 1) := by decide +kernel
theorem d2101_15_105 : decode c2101_15 105 = .ok (.ireturn, 1) := by decide +kernel
theorem d2101_57_52 : decode c2101_57 52 = .ok (.invokevirtual 142, 3) := by decide +kernel
theorem d2101_57_55 : decode c2101_57 55 = .ok (.istore 4, 2) := by decide +kernel
theorem d2101_57_57 : decode c2101_57 57 = .ok (.iload 4, 2) := by decide +kernel
theorem d2101_57_59 : decode c2101_57 59 = .ok (.ifCond .ge 30, 3) := by decide +kernel
theorem d2101_57_89 : decode c2101_57 89 = .ok (.iload 4, 2) := by decide +kernel
theorem d2101_57_91 : decode c2101_57 91 = .ok (.ifCond .ne 36, 3) := by decide +kernel
theorem d2101_57_94 : decode c2101_57 94 = .ok (.aload_n 2, 1) := by decide +kernel
theorem d2101_57_95 : decode c2101_57 95 = .ok (.getfield 17, 3) := by decide +kernel
theorem d2101_57_98 : decode c2101_57 98 = .ok (.iconst 0, 1) := by decide +kernel
theorem d2101_57_99 : decode c2101_57 99 = .ok (.aload_n 2, 1) := by decide +kernel
theorem d2101_57_100 : decode c2101_57 100 = .ok (.iconst 1, 1) := by decide +kernel
theorem d2101_57_101 : decode c2101_57 101 = .ok (.dup_x1, 1) := by decide +kernel
theorem d2101_57_102 : decode c2101_57 102 = .ok (.putfield 21, 3) := by decide +kernel
theorem d2101_57_105 : decode c2101_57 105 = .ok (.iastore, 1) := by decide +kernel
theorem d2101_57_106 : decode c2101_57 106 = .ok (.aload_n 2, 1) := by decide +kernel
theorem d2101_57_107 : decode c2101_57 107 = .ok (.iconst 0, 1) := by decide +kernel
theorem d2101_57_108 : decode c2101_57 108 = .ok (.putfield 11, 3) := by decide +kernel
theorem d2101_57_111 : decode c2101_57 111 = .ok (.iload_n 3, 1) := by decide +kernel
theorem d2101_57_112 : decode c2101_57 112 = .ok (.ifCond .eq 13, 3) := by decide +kernel
theorem d2101_57_115 : decode c2101_57 115 = .ok (.new 12, 3) := by decide +kernel
theorem d2101_57_118 : decode c2101_57 118 = .ok (.dup, 1) := by decide +kernel
theorem d2101_57_119 : decode c2101_57 119 = .ok (.invokespecial 177, 3) := by decide +kernel
theorem d2101_57_122 : decode c2101_57 122 = .ok (.goto 4, 3) := by decide +kernel
theorem d2101_57_126 : decode c2101_57 126 = .ok (.areturn, 1) := by decide +kernel
theorem d2101_56_4 : decode c2101_56 4 = .ok (.invokevirtual 163, 3) := by decide +kernel
theorem d2101_56_7 : decode c2101_56 7 = .ok (.areturn, 1) := by decide +kernel
theorem d2097_64_44 : decode c2097_64 44 = .ok (.invokevirtual 558, 3) := by decide +kernel
theorem d2097_64_47 : decode c2097_64 47 = .ok (.astore 6, 2) := by decide +kernel
theorem d2097_64_49 : decode c2097_64 49 = .ok (.aload_n 2, 1) := by decide +kernel
theorem d2097_64_50 : decode c2097_64 50 = .ok (.iconst 0, 1) := by decide +kernel
theorem d2097_64_51 : decode c2097_64 51 = .ok (.aload_n 3, 1) := by decide +kernel
theorem d2097_64_52 : decode c2097_64 52 = .ok (.aload_n 0, 1) := by decide +kernel
theorem d2097_64_53 : decode c2097_64 53 = .ok (.getfield 32, 3) := by decide +kernel
theorem d2097_64_56 : decode c2097_64 56 = .ok (.aload_n 1, 1) := by decide +kernel
theorem d2097_64_57 : decode c2097_64 57 = .ok (.getfield 32, 3) := by decide +kernel
theorem d2097_64_60 : decode c2097_64 60 = .ok (.if_icmp .ne 7, 3) := by decide +kernel
theorem d2097_64_63 : decode c2097_64 63 = .ok (.iconst 1, 1) := by decide +kernel
theorem d2097_64_64 : decode c2097_64 64 = .ok (.goto 4, 3) := by decide +kernel
theorem d2101_9_0 : decode c2101_9 0 = .ok (.aload_n 0, 1) := by decide +kernel
theorem d2101_9_1 : decode c2101_9 1 = .ok (.getfield 21, 3) := by decide +kernel
theorem d2101_9_4 : decode c2101_9 4 = .ok (.ifCond .eq 7, 3) := by decide +kernel
theorem d2101_9_7 : decode c2101_9 7 = .ok (.iload_n 1, 1) := by decide +kernel
theorem d2101_9_8 : decode c2101_9 8 = .ok (.ifCond .ne 7, 3) := by decide +kernel
theorem d2101_9_15 : decode c2101_9 15 = .ok (.new 1, 3) := by decide +kernel
theorem d2101_9_18 : decode c2101_9 18 = .ok (.dup, 1) := by decide +kernel
theorem d2101_9_19 : decode c2101_9 19 = .ok (.aload_n 0, 1) := by decide +kernel
theorem d2101_7_0 : decode c2101_7 0 = .ok (.aload_n 0, 1) := by decide +kernel
theorem d2101_7_1 : decode c2101_7 1 = .ok (.getfield 11, 3) := by decide +kernel
theorem d2101_7_4 : decode c2101_7 4 = .ok (.ifCond .gt 15, 3) := by decide +kernel
theorem d2101_7_7 : decode c2101_7 7 = .ok (.aload_n 0, 1) := by decide +kernel
theorem d2101_7_8 : decode c2101_7 8 = .ok (.getfield 17, 3) := by decide +kernel
theorem d2101_7_11 : decode c2101_7 11 = .ok (.arraylength, 1) := by decide +kernel
theorem d2101_7_12 : decode c2101_7 12 = .ok (.aload_n 0, 1) := by decide +kernel
theorem d2101_7_13 : decode c2101_7 13 = .ok (.getfield 21, 3) := by decide +kernel
theorem d2101_7_16 : decode c2101_7 16 = .ok (.if_icmp .eq 48, 3) := by decide +kernel
theorem d2101_7_64 : decode c2101_7 64 = .ok (.aload_n 0, 1) := by decide +kernel
theorem d2101_7_65 : decode c2101_7 65 = .ok (.getfield 17, 3) := by decide +kernel
theorem d2101_7_68 : decode c2101_7 68 = .ok (.areturn, 1) := by decide +kernel
theorem d2101_9_20 : decode c2101_9 20 = .ok (.invokevirtual 58, 3) := by decide +kernel
theorem d2101_9_23 : decode c2101_9 23 = .ok (.iload_n 1, 1) := by decide +kernel
theorem d2097_25_0 : decode c2097_25 0 = .ok (.aload_n 0, 1) := by decide +kernel
theorem d2097_25_1 : decode c2097_25 1 = .ok (.invokespecial 3, 3) := by decide +kernel
theorem d2097_25_4 : decode c2097_25 4 = .ok (.aload_n 0, 1) := by decide +kernel
theorem d2097_25_5 : decode c2097_25 5 = .ok (.aload_n 1, 1) := by decide +kernel
theorem d2097_25_6 : decode c2097_25 6 = .ok (.arraylength, 1) := by decide +kernel
theorem d2097_25_7 : decode c2097_25 7 = .ok (.ifCond .ne 7, 3) := by decide +kernel
theorem d2097_25_14 : decode c2097_25 14 = .ok (.iload_n 2, 1) := by decide +kernel
theorem d2097_25_15 : decode c2097_25 15 = .ok (.putfield 32, 3) := by decide +kernel
theorem d2097_25_18 : decode c2097_25 18 = .ok (.aload_n 0, 1) := by decide +kernel
theorem d2097_25_19 : decode c2097_25 19 = .ok (.aload_n 1, 1) := by decide +kernel
theorem d2097_25_20 : decode c2097_25 20 = .ok (.putfield 28, 3) := by decide +kernel
theorem d2097_25_23 : decode c2097_25 23 = .ok (.aload_n 0, 1) := by decide +kernel
theorem d2097_25_24 : decode c2097_25 24 = .ok (.getfield 28, 3) := by decide +kernel
theorem d2097_25_27 : decode c2097_25 27 = .ok (.arraylength, 1) := by decide +kernel
theorem d2097_25_28 : decode c2097_25 28 = .ok (.ldc 43, 2) := by decide +kernel
theorem d2097_25_30 : decode c2097_25 30 = .ok (.if_icmp .lt 7, 3) := by decide +kernel
theorem d2097_25_37 : decode c2097_25 37 = .ok (.return_, 1) := by decide +kernel
theorem d2101_9_24 : decode c2101_9 24 = .ok (.invokespecial 62, 3) := by decide +kernel
theorem d2101_9_27 : decode c2101_9 27 = .ok (.areturn, 1) := by decide +kernel
theorem d2097_64_68 : decode c2097_64 68 = .ok (.invokevirtual 548, 3) := by decide +kernel
theorem d2097_64_71 : decode c2097_64 71 = .ok (.aastore, 1) := by decide +kernel
theorem d2097_64_72 : decode c2097_64 72 = .ok (.aload_n 2, 1) := by decide +kernel
theorem d2097_64_73 : decode c2097_64 73 = .ok (.iconst 1, 1) := by decide +kernel
theorem d2097_64_74 : decode c2097_64 74 = .ok (.aload 6, 2) := by decide +kernel
theorem d2097_64_76 : decode c2097_64 76 = .ok (.aload_n 0, 1) := by decide +kernel
theorem d2097_64_77 : decode c2097_64 77 = .ok (.getfield 32, 3) := by decide +kernel
theorem d2101_9_11 : decode c2101_9 11 = .ok (.getstatic 54, 3) := by decide +kernel
theorem d2101_9_14 : decode c2101_9 14 = .ok (.areturn, 1) := by decide +kernel
theorem d2097_64_80 : decode c2097_64 80 = .ok (.invokevirtual 548, 3) := by decide +kernel
theorem d2097_64_83 : decode c2097_64 83 = .ok (.aastore, 1) := by decide +kernel
theorem d2097_64_84 : decode c2097_64 84 = .ok (.aload_n 2, 1) := by decide +kernel
theorem d2097_64_85 : decode c2097_64 85 = .ok (.areturn, 1) := by decide +kernel
theorem d2097_63_28 : decode c2097_63 28 = .ok (.invokevirtual 551, 3) := by decide +kernel
theorem d2097_63_31 : decode c2097_63 31 = .ok (.areturn, 1) := by decide +kernel
theorem d2316_48_14 : decode c2316_48 14 = .ok (.invokevirtual 365, 3) := by decide +kernel
theorem d2316_48_17 : decode c2316_48 17 = .ok (.astore_n 2, 1) := by decide +kernel
theorem d2316_48_18 : decode c2316_48 18 = .ok (.aload_n 2, 1) := by decide +kernel
theorem d2316_48_19 : decode c2316_48 19 = .ok (.iconst 0, 1) := by decide +kernel
theorem d2316_48_20 : decode c2316_48 20 = .ok (.aaload, 1) := by decide +kernel
theorem d2097_118_0 : decode c2097_118 0 = .ok (.aload_n 0, 1) := by decide +kernel
theorem d2097_118_1 : decode c2097_118 1 = .ok (.getfield 747, 3) := by decide +kernel
theorem d2097_118_4 : decode c2097_118 4 = .ok (.iconst 1, 1) := by decide +kernel
theorem d2097_118_5 : decode c2097_118 5 = .ok (.isub, 1) := by decide +kernel
theorem d2097_118_6 : decode c2097_118 6 = .ok (.istore_n 1, 1) := by decide +kernel
theorem d2097_118_7 : decode c2097_118 7 = .ok (.iload_n 1, 1) := by decide +kernel
theorem d2097_118_8 : decode c2097_118 8 = .ok (.iconst (-1), 1) := by decide +kernel
theorem d2097_118_9 : decode c2097_118 9 = .ok (.if_icmp .ne 129, 3) := by decide +kernel
theorem d2097_118_12 : decode c2097_118 12 = .ok (.aload_n 0, 1) := by decide +kernel
theorem d2097_118_13 : decode c2097_118 13 = .ok (.getfield 28, 3) := by decide +kernel
theorem d2097_118_16 : decode c2097_118 16 = .ok (.astore_n 2, 1) := by decide +kernel
theorem d2097_118_17 : decode c2097_118 17 = .ok (.aload_n 2, 1) := by decide +kernel
theorem d2097_118_18 : decode c2097_118 18 = .ok (.arraylength, 1) := by decide +kernel
theorem d2097_118_19 : decode c2097_118 19 = .ok (.istore_n 3, 1) := by decide +kernel
theorem d2097_118_20 : decode c2097_118 20 = .ok (.iload_n 3, 1) := by decide +kernel
theorem d2097_118_21 : decode c2097_118 21 = .ok (.ifCond .ne 8, 3) := by decide +kernel
theorem d2097_118_29 : decode c2097_118 29 = .ok (.iload_n 3, 1) := by decide +kernel
theorem d2097_118_30 : decode c2097_118 30 = .ok (.iconst 1, 1) := by decide +kernel
theorem d2097_118_31 : decode c2097_118 31 = .ok (.isub, 1) := by decide +kernel
theorem d2097_118_32 : decode c2097_118 32 = .ok (.iconst 5, 1) := by decide +kernel
theorem d2097_118_33 : decode c2097_118 33 = .ok (.ishl, 1) := by decide +kernel
theorem d2097_118_34 : decode c2097_118 34 = .ok (.aload_n 0, 1) := by decide +kernel
theorem d2097_118_35 : decode c2097_118 35 = .ok (.getfield 28, 3) := by decide +kernel
theorem d2097_118_38 : decode c2097_118 38 = .ok (.iconst 0, 1) := by decide +kernel
theorem d2097_118_39 : decode c2097_118 39 = .ok (.iaload, 1) := by decide +kernel
theorem d2097_74_0 : decode c2097_74 0 = .ok (.bipush 32, 2) := by decide +kernel
theorem d2097_74_2 : decode c2097_74 2 = .ok (.iload_n 0, 1) := by decide +kernel
theorem d33_47_0 : decode c33_47 0 = .ok (.iload_n 0, 1) := by decide +kernel
theorem d33_47_1 : decode c33_47 1 = .ok (.ifCond .gt 14, 3) := by decide +kernel
theorem d33_47_15 : decode c33_47 15 = .ok (.bipush 31, 2) := by decide +kernel
theorem d33_47_17 : decode c33_47 17 = .ok (.istore_n 1, 1) := by decide +kernel
theorem d33_47_18 : decode c33_47 18 = .ok (.iload_n 0, 1) := by decide +kernel
theorem d33_47_19 : decode c33_47 19 = .ok (.ldc_w 264, 3) := by decide +kernel
theorem d33_47_22 : decode c33_47 22 = .ok (.if_icmp .lt 11, 3) := by decide +kernel
theorem d33_47_33 : decode c33_47 33 = .ok (.iload_n 0, 1) := by decide +kernel
theorem d33_47_34 : decode c33_47 34 = .ok (.sipush 256, 3) := by decide +kernel
theorem d33_47_37 : decode c33_47 37 = .ok (.if_icmp .lt 11, 3) := by decide +kernel
theorem d33_47_48 : decode c33_47 48 = .ok (.iload_n 0, 1) := by decide +kernel
theorem d33_47_49 : decode c33_47 49 = .ok (.bipush 16, 2) := by decide +kernel
theorem d33_47_51 : decode c33_47 51 = .ok (.if_icmp .lt 10, 3) := by decide +kernel
theorem d33_47_61 : decode c33_47 61 = .ok (.iload_n 0, 1) := by decide +kernel
theorem d33_47_62 : decode c33_47 62 = .ok (.iconst 4, 1) := by decide +kernel
theorem d33_47_63 : decode c33_47 63 = .ok (.if_icmp .lt 10, 3) := by decide +kernel
theorem d33_47_73 : decode c33_47 73 = .ok (.iload_n 1, 1) := by decide +kernel
theorem d33_47_74 : decode c33_47 74 = .ok (.iload_n 0, 1) := by decide +kernel
theorem d33_47_75 : decode c33_47 75 = .ok (.iconst 1, 1) := by decide +kernel
theorem d33_47_76 : decode c33_47 76 = .ok (.iushr, 1) := by decide +kernel
theorem d33_47_77 : decode c33_47 77 = .ok (.isub, 1) := by decide +kernel
theorem d33_47_78 : decode c33_47 78 = .ok (.ireturn, 1) := by decide +kernel
theorem d2097_74_3 : decode c2097_74 3 = .ok (.invokestatic 602, 3) := by decide +kernel
theorem d2097_74_6 : decode c2097_74 6 = .ok (.isub, 1) := by decide +kernel
theorem d2097_74_7 : decode c2097_74 7 = .ok (.ireturn, 1) := by decide +kernel
theorem d2097_118_40 : decode c2097_118 40 = .ok (.invokestatic 605, 3) := by decide +kernel
theorem d2097_118_43 : decode c2097_118 43 = .ok (.iadd, 1) := by decide +kernel
theorem d2097_118_44 : decode c2097_118 44 = .ok (.istore 4, 2) := by decide +kernel
theorem d2097_118_46 : decode c2097_118 46 = .ok (.aload_n 0, 1) := by decide +kernel
theorem d2097_118_47 : decode c2097_118 47 = .ok (.getfield 32, 3) := by decide +kernel
theorem d2097_118_50 : decode c2097_118 50 = .ok (.ifCond .ge 78, 3) := by decide +kernel
theorem d2097_118_128 : decode c2097_118 128 = .ok (.iload 4, 2) := by decide +kernel
theorem d2097_118_130 : decode c2097_118 130 = .ok (.istore_n 1, 1) := by decide +kernel
theorem d2097_118_131 : decode c2097_118 131 = .ok (.aload_n 0, 1) := by decide +kernel
theorem d2097_118_132 : decode c2097_118 132 = .ok (.iload_n 1, 1) := by decide +kernel
theorem d2097_118_133 : decode c2097_118 133 = .ok (.iconst 1, 1) := by decide +kernel
theorem d2097_118_134 : decode c2097_118 134 = .ok (.iadd, 1) := by decide +kernel
theorem d2097_118_135 : decode c2097_118 135 = .ok (.putfield 747, 3) := by decide +kernel
theorem d2097_118_138 : decode c2097_118 138 = .ok (.iload_n 1, 1) := by decide +kernel
theorem d2097_118_139 : decode c2097_118 139 = .ok (.ireturn, 1) := by decide +kernel
theorem d2316_48_21 : decode c2316_48 21 = .ok (.invokevirtual 371, 3) := by decide +kernel
theorem d2316_48_24 : decode c2316_48 24 = .ok (.bipush 63, 2) := by decide +kernel
theorem d2316_48_26 : decode c2316_48 26 = .ok (.if_icmp .le 31, 3) := by decide +kernel
theorem d2316_48_57 : decode c2316_48 57 = .ok (.aload_n 2, 1) := by decide +kernel
theorem d2316_48_58 : decode c2316_48 58 = .ok (.iconst 0, 1) := by decide +kernel
theorem d2316_48_59 : decode c2316_48 59 = .ok (.aaload, 1) := by decide +kernel
theorem d2097_136_0 : decode c2097_136 0 = .ok (.lconst 0, 1) := by decide +kernel
theorem d2097_136_1 : decode c2097_136 1 = .ok (.lstore_n 1, 1) := by decide +kernel
theorem d2097_136_2 : decode c2097_136 2 = .ok (.iconst 1, 1) := by decide +kernel
theorem d2097_136_3 : decode c2097_136 3 = .ok (.istore_n 3, 1) := by decide +kernel
theorem d2097_136_4 : decode c2097_136 4 = .ok (.iload_n 3, 1) := by decide +kernel
theorem d2097_136_5 : decode c2097_136 5 = .ok (.ifCond .lt 25, 3) := by decide +kernel
theorem d2097_136_8 : decode c2097_136 8 = .ok (.lload_n 1, 1) := by decide +kernel
theorem d2097_136_9 : decode c2097_136 9 = .ok (.bipush 32, 2) := by decide +kernel
theorem d2097_136_11 : decode c2097_136 11 = .ok (.lshl, 1) := by decide +kernel
theorem d2097_136_12 : decode c2097_136 12 = .ok (.aload_n 0, 1) := by decide +kernel
theorem d2097_136_13 : decode c2097_136 13 = .ok (.iload_n 3, 1) := by decide +kernel
theorem d2097_148_0 : decode c2097_148 0 = .ok (.iload_n 1, 1) := by decide +kernel
theorem d2097_148_1 : decode c2097_148 1 = .ok (.ifCond .ge 5, 3) := by decide +kernel
theorem d2097_148_6 : decode c2097_148 6 = .ok (.iload_n 1, 1) := by decide +kernel
theorem d2097_148_7 : decode c2097_148 7 = .ok (.aload_n 0, 1) := by decide +kernel
theorem d2097_148_8 : decode c2097_148 8 = .ok (.getfield 28, 3) := by decide +kernel
theorem d2097_148_11 : decode c2097_148 11 = .ok (.arraylength, 1) := by decide +kernel
theorem d2097_148_12 : decode c2097_148 12 = .ok (.if_icmp .lt 8, 3) := by decide +kernel
theorem d2097_148_15 : decode c2097_148 15 = .ok (.aload_n 0, 1) := by decide +kernel
theorem d2097_147_0 : decode c2097_147 0 = .ok (.aload_n 0, 1) := by decide +kernel
theorem d2097_147_1 : decode c2097_147 1 = .ok (.getfield 32, 3) := by decide +kernel
theorem d2097_147_4 : decode c2097_147 4 = .ok (.ifCond .ge 7, 3) := by decide +kernel
theorem d2097_147_11 : decode c2097_147 11 = .ok (.iconst 0, 1) := by decide +kernel
theorem d2097_147_12 : decode c2097_147 12 = .ok (.ireturn, 1) := by decide +kernel
theorem d2097_148_16 : decode c2097_148 16 = .ok (.invokevirtual 860, 3) := by decide +kernel
theorem d2097_148_19 : decode c2097_148 19 = .ok (.ireturn, 1) := by decide +kernel
theorem d2097_136_14 : decode c2097_136 14 = .ok (.invokevirtual 736, 3) := by decide +kernel
theorem d2097_136_17 : decode c2097_136 17 = .ok (.i2l, 1) := by decide +kernel
theorem d2097_136_18 : decode c2097_136 18 = .ok (.ldc2_w 130, 3) := by decide +kernel
theorem d2097_136_21 : decode c2097_136 21 = .ok (.land, 1) := by decide +kernel
theorem d2097_136_22 : decode c2097_136 22 = .ok (.ladd, 1) := by decide +kernel
theorem d2097_136_23 : decode c2097_136 23 = .ok (.lstore_n 1, 1) := by decide +kernel
theorem d2097_136_24 : decode c2097_136 24 = .ok (.iinc 3 (-1), 3) := by decide +kernel
theorem d2097_136_27 : decode c2097_136 27 = .ok (.goto (-23), 3) := by decide +kernel
theorem d2097_148_20 : decode c2097_148 20 = .ok (.aload_n 0, 1) := by decide +kernel
theorem d2097_148_21 : decode c2097_148 21 = .ok (.getfield 28, 3) := by decide +kernel
theorem d2097_148_24 : decode c2097_148 24 = .ok (.aload_n 0, 1) := by decide +kernel
theorem d2097_148_25 : decode c2097_148 25 = .ok (.getfield 28, 3) := by decide +kernel
theorem d2097_148_28 : decode c2097_148 28 = .ok (.arraylength, 1) := by decide +kernel
theorem d2097_148_29 : decode c2097_148 29 = .ok (.iload_n 1, 1) := by decide +kernel
theorem d2097_148_30 : decode c2097_148 30 = .ok (.isub, 1) := by decide +kernel
theorem d2097_148_31 : decode c2097_148 31 = .ok (.iconst 1, 1) := by decide +kernel
theorem d2097_148_32 : decode c2097_148 32 = .ok (.isub, 1) := by decide +kernel
theorem d2097_148_33 : decode c2097_148 33 = .ok (.iaload, 1) := by decide +kernel
theorem d2097_148_34 : decode c2097_148 34 = .ok (.istore_n 2, 1) := by decide +kernel
theorem d2097_148_35 : decode c2097_148 35 = .ok (.aload_n 0, 1) := by decide +kernel
theorem d2097_148_36 : decode c2097_148 36 = .ok (.getfield 32, 3) := by decide +kernel
theorem d2097_148_39 : decode c2097_148 39 = .ok (.ifCond .lt 7, 3) := by decide +kernel
theorem d2097_148_42 : decode c2097_148 42 = .ok (.iload_n 2, 1) := by decide +kernel
theorem d2097_148_43 : decode c2097_148 43 = .ok (.goto 19, 3) := by decide +kernel
theorem d2097_148_62 : decode c2097_148 62 = .ok (.ireturn, 1) := by decide +kernel
theorem d2097_136_30 : decode c2097_136 30 = .ok (.lload_n 1, 1) := by decide +kernel
theorem d2097_136_31 : decode c2097_136 31 = .ok (.lreturn, 1) := by decide +kernel
theorem d2316_48_60 : decode c2316_48 60 = .ok (.invokevirtual 376, 3) := by decide +kernel
theorem d2316_48_63 : decode c2316_48 63 = .ok (.aload_n 2, 1) := by decide +kernel
theorem d2316_48_64 : decode c2316_48 64 = .ok (.iconst 1, 1) := by decide +kernel
theorem d2316_48_65 : decode c2316_48 65 = .ok (.aaload, 1) := by decide +kernel
theorem d2097_135_0 : decode c2097_135 0 = .ok (.iconst 0, 1) := by decide +kernel
theorem d2097_135_1 : decode c2097_135 1 = .ok (.istore_n 1, 1) := by decide +kernel
theorem d2097_135_2 : decode c2097_135 2 = .ok (.aload_n 0, 1) := by decide +kernel
theorem d2097_135_3 : decode c2097_135 3 = .ok (.iconst 0, 1) := by decide +kernel
theorem d2097_135_4 : decode c2097_135 4 = .ok (.invokevirtual 736, 3) := by decide +kernel
theorem d2097_135_7 : decode c2097_135 7 = .ok (.istore_n 1, 1) := by decide +kernel
theorem d2097_135_8 : decode c2097_135 8 = .ok (.iload_n 1, 1) := by decide +kernel
theorem d2097_135_9 : decode c2097_135 9 = .ok (.ireturn, 1) := by decide +kernel
theorem d2316_48_66 : decode c2316_48 66 = .ok (.invokevirtual 379, 3) := by decide +kernel
theorem d2316_48_69 : decode c2316_48 69 = .ok (.i2l, 1) := by decide +kernel
theorem d2316_5_0 : decode c2316_5 0 = .ok (.lload_n 0, 1) := by decide +kernel
theorem d2316_5_1 : decode c2316_5 1 = .ok (.lload_n 2, 1) := by decide +kernel
theorem d2316_5_2 : decode c2316_5 2 = .ok (.ldc2_w 16, 3) := by decide +kernel
theorem d29_49_0 : decode c29_49 0 = .ok (.lload_n 0, 1) := by decide +kernel
theorem d29_49_1 : decode c29_49 1 = .ok (.lload_n 2, 1) := by decide +kernel
theorem d29_49_2 : decode c29_49 2 = .ok (.ldiv, 1) := by decide +kernel
theorem d29_49_3 : decode c29_49 3 = .ok (.lstore 4, 2) := by decide +kernel
theorem d29_49_5 : decode c29_49 5 = .ok (.lload_n 0, 1) := by decide +kernel
theorem d29_49_6 : decode c29_49 6 = .ok (.lload_n 2, 1) := by decide +kernel
theorem d29_49_7 : decode c29_49 7 = .ok (.lxor, 1) := by decide +kernel
theorem d29_49_8 : decode c29_49 8 = .ok (.lconst 0, 1) := by decide +kernel
theorem d29_49_9 : decode c29_49 9 = .ok (.lcmp, 1) := by decide +kernel
theorem d29_49_10 : decode c29_49 10 = .ok (.ifCond .ge 17, 3) := by decide +kernel
theorem d29_49_27 : decode c29_49 27 = .ok (.lload 4, 2) := by decide +kernel
theorem d29_49_29 : decode c29_49 29 = .ok (.lreturn, 1) := by decide +kernel
theorem d2316_5_5 : decode c2316_5 5 = .ok (.invokestatic 18, 3) := by decide +kernel
theorem d29_25_0 : decode c29_25 0 = .ok (.lload_n 0, 1) := by decide +kernel
theorem d29_25_1 : decode c29_25 1 = .ok (.lload_n 2, 1) := by decide +kernel
theorem d29_25_2 : decode c29_25 2 = .ok (.ladd, 1) := by decide +kernel
theorem d29_25_3 : decode c29_25 3 = .ok (.lstore 4, 2) := by decide +kernel
theorem d29_25_5 : decode c29_25 5 = .ok (.lload_n 0, 1) := by decide +kernel
theorem d29_25_6 : decode c29_25 6 = .ok (.lload 4, 2) := by decide +kernel
theorem d29_25_8 : decode c29_25 8 = .ok (.lxor, 1) := by decide +kernel
theorem d29_25_9 : decode c29_25 9 = .ok (.lload_n 2, 1) := by decide +kernel
theorem d29_25_10 : decode c29_25 10 = .ok (.lload 4, 2) := by decide +kernel
theorem d29_25_12 : decode c29_25 12 = .ok (.lxor, 1) := by decide +kernel
theorem d29_25_13 : decode c29_25 13 = .ok (.land, 1) := by decide +kernel
theorem d29_25_14 : decode c29_25 14 = .ok (.lconst 0, 1) := by decide +kernel
theorem d29_25_15 : decode c29_25 15 = .ok (.lcmp, 1) := by decide +kernel
theorem d29_25_16 : decode c29_25 16 = .ok (.ifCond .ge 13, 3) := by decide +kernel
theorem d29_25_29 : decode c29_25 29 = .ok (.lload 4, 2) := by decide +kernel
theorem d29_25_31 : decode c29_25 31 = .ok (.lreturn, 1) := by decide +kernel
theorem d2316_5_8 : decode c2316_5 8 = .ok (.invokestatic 22, 3) := by decide +kernel
theorem d2316_5_11 : decode c2316_5 11 = .ok (.lstore 4, 2) := by decide +kernel
theorem d2316_5_13 : decode c2316_5 13 = .ok (.lload_n 2, 1) := by decide +kernel
theorem d2316_5_14 : decode c2316_5 14 = .ok (.ldc2_w 16, 3) := by decide +kernel
theorem d29_52_0 : decode c29_52 0 = .ok (.lload_n 0, 1) := by decide +kernel
theorem d29_52_1 : decode c29_52 1 = .ok (.lload_n 2, 1) := by decide +kernel
theorem d29_52_2 : decode c29_52 2 = .ok (.lrem, 1) := by decide +kernel
theorem d29_52_3 : decode c29_52 3 = .ok (.lstore 4, 2) := by decide +kernel
theorem d29_52_5 : decode c29_52 5 = .ok (.lload_n 0, 1) := by decide +kernel
theorem d29_52_6 : decode c29_52 6 = .ok (.lload_n 2, 1) := by decide +kernel
theorem d29_52_7 : decode c29_52 7 = .ok (.lxor, 1) := by decide +kernel
theorem d29_52_8 : decode c29_52 8 = .ok (.lconst 0, 1) := by decide +kernel
theorem d29_52_9 : decode c29_52 9 = .ok (.lcmp, 1) := by decide +kernel
theorem d29_52_10 : decode c29_52 10 = .ok (.ifCond .ge 15, 3) := by decide +kernel
theorem d29_52_25 : decode c29_52 25 = .ok (.lload 4, 2) := by decide +kernel
theorem d29_52_27 : decode c29_52 27 = .ok (.lreturn, 1) := by decide +kernel
theorem d2316_5_17 : decode c2316_5 17 = .ok (.invokestatic 25, 3) := by decide +kernel
theorem d2316_5_20 : decode c2316_5 20 = .ok (.l2i, 1) := by decide +kernel
theorem d2316_5_21 : decode c2316_5 21 = .ok (.istore 6, 2) := by decide +kernel
theorem d2316_5_23 : decode c2316_5 23 = .ok (.lload 4, 2) := by decide +kernel
theorem d2316_5_25 : decode c2316_5 25 = .ok (.iload 6, 2) := by decide +kernel
theorem d2316_16_0 : decode c2316_16 0 = .ok (.lload_n 0, 1) := by decide +kernel
theorem d2316_16_1 : decode c2316_16 1 = .ok (.iload_n 2, 1) := by decide +kernel
theorem d2316_16_2 : decode c2316_16 2 = .ok (.i2l, 1) := by decide +kernel
theorem d2316_16_3 : decode c2316_16 3 = .ok (.lor, 1) := by decide +kernel
theorem d2316_16_4 : decode c2316_16 4 = .ok (.lconst 0, 1) := by decide +kernel
theorem d2316_16_5 : decode c2316_16 5 = .ok (.lcmp, 1) := by decide +kernel
theorem d2316_16_6 : decode c2316_16 6 = .ok (.ifCond .ne 7, 3) := by decide +kernel
theorem d2316_16_13 : decode c2316_16 13 = .ok (.new 11, 3) := by decide +kernel
theorem d2316_16_16 : decode c2316_16 16 = .ok (.dup, 1) := by decide +kernel
theorem d2316_16_17 : decode c2316_16 17 = .ok (.lload_n 0, 1) := by decide +kernel
theorem d2316_16_18 : decode c2316_16 18 = .ok (.iload_n 2, 1) := by decide +kernel
theorem d2316_17_0 : decode c2316_17 0 = .ok (.aload_n 0, 1) := by decide +kernel
theorem d2316_17_1 : decode c2316_17 1 = .ok (.invokespecial 218, 3) := by decide +kernel
theorem d2316_17_4 : decode c2316_17 4 = .ok (.aload_n 0, 1) := by decide +kernel
theorem d2316_17_5 : decode c2316_17 5 = .ok (.lload_n 1, 1) := by decide +kernel
theorem d2316_17_6 : decode c2316_17 6 = .ok (.putfield 221, 3) := by decide +kernel
theorem d2316_17_9 : decode c2316_17 9 = .ok (.aload_n 0, 1) := by decide +kernel
theorem d2316_17_10 : decode c2316_17 10 = .ok (.iload_n 3, 1) := by decide +kernel
theorem d2316_17_11 : decode c2316_17 11 = .ok (.putfield 224, 3) := by decide +kernel
theorem d2316_17_14 : decode c2316_17 14 = .ok (.return_, 1) := by decide +kernel
theorem d2316_16_19 : decode c2316_16 19 = .ok (.invokespecial 215, 3) := by decide +kernel
theorem d2316_16_22 : decode c2316_16 22 = .ok (.areturn, 1) := by decide +kernel
theorem d2316_5_27 : decode c2316_5 27 = .ok (.invokestatic 10, 3) := by decide +kernel
theorem d2316_5_30 : decode c2316_5 30 = .ok (.areturn, 1) := by decide +kernel
theorem d2316_48_70 : decode c2316_48 70 = .ok (.invokestatic 176, 3) := by decide +kernel
theorem d2316_48_73 : decode c2316_48 73 = .ok (.areturn, 1) := by decide +kernel
theorem d2316_44_29 : decode c2316_44 29 = .ok (.invokestatic 323, 3) := by decide +kernel
theorem d2316_44_32 : decode c2316_44 32 = .ok (.areturn, 1) := by decide +kernel
theorem e13_2_12 : decode cp13_2 12 = .ok (.invokevirtual 18, 3) := by decide +kernel
theorem e13_2_15 : decode cp13_2 15 = .ok (.astore_n 2, 1) := by decide +kernel
theorem e13_2_16 : decode cp13_2 16 = .ok (.aload_n 0, 1) := by decide +kernel
theorem e13_2_17 : decode cp13_2 17 = .ok (.aload_n 2, 1) := by decide +kernel
theorem e13_2_18 : decode cp13_2 18 = .ok (.getstatic 24, 3) := by decide +kernel
theorem d2316_66_0 : decode c2316_66 0 = .ok (.aload_n 0, 1) := by decide +kernel
theorem d2316_66_1 : decode c2316_66 1 = .ok (.getfield 221, 3) := by decide +kernel
theorem d2316_66_4 : decode c2316_66 4 = .ok (.aload_n 1, 1) := by decide +kernel
theorem d2316_66_5 : decode c2316_66 5 = .ok (.getfield 221, 3) := by decide +kernel
theorem d35_42_0 : decode c35_42 0 = .ok (.lload_n 0, 1) := by decide +kernel
theorem d35_42_1 : decode c35_42 1 = .ok (.lload_n 2, 1) := by decide +kernel
theorem d35_42_2 : decode c35_42 2 = .ok (.lcmp, 1) := by decide +kernel
theorem d35_42_3 : decode c35_42 3 = .ok (.ifCond .ge 7, 3) := by decide +kernel
theorem d35_42_6 : decode c35_42 6 = .ok (.iconst (-1), 1) := by decide +kernel
theorem d35_42_7 : decode c35_42 7 = .ok (.goto 14, 3) := by decide +kernel
theorem d35_42_21 : decode c35_42 21 = .ok (.ireturn, 1) := by decide +kernel
theorem d2316_66_8 : decode c2316_66 8 = .ok (.invokestatic 416, 3) := by decide +kernel
theorem d2316_66_11 : decode c2316_66 11 = .ok (.istore_n 2, 1) := by decide +kernel
theorem d2316_66_12 : decode c2316_66 12 = .ok (.iload_n 2, 1) := by decide +kernel
theorem d2316_66_13 : decode c2316_66 13 = .ok (.ifCond .eq 5, 3) := by decide +kernel
theorem d2316_66_16 : decode c2316_66 16 = .ok (.iload_n 2, 1) := by decide +kernel
theorem d2316_66_17 : decode c2316_66 17 = .ok (.ireturn, 1) := by decide +kernel
theorem e13_2_21 : decode cp13_2 21 = .ok (.invokevirtual 27, 3) := by decide +kernel
theorem e13_2_24 : decode cp13_2 24 = .ok (.ifCond .ge 7, 3) := by decide +kernel
theorem e13_2_27 : decode cp13_2 27 = .ok (.aload_n 2, 1) := by decide +kernel
theorem e13_2_28 : decode cp13_2 28 = .ok (.goto 6, 3) := by decide +kernel
theorem e13_2_34 : decode cp13_2 34 = .ok (.putfield 13, 3) := by decide +kernel
theorem e13_2_37 : decode cp13_2 37 = .ok (.aload_n 1, 1) := by decide +kernel
theorem e13_2_38 : decode cp13_2 38 = .ok (.areturn, 1) := by decide +kernel
theorem d2316_58_0 : decode c2316_58 0 = .ok (.aload_n 0, 1) := by decide +kernel
theorem d2316_58_1 : decode c2316_58 1 = .ok (.getfield 221, 3) := by decide +kernel
theorem d2316_58_4 : decode c2316_58 4 = .ok (.lstore_n 1, 1) := by decide +kernel
theorem d2316_58_5 : decode c2316_58 5 = .ok (.aload_n 0, 1) := by decide +kernel
theorem d2316_58_6 : decode c2316_58 6 = .ok (.getfield 224, 3) := by decide +kernel
theorem d2316_58_9 : decode c2316_58 9 = .ok (.i2l, 1) := by decide +kernel
theorem d2316_58_10 : decode c2316_58 10 = .ok (.lstore_n 3, 1) := by decide +kernel
theorem d2316_58_11 : decode c2316_58 11 = .ok (.lload_n 1, 1) := by decide +kernel
theorem d2316_58_12 : decode c2316_58 12 = .ok (.lconst 0, 1) := by decide +kernel
theorem d2316_58_13 : decode c2316_58 13 = .ok (.lcmp, 1) := by decide +kernel
theorem d2316_58_14 : decode c2316_58 14 = .ok (.ifCond .ge 13, 3) := by decide +kernel
theorem d2316_58_27 : decode c2316_58 27 = .ok (.lload_n 1, 1) := by decide +kernel
theorem d2316_58_28 : decode c2316_58 28 = .ok (.ldc2_w 16, 3) := by decide +kernel
theorem d29_30_0 : decode c29_30 0 = .ok (.lload_n 0, 1) := by decide +kernel
theorem d29_30_1 : decode c29_30 1 = .ok (.lload_n 2, 1) := by decide +kernel
theorem d29_30_2 : decode c29_30 2 = .ok (.lmul, 1) := by decide +kernel
theorem d29_30_3 : decode c29_30 3 = .ok (.lstore 4, 2) := by decide +kernel
theorem d29_30_5 : decode c29_30 5 = .ok (.lload_n 0, 1) := by decide +kernel
theorem d29_30_6 : decode c29_30 6 = .ok (.invokestatic 122, 3) := by decide +kernel
theorem d29_30_9 : decode c29_30 9 = .ok (.lstore 6, 2) := by decide +kernel
theorem d29_30_11 : decode c29_30 11 = .ok (.lload_n 2, 1) := by decide +kernel
theorem d29_30_12 : decode c29_30 12 = .ok (.invokestatic 122, 3) := by decide +kernel
theorem d29_30_15 : decode c29_30 15 = .ok (.lstore 8, 2) := by decide +kernel
theorem d29_30_17 : decode c29_30 17 = .ok (.lload 6, 2) := by decide +kernel
theorem d29_30_19 : decode c29_30 19 = .ok (.lload 8, 2) := by decide +kernel
theorem d29_30_21 : decode c29_30 21 = .ok (.lor, 1) := by decide +kernel
theorem d29_30_22 : decode c29_30 22 = .ok (.bipush 31, 2) := by decide +kernel
theorem d29_30_24 : decode c29_30 24 = .ok (.lushr, 1) := by decide +kernel
theorem d29_30_25 : decode c29_30 25 = .ok (.lconst 0, 1) := by decide +kernel
theorem d29_30_26 : decode c29_30 26 = .ok (.lcmp, 1) := by decide +kernel
theorem d29_30_27 : decode c29_30 27 = .ok (.ifCond .eq 44, 3) := by decide +kernel
theorem d29_30_71 : decode c29_30 71 = .ok (.lload 4, 2) := by decide +kernel
theorem d29_30_73 : decode c29_30 73 = .ok (.lreturn, 1) := by decide +kernel
theorem d2316_58_31 : decode c2316_58 31 = .ok (.invokestatic 289, 3) := by decide +kernel
theorem d2316_58_34 : decode c2316_58 34 = .ok (.lstore 5, 2) := by decide +kernel
theorem d2316_58_36 : decode c2316_58 36 = .ok (.lload 5, 2) := by decide +kernel
theorem d2316_58_38 : decode c2316_58 38 = .ok (.lload_n 3, 1) := by decide +kernel
theorem d2316_58_39 : decode c2316_58 39 = .ok (.invokestatic 22, 3) := by decide +kernel
theorem d2316_58_42 : decode c2316_58 42 = .ok (.lstore 5, 2) := by decide +kernel
theorem d2316_58_44 : decode c2316_58 44 = .ok (.lload 5, 2) := by decide +kernel
theorem d2316_58_46 : decode c2316_58 46 = .ok (.lreturn, 1) := by decide +kernel
theorem d17_20_15 : decode c17_20 15 = .ok (.iload_n 2, 1) := by decide +kernel
theorem d17_24_0 : decode c17_24 0 = .ok (.iload_n 0, 1) := by decide +kernel
theorem d17_24_1 : decode c17_24 1 = .ok (.ifCond .lt 17, 3) := by decide +kernel
theorem d17_24_4 : decode c17_24 4 = .ok (.iload_n 0, 1) := by decide +kernel
theorem d17_24_5 : decode c17_24 5 = .ok (.getstatic 250, 3) := by decide +kernel
theorem d17_24_8 : decode c17_24 8 = .ok (.arraylength, 1) := by decide +kernel
theorem d17_24_9 : decode c17_24 9 = .ok (.if_icmp .ge 9, 3) := by decide +kernel
theorem d17_24_12 : decode c17_24 12 = .ok (.getstatic 250, 3) := by decide +kernel
theorem d17_24_15 : decode c17_24 15 = .ok (.iload_n 0, 1) := by decide +kernel
theorem d17_24_16 : decode c17_24 16 = .ok (.aaload, 1) := by decide +kernel
theorem d17_24_17 : decode c17_24 17 = .ok (.areturn, 1) := by decide +kernel
theorem d17_20_16 : decode c17_20 16 = .ok (.invokestatic 239, 3) := by decide +kernel
theorem d17_20_19 : decode c17_20 19 = .ok (.areturn, 1) := by decide +kernel
theorem d17_97_6 : decode c17_97 6 = .ok (.iload_n 2, 1) := by decide +kernel
theorem d17_97_7 : decode c17_97 7 = .ok (.ifCond .gt 5, 3) := by decide +kernel
theorem d17_97_12 : decode c17_97 12 = .ok (.getstatic 95, 3) := by decide +kernel
theorem d17_97_15 : decode c17_97 15 = .ok (.astore_n 3, 1) := by decide +kernel
theorem d17_97_16 : decode c17_97 16 = .ok (.getstatic 825, 3) := by decide +kernel
theorem d17_97_19 : decode c17_97 19 = .ok (.astore 4, 2) := by decide +kernel
theorem d17_97_21 : decode c17_97 21 = .ok (.iload_n 2, 1) := by decide +kernel
theorem d17_97_22 : decode c17_97 22 = .ok (.aload_n 3, 1) := by decide +kernel
theorem d17_97_23 : decode c17_97 23 = .ok (.arraylength, 1) := by decide +kernel
theorem d17_97_24 : decode c17_97 24 = .ok (.if_icmp .ge 41, 3) := by decide +kernel
theorem d17_97_27 : decode c17_97 27 = .ok (.iload_n 2, 1) := by decide +kernel
theorem d17_97_28 : decode c17_97 28 = .ok (.aload 4, 2) := by decide +kernel
theorem d17_97_30 : decode c17_97 30 = .ok (.arraylength, 1) := by decide +kernel
theorem d17_97_31 : decode c17_97 31 = .ok (.if_icmp .ge 34, 3) := by decide +kernel
theorem d17_97_34 : decode c17_97 34 = .ok (.aload_n 3, 1) := by decide +kernel
theorem d17_97_35 : decode c17_97 35 = .ok (.iload_n 2, 1) := by decide +kernel
theorem d17_97_36 : decode c17_97 36 = .ok (.laload, 1) := by decide +kernel
theorem d17_97_37 : decode c17_97 37 = .ok (.lstore 5, 2) := by decide +kernel
theorem d17_97_39 : decode c17_97 39 = .ok (.lload_n 0, 1) := by decide +kernel
theorem d17_97_40 : decode c17_97 40 = .ok (.lconst 1, 1) := by decide +kernel
theorem d17_97_41 : decode c17_97 41 = .ok (.lcmp, 1) := by decide +kernel
theorem d17_97_42 : decode c17_97 42 = .ok (.ifCond .ne 6, 3) := by decide +kernel
theorem d17_97_45 : decode c17_97 45 = .ok (.lload 5, 2) := by decide +kernel
theorem d17_97_47 : decode c17_97 47 = .ok (.lreturn, 1) := by decide +kernel
theorem d2101_15_93 : decode c2101_15 93 = .ok (.iconst 1, 1) := by decide +kernel
theorem d2101_15_94 : decode c2101_15 94 = .ok (.ireturn, 1) := by decide +kernel
theorem d2101_57_127 : decode c2101_57 127 = .ok (.aload_n 2, 1) := by decide +kernel
theorem d2101_13_0 : decode c2101_13 0 = .ok (.aload_n 0, 1) := by decide +kernel
theorem d2101_13_1 : decode c2101_13 1 = .ok (.aload_n 0, 1) := by decide +kernel
theorem d2101_13_2 : decode c2101_13 2 = .ok (.iconst 0, 1) := by decide +kernel
theorem d2101_13_3 : decode c2101_13 3 = .ok (.dup_x1, 1) := by decide +kernel
theorem d2101_13_4 : decode c2101_13 4 = .ok (.putfield 21, 3) := by decide +kernel
theorem d2101_13_7 : decode c2101_13 7 = .ok (.putfield 11, 3) := by decide +kernel
theorem d2101_13_10 : decode c2101_13 10 = .ok (.iconst 0, 1) := by decide +kernel
theorem d2101_13_11 : decode c2101_13 11 = .ok (.istore_n 1, 1) := by decide +kernel
theorem d2101_13_12 : decode c2101_13 12 = .ok (.aload_n 0, 1) := by decide +kernel
theorem d2101_13_13 : decode c2101_13 13 = .ok (.getfield 17, 3) := by decide +kernel
theorem d2101_13_16 : decode c2101_13 16 = .ok (.arraylength, 1) := by decide +kernel
theorem d2101_13_17 : decode c2101_13 17 = .ok (.istore_n 2, 1) := by decide +kernel
theorem d2101_13_18 : decode c2101_13 18 = .ok (.iload_n 1, 1) := by decide +kernel
theorem d2101_13_19 : decode c2101_13 19 = .ok (.iload_n 2, 1) := by decide +kernel
theorem d2101_13_20 : decode c2101_13 20 = .ok (.if_icmp .ge 16, 3) := by decide +kernel
theorem d2101_13_23 : decode c2101_13 23 = .ok (.aload_n 0, 1) := by decide +kernel
theorem d2101_13_24 : decode c2101_13 24 = .ok (.getfield 17, 3) := by decide +kernel
theorem d2101_13_27 : decode c2101_13 27 = .ok (.iload_n 1, 1) := by decide +kernel
theorem d2101_13_28 : decode c2101_13 28 = .ok (.iconst 0, 1) := by decide +kernel
theorem d2101_13_29 : decode c2101_13 29 = .ok (.iastore, 1) := by decide +kernel
theorem d2101_13_30 : decode c2101_13 30 = .ok (.iinc 1 1, 3) := by decide +kernel
theorem d2101_13_33 : decode c2101_13 33 = .ok (.goto (-15), 3) := by decide +kernel
theorem d2101_13_36 : decode c2101_13 36 = .ok (.return_, 1) := by decide +kernel
theorem d2101_57_128 : decode c2101_57 128 = .ok (.invokevirtual 149, 3) := by decide +kernel
theorem d2101_57_131 : decode c2101_57 131 = .ok (.aload_n 1, 1) := by decide +kernel
theorem d2101_57_132 : decode c2101_57 132 = .ok (.getfield 21, 3) := by decide +kernel
theorem d2101_57_135 : decode c2101_57 135 = .ok (.iconst 1, 1) := by decide +kernel
theorem d2101_57_136 : decode c2101_57 136 = .ok (.if_icmp .ne 48, 3) := by decide +kernel
theorem d2101_57_139 : decode c2101_57 139 = .ok (.aload_n 0, 1) := by decide +kernel
theorem d2101_57_140 : decode c2101_57 140 = .ok (.aload_n 1, 1) := by decide +kernel
theorem d2101_57_141 : decode c2101_57 141 = .ok (.getfield 17, 3) := by decide +kernel
theorem d2101_57_144 : decode c2101_57 144 = .ok (.aload_n 1, 1) := by decide +kernel
theorem d2101_57_145 : decode c2101_57 145 = .ok (.getfield 11, 3) := by decide +kernel
theorem d2101_57_148 : decode c2101_57 148 = .ok (.iaload, 1) := by decide +kernel
theorem d2101_57_149 : decode c2101_57 149 = .ok (.aload_n 2, 1) := by decide +kernel
theorem d2101_53_0 : decode c2101_53 0 = .ok (.iload_n 1, 1) := by decide +kernel
theorem d2101_53_1 : decode c2101_53 1 = .ok (.i2l, 1) := by decide +kernel
theorem d2101_53_2 : decode c2101_53 2 = .ok (.ldc2_w 52, 3) := by decide +kernel
theorem d2101_53_5 : decode c2101_53 5 = .ok (.land, 1) := by decide +kernel
theorem d2101_53_6 : decode c2101_53 6 = .ok (.lstore_n 3, 1) := by decide +kernel
theorem d2101_53_7 : decode c2101_53 7 = .ok (.aload_n 0, 1) := by decide +kernel
theorem d2101_53_8 : decode c2101_53 8 = .ok (.getfield 21, 3) := by decide +kernel
theorem d2101_53_11 : decode c2101_53 11 = .ok (.iconst 1, 1) := by decide +kernel
theorem d2101_53_12 : decode c2101_53 12 = .ok (.if_icmp .ne 67, 3) := by decide +kernel
theorem d2101_53_15 : decode c2101_53 15 = .ok (.aload_n 0, 1) := by decide +kernel
theorem d2101_53_16 : decode c2101_53 16 = .ok (.getfield 17, 3) := by decide +kernel
theorem d2101_53_19 : decode c2101_53 19 = .ok (.aload_n 0, 1) := by decide +kernel
theorem d2101_53_20 : decode c2101_53 20 = .ok (.getfield 11, 3) := by decide +kernel
theorem d2101_53_23 : decode c2101_53 23 = .ok (.iaload, 1) := by decide +kernel
theorem d2101_53_24 : decode c2101_53 24 = .ok (.i2l, 1) := by decide +kernel
theorem d2101_53_25 : decode c2101_53 25 = .ok (.ldc2_w 52, 3) := by decide +kernel
theorem d2101_53_28 : decode c2101_53 28 = .ok (.land, 1) := by decide +kernel
theorem d2101_53_29 : decode c2101_53 29 = .ok (.lstore 5, 2) := by decide +kernel
theorem d2101_53_31 : decode c2101_53 31 = .ok (.lload 5, 2) := by decide +kernel
theorem d2101_53_33 : decode c2101_53 33 = .ok (.lload_n 3, 1) := by decide +kernel
theorem d2101_53_34 : decode c2101_53 34 = .ok (.ldiv, 1) := by decide +kernel
theorem d2101_53_35 : decode c2101_53 35 = .ok (.l2i, 1) := by decide +kernel
theorem d2101_53_36 : decode c2101_53 36 = .ok (.istore 7, 2) := by decide +kernel
theorem d2101_53_38 : decode c2101_53 38 = .ok (.lload 5, 2) := by decide +kernel
theorem d2101_53_40 : decode c2101_53 40 = .ok (.iload 7, 2) := by decide +kernel
theorem d2101_53_42 : decode c2101_53 42 = .ok (.i2l, 1) := by decide +kernel
theorem d2101_53_43 : decode c2101_53 43 = .ok (.lload_n 3, 1) := by decide +kernel
theorem d2101_53_44 : decode c2101_53 44 = .ok (.lmul, 1) := by decide +kernel
theorem d2101_53_45 : decode c2101_53 45 = .ok (.lsub, 1) := by decide +kernel
theorem d2101_53_46 : decode c2101_53 46 = .ok (.l2i, 1) := by decide +kernel
theorem d2101_53_47 : decode c2101_53 47 = .ok (.istore 8, 2) := by decide +kernel
theorem d2101_53_49 : decode c2101_53 49 = .ok (.aload_n 2, 1) := by decide +kernel
theorem d2101_53_50 : decode c2101_53 50 = .ok (.getfield 17, 3) := by decide +kernel
theorem d2101_53_53 : decode c2101_53 53 = .ok (.iconst 0, 1) := by decide +kernel
theorem d2101_53_54 : decode c2101_53 54 = .ok (.iload 7, 2) := by decide +kernel
theorem d2101_53_56 : decode c2101_53 56 = .ok (.iastore, 1) := by decide +kernel
theorem d2101_53_57 : decode c2101_53 57 = .ok (.aload_n 2, 1) := by decide +kernel
theorem d2101_53_58 : decode c2101_53 58 = .ok (.iload 7, 2) := by decide +kernel
theorem d2101_53_60 : decode c2101_53 60 = .ok (.ifCond .ne 7, 3) := by decide +kernel
theorem d2101_53_67 : decode c2101_53 67 = .ok (.iconst 1, 1) := by decide +kernel
theorem d2101_53_68 : decode c2101_53 68 = .ok (.putfield 21, 3) := by decide +kernel
theorem d2101_53_71 : decode c2101_53 71 = .ok (.aload_n 2, 1) := by decide +kernel
theorem d2101_53_72 : decode c2101_53 72 = .ok (.iconst 0, 1) := by decide +kernel
theorem d2101_53_73 : decode c2101_53 73 = .ok (.putfield 11, 3) := by decide +kernel
theorem d2101_53_76 : decode c2101_53 76 = .ok (.iload 8, 2) := by decide +kernel
theorem d2101_53_78 : decode c2101_53 78 = .ok (.ireturn, 1) := by decide +kernel
theorem d2101_57_150 : decode c2101_57 150 = .ok (.invokevirtual 178, 3) := by decide +kernel
theorem d2101_57_153 : decode c2101_57 153 = .ok (.istore 5, 2) := by decide +kernel
theorem d2101_57_155 : decode c2101_57 155 = .ok (.iload_n 3, 1) := by decide +kernel
theorem d2101_57_156 : decode c2101_57 156 = .ok (.ifCond .eq 26, 3) := by decide +kernel
theorem d2101_57_159 : decode c2101_57 159 = .ok (.iload 5, 2) := by decide +kernel
theorem d2101_57_161 : decode c2101_57 161 = .ok (.ifCond .ne 11, 3) := by decide +kernel
theorem d2101_57_164 : decode c2101_57 164 = .ok (.new 12, 3) := by decide +kernel
theorem d2101_57_167 : decode c2101_57 167 = .ok (.dup, 1) := by decide +kernel
theorem d2101_57_168 : decode c2101_57 168 = .ok (.invokespecial 177, 3) := by decide +kernel
theorem d2101_57_171 : decode c2101_57 171 = .ok (.areturn, 1) := by decide +kernel
theorem d17_97_48 : decode c17_97 48 = .ok (.lload_n 0, 1) := by decide +kernel
theorem d17_97_49 : decode c17_97 49 = .ok (.invokestatic 440, 3) := by decide +kernel
theorem d17_97_52 : decode c17_97 52 = .ok (.aload 4, 2) := by decide +kernel
theorem d17_97_54 : decode c17_97 54 = .ok (.iload_n 2, 1) := by decide +kernel
theorem d17_97_55 : decode c17_97 55 = .ok (.laload, 1) := by decide +kernel
theorem d17_97_56 : decode c17_97 56 = .ok (.lcmp, 1) := by decide +kernel
theorem d17_97_57 : decode c17_97 57 = .ok (.ifCond .gt 8, 3) := by decide +kernel
theorem d17_97_60 : decode c17_97 60 = .ok (.lload_n 0, 1) := by decide +kernel
theorem d17_97_61 : decode c17_97 61 = .ok (.lload 5, 2) := by decide +kernel
theorem d17_97_63 : decode c17_97 63 = .ok (.lmul, 1) := by decide +kernel
theorem d17_97_64 : decode c17_97 64 = .ok (.lreturn, 1) := by decide +kernel
theorem d33_47_66 : decode c33_47 66 = .ok (.iinc 1 (-2), 3) := by decide +kernel
theorem d33_47_69 : decode c33_47 69 = .ok (.iload_n 0, 1) := by decide +kernel
theorem d33_47_70 : decode c33_47 70 = .ok (.iconst 2, 1) := by decide +kernel
theorem d33_47_71 : decode c33_47 71 = .ok (.iushr, 1) := by decide +kernel
theorem d33_47_72 : decode c33_47 72 = .ok (.istore_n 0, 1) := by decide +kernel
theorem d17_156_30 : decode c17_156 30 = .ok (.lload_n 2, 1) := by decide +kernel
theorem d17_156_31 : decode c17_156 31 = .ok (.lconst 0, 1) := by decide +kernel
theorem d17_156_32 : decode c17_156 32 = .ok (.lcmp, 1) := by decide +kernel
theorem d17_156_33 : decode c17_156 33 = .ok (.ifCond .eq 12, 3) := by decide +kernel
theorem d17_156_36 : decode c17_156 36 = .ok (.lload 4, 2) := by decide +kernel
theorem d17_156_38 : decode c17_156 38 = .ok (.lload_n 2, 1) := by decide +kernel
theorem d17_156_39 : decode c17_156 39 = .ok (.ldiv, 1) := by decide +kernel
theorem d17_156_40 : decode c17_156 40 = .ok (.lload_n 0, 1) := by decide +kernel
theorem d17_156_41 : decode c17_156 41 = .ok (.lcmp, 1) := by decide +kernel
theorem d17_156_42 : decode c17_156 42 = .ok (.ifCond .ne 6, 3) := by decide +kernel
theorem d2097_30_54 : decode c2097_30 54 = .ok (.aload_n 0, 1) := by decide +kernel
theorem d2097_30_55 : decode c2097_30 55 = .ok (.iconst 2, 1) := by decide +kernel
theorem d2097_30_56 : decode c2097_30 56 = .ok (.newarray .int, 2) := by decide +kernel
theorem d2097_30_58 : decode c2097_30 58 = .ok (.putfield 28, 3) := by decide +kernel
theorem d2097_30_61 : decode c2097_30 61 = .ok (.aload_n 0, 1) := by decide +kernel
theorem d2097_30_62 : decode c2097_30 62 = .ok (.getfield 28, 3) := by decide +kernel
theorem d2097_30_65 : decode c2097_30 65 = .ok (.iconst 0, 1) := by decide +kernel
theorem d2097_30_66 : decode c2097_30 66 = .ok (.iload_n 3, 1) := by decide +kernel
theorem d2097_30_67 : decode c2097_30 67 = .ok (.iastore, 1) := by decide +kernel
theorem d2097_30_68 : decode c2097_30 68 = .ok (.aload_n 0, 1) := by decide +kernel
theorem d2097_30_69 : decode c2097_30 69 = .ok (.getfield 28, 3) := by decide +kernel
theorem d2097_30_72 : decode c2097_30 72 = .ok (.iconst 1, 1) := by decide +kernel
theorem d2097_30_73 : decode c2097_30 73 = .ok (.lload_n 1, 1) := by decide +kernel
theorem d2097_30_74 : decode c2097_30 74 = .ok (.l2i, 1) := by decide +kernel
theorem d2097_30_75 : decode c2097_30 75 = .ok (.iastore, 1) := by decide +kernel
theorem d2101_15_23 : decode c2101_15 23 = .ok (.iconst 1, 1) := by decide +kernel
theorem d2101_15_24 : decode c2101_15 24 = .ok (.ireturn, 1) := by decide +kernel
theorem d2101_53_79 : decode c2101_53 79 = .ok (.aload_n 2, 1) := by decide +kernel
theorem d2101_53_80 : decode c2101_53 80 = .ok (.getfield 17, 3) := by decide +kernel
theorem d2101_53_83 : decode c2101_53 83 = .ok (.arraylength, 1) := by decide +kernel
theorem d2101_53_84 : decode c2101_53 84 = .ok (.aload_n 0, 1) := by decide +kernel
theorem d2101_53_85 : decode c2101_53 85 = .ok (.getfield 21, 3) := by decide +kernel
theorem d2101_53_88 : decode c2101_53 88 = .ok (.if_icmp .ge 13, 3) := by decide +kernel
theorem d2101_53_91 : decode c2101_53 91 = .ok (.aload_n 2, 1) := by decide +kernel
theorem d2101_53_92 : decode c2101_53 92 = .ok (.aload_n 0, 1) := by decide +kernel
theorem d2101_53_93 : decode c2101_53 93 = .ok (.getfield 21, 3) := by decide +kernel
theorem d2101_53_96 : decode c2101_53 96 = .ok (.newarray .int, 2) := by decide +kernel
theorem d2101_53_98 : decode c2101_53 98 = .ok (.putfield 17, 3) := by decide +kernel
theorem d2101_53_101 : decode c2101_53 101 = .ok (.aload_n 2, 1) := by decide +kernel
theorem d2101_53_102 : decode c2101_53 102 = .ok (.iconst 0, 1) := by decide +kernel
theorem d2101_53_103 : decode c2101_53 103 = .ok (.putfield 11, 3) := by decide +kernel
theorem d2101_53_106 : decode c2101_53 106 = .ok (.aload_n 2, 1) := by decide +kernel
theorem d2101_53_107 : decode c2101_53 107 = .ok (.aload_n 0, 1) := by decide +kernel
theorem d2101_53_108 : decode c2101_53 108 = .ok (.getfield 21, 3) := by decide +kernel
theorem d2101_53_111 : decode c2101_53 111 = .ok (.putfield 21, 3) := by decide +kernel
theorem d2101_53_114 : decode c2101_53 114 = .ok (.iload_n 1, 1) := by decide +kernel
theorem d33_47_25 : decode c33_47 25 = .ok (.iinc 1 (-16), 3) := by decide +kernel
theorem d33_47_28 : decode c33_47 28 = .ok (.iload_n 0, 1) := by decide +kernel
theorem d33_47_29 : decode c33_47 29 = .ok (.bipush 16, 2) := by decide +kernel
theorem d33_47_31 : decode c33_47 31 = .ok (.iushr, 1) := by decide +kernel
theorem d33_47_32 : decode c33_47 32 = .ok (.istore_n 0, 1) := by decide +kernel
theorem d33_47_40 : decode c33_47 40 = .ok (.iinc 1 (-8), 3) := by decide +kernel
theorem d33_47_43 : decode c33_47 43 = .ok (.iload_n 0, 1) := by decide +kernel
theorem d33_47_44 : decode c33_47 44 = .ok (.bipush 8, 2) := by decide +kernel
theorem d33_47_46 : decode c33_47 46 = .ok (.iushr, 1) := by decide +kernel
theorem d33_47_47 : decode c33_47 47 = .ok (.istore_n 0, 1) := by decide +kernel
theorem d33_47_54 : decode c33_47 54 = .ok (.iinc 1 (-4), 3) := by decide +kernel
theorem d33_47_57 : decode c33_47 57 = .ok (.iload_n 0, 1) := by decide +kernel
theorem d33_47_58 : decode c33_47 58 = .ok (.iconst 4, 1) := by decide +kernel
theorem d33_47_59 : decode c33_47 59 = .ok (.iushr, 1) := by decide +kernel
theorem d33_47_60 : decode c33_47 60 = .ok (.istore_n 0, 1) := by decide +kernel
theorem d2101_53_115 : decode c2101_53 115 = .ok (.invokestatic 152, 3) := by decide +kernel
theorem d2101_53_118 : decode c2101_53 118 = .ok (.istore 5, 2) := by decide +kernel
theorem d2101_53_120 : decode c2101_53 120 = .ok (.aload_n 0, 1) := by decide +kernel
theorem d2101_53_121 : decode c2101_53 121 = .ok (.getfield 17, 3) := by decide +kernel
theorem d2101_53_124 : decode c2101_53 124 = .ok (.aload_n 0, 1) := by decide +kernel
theorem d2101_53_125 : decode c2101_53 125 = .ok (.getfield 11, 3) := by decide +kernel
theorem d2101_53_128 : decode c2101_53 128 = .ok (.iaload, 1) := by decide +kernel
theorem d2101_53_129 : decode c2101_53 129 = .ok (.istore 6, 2) := by decide +kernel
theorem d2101_53_131 : decode c2101_53 131 = .ok (.iload 6, 2) := by decide +kernel
theorem d2101_53_133 : decode c2101_53 133 = .ok (.i2l, 1) := by decide +kernel
theorem d2101_53_134 : decode c2101_53 134 = .ok (.ldc2_w 52, 3) := by decide +kernel
theorem d2101_53_137 : decode c2101_53 137 = .ok (.land, 1) := by decide +kernel
theorem d2101_53_138 : decode c2101_53 138 = .ok (.lstore 7, 2) := by decide +kernel
theorem d2101_53_140 : decode c2101_53 140 = .ok (.lload 7, 2) := by decide +kernel
theorem d2101_53_142 : decode c2101_53 142 = .ok (.lload_n 3, 1) := by decide +kernel
theorem d2101_53_143 : decode c2101_53 143 = .ok (.lcmp, 1) := by decide +kernel
theorem d2101_53_144 : decode c2101_53 144 = .ok (.ifCond .ge 13, 3) := by decide +kernel
theorem d2101_53_147 : decode c2101_53 147 = .ok (.aload_n 2, 1) := by decide +kernel
theorem d2101_53_148 : decode c2101_53 148 = .ok (.getfield 17, 3) := by decide +kernel
theorem d2101_53_151 : decode c2101_53 151 = .ok (.iconst 0, 1) := by decide +kernel
theorem d2101_53_152 : decode c2101_53 152 = .ok (.iconst 0, 1) := by decide +kernel
theorem d2101_53_153 : decode c2101_53 153 = .ok (.iastore, 1) := by decide +kernel
theorem d2101_53_154 : decode c2101_53 154 = .ok (.goto 38, 3) := by decide +kernel
theorem d2101_53_192 : decode c2101_53 192 = .ok (.aload_n 0, 1) := by decide +kernel
theorem d2101_53_193 : decode c2101_53 193 = .ok (.getfield 21, 3) := by decide +kernel
theorem d2101_53_196 : decode c2101_53 196 = .ok (.istore 9, 2) := by decide +kernel
theorem d2101_53_198 : decode c2101_53 198 = .ok (.iinc 9 (-1), 3) := by decide +kernel
theorem d2101_53_201 : decode c2101_53 201 = .ok (.iload 9, 2) := by decide +kernel
theorem d2101_53_203 : decode c2101_53 203 = .ok (.ifCond .le 112, 3) := by decide +kernel
theorem d2101_53_206 : decode c2101_53 206 = .ok (.lload 7, 2) := by decide +kernel
theorem d2101_53_208 : decode c2101_53 208 = .ok (.bipush 32, 2) := by decide +kernel
theorem d2101_53_210 : decode c2101_53 210 = .ok (.lshl, 1) := by decide +kernel
theorem d2101_53_211 : decode c2101_53 211 = .ok (.aload_n 0, 1) := by decide +kernel
theorem d2101_53_212 : decode c2101_53 212 = .ok (.getfield 17, 3) := by decide +kernel
theorem d2101_53_215 : decode c2101_53 215 = .ok (.aload_n 0, 1) := by decide +kernel
theorem d2101_53_216 : decode c2101_53 216 = .ok (.getfield 11, 3) := by decide +kernel
theorem d2101_53_219 : decode c2101_53 219 = .ok (.aload_n 0, 1) := by decide +kernel
theorem d2101_53_220 : decode c2101_53 220 = .ok (.getfield 21, 3) := by decide +kernel
theorem d2101_53_223 : decode c2101_53 223 = .ok (.iadd, 1) := by decide +kernel
theorem d2101_53_224 : decode c2101_53 224 = .ok (.iload 9, 2) := by decide +kernel
theorem d2101_53_226 : decode c2101_53 226 = .ok (.isub, 1) := by decide +kernel
theorem d2101_53_227 : decode c2101_53 227 = .ok (.iaload, 1) := by decide +kernel
theorem d2101_53_228 : decode c2101_53 228 = .ok (.i2l, 1) := by decide +kernel
theorem d2101_53_229 : decode c2101_53 229 = .ok (.ldc2_w 52, 3) := by decide +kernel
theorem d2101_53_232 : decode c2101_53 232 = .ok (.land, 1) := by decide +kernel
theorem d2101_53_233 : decode c2101_53 233 = .ok (.lor, 1) := by decide +kernel
theorem d2101_53_234 : decode c2101_53 234 = .ok (.lstore 10, 2) := by decide +kernel
theorem d2101_53_236 : decode c2101_53 236 = .ok (.lload 10, 2) := by decide +kernel
theorem d2101_53_238 : decode c2101_53 238 = .ok (.lconst 0, 1) := by decide +kernel
theorem d2101_53_239 : decode c2101_53 239 = .ok (.lcmp, 1) := by decide +kernel
theorem d2101_53_240 : decode c2101_53 240 = .ok (.ifCond .lt 24, 3) := by decide +kernel
theorem d2101_53_243 : decode c2101_53 243 = .ok (.lload 10, 2) := by decide +kernel
theorem d2101_53_245 : decode c2101_53 245 = .ok (.lload_n 3, 1) := by decide +kernel
theorem d2101_53_246 : decode c2101_53 246 = .ok (.ldiv, 1) := by decide +kernel
theorem d2101_53_247 : decode c2101_53 247 = .ok (.l2i, 1) := by decide +kernel
theorem d2101_53_248 : decode c2101_53 248 = .ok (.istore 12, 2) := by decide +kernel
theorem d2101_53_250 : decode c2101_53 250 = .ok (.lload 10, 2) := by decide +kernel
theorem d2101_53_252 : decode c2101_53 252 = .ok (.iload 12, 2) := by decide +kernel
theorem d2101_53_254 : decode c2101_53 254 = .ok (.i2l, 1) := by decide +kernel
theorem d2101_53_255 : decode c2101_53 255 = .ok (.lload_n 3, 1) := by decide +kernel
theorem d2101_53_256 : decode c2101_53 256 = .ok (.lmul, 1) := by decide +kernel
theorem d2101_53_257 : decode c2101_53 257 = .ok (.lsub, 1) := by decide +kernel
theorem d2101_53_258 : decode c2101_53 258 = .ok (.l2i, 1) := by decide +kernel
theorem d2101_53_259 : decode c2101_53 259 = .ok (.istore 6, 2) := by decide +kernel
theorem d2101_53_261 : decode c2101_53 261 = .ok (.goto 28, 3) := by decide +kernel
theorem d2101_53_289 : decode c2101_53 289 = .ok (.aload_n 2, 1) := by decide +kernel
theorem d2101_53_290 : decode c2101_53 290 = .ok (.getfield 17, 3) := by decide +kernel
theorem d2101_53_293 : decode c2101_53 293 = .ok (.aload_n 0, 1) := by decide +kernel
theorem d2101_53_294 : decode c2101_53 294 = .ok (.getfield 21, 3) := by decide +kernel
theorem d2101_53_297 : decode c2101_53 297 = .ok (.iload 9, 2) := by decide +kernel
theorem d2101_53_299 : decode c2101_53 299 = .ok (.isub, 1) := by decide +kernel
theorem d2101_53_300 : decode c2101_53 300 = .ok (.iload 12, 2) := by decide +kernel
theorem d2101_53_302 : decode c2101_53 302 = .ok (.iastore, 1) := by decide +kernel
theorem d2101_53_303 : decode c2101_53 303 = .ok (.iload 6, 2) := by decide +kernel
theorem d2101_53_305 : decode c2101_53 305 = .ok (.i2l, 1) := by decide +kernel
theorem d2101_53_306 : decode c2101_53 306 = .ok (.ldc2_w 52, 3) := by decide +kernel
theorem d2101_53_309 : decode c2101_53 309 = .ok (.land, 1) := by decide +kernel
theorem d2101_53_310 : decode c2101_53 310 = .ok (.lstore 7, 2) := by decide +kernel
theorem d2101_53_312 : decode c2101_53 312 = .ok (.goto (-114), 3) := by decide +kernel
theorem d2101_53_315 : decode c2101_53 315 = .ok (.aload_n 2, 1) := by decide +kernel
theorem d2101_21_0 : decode c2101_21 0 = .ok (.aload_n 0, 1) := by decide +kernel
theorem d2101_21_1 : decode c2101_21 1 = .ok (.getfield 21, 3) := by decide +kernel
theorem d2101_21_4 : decode c2101_21 4 = .ok (.ifCond .ne 9, 3) := by decide +kernel
theorem d2101_21_13 : decode c2101_21 13 = .ok (.aload_n 0, 1) := by decide +kernel
theorem d2101_21_14 : decode c2101_21 14 = .ok (.getfield 11, 3) := by decide +kernel
theorem d2101_21_17 : decode c2101_21 17 = .ok (.istore_n 1, 1) := by decide +kernel
theorem d2101_21_18 : decode c2101_21 18 = .ok (.aload_n 0, 1) := by decide +kernel
theorem d2101_21_19 : decode c2101_21 19 = .ok (.getfield 17, 3) := by decide +kernel
theorem d2101_21_22 : decode c2101_21 22 = .ok (.iload_n 1, 1) := by decide +kernel
theorem d2101_21_23 : decode c2101_21 23 = .ok (.iaload, 1) := by decide +kernel
theorem d2101_21_24 : decode c2101_21 24 = .ok (.ifCond .eq 4, 3) := by decide +kernel
theorem d2101_21_28 : decode c2101_21 28 = .ok (.iload_n 1, 1) := by decide +kernel
theorem d2101_21_29 : decode c2101_21 29 = .ok (.aload_n 0, 1) := by decide +kernel
theorem d2101_21_30 : decode c2101_21 30 = .ok (.getfield 21, 3) := by decide +kernel
theorem d2101_21_33 : decode c2101_21 33 = .ok (.iadd, 1) := by decide +kernel
theorem d2101_21_34 : decode c2101_21 34 = .ok (.istore_n 2, 1) := by decide +kernel
theorem d2101_21_35 : decode c2101_21 35 = .ok (.iinc 1 1, 3) := by decide +kernel
theorem d2101_21_38 : decode c2101_21 38 = .ok (.iload_n 1, 1) := by decide +kernel
theorem d2101_21_39 : decode c2101_21 39 = .ok (.iload_n 2, 1) := by decide +kernel
theorem d2101_21_40 : decode c2101_21 40 = .ok (.if_icmp .ge 12, 3) := by decide +kernel
theorem d2101_21_43 : decode c2101_21 43 = .ok (.aload_n 0, 1) := by decide +kernel
theorem d2101_21_44 : decode c2101_21 44 = .ok (.getfield 17, 3) := by decide +kernel
theorem d2101_21_47 : decode c2101_21 47 = .ok (.iload_n 1, 1) := by decide +kernel
theorem d2101_21_48 : decode c2101_21 48 = .ok (.iaload, 1) := by decide +kernel
theorem d2101_21_49 : decode c2101_21 49 = .ok (.ifCond .eq (-14), 3) := by decide +kernel
theorem d2101_21_52 : decode c2101_21 52 = .ok (.iload_n 1, 1) := by decide +kernel
theorem d2101_21_53 : decode c2101_21 53 = .ok (.aload_n 0, 1) := by decide +kernel
theorem d2101_21_54 : decode c2101_21 54 = .ok (.getfield 11, 3) := by decide +kernel
theorem d2101_21_57 : decode c2101_21 57 = .ok (.isub, 1) := by decide +kernel
theorem d2101_21_58 : decode c2101_21 58 = .ok (.istore_n 3, 1) := by decide +kernel
theorem d2101_21_59 : decode c2101_21 59 = .ok (.aload_n 0, 1) := by decide +kernel
theorem d2101_21_60 : decode c2101_21 60 = .ok (.dup, 1) := by decide +kernel
theorem d2101_21_61 : decode c2101_21 61 = .ok (.getfield 21, 3) := by decide +kernel
theorem d2101_21_64 : decode c2101_21 64 = .ok (.iload_n 3, 1) := by decide +kernel
theorem d2101_21_65 : decode c2101_21 65 = .ok (.isub, 1) := by decide +kernel
theorem d2101_21_66 : decode c2101_21 66 = .ok (.putfield 21, 3) := by decide +kernel
theorem d2101_21_69 : decode c2101_21 69 = .ok (.aload_n 0, 1) := by decide +kernel
theorem d2101_21_70 : decode c2101_21 70 = .ok (.aload_n 0, 1) := by decide +kernel
theorem d2101_21_71 : decode c2101_21 71 = .ok (.getfield 21, 3) := by decide +kernel
theorem d2101_21_74 : decode c2101_21 74 = .ok (.ifCond .ne 7, 3) := by decide +kernel
theorem d2101_21_81 : decode c2101_21 81 = .ok (.aload_n 0, 1) := by decide +kernel
theorem d2101_21_82 : decode c2101_21 82 = .ok (.getfield 11, 3) := by decide +kernel
theorem d2101_21_85 : decode c2101_21 85 = .ok (.iload_n 3, 1) := by decide +kernel
theorem d2101_21_86 : decode c2101_21 86 = .ok (.iadd, 1) := by decide +kernel
theorem d2101_21_87 : decode c2101_21 87 = .ok (.putfield 11, 3) := by decide +kernel
theorem d2101_21_90 : decode c2101_21 90 = .ok (.return_, 1) := by decide +kernel
theorem d2101_53_316 : decode c2101_53 316 = .ok (.invokevirtual 64, 3) := by decide +kernel
theorem d2101_53_319 : decode c2101_53 319 = .ok (.iload 5, 2) := by decide +kernel
theorem d2101_53_321 : decode c2101_53 321 = .ok (.ifCond .le 8, 3) := by decide +kernel
theorem d2101_53_324 : decode c2101_53 324 = .ok (.iload 6, 2) := by decide +kernel
theorem d2101_53_326 : decode c2101_53 326 = .ok (.iload_n 1, 1) := by decide +kernel
theorem d2101_53_327 : decode c2101_53 327 = .ok (.irem, 1) := by decide +kernel
theorem d2101_53_328 : decode c2101_53 328 = .ok (.ireturn, 1) := by decide +kernel
theorem d2101_7_19 : decode c2101_7 19 = .ok (.aload_n 0, 1) := by decide +kernel
theorem d2101_7_20 : decode c2101_7 20 = .ok (.getfield 17, 3) := by decide +kernel
theorem d2101_7_23 : decode c2101_7 23 = .ok (.aload_n 0, 1) := by decide +kernel
theorem d2101_7_24 : decode c2101_7 24 = .ok (.getfield 11, 3) := by decide +kernel
theorem d2101_7_27 : decode c2101_7 27 = .ok (.aload_n 0, 1) := by decide +kernel
theorem d2101_7_28 : decode c2101_7 28 = .ok (.getfield 11, 3) := by decide +kernel
theorem d2101_7_31 : decode c2101_7 31 = .ok (.aload_n 0, 1) := by decide +kernel
theorem d2101_7_32 : decode c2101_7 32 = .ok (.getfield 21, 3) := by decide +kernel
theorem d2101_7_35 : decode c2101_7 35 = .ok (.iadd, 1) := by decide +kernel
theorem d65_136_0 : decode c65_136 0 = .ok (.iload_n 1, 1) := by decide +kernel
theorem d65_136_1 : decode c65_136 1 = .ok (.ifCond .ne 9, 3) := by decide +kernel
theorem d65_136_10 : decode c65_136 10 = .ok (.aload_n 0, 1) := by decide +kernel
theorem d65_136_11 : decode c65_136 11 = .ok (.iload_n 1, 1) := by decide +kernel
theorem d65_136_12 : decode c65_136 12 = .ok (.iload_n 2, 1) := by decide +kernel
theorem d65_137_0 : decode c65_137 0 = .ok (.iload_n 1, 1) := by decide +kernel
theorem d65_137_1 : decode c65_137 1 = .ok (.iload_n 2, 1) := by decide +kernel
theorem d65_131_0 : decode c65_131 0 = .ok (.iload_n 1, 1) := by decide +kernel
theorem d65_131_1 : decode c65_131 1 = .ok (.iload_n 0, 1) := by decide +kernel
theorem d65_131_2 : decode c65_131 2 = .ok (.if_icmp .ge 35, 3) := by decide +kernel
theorem d65_131_37 : decode c65_131 37 = .ok (.return_, 1) := by decide +kernel
theorem d65_137_2 : decode c65_137 2 = .ok (.invokestatic 343, 3) := by decide +kernel
theorem d65_137_5 : decode c65_137 5 = .ok (.iload_n 2, 1) := by decide +kernel
theorem d65_137_6 : decode c65_137 6 = .ok (.iload_n 1, 1) := by decide +kernel
theorem d65_137_7 : decode c65_137 7 = .ok (.isub, 1) := by decide +kernel
theorem d65_137_8 : decode c65_137 8 = .ok (.istore_n 3, 1) := by decide +kernel
theorem d65_137_9 : decode c65_137 9 = .ok (.iload_n 3, 1) := by decide +kernel
theorem d65_137_10 : decode c65_137 10 = .ok (.newarray .int, 2) := by decide +kernel
theorem d65_137_12 : decode c65_137 12 = .ok (.astore 4, 2) := by decide +kernel
theorem d65_137_14 : decode c65_137 14 = .ok (.aload_n 0, 1) := by decide +kernel
theorem d65_137_15 : decode c65_137 15 = .ok (.iload_n 1, 1) := by decide +kernel
theorem d65_137_16 : decode c65_137 16 = .ok (.aload 4, 2) := by decide +kernel
theorem d65_137_18 : decode c65_137 18 = .ok (.iconst 0, 1) := by decide +kernel
theorem d65_137_19 : decode c65_137 19 = .ok (.aload_n 0, 1) := by decide +kernel
theorem d65_137_20 : decode c65_137 20 = .ok (.arraylength, 1) := by decide +kernel
theorem d65_137_21 : decode c65_137 21 = .ok (.iload_n 1, 1) := by decide +kernel
theorem d65_137_22 : decode c65_137 22 = .ok (.isub, 1) := by decide +kernel
theorem d65_137_23 : decode c65_137 23 = .ok (.iload_n 3, 1) := by decide +kernel
theorem d29_69_0 : decode c29_69 0 = .ok (.iload_n 0, 1) := by decide +kernel
theorem d29_69_1 : decode c29_69 1 = .ok (.iload_n 1, 1) := by decide +kernel
theorem d29_69_2 : decode c29_69 2 = .ok (.if_icmp .gt 7, 3) := by decide +kernel
theorem d29_69_5 : decode c29_69 5 = .ok (.iload_n 0, 1) := by decide +kernel
theorem d29_69_6 : decode c29_69 6 = .ok (.goto 4, 3) := by decide +kernel
theorem d29_69_10 : decode c29_69 10 = .ok (.ireturn, 1) := by decide +kernel
theorem d65_137_24 : decode c65_137 24 = .ok (.invokestatic 304, 3) := by decide +kernel
theorem d65_137_27 : decode c65_137 27 = .ok (.invokestatic 150, 3) := by decide +kernel
theorem d65_137_30 : decode c65_137 30 = .ok (.aload 4, 2) := by decide +kernel
theorem d65_137_32 : decode c65_137 32 = .ok (.areturn, 1) := by decide +kernel
theorem d65_136_13 : decode c65_136 13 = .ok (.invokestatic 351, 3) := by decide +kernel
theorem d65_136_16 : decode c65_136 16 = .ok (.areturn, 1) := by decide +kernel
theorem d2101_7_36 : decode c2101_7 36 = .ok (.invokestatic 33, 3) := by decide +kernel
theorem d2101_7_39 : decode c2101_7 39 = .ok (.astore_n 1, 1) := by decide +kernel
theorem d2101_7_40 : decode c2101_7 40 = .ok (.aload_n 0, 1) := by decide +kernel
theorem d2101_7_41 : decode c2101_7 41 = .ok (.getfield 17, 3) := by decide +kernel
theorem d2101_7_44 : decode c2101_7 44 = .ok (.iconst 0, 1) := by decide +kernel
theorem d65_103_0 : decode c65_103 0 = .ok (.iconst 0, 1) := by decide +kernel
theorem d65_103_1 : decode c65_103 1 = .ok (.istore_n 2, 1) := by decide +kernel
theorem d65_103_2 : decode c65_103 2 = .ok (.aload_n 0, 1) := by decide +kernel
theorem d65_103_3 : decode c65_103 3 = .ok (.arraylength, 1) := by decide +kernel
theorem d65_103_4 : decode c65_103 4 = .ok (.istore_n 3, 1) := by decide +kernel
theorem d65_103_5 : decode c65_103 5 = .ok (.iload_n 2, 1) := by decide +kernel
theorem d65_103_6 : decode c65_103 6 = .ok (.iload_n 3, 1) := by decide +kernel
theorem d65_103_7 : decode c65_103 7 = .ok (.if_icmp .ge 13, 3) := by decide +kernel
theorem d65_103_10 : decode c65_103 10 = .ok (.aload_n 0, 1) := by decide +kernel
theorem d65_103_11 : decode c65_103 11 = .ok (.iload_n 2, 1) := by decide +kernel
theorem d65_103_12 : decode c65_103 12 = .ok (.iload_n 1, 1) := by decide +kernel
theorem d65_103_13 : decode c65_103 13 = .ok (.iastore, 1) := by decide +kernel
theorem d65_103_14 : decode c65_103 14 = .ok (.iinc 2 1, 3) := by decide +kernel
theorem d65_103_17 : decode c65_103 17 = .ok (.goto (-12), 3) := by decide +kernel
theorem d65_103_20 : decode c65_103 20 = .ok (.return_, 1) := by decide +kernel
theorem d2101_7_45 : decode c2101_7 45 = .ok (.invokestatic 37, 3) := by decide +kernel
theorem d2101_7_48 : decode c2101_7 48 = .ok (.aload_n 0, 1) := by decide +kernel
theorem d2101_7_49 : decode c2101_7 49 = .ok (.iconst 0, 1) := by decide +kernel
theorem d2101_7_50 : decode c2101_7 50 = .ok (.putfield 11, 3) := by decide +kernel
theorem d2101_7_53 : decode c2101_7 53 = .ok (.aload_n 0, 1) := by decide +kernel
theorem d2101_7_54 : decode c2101_7 54 = .ok (.aload_n 1, 1) := by decide +kernel
theorem d2101_7_55 : decode c2101_7 55 = .ok (.arraylength, 1) := by decide +kernel
theorem d2101_7_56 : decode c2101_7 56 = .ok (.putfield 21, 3) := by decide +kernel
theorem d2101_7_59 : decode c2101_7 59 = .ok (.aload_n 0, 1) := by decide +kernel
theorem d2101_7_60 : decode c2101_7 60 = .ok (.aload_n 1, 1) := by decide +kernel
theorem d2101_7_61 : decode c2101_7 61 = .ok (.putfield 17, 3) := by decide +kernel
theorem d35_42_10 : decode c35_42 10 = .ok (.lload_n 0, 1) := by decide +kernel
theorem d35_42_11 : decode c35_42 11 = .ok (.lload_n 2, 1) := by decide +kernel
theorem d35_42_12 : decode c35_42 12 = .ok (.lcmp, 1) := by decide +kernel
theorem d35_42_13 : decode c35_42 13 = .ok (.ifCond .ne 7, 3) := by decide +kernel
theorem d35_42_16 : decode c35_42 16 = .ok (.iconst 0, 1) := by decide +kernel
theorem d35_42_17 : decode c35_42 17 = .ok (.goto 4, 3) := by decide +kernel
theorem d2316_66_18 : decode c2316_66 18 = .ok (.aload_n 0, 1) := by decide +kernel
theorem d2316_66_19 : decode c2316_66 19 = .ok (.getfield 224, 3) := by decide +kernel
theorem d2316_66_22 : decode c2316_66 22 = .ok (.aload_n 1, 1) := by decide +kernel
theorem d2316_66_23 : decode c2316_66 23 = .ok (.getfield 224, 3) := by decide +kernel
theorem d2316_66_26 : decode c2316_66 26 = .ok (.isub, 1) := by decide +kernel
theorem d2316_66_27 : decode c2316_66 27 = .ok (.ireturn, 1) := by decide +kernel
theorem e13_2_31 : decode cp13_2 31 = .ok (.getstatic 24, 3) := by decide +kernel
theorem d35_42_20 : decode c35_42 20 = .ok (.iconst 1, 1) := by decide +kernel
theorem pf0 : plainFor N0 = true := by first | exact plainFor_of_name (by first | (simp [plainName, overriddenIn]; done) | decide +kernel) | decide +kernel
theorem pf1 : plainFor N1 = true := by first | exact plainFor_of_name (by first | (simp [plainName, overriddenIn]; done) | decide +kernel) | decide +kernel
theorem pf2 : plainFor N2 = true := by first | exact plainFor_of_name (by first | (simp [plainName, overriddenIn]; done) | decide +kernel) | decide +kernel
theorem pf3 : plainFor N3 = true := by first | exact plainFor_of_name (by first | (simp [plainName, overriddenIn]; done) | decide +kernel) | decide +kernel
theorem pf4 : plainFor N4 = true := by first | exact plainFor_of_name (by first | (simp [plainName, overriddenIn]; done) | decide +kernel) | decide +kernel
theorem pf5 : plainFor N5 = true := by first | exact plainFor_of_name (by first | (simp [plainName, overriddenIn]; done) | decide +kernel) | decide +kernel
theorem pf6 : plainFor N6 = true := by first | exact plainFor_of_name (by first | (simp [plainName, overriddenIn]; done) | decide +kernel) | decide +kernel
theorem pf7 : plainFor N7 = true := by first | exact plainFor_of_name (by first | (simp [plainName, overriddenIn]; done) | decide +kernel) | decide +kernel
theorem pf8 : plainFor N8 = true := by first | exact plainFor_of_name (by first | (simp [plainName, overriddenIn]; done) | decide +kernel) | decide +kernel
theorem pf9 : plainFor N9 = true := by first | exact plainFor_of_name (by first | (simp [plainName, overriddenIn]; done) | decide +kernel) | decide +kernel
theorem pf10 : plainFor N10 = true := by first | exact plainFor_of_name (by first | (simp [plainName, overriddenIn]; done) | decide +kernel) | decide +kernel
theorem pf11 : plainFor N11 = true := by first | exact plainFor_of_name (by first | (simp [plainName, overriddenIn]; done) | decide +kernel) | decide +kernel
theorem pf12 : plainFor N12 = true := by first | exact plainFor_of_name (by first | (simp [plainName, overriddenIn]; done) | decide +kernel) | decide +kernel
theorem pf13 : plainFor N13 = true := by first | exact plainFor_of_name (by first | (simp [plainName, overriddenIn]; done) | decide +kernel) | decide +kernel
theorem pf14 : plainFor N14 = true := by first | exact plainFor_of_name (by first | (simp [plainName, overriddenIn]; done) | decide +kernel) | decide +kernel
theorem pf15 : plainFor N15 = true := by first | exact plainFor_of_name (by first | (simp [plainName, overriddenIn]; done) | decide +kernel) | decide +kernel
theorem pf16 : plainFor N16 = true := by first | exact plainFor_of_name (by first | (simp [plainName, overriddenIn]; done) | decide +kernel) | decide +kernel
theorem pf17 : plainFor N17 = true := by first | exact plainFor_of_name (by first | (simp [plainName, overriddenIn]; done) | decide +kernel) | decide +kernel
theorem pf18 : plainFor N18 = true := by first | exact plainFor_of_name (by first | (simp [plainName, overriddenIn]; done) | decide +kernel) | decide +kernel
theorem pf19 : plainFor N19 = true := by first | exact plainFor_of_name (by first | (simp [plainName, overriddenIn]; done) | decide +kernel) | decide +kernel
theorem pf20 : plainFor N20 = true := by first | exact plainFor_of_name (by first | (simp [plainName, overriddenIn]; done) | decide +kernel) | decide +kernel
theorem pf21 : plainFor N21 = true := by first | exact plainFor_of_name (by first | (simp [plainName, overriddenIn]; done) | decide +kernel) | decide +kernel
theorem pf22 : plainFor N22 = true := by first | exact plainFor_of_name (by first | (simp [plainName, overriddenIn]; done) | decide +kernel) | decide +kernel
theorem pf23 : plainFor N23 = true := by first | exact plainFor_of_name (by first | (simp [plainName, overriddenIn]; done) | decide +kernel) | decide +kernel
theorem pf24 : plainFor N24 = true := by first | exact plainFor_of_name (by first | (simp [plainName, overriddenIn]; done) | decide +kernel) | decide +kernel
theorem pf25 : plainFor N25 = true := by first | exact plainFor_of_name (by first | (simp [plainName, overriddenIn]; done) | decide +kernel) | decide +kernel
theorem pf26 : plainFor N26 = true := by first | exact plainFor_of_name (by first | (simp [plainName, overriddenIn]; done) | decide +kernel) | decide +kernel
theorem pf27 : plainFor N27 = true := by first | exact plainFor_of_name (by first | (simp [plainName, overriddenIn]; done) | decide +kernel) | decide +kernel
theorem pf28 : plainFor N28 = true := by first | exact plainFor_of_name (by first | (simp [plainName, overriddenIn]; done) | decide +kernel) | decide +kernel
theorem pf29 : plainFor N29 = true := by first | exact plainFor_of_name (by first | (simp [plainName, overriddenIn]; done) | decide +kernel) | decide +kernel
theorem pf30 : plainFor N30 = true := by first | exact plainFor_of_name (by first | (simp [plainName, overriddenIn]; done) | decide +kernel) | decide +kernel
theorem pf31 : plainFor N31 = true := by first | exact plainFor_of_name (by first | (simp [plainName, overriddenIn]; done) | decide +kernel) | decide +kernel
theorem pf32 : plainFor N32 = true := by first | exact plainFor_of_name (by first | (simp [plainName, overriddenIn]; done) | decide +kernel) | decide +kernel
theorem pf33 : plainFor N33 = true := by first | exact plainFor_of_name (by first | (simp [plainName, overriddenIn]; done) | decide +kernel) | decide +kernel
theorem pf34 : plainFor N34 = true := by first | exact plainFor_of_name (by first | (simp [plainName, overriddenIn]; done) | decide +kernel) | decide +kernel
theorem pf35 : plainFor N35 = true := by first | exact plainFor_of_name (by first | (simp [plainName, overriddenIn]; done) | decide +kernel) | decide +kernel
theorem pf36 : plainFor N36 = true := by first | exact plainFor_of_name (by first | (simp [plainName, overriddenIn]; done) | decide +kernel) | decide +kernel
theorem pf37 : plainFor N37 = true := by first | exact plainFor_of_name (by first | (simp [plainName, overriddenIn]; done) | decide +kernel) | decide +kernel
theorem pf38 : plainFor N38 = true := by first | exact plainFor_of_name (by first | (simp [plainName, overriddenIn]; done) | decide +kernel) | decide +kernel
theorem pf39 : plainFor N39 = true := by first | exact plainFor_of_name (by first | (simp [plainName, overriddenIn]; done) | decide +kernel) | decide +kernel
theorem pf40 : plainFor N40 = true := by first | exact plainFor_of_name (by first | (simp [plainName, overriddenIn]; done) | decide +kernel) | decide +kernel
theorem pf41 : plainFor N41 = true := by first | exact plainFor_of_name (by first | (simp [plainName, overriddenIn]; done) | decide +kernel) | decide +kernel
theorem pf42 : plainFor N42 = true := by first | exact plainFor_of_name (by first | (simp [plainName, overriddenIn]; done) | decide +kernel) | decide +kernel
theorem pf43 : plainFor N43 = true := by first | exact plainFor_of_name (by first | (simp [plainName, overriddenIn]; done) | decide +kernel) | decide +kernel
theorem pf44 : plainFor N44 = true := by first | exact plainFor_of_name (by first | (simp [plainName, overriddenIn]; done) | decide +kernel) | decide +kernel
theorem pf45 : plainFor N45 = true := by first | exact plainFor_of_name (by first | (simp [plainName, overriddenIn]; done) | decide +kernel) | decide +kernel
theorem pf46 : plainFor N46 = true := by first | exact plainFor_of_name (by first | (simp [plainName, overriddenIn]; done) | decide +kernel) | decide +kernel
theorem pf47 : plainFor N47 = true := by first | exact plainFor_of_name (by first | (simp [plainName, overriddenIn]; done) | decide +kernel) | decide +kernel
theorem pf48 : plainFor N48 = true := by first | exact plainFor_of_name (by first | (simp [plainName, overriddenIn]; done) | decide +kernel) | decide +kernel
theorem pf49 : plainFor N49 = true := by first | exact plainFor_of_name (by first | (simp [plainName, overriddenIn]; done) | decide +kernel) | decide +kernel
theorem pf50 : plainFor N50 = true := by first | exact plainFor_of_name (by first | (simp [plainName, overriddenIn]; done) | decide +kernel) | decide +kernel
theorem pf51 : plainFor N51 = true := by first | exact plainFor_of_name (by first | (simp [plainName, overriddenIn]; done) | decide +kernel) | decide +kernel
theorem pf52 : plainFor N52 = true := by first | exact plainFor_of_name (by first | (simp [plainName, overriddenIn]; done) | decide +kernel) | decide +kernel
theorem pf53 : plainFor N53 = true := by first | exact plainFor_of_name (by first | (simp [plainName, overriddenIn]; done) | decide +kernel) | decide +kernel
theorem pf54 : plainFor N54 = true := by first | exact plainFor_of_name (by first | (simp [plainName, overriddenIn]; done) | decide +kernel) | decide +kernel
theorem pf55 : plainFor N55 = true := by first | exact plainFor_of_name (by first | (simp [plainName, overriddenIn]; done) | decide +kernel) | decide +kernel
theorem pf56 : plainFor N56 = true := by first | exact plainFor_of_name (by first | (simp [plainName, overriddenIn]; done) | decide +kernel) | decide +kernel
theorem pf57 : plainFor N57 = true := by first | exact plainFor_of_name (by first | (simp [plainName, overriddenIn]; done) | decide +kernel) | decide +kernel
theorem pf58 : plainFor N58 = true := by first | exact plainFor_of_name (by first | (simp [plainName, overriddenIn]; done) | decide +kernel) | decide +kernel
theorem pf59 : plainFor N59 = true := by first | exact plainFor_of_name (by first | (simp [plainName, overriddenIn]; done) | decide +kernel) | decide +kernel
theorem pf60 : plainFor N60 = true := by first | exact plainFor_of_name (by first | (simp [plainName, overriddenIn]; done) | decide +kernel) | decide +kernel
theorem pf61 : plainFor N61 = true := by first | exact plainFor_of_name (by first | (simp [plainName, overriddenIn]; done) | decide +kernel) | decide +kernel
theorem pf62 : plainFor N62 = true := by first | exact plainFor_of_name (by first | (simp [plainName, overriddenIn]; done) | decide +kernel) | decide +kernel
theorem sn0 (H : Cx Z a0 gA gK) : Jvm.RoadKit.slotOf Z "java/math/BigDecimal" "precision" "I" ≠ Jvm.RoadKit.slotOf Z "java/math/BigDecimal" "scale" "I" := (slot_ne (C := "java/math/BigDecimal") (Or.inl (tw59 H)) (Or.inr (tw57 H)) (by decide) (t := .int) (t' := .int) (by decide) (by decide))
theorem sn1 (H : Cx Z a0 gA gK) : Jvm.RoadKit.slotOf Z "java/math/BigDecimal" "intCompact" "J" ≠ Jvm.RoadKit.slotOf Z "java/math/BigDecimal" "scale" "I" := (slot_ne (C := "java/math/BigDecimal") (Or.inr (tw61 H)) (Or.inr (tw57 H)) (by decide) (t := .long) (t' := .int) (by decide) (by decide))
theorem sn2 (H : Cx Z a0 gA gK) : Jvm.RoadKit.slotOf Z "java/math/BigDecimal" "intCompact" "J" ≠ Jvm.RoadKit.slotOf Z "java/math/BigDecimal" "precision" "I" := (slot_ne (C := "java/math/BigDecimal") (Or.inr (tw61 H)) (Or.inl (tw59 H)) (by decide) (t := .long) (t' := .int) (by decide) (by decide))
theorem sn3 (H : Cx Z a0 gA gK) : Jvm.RoadKit.slotOf Z "java/math/BigDecimal" "intVal" "Ljava/math/BigInteger;" ≠ Jvm.RoadKit.slotOf Z "java/math/BigDecimal" "scale" "I" := (slot_ne (C := "java/math/BigDecimal") (Or.inr (tw63 H)) (Or.inr (tw57 H)) (by decide) (t := (.object "java/math/BigInteger")) (t' := .int) (by decide) (by decide))
theorem sn4 (H : Cx Z a0 gA gK) : Jvm.RoadKit.slotOf Z "java/math/BigDecimal" "intVal" "Ljava/math/BigInteger;" ≠ Jvm.RoadKit.slotOf Z "java/math/BigDecimal" "precision" "I" := (slot_ne (C := "java/math/BigDecimal") (Or.inr (tw63 H)) (Or.inl (tw59 H)) (by decide) (t := (.object "java/math/BigInteger")) (t' := .int) (by decide) (by decide))
theorem sn5 (H : Cx Z a0 gA gK) : Jvm.RoadKit.slotOf Z "java/math/BigDecimal" "intVal" "Ljava/math/BigInteger;" ≠ Jvm.RoadKit.slotOf Z "java/math/BigDecimal" "intCompact" "J" := (slot_ne (C := "java/math/BigDecimal") (Or.inr (tw63 H)) (Or.inr (tw61 H)) (by decide) (t := (.object "java/math/BigInteger")) (t' := .long) (by decide) (by decide))
theorem sn6 (H : Cx Z a0 gA gK) : Jvm.RoadKit.slotOf Z "java/math/BigDecimal" "intCompact" "J" ≠ Jvm.RoadKit.slotOf Z "java/math/BigDecimal" "intVal" "Ljava/math/BigInteger;" := (slot_ne (C := "java/math/BigDecimal") (Or.inr (tw61 H)) (Or.inr (tw63 H)) (by decide) (t := .long) (t' := (.object "java/math/BigInteger")) (by decide) (by decide))
theorem sn7 (H : Cx Z a0 gA gK) : Jvm.RoadKit.slotOf Z "java/math/BigDecimal" "precision" "I" ≠ Jvm.RoadKit.slotOf Z "java/math/BigDecimal" "intCompact" "J" := (slot_ne (C := "java/math/BigDecimal") (Or.inl (tw59 H)) (Or.inr (tw61 H)) (by decide) (t := .int) (t' := .long) (by decide) (by decide))
theorem sn8 (H : Cx Z a0 gA gK) : Jvm.RoadKit.slotOf Z "java/math/BigDecimal" "precision" "I" ≠ Jvm.RoadKit.slotOf Z "java/math/BigDecimal" "intVal" "Ljava/math/BigInteger;" := (slot_ne (C := "java/math/BigDecimal") (Or.inl (tw59 H)) (Or.inr (tw63 H)) (by decide) (t := .int) (t' := (.object "java/math/BigInteger")) (by decide) (by decide))
theorem sn9 (H : Cx Z a0 gA gK) : Jvm.RoadKit.slotOf Z "java/math/BigDecimal" "scale" "I" ≠ Jvm.RoadKit.slotOf Z "java/math/BigDecimal" "precision" "I" := (slot_ne (C := "java/math/BigDecimal") (Or.inr (tw57 H)) (Or.inl (tw59 H)) (by decide) (t := .int) (t' := .int) (by decide) (by decide))
theorem sn10 (H : Cx Z a0 gA gK) : Jvm.RoadKit.slotOf Z "java/math/BigDecimal" "scale" "I" ≠ Jvm.RoadKit.slotOf Z "java/math/BigDecimal" "intCompact" "J" := (slot_ne (C := "java/math/BigDecimal") (Or.inr (tw57 H)) (Or.inr (tw61 H)) (by decide) (t := .int) (t' := .long) (by decide) (by decide))
theorem sn11 (H : Cx Z a0 gA gK) : Jvm.RoadKit.slotOf Z "java/math/BigDecimal" "scale" "I" ≠ Jvm.RoadKit.slotOf Z "java/math/BigDecimal" "intVal" "Ljava/math/BigInteger;" := (slot_ne (C := "java/math/BigDecimal") (Or.inr (tw57 H)) (Or.inr (tw63 H)) (by decide) (t := .int) (t' := (.object "java/math/BigInteger")) (by decide) (by decide))
theorem sn12 (H : Cx Z a0 gA gK) : Jvm.RoadKit.slotOf Z "java/math/BigInteger" "mag" "[I" ≠ Jvm.RoadKit.slotOf Z "java/math/BigInteger" "signum" "I" := (slot_ne (C := "java/math/BigInteger") (Or.inr (tw145 H)) (Or.inr (tw142 H)) (by decide) (t := (.array .int)) (t' := .int) (by decide) (by decide))
theorem sn13 (H : Cx Z a0 gA gK) : Jvm.RoadKit.slotOf Z "java/math/BigInteger" "bitLengthPlusOne" "I" ≠ Jvm.RoadKit.slotOf Z "java/math/BigInteger" "signum" "I" := (slot_ne (C := "java/math/BigInteger") (Or.inl (tw215 H)) (Or.inr (tw142 H)) (by decide) (t := .int) (t' := .int) (by decide) (by decide))
theorem sn14 (H : Cx Z a0 gA gK) : Jvm.RoadKit.slotOf Z "java/math/BigInteger" "bitLengthPlusOne" "I" ≠ Jvm.RoadKit.slotOf Z "java/math/BigInteger" "mag" "[I" := (slot_ne (C := "java/math/BigInteger") (Or.inl (tw215 H)) (Or.inr (tw145 H)) (by decide) (t := .int) (t' := (.array .int)) (by decide) (by decide))
theorem sn15 (H : Cx Z a0 gA gK) : Jvm.RoadKit.slotOf Z "java/math/BigInteger" "signum" "I" ≠ Jvm.RoadKit.slotOf Z "java/math/BigInteger" "mag" "[I" := (slot_ne (C := "java/math/BigInteger") (Or.inr (tw142 H)) (Or.inr (tw145 H)) (by decide) (t := .int) (t' := (.array .int)) (by decide) (by decide))
theorem sn16 (H : Cx Z a0 gA gK) : Jvm.RoadKit.slotOf Z "java/math/MutableBigInteger" "value" "[I" ≠ Jvm.RoadKit.slotOf Z "java/math/MutableBigInteger" "offset" "I" := (slot_ne (C := "java/math/MutableBigInteger") (Or.inl (tw169 H)) (Or.inl (tw167 H)) (by decide) (t := (.array .int)) (t' := .int) (by decide) (by decide))
theorem sn17 (H : Cx Z a0 gA gK) : Jvm.RoadKit.slotOf Z "java/math/MutableBigInteger" "intLen" "I" ≠ Jvm.RoadKit.slotOf Z "java/math/MutableBigInteger" "offset" "I" := (slot_ne (C := "java/math/MutableBigInteger") (Or.inl (tw171 H)) (Or.inl (tw167 H)) (by decide) (t := .int) (t' := .int) (by decide) (by decide))
theorem sn18 (H : Cx Z a0 gA gK) : Jvm.RoadKit.slotOf Z "java/math/MutableBigInteger" "intLen" "I" ≠ Jvm.RoadKit.slotOf Z "java/math/MutableBigInteger" "value" "[I" := (slot_ne (C := "java/math/MutableBigInteger") (Or.inl (tw171 H)) (Or.inl (tw169 H)) (by decide) (t := .int) (t' := (.array .int)) (by decide) (by decide))
theorem sn19 (H : Cx Z a0 gA gK) : Jvm.RoadKit.slotOf Z "java/math/MutableBigInteger" "offset" "I" ≠ Jvm.RoadKit.slotOf Z "java/math/MutableBigInteger" "value" "[I" := (slot_ne (C := "java/math/MutableBigInteger") (Or.inl (tw167 H)) (Or.inl (tw169 H)) (by decide) (t := .int) (t' := (.array .int)) (by decide) (by decide))
theorem sn20 (H : Cx Z a0 gA gK) : Jvm.RoadKit.slotOf Z "java/math/MutableBigInteger" "offset" "I" ≠ Jvm.RoadKit.slotOf Z "java/math/MutableBigInteger" "intLen" "I" := (slot_ne (C := "java/math/MutableBigInteger") (Or.inl (tw167 H)) (Or.inl (tw171 H)) (by decide) (t := .int) (t' := .int) (by decide) (by decide))
theorem sn21 (H : Cx Z a0 gA gK) : Jvm.RoadKit.slotOf Z "java/math/MutableBigInteger" "value" "[I" ≠ Jvm.RoadKit.slotOf Z "java/math/MutableBigInteger" "intLen" "I" := (slot_ne (C := "java/math/MutableBigInteger") (Or.inl (tw169 H)) (Or.inl (tw171 H)) (by decide) (t := (.array .int)) (t' := .int) (by decide) (by decide))
theorem sn22 (H : Cx Z a0 gA gK) : Jvm.RoadKit.slotOf Z "java/math/BigInteger" "mag" "[I" ≠ Jvm.RoadKit.slotOf Z "java/math/BigInteger" "bitLengthPlusOne" "I" := (slot_ne (C := "java/math/BigInteger") (Or.inr (tw145 H)) (Or.inl (tw215 H)) (by decide) (t := (.array .int)) (t' := .int) (by decide) (by decide))
theorem sn23 (H : Cx Z a0 gA gK) : Jvm.RoadKit.slotOf Z "java/math/BigInteger" "signum" "I" ≠ Jvm.RoadKit.slotOf Z "java/math/BigInteger" "bitLengthPlusOne" "I" := (slot_ne (C := "java/math/BigInteger") (Or.inr (tw142 H)) (Or.inl (tw215 H)) (by decide) (t := .int) (t' := .int) (by decide) (by decide))
theorem sn24 (H : Cx Z a0 gA gK) : Jvm.RoadKit.slotOf Z "java/time/Duration" "nanos" "I" ≠ Jvm.RoadKit.slotOf Z "java/time/Duration" "seconds" "J" := (slot_ne (C := "java/time/Duration") (Or.inr (tw38 H)) (Or.inr (tw31 H)) (by decide) (t := .int) (t' := .long) (by decide) (by decide))
theorem sn25 (H : Cx Z a0 gA gK) : Jvm.RoadKit.slotOf Z "java/time/Duration" "seconds" "J" ≠ Jvm.RoadKit.slotOf Z "java/time/Duration" "nanos" "I" := (slot_ne (C := "java/time/Duration") (Or.inr (tw31 H)) (Or.inr (tw38 H)) (by decide) (t := .long) (t' := .int) (by decide) (by decide))
theorem m1_init (H : Cx Z a0 gA gK) (x0 : Addr) (h0 : Heap) (hO : Old Z n0 h0) (E_x0 : Exa Z h0 x0 "com/example/letters_between_tasks/lettersbetweentasks/service/Backoff") (F_x0_next : Fld Z h0 x0 "com/example/letters_between_tasks/lettersbetweentasks/service/Backoff" "next" "Ljava/time/Duration;" .null) (g_x0 : n0 ≤ x0) : Con l Z [] n0 N0 prog_13_method_1_code 1 none (Rm 1 0 0 12) #[(.ref x0)] h0 [x0] (fun v h V' => v = none ∧ Exa Z h x0 "com/example/letters_between_tasks/lettersbetweentasks/service/Backoff" ∧ Fld Z h x0 "com/example/letters_between_tasks/lettersbetweentasks/service/Backoff" "next" "Ljava/time/Duration;" (.ref (gA 0))) [] := by
  refine Con.of (a0 := a0) (L0 := #[.val (.ref x0)]) pf0 (fun _ => rfl) (allS g_x0 all0) hO EW.nil ?_
  intro p e s m below meth c S0 hnm hsf W
  replace W := W.aloadN e13_1_0 rfl rfl rfl
  replace W := W.initO (Wd := 0) e13_1_1 (tw6 H) (tw7 H) (tw8 H) rfl rfl (by decide) (by decide) rfl
  replace W := W.aloadN e13_1_4 rfl rfl rfl
  replace W := W.gets e13_1_5 (tw9 H) (gf28 H) rfl
  obtain ⟨h1, W1, w1, SF1⟩ := W.putf (pc' := 11) (ty := (.object "java/time/Duration")) e13_1_8 (tw11 H) Via.refl F_x0_next E_x0 (Or.inl (tw12 H)) (tw1 H) (by decide) rfl rfl safe0 (Or.inl (List.mem_of_getElem? (i := 0) rfl)) rfl
  clear W
  have z1 : h0.size ≤ h1.size := Nat.le_of_eq w1.size.symm
  have f1 := F_x0_next.same w1
  have e2 := (E_x0.wr w1)
  exact W1.vret e13_1_11 rfl (by decide) (by decide) (fun V' cv => ⟨rfl, e2, f1⟩)
theorem m5_valueOf (H : Cx Z a0 gA gK) (u0 : Int64) (s0 : Int32) (h0 : Heap) (hO : Old Z n0 h0) (p0 : (Jvm.Free.XT.cmpL u0 (0 : Int64)) = (0 : Int32)) (p1 : (Jvm.Free.XT.cmpL u0 (11 : Int64)) = (-1 : Int32)) (p2 : (u0.toInt32) = s0) (p3 : s0 = (0 : Int32)) : Con l Z [] n0 N1 jdk_17_method_21_code 2 (some (.object "java/math/BigDecimal")) (Rm 0 0 0 0) #[(.long u0)] h0 [] (fun v h V' => v = some (.ref (gA 10)) ∧ h0 = h) [] := by
  refine Con.of (a0 := a0) (L0 := #[.val (.long u0), .second]) pf1 (fun _ => rfl) all0 hO EW.nil ?_
  intro p e s m below meth c S0 hnm hsf W
  replace W := W.lloadN d17_21_0 rfl rfl
  replace W := W.lconst (v := (0 : Int64)) d17_21_1 rfl rfl
  replace W := W.lcmp (v := (0 : Int32)) d17_21_2 p0 rfl
  replace W := W.ifF (pc' := 6) d17_21_3 (flt (by decide : ¬ ((0 : Int32) < (0 : Int32)))).1 rfl
  replace W := W.lloadN d17_21_6 rfl rfl
  replace W := W.gets d17_21_7 (tw36 H) (gf33 H) rfl
  have v1 := (gf38 H).ext W.old.2
  replace W := W.alen d17_21_10 v1 rfl
  replace W := W.i2l (v := (11 : Int64)) d17_21_11 (by decide) rfl
  replace W := W.lcmp (v := (-1 : Int32)) d17_21_12 p1 rfl
  replace W := W.ifF (pc' := 16) d17_21_13 (tlt (by decide : (-1 : Int32) < (0 : Int32))).2.1 rfl
  replace W := W.gets d17_21_16 (tw36 H) (gf33 H) rfl
  replace W := W.lloadN d17_21_19 rfl rfl
  replace W := W.l2i (v := s0) d17_21_20 p2 rfl
  subst p3
  replace W := W.aaload (w := (.ref (gA 10))) d17_21_21 v1 rfl ⟨by decide, by decide⟩ rfl rfl
  exact W.aret (t := (.object "java/math/BigDecimal")) d17_21_22 rfl rfl rfl rfl (by decide) (by decide) (fun V' cv => ⟨rfl, rfl⟩)
theorem m8_init (H : Cx Z a0 gA gK) (x0 : Addr) (h0 : Heap) (hO : Old Z n0 h0)  : Con l Z [] n0 N2 jdk_18_method_1_code 1 none (Rm 1 0 0 12) #[(.ref x0)] h0 [] (fun v h V' => v = none ∧ h0 = h) [] := by
  refine Con.of (a0 := a0) (L0 := #[.val (.ref x0)]) pf2 (fun _ => rfl) all0 hO EW.nil ?_
  intro p e s m below meth c S0 hnm hsf W
  replace W := W.aloadN d18_1_0 rfl rfl rfl
  replace W := W.initO (Wd := 0) d18_1_1 (tw55 H) (tw7 H) (tw8 H) rfl rfl (by decide) (by decide) rfl
  exact W.vret d18_1_4 rfl (by decide) (by decide) (fun V' cv => ⟨rfl, rfl⟩)
theorem m7_init (H : Cx Z a0 gA gK) (x0 : Addr) (u0 : Int64) (u1 u2 : Int32) (u3 : Int64) (u4 u5 : Int32) (h0 : Heap) (hO : Old Z n0 h0) (E_x0 : Exa Z h0 x0 "java/math/BigDecimal") (F_x0_intCompact : Fld Z h0 x0 "java/math/BigDecimal" "intCompact" "J" (.long u3)) (F_x0_intVal : Fld Z h0 x0 "java/math/BigDecimal" "intVal" "Ljava/math/BigInteger;" .null) (F_x0_precision : Fld Z h0 x0 "java/math/BigDecimal" "precision" "I" (.int u4)) (F_x0_scale : Fld Z h0 x0 "java/math/BigDecimal" "scale" "I" (.int u5)) (g_x0 : n0 ≤ x0) : Con l Z [] n0 N3 jdk_17_method_1_code 6 none (Rm 2 0 0 24) #[(.ref x0), .null, (.long u0), (.int u1), (.int u2)] h0 [x0] (fun v h V' => v = none ∧ Exa Z h x0 "java/math/BigDecimal" ∧ Fld Z h x0 "java/math/BigDecimal" "intCompact" "J" (.long u0) ∧ Fld Z h x0 "java/math/BigDecimal" "intVal" "Ljava/math/BigInteger;" .null ∧ Fld Z h x0 "java/math/BigDecimal" "precision" "I" (.int u2) ∧ Fld Z h x0 "java/math/BigDecimal" "scale" "I" (.int u1)) [] := by
  refine Con.of (a0 := a0) (L0 := #[.val (.ref x0), .val .null, .val (.long u0), .second, .val (.int u1), .val (.int u2)]) pf3 (fun _ => rfl) (allS g_x0 all0) hO EW.nil ?_
  intro p e s m below meth c S0 hnm hsf W
  replace W := W.aloadN d17_1_0 rfl rfl rfl
  obtain ⟨V1, h1, r1, W1, K1, hQ1, SF1⟩ := W.callI (pc' := 4) (argsL := []) (rest := []) (Wd := 0) (cells' := 0) (slots' := 0) (a := x0) (y := N2) d17_1_1 (m8_init H x0 h0 W.old) rfl (tw49 H) (tw50 H) (tw53 H) (tw54 H) (by decide) (lenOf pd0 rfl) rfl rfl (by decide) (by decide) rfl sf0 all0
  clear W
  obtain ⟨_, rfl, hs1⟩ := hQ1
  subst hs1
  replace W1 := W1.cast (st' := []) rfl
  replace W1 := W1.aloadN d17_1_4 rfl rfl rfl
  replace W1 := W1.iload d17_1_5 rfl rfl
  obtain ⟨h2, W2, w2, SF2⟩ := W1.putf (pc' := 10) (ty := .int) d17_1_7 (tw56 H) Via.refl F_x0_scale E_x0 (Or.inr ⟨(tw57 H), rfl, hnm⟩) (tw43 H) (by decide) rfl rfl safe0 (Or.inl (List.mem_of_getElem? (i := 0) rfl)) rfl
  clear W1
  have z2 : h0.size ≤ h2.size := Nat.le_of_eq w2.size.symm
  have f2 := F_x0_scale.same w2
  replace W2 := W2.aloadN d17_1_10 rfl rfl rfl
  replace W2 := W2.iload d17_1_11 rfl rfl
  have f3 := (F_x0_precision.other w2 (Or.inr (sn0 H)))
  have e4 := (E_x0.wr w2)
  obtain ⟨h5, W5, w5, SF5⟩ := W2.putf (pc' := 16) (ty := .int) d17_1_13 (tw58 H) Via.refl f3 e4 (Or.inl (tw59 H)) (tw43 H) (by decide) rfl rfl safe0 (Or.inl (List.mem_of_getElem? (i := 0) rfl)) rfl
  clear W2
  have z5 : h2.size ≤ h5.size := Nat.le_of_eq w5.size.symm
  have f5 := f3.same w5
  replace W5 := W5.aloadN d17_1_16 rfl rfl rfl
  replace W5 := W5.lloadN d17_1_17 rfl rfl
  have f6 := ((F_x0_intCompact.other w2 (Or.inr (sn1 H))).other w5 (Or.inr (sn2 H)))
  have e7 := (e4.wr w5)
  obtain ⟨h8, W8, w8, SF8⟩ := W5.putf (pc' := 21) (ty := .long) d17_1_18 (tw60 H) Via.refl f6 e7 (Or.inr ⟨(tw61 H), rfl, hnm⟩) (tw43 H) (by decide) rfl rfl safe0 (Or.inl (List.mem_of_getElem? (i := 0) rfl)) rfl
  clear W5
  have z8 : h5.size ≤ h8.size := Nat.le_of_eq w8.size.symm
  have f8 := f6.same w8
  replace W8 := W8.aloadN d17_1_21 rfl rfl rfl
  replace W8 := W8.aloadN d17_1_22 rfl rfl rfl
  have f9 := (((F_x0_intVal.other w2 (Or.inr (sn3 H))).other w5 (Or.inr (sn4 H))).other w8 (Or.inr (sn5 H)))
  have e10 := (e7.wr w8)
  obtain ⟨h11, W11, w11, SF11⟩ := W8.putf (pc' := 26) (ty := (.object "java/math/BigInteger")) d17_1_23 (tw62 H) Via.refl f9 e10 (Or.inr ⟨(tw63 H), rfl, hnm⟩) (tw43 H) (by decide) rfl rfl safe0 (Or.inl (List.mem_of_getElem? (i := 0) rfl)) rfl
  clear W8
  have z11 : h8.size ≤ h11.size := Nat.le_of_eq w11.size.symm
  have f11 := f9.same w11
  have e12 := (e10.wr w11)
  have f13 := (f8.other w11 (Or.inr (sn6 H)))
  have f14 := ((f5.other w8 (Or.inr (sn7 H))).other w11 (Or.inr (sn8 H)))
  have f15 := (((f2.other w5 (Or.inr (sn9 H))).other w8 (Or.inr (sn10 H))).other w11 (Or.inr (sn11 H)))
  exact W11.vret d17_1_26 rfl (by decide) (by decide) (fun V' cv => ⟨rfl, e12, f13, f11, f14, f15⟩)
theorem m6_valueOf (H : Cx Z a0 gA gK) (u0 : Int64) (u1 : Int32) (h0 : Heap) (hO : Old Z n0 h0) (p0 : ¬ (u1 = (0 : Int32))) (p1 : (Jvm.Free.XT.cmpL u0 (0 : Int64)) = (1 : Int32)) (p2 : (Jvm.Free.XT.cmpL u0 (-9223372036854775808 : Int64)) = (1 : Int32)) : Con l Z [] n0 N4 jdk_17_method_20_code 3 (some (.object "java/math/BigDecimal")) (Rm 3 1 5 42) #[(.long u0), (.int u1)] h0 [] (fun v h V' => ∃ (r0 : Addr), v = some (.ref r0) ∧ Exa Z h r0 "java/math/BigDecimal" ∧ Fld Z h r0 "java/math/BigDecimal" "intCompact" "J" (.long u0) ∧ Fld Z h r0 "java/math/BigDecimal" "intVal" "Ljava/math/BigInteger;" .null ∧ Fld Z h r0 "java/math/BigDecimal" "precision" "I" (.int (0 : Int32)) ∧ Fld Z h r0 "java/math/BigDecimal" "scale" "I" (.int u1) ∧ h0.size ≤ r0) [] := by
  refine Con.of (a0 := a0) (L0 := #[.val (.long u0), .second, .val (.int u1)]) pf4 (fun _ => rfl) all0 hO EW.nil ?_
  intro p e s m below meth c S0 hnm hsf W
  replace W := W.iloadN d17_20_0 rfl rfl
  replace W := W.ifT (pc' := 9) d17_20_1 (feq p0).2 (by decide) (by decide)
  replace W := W.lloadN d17_20_9 rfl rfl
  replace W := W.lconst (v := (0 : Int64)) d17_20_10 rfl rfl
  replace W := W.lcmp (v := (1 : Int32)) d17_20_11 p1 rfl
  replace W := W.ifT (pc' := 20) d17_20_12 (feq (by decide : ¬ ((1 : Int32) = (0 : Int32)))).2 (by decide) (by decide)
  obtain ⟨h1, a1, W1, E1, g1, ⟨A1, D1, U1⟩, sf1, SF1⟩ := W.new (pc' := 23) (cells' := 1) (slots' := 5) d17_20_20 (tw42 H) (tw43 H) (tw34 H) rfl rfl rfl (by decide) (by decide)
  clear W
  rw [← g1] at A1 D1 U1
  have z1 : h0.size ≤ h1.size := E1.1
  replace W1 := W1.dup d17_20_23 rfl rfl
  replace W1 := W1.lloadN d17_20_24 rfl rfl
  replace W1 := W1.ldc2 d17_20_25 (tw44 H) rfl
  replace W1 := W1.lcmp (v := (1 : Int32)) d17_20_28 p2 rfl
  replace W1 := W1.ifT (pc' := 38) d17_20_29 (feq (by decide : ¬ ((1 : Int32) = (0 : Int32)))).2 (by decide) (by decide)
  replace W1 := W1.aconstNull d17_20_38 rfl
  replace W1 := W1.lloadN d17_20_39 rfl rfl
  replace W1 := W1.iloadN d17_20_40 rfl rfl
  replace W1 := W1.iconst (v := (0 : Int32)) d17_20_41 rfl rfl
  obtain ⟨V2, h2, r2, W2, K2, hQ2, SF2⟩ := W1.callI (pc' := 45) (argsL := [.null, (.long u0), (.int u1), (.int (0 : Int32))]) (rest := [(.ref a1)]) (Wd := 1) (cells' := 1) (slots' := 5) (a := a1) (y := N3) d17_20_42 (m7_init H a1 u0 u1 (0 : Int32) (0 : Int64) (0 : Int32) (0 : Int32) h1 W1.old A1 (D1 (Or.inr (tw61 H)) (ty := .long) (by decide) : Fld Z h1 a1 "java/math/BigDecimal" "intCompact" "J" (.long (0 : Int64))) (D1 (Or.inr (tw63 H)) (ty := (.object "java/math/BigInteger")) (by decide) : Fld Z h1 a1 "java/math/BigDecimal" "intVal" "Ljava/math/BigInteger;" .null) (D1 (Or.inl (tw59 H)) (ty := .int) (by decide) : Fld Z h1 a1 "java/math/BigDecimal" "precision" "I" (.int (0 : Int32))) (D1 (Or.inr (tw57 H)) (ty := .int) (by decide) : Fld Z h1 a1 "java/math/BigDecimal" "scale" "I" (.int (0 : Int32))) (Nat.le_trans W1.1.2.2.2.2.2.2.2.1 (Nat.le_of_eq g1.symm))) rfl (tw45 H) (tw46 H) (tw34 H) (tw48 H) (by decide) (lenOf pd2 rfl) rfl rfl (by decide) (by decide) rfl (sfS safe0 sf0) (allS (Or.inr (Nat.le_of_eq g1.symm)) all0)
  clear W1
  obtain ⟨_, rfl, q2_1, q2_2, q2_3, q2_4, q2_5⟩ := hQ2
  have z2 : h1.size ≤ h2.size := K2.1
  replace W2 := W2.cast (st' := [(.ref a1)]) rfl
  exact W2.aret (t := (.object "java/math/BigDecimal")) d17_20_45 rfl rfl rfl rfl (by decide) (by decide) (fun V' cv => ⟨a1, rfl, q2_1, q2_2, q2_3, q2_4, q2_5, (Nat.le_of_eq g1.symm)⟩)
theorem m11_checkScale (H : Cx Z a0 gA gK) (u0 u1 : Int64) (s0 : Int32) (s1 : Int64) (h0 : Heap) (hO : Old Z n0 h0) (p0 : (u1.toInt32) = s0) (p1 : (s0.toInt64) = s1) (p2 : (Jvm.Free.XT.cmpL s1 u1) = (0 : Int32)) : Con l Z [] n0 N5 jdk_17_method_113_code 5 (some .int) (Rm 0 0 0 0) #[(.long u0), (.long u1)] h0 [] (fun v h V' => v = some (.int s0) ∧ h0 = h) [] := by
  refine Con.of (a0 := a0) (L0 := #[.val (.long u0), .second, .val (.long u1), .second, .unset]) pf5 (fun _ => rfl) all0 hO EW.nil ?_
  intro p e s m below meth c S0 hnm hsf W
  replace W := W.lloadN d17_113_0 rfl rfl
  replace W := W.l2i (v := s0) d17_113_1 p0 rfl
  replace W := W.istore (L' := #[.val (.long u0), .second, .val (.long u1), .second, .val (.int s0)]) d17_113_2 rfl rfl
  replace W := W.iload d17_113_4 rfl rfl
  replace W := W.i2l (v := s1) d17_113_6 p1 rfl
  replace W := W.lloadN d17_113_7 rfl rfl
  replace W := W.lcmp (v := (0 : Int32)) d17_113_8 p2 rfl
  replace W := W.ifT (pc' := 59) d17_113_9 (teq (by decide : (0 : Int32) = (0 : Int32))).1 (by decide) (by decide)
  replace W := W.iload d17_113_59 rfl rfl
  exact W.iret (t := .int) d17_113_61 rfl (by simp) rfl (by decide) (by decide) (fun V' cv => ⟨rfl, rfl⟩)
theorem m12_longMultiplyPowerTen (H : Cx Z a0 gA gK) (u0 : Int64) (u1 : Int32) (h0 : Heap) (hO : Old Z n0 h0) (p0 : (Jvm.Free.XT.cmpL u0 (0 : Int64)) = (0 : Int32)) : Con l Z [] n0 N6 jdk_17_method_97_code 7 (some .long) (Rm 0 0 0 0) #[(.long u0), (.int u1)] h0 [] (fun v h V' => v = some (.long u0) ∧ h0 = h) [] := by
  refine Con.of (a0 := a0) (L0 := #[.val (.long u0), .second, .val (.int u1), .unset, .unset, .unset, .unset]) pf6 (fun _ => rfl) all0 hO EW.nil ?_
  intro p e s m below meth c S0 hnm hsf W
  replace W := W.lloadN d17_97_0 rfl rfl
  replace W := W.lconst (v := (0 : Int64)) d17_97_1 rfl rfl
  replace W := W.lcmp (v := (0 : Int32)) d17_97_2 p0 rfl
  replace W := W.ifT (pc' := 10) d17_97_3 (teq (by decide : (0 : Int32) = (0 : Int32))).1 (by decide) (by decide)
  replace W := W.lloadN d17_97_10 rfl rfl
  exact W.lret d17_97_11 rfl (by decide) (by decide) (fun V' cv => ⟨rfl, rfl⟩)
theorem m14_add (H : Cx Z a0 gA gK) (u0 u1 s0 s1 s2 s3 : Int64) (h0 : Heap) (hO : Old Z n0 h0) (p0 : (u0 + u1) = s0) (p1 : (s0 ^^^ u0) = s1) (p2 : (s0 ^^^ u1) = s2) (p3 : (s1 &&& s2) = s3) (p4 : (Jvm.Free.XT.cmpL s3 (0 : Int64)) = (0 : Int32)) : Con l Z [] n0 N7 jdk_17_method_132_code 6 (some .long) (Rm 0 0 0 0) #[(.long u0), (.long u1)] h0 [] (fun v h V' => v = some (.long s0) ∧ h0 = h) [] := by
  refine Con.of (a0 := a0) (L0 := #[.val (.long u0), .second, .val (.long u1), .second, .unset, .unset]) pf7 (fun _ => rfl) all0 hO EW.nil ?_
  intro p e s m below meth c S0 hnm hsf W
  replace W := W.lloadN d17_132_0 rfl rfl
  replace W := W.lloadN d17_132_1 rfl rfl
  replace W := W.ladd (v := s0) d17_132_2 p0 rfl
  replace W := W.lstore (L' := #[.val (.long u0), .second, .val (.long u1), .second, .val (.long s0), .second]) d17_132_3 rfl rfl
  replace W := W.lload d17_132_5 rfl rfl
  replace W := W.lloadN d17_132_7 rfl rfl
  replace W := W.lxor (v := s1) d17_132_8 p1 rfl
  replace W := W.lload d17_132_9 rfl rfl
  replace W := W.lloadN d17_132_11 rfl rfl
  replace W := W.lxor (v := s2) d17_132_12 p2 rfl
  replace W := W.land (v := s3) d17_132_13 p3 rfl
  replace W := W.lconst (v := (0 : Int64)) d17_132_14 rfl rfl
  replace W := W.lcmp (v := (0 : Int32)) d17_132_15 p4 rfl
  replace W := W.ifF (pc' := 19) d17_132_16 (flt (by decide : ¬ ((0 : Int32) < (0 : Int32)))).1 rfl
  replace W := W.lload d17_132_19 rfl rfl
  exact W.lret d17_132_21 rfl (by decide) (by decide) (fun V' cv => ⟨rfl, rfl⟩)
theorem m13_add (H : Cx Z a0 gA gK) (u0 u1 : Int64) (u2 : Int32) (s0 s1 s2 s3 : Int64) (h0 : Heap) (hO : Old Z n0 h0) (p0 : (u0 + u1) = s0) (p1 : (s0 ^^^ u0) = s1) (p2 : (s0 ^^^ u1) = s2) (p3 : (s1 &&& s2) = s3) (p4 : (Jvm.Free.XT.cmpL s3 (0 : Int64)) = (0 : Int32)) (p5 : (Jvm.Free.XT.cmpL s0 (-9223372036854775808 : Int64)) = (1 : Int32)) (p6 : ¬ (u2 = (0 : Int32))) (p7 : (Jvm.Free.XT.cmpL s0 (0 : Int64)) = (1 : Int32)) : Con l Z [] n0 N8 jdk_17_method_133_code 7 (some (.object "java/math/BigDecimal")) (Rm 4 1 5 56) #[(.long u0), (.long u1), (.int u2)] h0 [] (fun v h V' => ∃ (r0 : Addr), v = some (.ref r0) ∧ Exa Z h r0 "java/math/BigDecimal" ∧ Fld Z h r0 "java/math/BigDecimal" "intCompact" "J" (.long s0) ∧ Fld Z h r0 "java/math/BigDecimal" "intVal" "Ljava/math/BigInteger;" .null ∧ Fld Z h r0 "java/math/BigDecimal" "precision" "I" (.int (0 : Int32)) ∧ Fld Z h r0 "java/math/BigDecimal" "scale" "I" (.int u2) ∧ h0.size ≤ r0) [] := by
  refine Con.of (a0 := a0) (L0 := #[.val (.long u0), .second, .val (.long u1), .second, .val (.int u2), .unset, .unset]) pf8 (fun _ => rfl) all0 hO EW.nil ?_
  intro p e s m below meth c S0 hnm hsf W
  replace W := W.lloadN d17_133_0 rfl rfl
  replace W := W.lloadN d17_133_1 rfl rfl
  obtain ⟨V1, h1, r1, W1, K1, hQ1, SF1⟩ := W.callS (pc' := 5) (argsL := [(.long u0), (.long u1)]) (rest := []) (Wd := 0) (cells' := 0) (slots' := 0) (y := N7) d17_133_2 (m14_add H u0 u1 s0 s1 s2 s3 h0 W.old p0 p1 p2 p3 p4) (tw81 H) (tw82 H) (tw34 H) (tw83 H) (by decide) (lenOf pd6 rfl) rfl rfl (by decide) (by decide) rfl sf0 all0
  clear W
  obtain ⟨_, rfl, hs1⟩ := hQ1
  subst hs1
  replace W1 := W1.cast (st' := [(.long s0)]) rfl
  replace W1 := W1.lstore (L' := #[.val (.long u0), .second, .val (.long u1), .second, .val (.int u2), .val (.long s0), .second]) d17_133_5 rfl rfl
  replace W1 := W1.lload d17_133_7 rfl rfl
  replace W1 := W1.ldc2 d17_133_9 (tw44 H) rfl
  replace W1 := W1.lcmp (v := (1 : Int32)) d17_133_12 p5 rfl
  replace W1 := W1.ifF (pc' := 16) d17_133_13 (feq (by decide : ¬ ((1 : Int32) = (0 : Int32)))).1 rfl
  replace W1 := W1.lload d17_133_16 rfl rfl
  replace W1 := W1.iload d17_133_18 rfl rfl
  obtain ⟨V2, h2, r2, W2, K2, hQ2, SF2⟩ := W1.callS (pc' := 23) (argsL := [(.long s0), (.int u2)]) (rest := []) (Wd := 0) (cells' := 1) (slots' := 5) (y := N4) d17_133_20 (m6_valueOf H s0 u2 h0 W1.old p6 p7 p5) (tw84 H) (tw40 H) (tw34 H) (tw41 H) (by decide) (lenOf pd3 rfl) rfl rfl (by decide) (by decide) rfl sf0 all0
  clear W1
  obtain ⟨_, r02, rfl, q2_1, q2_2, q2_3, q2_4, q2_5, q2_6⟩ := hQ2
  have z2 : h0.size ≤ h2.size := K2.1
  replace W2 := W2.cast (st' := [(.ref r02)]) rfl
  exact W2.aret (t := (.object "java/math/BigDecimal")) d17_133_23 rfl rfl rfl rfl (by decide) (by decide) (fun V' cv => ⟨r02, rfl, q2_1, q2_2, q2_3, q2_4, q2_5, q2_6⟩)
theorem m10_add (H : Cx Z a0 gA gK) (u0 : Int64) (u1 : Int32) (u2 : Int64) (u3 : Int32) (s0 s1 s2 s3 : Int64) (s4 : Int32) (s5 s6 s7 s8 s9 : Int64) (h0 : Heap) (hO : Old Z n0 h0) (p0 : (u1.toInt64) = s0) (p1 : (u3.toInt64) = s1) (p2 : (s0 - s1) = s2) (p3 : (Jvm.Free.XT.cmpL s2 (0 : Int64)) = (-1 : Int32)) (p4 : (-s2) = s3) (p5 : (s3.toInt32) = s4) (p6 : (s4.toInt64) = s5) (p7 : (Jvm.Free.XT.cmpL s5 s3) = (0 : Int32)) (p8 : (Jvm.Free.XT.cmpL u0 (0 : Int64)) = (0 : Int32)) (p9 : (Jvm.Free.XT.cmpL u0 (-9223372036854775808 : Int64)) = (1 : Int32)) (p10 : (u0 + u2) = s6) (p11 : (s6 ^^^ u0) = s7) (p12 : (s6 ^^^ u2) = s8) (p13 : (s7 &&& s8) = s9) (p14 : (Jvm.Free.XT.cmpL s9 (0 : Int64)) = (0 : Int32)) (p15 : (Jvm.Free.XT.cmpL s6 (-9223372036854775808 : Int64)) = (1 : Int32)) (p16 : ¬ (u3 = (0 : Int32))) (p17 : (Jvm.Free.XT.cmpL s6 (0 : Int64)) = (1 : Int32)) : Con l Z [] n0 N9 jdk_17_method_134_code 12 (some (.object "java/math/BigDecimal")) (Rm 5 1 5 74) #[(.long u0), (.int u1), (.long u2), (.int u3)] h0 [] (fun v h V' => ∃ (r0 : Addr), v = some (.ref r0) ∧ Exa Z h r0 "java/math/BigDecimal" ∧ Fld Z h r0 "java/math/BigDecimal" "intCompact" "J" (.long s6) ∧ Fld Z h r0 "java/math/BigDecimal" "intVal" "Ljava/math/BigInteger;" .null ∧ Fld Z h r0 "java/math/BigDecimal" "precision" "I" (.int (0 : Int32)) ∧ Fld Z h r0 "java/math/BigDecimal" "scale" "I" (.int u3) ∧ h0.size ≤ r0) [] := by
  refine Con.of (a0 := a0) (L0 := #[.val (.long u0), .second, .val (.int u1), .val (.long u2), .second, .val (.int u3), .unset, .unset, .unset, .unset, .unset, .unset]) pf9 (fun _ => rfl) all0 hO EW.nil ?_
  intro p e s m below meth c S0 hnm hsf W
  replace W := W.iloadN d17_134_0 rfl rfl
  replace W := W.i2l (v := s0) d17_134_1 p0 rfl
  replace W := W.iload d17_134_2 rfl rfl
  replace W := W.i2l (v := s1) d17_134_4 p1 rfl
  replace W := W.lsub (v := s2) d17_134_5 p2 rfl
  replace W := W.lstore (L' := #[.val (.long u0), .second, .val (.int u1), .val (.long u2), .second, .val (.int u3), .val (.long s2), .second, .unset, .unset, .unset, .unset]) d17_134_6 rfl rfl
  replace W := W.lload d17_134_8 rfl rfl
  replace W := W.lconst (v := (0 : Int64)) d17_134_10 rfl rfl
  replace W := W.lcmp (v := (-1 : Int32)) d17_134_11 p3 rfl
  replace W := W.ifT (pc' := 22) d17_134_12 (feq (by decide : ¬ ((-1 : Int32) = (0 : Int32)))).2 (by decide) (by decide)
  replace W := W.lload d17_134_22 rfl rfl
  replace W := W.lconst (v := (0 : Int64)) d17_134_24 rfl rfl
  replace W := W.lcmp (v := (-1 : Int32)) d17_134_25 p3 rfl
  replace W := W.ifF (pc' := 29) d17_134_26 (tlt (by decide : (-1 : Int32) < (0 : Int32))).2.1 rfl
  replace W := W.lloadN d17_134_29 rfl rfl
  replace W := W.lload d17_134_30 rfl rfl
  replace W := W.lneg (v := s3) d17_134_32 p4 rfl
  obtain ⟨V1, h1, r1, W1, K1, hQ1, SF1⟩ := W.callS (pc' := 36) (argsL := [(.long u0), (.long s3)]) (rest := []) (Wd := 0) (cells' := 0) (slots' := 0) (y := N5) d17_134_33 (m11_checkScale H u0 s3 s4 s5 h0 W.old p5 p6 p7) (tw72 H) (tw73 H) (tw34 H) (tw74 H) (by decide) (lenOf pd4 rfl) rfl rfl (by decide) (by decide) rfl sf0 all0
  clear W
  obtain ⟨_, rfl, hs1⟩ := hQ1
  subst hs1
  replace W1 := W1.cast (st' := [(.int s4)]) rfl
  replace W1 := W1.istore (L' := #[.val (.long u0), .second, .val (.int u1), .val (.long u2), .second, .val (.int u3), .val (.long s2), .second, .val (.int s4), .unset, .unset, .unset]) d17_134_36 rfl rfl
  replace W1 := W1.lloadN d17_134_38 rfl rfl
  replace W1 := W1.iload d17_134_39 rfl rfl
  obtain ⟨V2, h2, r2, W2, K2, hQ2, SF2⟩ := W1.callS (pc' := 44) (argsL := [(.long u0), (.int s4)]) (rest := []) (Wd := 0) (cells' := 0) (slots' := 0) (y := N6) d17_134_41 (m12_longMultiplyPowerTen H u0 s4 h0 W1.old p8) (tw75 H) (tw76 H) (tw34 H) (tw77 H) (by decide) (lenOf pd5 rfl) rfl rfl (by decide) (by decide) rfl sf0 all0
  clear W1
  obtain ⟨_, rfl, hs2⟩ := hQ2
  subst hs2
  replace W2 := W2.cast (st' := [(.long u0)]) rfl
  replace W2 := W2.lstore (L' := #[.val (.long u0), .second, .val (.int u1), .val (.long u2), .second, .val (.int u3), .val (.long s2), .second, .val (.int s4), .val (.long u0), .second, .unset]) d17_134_44 rfl rfl
  replace W2 := W2.lload d17_134_46 rfl rfl
  replace W2 := W2.ldc2 d17_134_48 (tw44 H) rfl
  replace W2 := W2.lcmp (v := (1 : Int32)) d17_134_51 p9 rfl
  replace W2 := W2.ifF (pc' := 55) d17_134_52 (feq (by decide : ¬ ((1 : Int32) = (0 : Int32)))).1 rfl
  replace W2 := W2.lload d17_134_55 rfl rfl
  replace W2 := W2.lloadN d17_134_57 rfl rfl
  replace W2 := W2.iload d17_134_58 rfl rfl
  obtain ⟨V3, h3, r3, W3, K3, hQ3, SF3⟩ := W2.callS (pc' := 63) (argsL := [(.long u0), (.long u2), (.int u3)]) (rest := []) (Wd := 0) (cells' := 1) (slots' := 5) (y := N8) d17_134_60 (m13_add H u0 u2 u3 s6 s7 s8 s9 h0 W2.old p10 p11 p12 p13 p14 p15 p16 p17) (tw78 H) (tw79 H) (tw34 H) (tw80 H) (by decide) (lenOf pd7 rfl) rfl rfl (by decide) (by decide) rfl sf0 all0
  clear W2
  obtain ⟨_, r03, rfl, q3_1, q3_2, q3_3, q3_4, q3_5, q3_6⟩ := hQ3
  have z3 : h0.size ≤ h3.size := K3.1
  replace W3 := W3.cast (st' := [(.ref r03)]) rfl
  exact W3.aret (t := (.object "java/math/BigDecimal")) d17_134_63 rfl rfl rfl rfl (by decide) (by decide) (fun V' cv => ⟨r03, rfl, q3_1, q3_2, q3_3, q3_4, q3_5, q3_6⟩)
theorem m9_add (H : Cx Z a0 gA gK) (x0 : Addr) (u0 : Int64) (u2 : Int32) (s0 s1 s2 : Int64) (s3 : Int32) (s4 s5 s6 s7 s8 : Int64) (h0 : Heap) (hO : Old Z n0 h0) (F_x0_intCompact : Fld Z h0 x0 "java/math/BigDecimal" "intCompact" "J" (.long u0)) (F_x0_scale : Fld Z h0 x0 "java/math/BigDecimal" "scale" "I" (.int u2)) (p0 : (Jvm.Free.XT.cmpL u0 (-9223372036854775808 : Int64)) = (1 : Int32)) (p1 : (u2.toInt64) = s0) (p2 : ((0 : Int64) - s0) = s1) (p3 : (-s1) = s2) (p4 : (s2.toInt32) = s3) (p5 : (s3.toInt64) = s4) (p6 : ((0 : Int64) + u0) = s5) (p7 : (s5 ^^^ (0 : Int64)) = s6) (p8 : (s5 ^^^ u0) = s7) (p9 : (s6 &&& s7) = s8) (p10 : (Jvm.Free.XT.cmpL s1 (0 : Int64)) = (-1 : Int32)) (p11 : (Jvm.Free.XT.cmpL s4 s2) = (0 : Int32)) (p12 : (Jvm.Free.XT.cmpL s8 (0 : Int64)) = (0 : Int32)) (p13 : (Jvm.Free.XT.cmpL s5 (-9223372036854775808 : Int64)) = (1 : Int32)) (p14 : ¬ (u2 = (0 : Int32))) (p15 : (Jvm.Free.XT.cmpL s5 (0 : Int64)) = (1 : Int32)) : Con l Z [] n0 N10 jdk_17_method_26_code 2 (some (.object "java/math/BigDecimal")) (Rm 6 1 5 97) #[(.ref (gA 10)), (.ref x0)] h0 [] (fun v h V' => ∃ (r0 : Addr), v = some (.ref r0) ∧ Exa Z h r0 "java/math/BigDecimal" ∧ Fld Z h r0 "java/math/BigDecimal" "intCompact" "J" (.long s5) ∧ Fld Z h r0 "java/math/BigDecimal" "intVal" "Ljava/math/BigInteger;" .null ∧ Fld Z h r0 "java/math/BigDecimal" "precision" "I" (.int (0 : Int32)) ∧ Fld Z h r0 "java/math/BigDecimal" "scale" "I" (.int u2) ∧ h0.size ≤ r0) [] := by
  refine Con.of (a0 := a0) (L0 := #[.val (.ref (gA 10)), .val (.ref x0)]) pf10 (fun _ => rfl) all0 hO EW.nil ?_
  intro p e s m below meth c S0 hnm hsf W
  replace W := W.aloadN d17_26_0 rfl rfl rfl
  have f1 := (gf12 H).ext W.old.2
  replace W := W.getf d17_26_1 (tw60 H) Via.refl f1 rfl
  replace W := W.ldc2 d17_26_4 (tw44 H) rfl
  replace W := W.lcmp (v := (1 : Int32)) d17_26_7 (by decide) rfl
  replace W := W.ifF (pc' := 11) d17_26_8 (feq (by decide : ¬ ((1 : Int32) = (0 : Int32)))).1 rfl
  replace W := W.aloadN d17_26_11 rfl rfl rfl
  replace W := W.getf d17_26_12 (tw60 H) Via.refl F_x0_intCompact rfl
  replace W := W.ldc2 d17_26_15 (tw44 H) rfl
  replace W := W.lcmp (v := (1 : Int32)) d17_26_18 p0 rfl
  replace W := W.ifF (pc' := 22) d17_26_19 (feq (by decide : ¬ ((1 : Int32) = (0 : Int32)))).1 rfl
  replace W := W.aloadN d17_26_22 rfl rfl rfl
  replace W := W.getf d17_26_23 (tw60 H) Via.refl f1 rfl
  replace W := W.aloadN d17_26_26 rfl rfl rfl
  have f2 := (gf13 H).ext W.old.2
  replace W := W.getf d17_26_27 (tw56 H) Via.refl f2 rfl
  replace W := W.aloadN d17_26_30 rfl rfl rfl
  replace W := W.getf d17_26_31 (tw60 H) Via.refl F_x0_intCompact rfl
  replace W := W.aloadN d17_26_34 rfl rfl rfl
  replace W := W.getf d17_26_35 (tw56 H) Via.refl F_x0_scale rfl
  obtain ⟨V3, h3, r3, W3, K3, hQ3, SF3⟩ := W.callS (pc' := 41) (argsL := [(.long (0 : Int64)), (.int (0 : Int32)), (.long u0), (.int u2)]) (rest := []) (Wd := 0) (cells' := 1) (slots' := 5) (y := N9) d17_26_38 (m10_add H (0 : Int64) (0 : Int32) u0 u2 (0 : Int64) s0 s1 s2 s3 s4 s5 s6 s7 s8 h0 W.old (by decide) p1 p2 p10 p3 p4 p5 p11 (by decide) (by decide) p6 p7 p8 p9 p12 p13 p14 p15) (tw69 H) (tw70 H) (tw34 H) (tw71 H) (by decide) (lenOf pd8 rfl) rfl rfl (by decide) (by decide) rfl sf0 all0
  clear W
  obtain ⟨_, r03, rfl, q3_1, q3_2, q3_3, q3_4, q3_5, q3_6⟩ := hQ3
  have z3 : h0.size ≤ h3.size := K3.1
  replace W3 := W3.cast (st' := [(.ref r03)]) rfl
  exact W3.aret (t := (.object "java/math/BigDecimal")) d17_26_41 rfl rfl rfl rfl (by decide) (by decide) (fun V' cv => ⟨r03, rfl, q3_1, q3_2, q3_3, q3_4, q3_5, q3_6⟩)
theorem m4_toBigDecimalSeconds (H : Cx Z a0 gA gK)  (h0 : Heap) (hO : Old Z n0 h0)  : Con l Z [] n0 N11 jdk_2316_method_47_code 1 (some (.object "java/math/BigDecimal")) (Rm 7 2 10 110) #[(.ref (gA 0))] h0 [] (fun v h V' => ∃ (r0 : Addr), v = some (.ref r0) ∧ Exa Z h r0 "java/math/BigDecimal" ∧ Fld Z h r0 "java/math/BigDecimal" "intCompact" "J" (.long (500000000 : Int64)) ∧ Fld Z h r0 "java/math/BigDecimal" "intVal" "Ljava/math/BigInteger;" .null ∧ Fld Z h r0 "java/math/BigDecimal" "precision" "I" (.int (0 : Int32)) ∧ Fld Z h r0 "java/math/BigDecimal" "scale" "I" (.int (9 : Int32)) ∧ h0.size ≤ r0) [] := by
  refine Con.of (a0 := a0) (L0 := #[.val (.ref (gA 0))]) pf11 (fun _ => rfl) all0 hO EW.nil ?_
  intro p e s m below meth c S0 hnm hsf W
  replace W := W.aloadN d2316_47_0 rfl rfl rfl
  have f1 := (gf9 H).ext W.old.2
  replace W := W.getf d2316_47_1 (tw30 H) Via.refl f1 rfl
  obtain ⟨V2, h2, r2, W2, K2, hQ2, SF2⟩ := W.callS (pc' := 7) (argsL := [(.long (0 : Int64))]) (rest := []) (Wd := 0) (cells' := 0) (slots' := 0) (y := N1) d2316_47_4 (m5_valueOf H (0 : Int64) (0 : Int32) h0 W.old (by decide) (by decide) (by decide) (by decide)) (tw32 H) (tw33 H) (tw34 H) (tw35 H) (by decide) (lenOf pd1 rfl) rfl rfl (by decide) (by decide) rfl sf0 all0
  clear W
  obtain ⟨_, rfl, hs2⟩ := hQ2
  subst hs2
  replace W2 := W2.cast (st' := [(.ref (gA 10))]) rfl
  replace W2 := W2.aloadN d2316_47_7 rfl rfl rfl
  have f3 := (gf8 H).ext W2.old.2
  replace W2 := W2.getf d2316_47_8 (tw37 H) Via.refl f3 rfl
  replace W2 := W2.i2l (v := (500000000 : Int64)) d2316_47_11 (by decide) rfl
  replace W2 := W2.bipush (v := (9 : Int32)) d2316_47_12 rfl rfl
  obtain ⟨V4, h4, r4, W4, K4, hQ4, SF4⟩ := W2.callS (pc' := 17) (argsL := [(.long (500000000 : Int64)), (.int (9 : Int32))]) (rest := [(.ref (gA 10))]) (Wd := 1) (cells' := 1) (slots' := 5) (y := N4) d2316_47_14 (m6_valueOf H (500000000 : Int64) (9 : Int32) h0 W2.old (by decide) (by decide) (by decide)) (tw39 H) (tw40 H) (tw34 H) (tw41 H) (by decide) (lenOf pd3 rfl) rfl rfl (by decide) (by decide) rfl sf0 all0
  clear W2
  obtain ⟨_, r04, rfl, q4_1, q4_2, q4_3, q4_4, q4_5, q4_6⟩ := hQ4
  have z4 : h0.size ≤ h4.size := K4.1
  replace W4 := W4.cast (st' := [(.ref r04), (.ref (gA 10))]) rfl
  have e5 := (gf2 H).ext W4.old.2
  obtain ⟨V6, h6, r6, W6, K6, hQ6, SF6⟩ := W4.callV (pc' := 20) (argsL := [(.ref r04)]) (rest := []) (Wd := 0) (cells' := 2) (slots' := 10) (a := (gA 10)) (C := "java/math/BigDecimal") (y := N10) (z := N10) d2316_47_17 (m9_add H r04 (500000000 : Int64) (9 : Int32) (9 : Int64) (-9 : Int64) (9 : Int64) (9 : Int32) (9 : Int64) (500000000 : Int64) (500000000 : Int64) (0 : Int64) (0 : Int64) h4 W4.old q4_2 q4_5 (by decide) (by decide) (by decide) (by decide) (by decide) (by decide) (by decide) (by decide) (by decide) (by decide) (by decide) (by decide) (by decide) (by decide) (by decide) (by decide)) e5 (tw64 H) (tw65 H) (Or.inl (tw67 H)) (tw67 H) (tw66 H) (tw34 H) (tw68 H) (by decide) (lenOf pd9 rfl) rfl rfl (by decide) (by decide) rfl sf0 all0
  clear W4
  obtain ⟨_, r06, rfl, q6_1, q6_2, q6_3, q6_4, q6_5, q6_6⟩ := hQ6
  have z6 : h4.size ≤ h6.size := K6.1
  replace W6 := W6.cast (st' := [(.ref r06)]) rfl
  exact W6.aret (t := (.object "java/math/BigDecimal")) d2316_47_20 rfl rfl rfl rfl (by decide) (by decide) (fun V' cv => ⟨r06, rfl, q6_1, q6_2, q6_3, q6_4, q6_5, (Nat.le_trans z4 q6_6)⟩)
theorem m15_valueOf (H : Cx Z a0 gA gK) (u0 : Int64) (s0 : Int32) (h0 : Heap) (hO : Old Z n0 h0) (p0 : (Jvm.Free.XT.cmpL u0 (0 : Int64)) = (1 : Int32)) (p1 : (Jvm.Free.XT.cmpL u0 (11 : Int64)) = (-1 : Int32)) (p2 : (u0.toInt32) = s0) (p3 : s0 = (2 : Int32)) : Con l Z [] n0 N1 jdk_17_method_21_code 2 (some (.object "java/math/BigDecimal")) (Rm 0 0 0 0) #[(.long u0)] h0 [] (fun v h V' => v = some (.ref (gA 12)) ∧ h0 = h) [] := by
  refine Con.of (a0 := a0) (L0 := #[.val (.long u0), .second]) pf1 (fun _ => rfl) all0 hO EW.nil ?_
  intro p e s m below meth c S0 hnm hsf W
  replace W := W.lloadN d17_21_0 rfl rfl
  replace W := W.lconst (v := (0 : Int64)) d17_21_1 rfl rfl
  replace W := W.lcmp (v := (1 : Int32)) d17_21_2 p0 rfl
  replace W := W.ifF (pc' := 6) d17_21_3 (flt (by decide : ¬ ((1 : Int32) < (0 : Int32)))).1 rfl
  replace W := W.lloadN d17_21_6 rfl rfl
  replace W := W.gets d17_21_7 (tw36 H) (gf33 H) rfl
  have v1 := (gf38 H).ext W.old.2
  replace W := W.alen d17_21_10 v1 rfl
  replace W := W.i2l (v := (11 : Int64)) d17_21_11 (by decide) rfl
  replace W := W.lcmp (v := (-1 : Int32)) d17_21_12 p1 rfl
  replace W := W.ifF (pc' := 16) d17_21_13 (tlt (by decide : (-1 : Int32) < (0 : Int32))).2.1 rfl
  replace W := W.gets d17_21_16 (tw36 H) (gf33 H) rfl
  replace W := W.lloadN d17_21_19 rfl rfl
  replace W := W.l2i (v := s0) d17_21_20 p2 rfl
  subst p3
  replace W := W.aaload (w := (.ref (gA 12))) d17_21_21 v1 rfl ⟨by decide, by decide⟩ rfl rfl
  exact W.aret (t := (.object "java/math/BigDecimal")) d17_21_22 rfl rfl rfl rfl (by decide) (by decide) (fun V' cv => ⟨rfl, rfl⟩)
theorem m20_abs (H : Cx Z a0 gA gK) (u0 : Int64) (h0 : Heap) (hO : Old Z n0 h0) (p0 : (Jvm.Free.XT.cmpL u0 (0 : Int64)) = (1 : Int32)) : Con l Z [] n0 N13 jdk_29_method_61_code 2 (some .long) (Rm 0 0 0 0) #[(.long u0)] h0 [] (fun v h V' => v = some (.long u0) ∧ h0 = h) [] := by
  refine Con.of (a0 := a0) (L0 := #[.val (.long u0), .second]) pf13 (fun _ => rfl) all0 hO EW.nil ?_
  intro p e s m below meth c S0 hnm hsf W
  replace W := W.lloadN d29_61_0 rfl rfl
  replace W := W.lconst (v := (0 : Int64)) d29_61_1 rfl rfl
  replace W := W.lcmp (v := (1 : Int32)) d29_61_2 p0 rfl
  replace W := W.ifT (pc' := 11) d29_61_3 (flt (by decide : ¬ ((1 : Int32) < (0 : Int32)))).2.1 (by decide) (by decide)
  replace W := W.lloadN d29_61_11 rfl rfl
  exact W.lret d29_61_12 rfl (by decide) (by decide) (fun V' cv => ⟨rfl, rfl⟩)
theorem m19_multiply (H : Cx Z a0 gA gK) (u0 u1 s0 s1 s2 : Int64) (h0 : Heap) (hO : Old Z n0 h0) (p0 : (u0 * u1) = s0) (p1 : (Jvm.Free.XT.cmpL u0 (0 : Int64)) = (1 : Int32)) (p2 : (Jvm.Free.XT.cmpL u1 (0 : Int64)) = (1 : Int32)) (p3 : (u0 ||| u1) = s1) (p4 : (Jvm.Free.XT.ushrL s1 (31 : Int32)) = s2) (p5 : (Jvm.Free.XT.cmpL s2 (0 : Int64)) = (0 : Int32)) : Con l Z [] n0 N14 jdk_17_method_156_code 10 (some .long) (Rm 1 0 0 13) #[(.long u0), (.long u1)] h0 [] (fun v h V' => v = some (.long s0) ∧ h0 = h) [] := by
  refine Con.of (a0 := a0) (L0 := #[.val (.long u0), .second, .val (.long u1), .second, .unset, .unset, .unset, .unset, .unset, .unset]) pf14 (fun _ => rfl) all0 hO EW.nil ?_
  intro p e s m below meth c S0 hnm hsf W
  replace W := W.lloadN d17_156_0 rfl rfl
  replace W := W.lloadN d17_156_1 rfl rfl
  replace W := W.lmul (v := s0) d17_156_2 p0 rfl
  replace W := W.lstore (L' := #[.val (.long u0), .second, .val (.long u1), .second, .val (.long s0), .second, .unset, .unset, .unset, .unset]) d17_156_3 rfl rfl
  replace W := W.lloadN d17_156_5 rfl rfl
  obtain ⟨V1, h1, r1, W1, K1, hQ1, SF1⟩ := W.callS (pc' := 9) (argsL := [(.long u0)]) (rest := []) (Wd := 0) (cells' := 0) (slots' := 0) (y := N13) d17_156_6 (m20_abs H u0 h0 W.old p1) (tw101 H) (tw102 H) (tw103 H) (tw104 H) (by decide) (lenOf pd12 rfl) rfl rfl (by decide) (by decide) rfl sf0 all0
  clear W
  obtain ⟨_, rfl, hs1⟩ := hQ1
  subst hs1
  replace W1 := W1.cast (st' := [(.long u0)]) rfl
  replace W1 := W1.lstore (L' := #[.val (.long u0), .second, .val (.long u1), .second, .val (.long s0), .second, .val (.long u0), .second, .unset, .unset]) d17_156_9 rfl rfl
  replace W1 := W1.lloadN d17_156_11 rfl rfl
  obtain ⟨V2, h2, r2, W2, K2, hQ2, SF2⟩ := W1.callS (pc' := 15) (argsL := [(.long u1)]) (rest := []) (Wd := 0) (cells' := 0) (slots' := 0) (y := N13) d17_156_12 (m20_abs H u1 h0 W1.old p2) (tw101 H) (tw102 H) (tw103 H) (tw104 H) (by decide) (lenOf pd12 rfl) rfl rfl (by decide) (by decide) rfl sf0 all0
  clear W1
  obtain ⟨_, rfl, hs2⟩ := hQ2
  subst hs2
  replace W2 := W2.cast (st' := [(.long u1)]) rfl
  replace W2 := W2.lstore (L' := #[.val (.long u0), .second, .val (.long u1), .second, .val (.long s0), .second, .val (.long u0), .second, .val (.long u1), .second]) d17_156_15 rfl rfl
  replace W2 := W2.lload d17_156_17 rfl rfl
  replace W2 := W2.lload d17_156_19 rfl rfl
  replace W2 := W2.lor (v := s1) d17_156_21 p3 rfl
  replace W2 := W2.bipush (v := (31 : Int32)) d17_156_22 rfl rfl
  replace W2 := W2.lushr (v := s2) d17_156_24 p4 rfl
  replace W2 := W2.lconst (v := (0 : Int64)) d17_156_25 rfl rfl
  replace W2 := W2.lcmp (v := (0 : Int32)) d17_156_26 p5 rfl
  replace W2 := W2.ifT (pc' := 45) d17_156_27 (teq (by decide : (0 : Int32) = (0 : Int32))).1 (by decide) (by decide)
  replace W2 := W2.lload d17_156_45 rfl rfl
  exact W2.lret d17_156_47 rfl (by decide) (by decide) (fun V' cv => ⟨rfl, rfl⟩)
theorem m18_multiply (H : Cx Z a0 gA gK) (u0 u1 : Int64) (u2 : Int32) (s0 s1 s2 : Int64) (h0 : Heap) (hO : Old Z n0 h0) (p0 : (u0 * u1) = s0) (p1 : (u0 ||| u1) = s1) (p2 : (Jvm.Free.XT.ushrL s1 (31 : Int32)) = s2) (p3 : (Jvm.Free.XT.cmpL u0 (0 : Int64)) = (1 : Int32)) (p4 : (Jvm.Free.XT.cmpL u1 (0 : Int64)) = (1 : Int32)) (p5 : (Jvm.Free.XT.cmpL s2 (0 : Int64)) = (0 : Int32)) (p6 : (Jvm.Free.XT.cmpL s0 (-9223372036854775808 : Int64)) = (1 : Int32)) (p7 : ¬ (u2 = (0 : Int32))) (p8 : (Jvm.Free.XT.cmpL s0 (0 : Int64)) = (1 : Int32)) : Con l Z [] n0 N15 jdk_17_method_157_code 7 (some (.object "java/math/BigDecimal")) (Rm 4 1 5 56) #[(.long u0), (.long u1), (.int u2)] h0 [] (fun v h V' => ∃ (r0 : Addr), v = some (.ref r0) ∧ Exa Z h r0 "java/math/BigDecimal" ∧ Fld Z h r0 "java/math/BigDecimal" "intCompact" "J" (.long s0) ∧ Fld Z h r0 "java/math/BigDecimal" "intVal" "Ljava/math/BigInteger;" .null ∧ Fld Z h r0 "java/math/BigDecimal" "precision" "I" (.int (0 : Int32)) ∧ Fld Z h r0 "java/math/BigDecimal" "scale" "I" (.int u2) ∧ h0.size ≤ r0) [] := by
  refine Con.of (a0 := a0) (L0 := #[.val (.long u0), .second, .val (.long u1), .second, .val (.int u2), .unset, .unset]) pf15 (fun _ => rfl) all0 hO EW.nil ?_
  intro p e s m below meth c S0 hnm hsf W
  replace W := W.lloadN d17_157_0 rfl rfl
  replace W := W.lloadN d17_157_1 rfl rfl
  obtain ⟨V1, h1, r1, W1, K1, hQ1, SF1⟩ := W.callS (pc' := 5) (argsL := [(.long u0), (.long u1)]) (rest := []) (Wd := 0) (cells' := 0) (slots' := 0) (y := N14) d17_157_2 (m19_multiply H u0 u1 s0 s1 s2 h0 W.old p0 p3 p4 p1 p2 p5) (tw98 H) (tw99 H) (tw34 H) (tw100 H) (by decide) (lenOf pd6 rfl) rfl rfl (by decide) (by decide) rfl sf0 all0
  clear W
  obtain ⟨_, rfl, hs1⟩ := hQ1
  subst hs1
  replace W1 := W1.cast (st' := [(.long s0)]) rfl
  replace W1 := W1.lstore (L' := #[.val (.long u0), .second, .val (.long u1), .second, .val (.int u2), .val (.long s0), .second]) d17_157_5 rfl rfl
  replace W1 := W1.lload d17_157_7 rfl rfl
  replace W1 := W1.ldc2 d17_157_9 (tw44 H) rfl
  replace W1 := W1.lcmp (v := (1 : Int32)) d17_157_12 p6 rfl
  replace W1 := W1.ifF (pc' := 16) d17_157_13 (feq (by decide : ¬ ((1 : Int32) = (0 : Int32)))).1 rfl
  replace W1 := W1.lload d17_157_16 rfl rfl
  replace W1 := W1.iload d17_157_18 rfl rfl
  obtain ⟨V2, h2, r2, W2, K2, hQ2, SF2⟩ := W1.callS (pc' := 23) (argsL := [(.long s0), (.int u2)]) (rest := []) (Wd := 0) (cells' := 1) (slots' := 5) (y := N4) d17_157_20 (m6_valueOf H s0 u2 h0 W1.old p7 p8 p6) (tw84 H) (tw40 H) (tw34 H) (tw41 H) (by decide) (lenOf pd3 rfl) rfl rfl (by decide) (by decide) rfl sf0 all0
  clear W1
  obtain ⟨_, r02, rfl, q2_1, q2_2, q2_3, q2_4, q2_5, q2_6⟩ := hQ2
  have z2 : h0.size ≤ h2.size := K2.1
  replace W2 := W2.cast (st' := [(.ref r02)]) rfl
  exact W2.aret (t := (.object "java/math/BigDecimal")) d17_157_23 rfl rfl rfl rfl (by decide) (by decide) (fun V' cv => ⟨r02, rfl, q2_1, q2_2, q2_3, q2_4, q2_5, q2_6⟩)
theorem m21_checkScale (H : Cx Z a0 gA gK) (x0 : Addr) (u0 : Int64) (s0 : Int32) (s1 : Int64) (h0 : Heap) (hO : Old Z n0 h0) (p0 : (u0.toInt32) = s0) (p1 : (s0.toInt64) = s1) (p2 : (Jvm.Free.XT.cmpL s1 u0) = (0 : Int32)) : Con l Z [] n0 N12 jdk_17_method_106_code 5 (some .int) (Rm 0 0 0 0) #[(.ref x0), (.long u0)] h0 [] (fun v h V' => v = some (.int s0) ∧ h0 = h) [] := by
  refine Con.of (a0 := a0) (L0 := #[.val (.ref x0), .val (.long u0), .second, .unset, .unset]) pf12 (fun _ => rfl) all0 hO EW.nil ?_
  intro p e s m below meth c S0 hnm hsf W
  replace W := W.lloadN d17_106_0 rfl rfl
  replace W := W.l2i (v := s0) d17_106_1 p0 rfl
  replace W := W.istoreN (L' := #[.val (.ref x0), .val (.long u0), .second, .val (.int s0), .unset]) d17_106_2 rfl rfl
  replace W := W.iloadN d17_106_3 rfl rfl
  replace W := W.i2l (v := s1) d17_106_4 p1 rfl
  replace W := W.lloadN d17_106_5 rfl rfl
  replace W := W.lcmp (v := (0 : Int32)) d17_106_6 p2 rfl
  replace W := W.ifT (pc' := 76) d17_106_7 (teq (by decide : (0 : Int32) = (0 : Int32))).1 (by decide) (by decide)
  replace W := W.iloadN d17_106_76 rfl rfl
  exact W.iret (t := .int) d17_106_77 rfl (by simp) rfl (by decide) (by decide) (fun V' cv => ⟨rfl, rfl⟩)
theorem m16_multiply (H : Cx Z a0 gA gK) (x0 : Addr) (u0 : Int64) (u2 : Int32) (s0 s1 : Int64) (s2 : Int32) (s3 s4 s5 s6 : Int64) (h0 : Heap) (hO : Old Z n0 h0) (E_x0 : Exa Z h0 x0 "java/math/BigDecimal") (F_x0_intCompact : Fld Z h0 x0 "java/math/BigDecimal" "intCompact" "J" (.long u0)) (F_x0_scale : Fld Z h0 x0 "java/math/BigDecimal" "scale" "I" (.int u2)) (p0 : (u2.toInt64) = s0) (p1 : (s0 + (0 : Int64)) = s1) (p2 : (s1.toInt32) = s2) (p3 : (s2.toInt64) = s3) (p4 : (Jvm.Free.XT.cmpL s3 s1) = (0 : Int32)) (p5 : (Jvm.Free.XT.cmpL u0 (-9223372036854775808 : Int64)) = (1 : Int32)) (p6 : (u0 * (2 : Int64)) = s4) (p7 : (u0 ||| (2 : Int64)) = s5) (p8 : (Jvm.Free.XT.ushrL s5 (31 : Int32)) = s6) (p9 : (Jvm.Free.XT.cmpL u0 (0 : Int64)) = (1 : Int32)) (p10 : (Jvm.Free.XT.cmpL s6 (0 : Int64)) = (0 : Int32)) (p11 : (Jvm.Free.XT.cmpL s4 (-9223372036854775808 : Int64)) = (1 : Int32)) (p12 : ¬ (s2 = (0 : Int32))) (p13 : (Jvm.Free.XT.cmpL s4 (0 : Int64)) = (1 : Int32)) : Con l Z [] n0 N16 jdk_17_method_31_code 3 (some (.object "java/math/BigDecimal")) (Rm 5 1 5 74) #[(.ref x0), (.ref (gA 12))] h0 [] (fun v h V' => ∃ (r0 : Addr), v = some (.ref r0) ∧ Exa Z h r0 "java/math/BigDecimal" ∧ Fld Z h r0 "java/math/BigDecimal" "intCompact" "J" (.long s4) ∧ Fld Z h r0 "java/math/BigDecimal" "intVal" "Ljava/math/BigInteger;" .null ∧ Fld Z h r0 "java/math/BigDecimal" "precision" "I" (.int (0 : Int32)) ∧ Fld Z h r0 "java/math/BigDecimal" "scale" "I" (.int s2) ∧ h0.size ≤ r0) [] := by
  refine Con.of (a0 := a0) (L0 := #[.val (.ref x0), .val (.ref (gA 12)), .unset]) pf16 (fun _ => rfl) all0 hO EW.nil ?_
  intro p e s m below meth c S0 hnm hsf W
  replace W := W.aloadN d17_31_0 rfl rfl rfl
  replace W := W.aloadN d17_31_1 rfl rfl rfl
  replace W := W.getf d17_31_2 (tw56 H) Via.refl F_x0_scale rfl
  replace W := W.i2l (v := s0) d17_31_5 p0 rfl
  replace W := W.aloadN d17_31_6 rfl rfl rfl
  have f1 := (gf17 H).ext W.old.2
  replace W := W.getf d17_31_7 (tw56 H) Via.refl f1 rfl
  replace W := W.i2l (v := (0 : Int64)) d17_31_10 (by decide) rfl
  replace W := W.ladd (v := s1) d17_31_11 p1 rfl
  obtain ⟨V2, h2, r2, W2, K2, hQ2, SF2⟩ := W.callP (pc' := 15) (argsL := [(.long s1)]) (rest := []) (Wd := 0) (cells' := 0) (slots' := 0) (a := x0) (C := "java/math/BigDecimal") (y := N12) d17_31_12 (m21_checkScale H x0 s1 s2 s3 h0 W.old p2 p3 p4) E_x0 (tw90 H) (tw91 H) (tw93 H) (tw92 H) (tw34 H) (tw94 H) (by decide) (lenOf pd11 rfl) rfl rfl (by decide) (by decide) rfl sf0 all0
  clear W
  obtain ⟨_, rfl, hs2⟩ := hQ2
  subst hs2
  replace W2 := W2.cast (st' := [(.int s2)]) rfl
  replace W2 := W2.istoreN (L' := #[.val (.ref x0), .val (.ref (gA 12)), .val (.int s2)]) d17_31_15 rfl rfl
  replace W2 := W2.aloadN d17_31_16 rfl rfl rfl
  replace W2 := W2.getf d17_31_17 (tw60 H) Via.refl F_x0_intCompact rfl
  replace W2 := W2.ldc2 d17_31_20 (tw44 H) rfl
  replace W2 := W2.lcmp (v := (1 : Int32)) d17_31_23 p5 rfl
  replace W2 := W2.ifF (pc' := 27) d17_31_24 (feq (by decide : ¬ ((1 : Int32) = (0 : Int32)))).1 rfl
  replace W2 := W2.aloadN d17_31_27 rfl rfl rfl
  have f3 := (gf16 H).ext W2.old.2
  replace W2 := W2.getf d17_31_28 (tw60 H) Via.refl f3 rfl
  replace W2 := W2.ldc2 d17_31_31 (tw44 H) rfl
  replace W2 := W2.lcmp (v := (1 : Int32)) d17_31_34 (by decide) rfl
  replace W2 := W2.ifF (pc' := 38) d17_31_35 (feq (by decide : ¬ ((1 : Int32) = (0 : Int32)))).1 rfl
  replace W2 := W2.aloadN d17_31_38 rfl rfl rfl
  replace W2 := W2.getf d17_31_39 (tw60 H) Via.refl F_x0_intCompact rfl
  replace W2 := W2.aloadN d17_31_42 rfl rfl rfl
  replace W2 := W2.getf d17_31_43 (tw60 H) Via.refl f3 rfl
  replace W2 := W2.iloadN d17_31_46 rfl rfl
  obtain ⟨V4, h4, r4, W4, K4, hQ4, SF4⟩ := W2.callS (pc' := 50) (argsL := [(.long u0), (.long (2 : Int64)), (.int s2)]) (rest := []) (Wd := 0) (cells' := 1) (slots' := 5) (y := N15) d17_31_47 (m18_multiply H u0 (2 : Int64) s2 s4 s5 s6 h0 W2.old p6 p7 p8 p9 (by decide) p10 p11 p12 p13) (tw95 H) (tw96 H) (tw34 H) (tw97 H) (by decide) (lenOf pd7 rfl) rfl rfl (by decide) (by decide) rfl sf0 all0
  clear W2
  obtain ⟨_, r04, rfl, q4_1, q4_2, q4_3, q4_4, q4_5, q4_6⟩ := hQ4
  have z4 : h0.size ≤ h4.size := K4.1
  replace W4 := W4.cast (st' := [(.ref r04)]) rfl
  exact W4.aret (t := (.object "java/math/BigDecimal")) d17_31_50 rfl rfl rfl rfl (by decide) (by decide) (fun V' cv => ⟨r04, rfl, q4_1, q4_2, q4_3, q4_4, q4_5, q4_6⟩)
theorem m24_checkScale (H : Cx Z a0 gA gK) (x0 : Addr) (u0 : Int64) (s0 : Int32) (s1 : Int64) (h0 : Heap) (hO : Old Z n0 h0) (p0 : (u0.toInt32) = s0) (p1 : (s0.toInt64) = s1) (p2 : (Jvm.Free.XT.cmpL s1 u0) = (0 : Int32)) : Con l Z [] n0 N12 jdk_17_method_106_code 5 (some .int) (Rm 0 0 0 0) #[(.ref x0), (.long u0)] h0 [] (fun v h V' => v = some (.int s0) ∧ h0 = h) [] := by
  refine Con.of (a0 := a0) (L0 := #[.val (.ref x0), .val (.long u0), .second, .unset, .unset]) pf12 (fun _ => rfl) all0 hO EW.nil ?_
  intro p e s m below meth c S0 hnm hsf W
  replace W := W.lloadN d17_106_0 rfl rfl
  replace W := W.l2i (v := s0) d17_106_1 p0 rfl
  replace W := W.istoreN (L' := #[.val (.ref x0), .val (.long u0), .second, .val (.int s0), .unset]) d17_106_2 rfl rfl
  replace W := W.iloadN d17_106_3 rfl rfl
  replace W := W.i2l (v := s1) d17_106_4 p1 rfl
  replace W := W.lloadN d17_106_5 rfl rfl
  replace W := W.lcmp (v := (0 : Int32)) d17_106_6 p2 rfl
  replace W := W.ifT (pc' := 76) d17_106_7 (teq (by decide : (0 : Int32) = (0 : Int32))).1 (by decide) (by decide)
  replace W := W.iloadN d17_106_76 rfl rfl
  exact W.iret (t := .int) d17_106_77 rfl (by simp) rfl (by decide) (by decide) (fun V' cv => ⟨rfl, rfl⟩)
theorem m30_init (H : Cx Z a0 gA gK) (x0 : Addr) (h0 : Heap) (hO : Old Z n0 h0)  : Con l Z [] n0 N2 jdk_18_method_1_code 1 none (Rm 1 0 0 12) #[(.ref x0)] h0 [] (fun v h V' => v = none ∧ h0 = h) [] := by
  refine Con.of (a0 := a0) (L0 := #[.val (.ref x0)]) pf2 (fun _ => rfl) all0 hO EW.nil ?_
  intro p e s m below meth c S0 hnm hsf W
  replace W := W.aloadN d18_1_0 rfl rfl rfl
  replace W := W.initO (Wd := 0) d18_1_1 (tw55 H) (tw7 H) (tw8 H) rfl rfl (by decide) (by decide) rfl
  exact W.vret d18_1_4 rfl (by decide) (by decide) (fun V' cv => ⟨rfl, rfl⟩)
theorem m29_init (H : Cx Z a0 gA gK) (x0 : Addr) (u0 : Int64) (u1 u2 : Int32) (s0 : Int64) (s1 s2 : Int32) (h0 : Heap) (hO : Old Z n0 h0) (E_x0 : Exa Z h0 x0 "java/math/BigInteger") (F_x0_bitLengthPlusOne : Fld Z h0 x0 "java/math/BigInteger" "bitLengthPlusOne" "I" (.int u1)) (F_x0_mag : Fld Z h0 x0 "java/math/BigInteger" "mag" "[I" .null) (F_x0_signum : Fld Z h0 x0 "java/math/BigInteger" "signum" "I" (.int u2)) (p0 : (Jvm.Free.XT.cmpL u0 (0 : Int64)) = (1 : Int32)) (p1 : (Jvm.Free.XT.ushrL u0 (32 : Int32)) = s0) (p2 : (s0.toInt32) = s1) (p3 : s1 = (0 : Int32)) (p4 : (u0.toInt32) = s2) (g_x0 : n0 ≤ x0) : Con l Z [] n0 N19 jdk_2097_method_30_code 4 none (Rm 2 1 1 24) #[(.ref x0), (.long u0)] h0 [x0] (fun v h V' => ∃ (r0 : Addr) (kr0 : ClassId), v = none ∧ Exa Z h x0 "java/math/BigInteger" ∧ Fld Z h x0 "java/math/BigInteger" "bitLengthPlusOne" "I" (.int u1) ∧ Fld Z h x0 "java/math/BigInteger" "mag" "[I" (.ref r0) ∧ Fld Z h x0 "java/math/BigInteger" "signum" "I" (.int (1 : Int32)) ∧ Exa Z h r0 "[I" ∧ Arv Z h r0 kr0 .int (1 : Int32) [(.int s2)] (.int (0 : Int32)) ∧ h0.size ≤ r0) [] := by
  refine Con.of (a0 := a0) (L0 := #[.val (.ref x0), .val (.long u0), .second, .unset]) pf19 (fun _ => rfl) (allS g_x0 all0) hO EW.nil ?_
  intro p e s m below meth c S0 hnm hsf W
  replace W := W.aloadN d2097_30_0 rfl rfl rfl
  obtain ⟨V1, h1, r1, W1, K1, hQ1, SF1⟩ := W.callI (pc' := 4) (argsL := []) (rest := []) (Wd := 0) (cells' := 0) (slots' := 0) (a := x0) (y := N2) d2097_30_1 (m30_init H x0 h0 W.old) rfl (tw139 H) (tw50 H) (tw53 H) (tw54 H) (by decide) (lenOf pd0 rfl) rfl rfl (by decide) (by decide) rfl sf0 all0
  clear W
  obtain ⟨_, rfl, hs1⟩ := hQ1
  subst hs1
  replace W1 := W1.cast (st' := []) rfl
  replace W1 := W1.lloadN d2097_30_4 rfl rfl
  replace W1 := W1.lconst (v := (0 : Int64)) d2097_30_5 rfl rfl
  replace W1 := W1.lcmp (v := (1 : Int32)) d2097_30_6 p0 rfl
  replace W1 := W1.ifT (pc' := 21) d2097_30_7 (flt (by decide : ¬ ((1 : Int32) < (0 : Int32)))).2.1 (by decide) (by decide)
  replace W1 := W1.aloadN d2097_30_21 rfl rfl rfl
  replace W1 := W1.iconst (v := (1 : Int32)) d2097_30_22 rfl rfl
  obtain ⟨h2, W2, w2, SF2⟩ := W1.putf (pc' := 26) (ty := .int) d2097_30_23 (tw141 H) Via.refl F_x0_signum E_x0 (Or.inr ⟨(tw142 H), rfl, hnm⟩) (tw134 H) (by decide) rfl rfl safe0 (Or.inl (List.mem_of_getElem? (i := 0) rfl)) rfl
  clear W1
  have z2 : h0.size ≤ h2.size := Nat.le_of_eq w2.size.symm
  have f2 := F_x0_signum.same w2
  replace W2 := W2.lloadN d2097_30_26 rfl rfl
  replace W2 := W2.bipush (v := (32 : Int32)) d2097_30_27 rfl rfl
  replace W2 := W2.lushr (v := s0) d2097_30_29 p1 rfl
  replace W2 := W2.l2i (v := s1) d2097_30_30 p2 rfl
  replace W2 := W2.istoreN (L' := #[.val (.ref x0), .val (.long u0), .second, .val (.int s1)]) d2097_30_31 rfl rfl
  replace W2 := W2.iloadN d2097_30_32 rfl rfl
  replace W2 := W2.ifF (pc' := 36) d2097_30_33 (teq p3).2 rfl
  replace W2 := W2.aloadN d2097_30_36 rfl rfl rfl
  replace W2 := W2.iconst (v := (1 : Int32)) d2097_30_37 rfl rfl
  obtain ⟨h3, a3, W3, E3, g3, ⟨⟨k3, A3⟩, B3⟩, sf3, SF3⟩ := W2.newarrE (pc' := 40) (ad := "[I") (cap := 1) (cells' := 1) (slots' := 1) d2097_30_38 (tw143 H) (by decide) (by decide) (by decide) (by decide) rfl rfl rfl (by decide) (by decide)
  clear W2
  rw [← g3] at A3 B3
  have z3 : h2.size ≤ h3.size := E3.1
  have v3 : Arv Z h3 a3 k3 .int (1 : Int32) [(.int (0 : Int32))] (.int (0 : Int32)) := A3.pad (pad_rep [] (.int (0 : Int32)) 1)
  have f4 := ((F_x0_mag.other w2 (Or.inr (sn12 H))).ext E3)
  have e5 := ((E_x0.wr w2).ext E3)
  obtain ⟨h6, W6, w6, SF6⟩ := W3.putf (pc' := 43) (ty := (.array .int)) d2097_30_40 (tw144 H) Via.refl f4 e5 (Or.inr ⟨(tw145 H), rfl, hnm⟩) (tw134 H) (by decide) rfl rfl safe0 (Or.inl (List.mem_of_getElem? (i := 0) rfl)) rfl
  clear W3
  have z6 : h3.size ≤ h6.size := Nat.le_of_eq w6.size.symm
  have f6 := f4.same w6
  replace W6 := W6.aloadN d2097_30_43 rfl rfl rfl
  replace W6 := W6.getf d2097_30_44 (tw144 H) Via.refl f6 rfl
  replace W6 := W6.iconst (v := (0 : Int32)) d2097_30_47 rfl rfl
  replace W6 := W6.lloadN d2097_30_48 rfl rfl
  replace W6 := W6.l2i (v := s2) d2097_30_49 p4 rfl
  have v7 := (v3.other w6 (Nat.ne_of_gt (Nat.lt_of_lt_of_le E_x0.lt (Nat.le_trans z2 (Nat.le_of_eq g3.symm)))))
  obtain ⟨h8, W8, w8, A8, SF8⟩ := W6.iastore (pc' := 51) (i := 0) (x' := s2) d2097_30_50 v7 ⟨by decide, by decide⟩ rfl (by show 0 < 1; decide) rfl safe0 (Or.inr (Nat.le_trans z2 (Nat.le_of_eq g3.symm))) rfl
  clear W6
  have z8 : h6.size ≤ h8.size := Nat.le_of_eq w8.size.symm
  have v8 : Arv Z h8 a3 k3 .int (1 : Int32) [(.int s2)] (.int (0 : Int32)) := A8
  replace W8 := W8.goto (pc' := 76) d2097_30_51 (by decide) (by decide)
  have e9 := ((e5.wr w6).wr w8)
  have f10 := ((((F_x0_bitLengthPlusOne.other w2 (Or.inr (sn13 H))).ext E3).other w6 (Or.inr (sn14 H))).other w8 (Or.inl (Nat.ne_of_lt (Nat.lt_of_lt_of_le E_x0.lt (Nat.le_trans z2 (Nat.le_of_eq g3.symm))))))
  have f11 := (f6.other w8 (Or.inl (Nat.ne_of_lt (Nat.lt_of_lt_of_le E_x0.lt (Nat.le_trans z2 (Nat.le_of_eq g3.symm))))))
  have f12 := (((f2.ext E3).other w6 (Or.inr (sn15 H))).other w8 (Or.inl (Nat.ne_of_lt (Nat.lt_of_lt_of_le E_x0.lt (Nat.le_trans z2 (Nat.le_of_eq g3.symm))))))
  have e13 := ((B3.wr w6).wr w8)
  exact W8.vret d2097_30_76 rfl (by decide) (by decide) (fun V' cv => ⟨a3, k3, rfl, e9, f10, f11, f12, e13, v8, (Nat.le_trans z2 (Nat.le_of_eq g3.symm))⟩)
theorem m28_valueOf (H : Cx Z a0 gA gK) (u0 s0 : Int64) (s1 s2 : Int32) (h0 : Heap) (hO : Old Z n0 h0) (p0 : (Jvm.Free.XT.cmpL u0 (0 : Int64)) = (1 : Int32)) (p1 : (Jvm.Free.XT.cmpL u0 (16 : Int64)) = (1 : Int32)) (p2 : (Jvm.Free.XT.ushrL u0 (32 : Int32)) = s0) (p3 : (s0.toInt32) = s1) (p4 : (u0.toInt32) = s2) (p5 : s1 = (0 : Int32)) : Con l Z [] n0 N20 jdk_2097_method_29_code 2 (some (.object "java/math/BigInteger")) (Rm 3 2 7 40) #[(.long u0)] h0 [] (fun v h V' => ∃ (r0 : Addr) (r1 : Addr) (kr0 : ClassId), v = some (.ref r0) ∧ Exa Z h r0 "java/math/BigInteger" ∧ Fld Z h r0 "java/math/BigInteger" "bitLengthPlusOne" "I" (.int (0 : Int32)) ∧ Fld Z h r0 "java/math/BigInteger" "mag" "[I" (.ref r1) ∧ Fld Z h r0 "java/math/BigInteger" "signum" "I" (.int (1 : Int32)) ∧ h0.size ≤ r0 ∧ Exa Z h r1 "[I" ∧ Arv Z h r1 kr0 .int (1 : Int32) [(.int s2)] (.int (0 : Int32)) ∧ h0.size ≤ r1) [] := by
  refine Con.of (a0 := a0) (L0 := #[.val (.long u0), .second]) pf20 (fun _ => rfl) all0 hO EW.nil ?_
  intro p e s m below meth c S0 hnm hsf W
  replace W := W.lloadN d2097_29_0 rfl rfl
  replace W := W.lconst (v := (0 : Int64)) d2097_29_1 rfl rfl
  replace W := W.lcmp (v := (1 : Int32)) d2097_29_2 p0 rfl
  replace W := W.ifT (pc' := 10) d2097_29_3 (feq (by decide : ¬ ((1 : Int32) = (0 : Int32)))).2 (by decide) (by decide)
  replace W := W.lloadN d2097_29_10 rfl rfl
  replace W := W.lconst (v := (0 : Int64)) d2097_29_11 rfl rfl
  replace W := W.lcmp (v := (1 : Int32)) d2097_29_12 p0 rfl
  replace W := W.ifF (pc' := 16) d2097_29_13 (tlt (by decide : (0 : Int32) < (1 : Int32))).2.2.2 rfl
  replace W := W.lloadN d2097_29_16 rfl rfl
  replace W := W.ldc2 d2097_29_17 (tw132 H) rfl
  replace W := W.lcmp (v := (1 : Int32)) d2097_29_20 p1 rfl
  replace W := W.ifT (pc' := 31) d2097_29_21 (tlt (by decide : (0 : Int32) < (1 : Int32))).2.2.1 (by decide) (by decide)
  replace W := W.lloadN d2097_29_31 rfl rfl
  replace W := W.lconst (v := (0 : Int64)) d2097_29_32 rfl rfl
  replace W := W.lcmp (v := (1 : Int32)) d2097_29_33 p0 rfl
  replace W := W.ifT (pc' := 53) d2097_29_34 (flt (by decide : ¬ ((1 : Int32) < (0 : Int32)))).2.1 (by decide) (by decide)
  obtain ⟨h1, a1, W1, E1, g1, ⟨A1, D1, U1⟩, sf1, SF1⟩ := W.new (pc' := 56) (cells' := 1) (slots' := 6) d2097_29_53 (tw133 H) (tw134 H) (tw130 H) rfl rfl rfl (by decide) (by decide)
  clear W
  rw [← g1] at A1 D1 U1
  have z1 : h0.size ≤ h1.size := E1.1
  replace W1 := W1.dup d2097_29_56 rfl rfl
  replace W1 := W1.lloadN d2097_29_57 rfl rfl
  obtain ⟨V2, h2, r2, W2, K2, hQ2, SF2⟩ := W1.callI (pc' := 61) (argsL := [(.long u0)]) (rest := [(.ref a1)]) (Wd := 1) (cells' := 2) (slots' := 7) (a := a1) (y := N19) d2097_29_58 (m29_init H a1 u0 (0 : Int32) (0 : Int32) s0 s1 s2 h1 W1.old A1 (D1 (Or.inl (tw215 H)) (ty := .int) (by decide) : Fld Z h1 a1 "java/math/BigInteger" "bitLengthPlusOne" "I" (.int (0 : Int32))) (D1 (Or.inr (tw145 H)) (ty := (.array .int)) (by decide) : Fld Z h1 a1 "java/math/BigInteger" "mag" "[I" .null) (D1 (Or.inr (tw142 H)) (ty := .int) (by decide) : Fld Z h1 a1 "java/math/BigInteger" "signum" "I" (.int (0 : Int32))) p0 p2 p3 p5 p4 (Nat.le_trans W1.1.2.2.2.2.2.2.2.1 (Nat.le_of_eq g1.symm))) rfl (tw135 H) (tw136 H) (tw130 H) (tw138 H) (by decide) (lenOf pd15 rfl) rfl rfl (by decide) (by decide) rfl (sfS safe0 sf0) (allS (Or.inr (Nat.le_of_eq g1.symm)) all0)
  clear W1
  obtain ⟨_, r02, kr02, rfl, q2_1, q2_2, q2_3, q2_4, q2_5, q2_6, q2_7⟩ := hQ2
  have z2 : h1.size ≤ h2.size := K2.1
  replace W2 := W2.cast (st' := [(.ref a1)]) rfl
  exact W2.aret (t := (.object "java/math/BigInteger")) d2097_29_61 rfl rfl rfl rfl (by decide) (by decide) (fun V' cv => ⟨a1, r02, kr02, rfl, q2_1, q2_2, q2_3, q2_4, (Nat.le_of_eq g1.symm), q2_5, q2_6, (Nat.le_trans z1 q2_7)⟩)
theorem m31_setScale (H : Cx Z a0 gA gK) (x0 : Addr) (u0 u1 u3 : Int32) (h0 : Heap) (hO : Old Z n0 h0) (F_x0_scale : Fld Z h0 x0 "java/math/BigDecimal" "scale" "I" (.int u3)) (p0 : ¬ (u1 < (0 : Int32))) (p1 : ¬ ((7 : Int32) < u1)) (p2 : u0 = u3) : Con l Z [] n0 N18 jdk_17_method_64_code 8 (some (.object "java/math/BigDecimal")) (Rm 0 0 0 0) #[(.ref x0), (.int u0), (.int u1)] h0 [] (fun v h V' => v = some (.ref x0) ∧ h0 = h) [] := by
  refine Con.of (a0 := a0) (L0 := #[.val (.ref x0), .val (.int u0), .val (.int u1), .unset, .unset, .unset, .unset, .unset]) pf18 (fun _ => rfl) all0 hO EW.nil ?_
  intro p e s m below meth c S0 hnm hsf W
  replace W := W.iloadN d17_64_0 rfl rfl
  replace W := W.ifF (pc' := 4) d17_64_1 (flt p0).1 rfl
  replace W := W.iloadN d17_64_4 rfl rfl
  replace W := W.bipush (v := (7 : Int32)) d17_64_5 rfl rfl
  replace W := W.icmpT (pc' := 21) d17_64_7 (flt p1).2.2.2 (by decide) (by decide)
  replace W := W.aloadN d17_64_21 rfl rfl rfl
  replace W := W.getf d17_64_22 (tw56 H) Via.refl F_x0_scale rfl
  replace W := W.istoreN (L' := #[.val (.ref x0), .val (.int u0), .val (.int u1), .val (.int u3), .unset, .unset, .unset, .unset]) d17_64_25 rfl rfl
  replace W := W.iloadN d17_64_26 rfl rfl
  replace W := W.iloadN d17_64_27 rfl rfl
  replace W := W.icmpF (pc' := 31) d17_64_28 (teq p2).2 rfl
  replace W := W.aloadN d17_64_31 rfl rfl rfl
  exact W.aret (t := (.object "java/math/BigDecimal")) d17_64_32 rfl rfl rfl rfl (by decide) (by decide) (fun V' cv => ⟨rfl, rfl⟩)
theorem m32_inflated (H : Cx Z a0 gA gK) (x0 : Addr) (u0 s0 : Int64) (s1 s2 : Int32) (h0 : Heap) (hO : Old Z n0 h0) (F_x0_intCompact : Fld Z h0 x0 "java/math/BigDecimal" "intCompact" "J" (.long u0)) (F_x0_intVal : Fld Z h0 x0 "java/math/BigDecimal" "intVal" "Ljava/math/BigInteger;" .null) (p0 : (Jvm.Free.XT.ushrL u0 (32 : Int32)) = s0) (p1 : (s0.toInt32) = s1) (p2 : (u0.toInt32) = s2) (p3 : (Jvm.Free.XT.cmpL u0 (0 : Int64)) = (1 : Int32)) (p4 : (Jvm.Free.XT.cmpL u0 (16 : Int64)) = (1 : Int32)) (p5 : s1 = (0 : Int32)) : Con l Z [] n0 N21 jdk_17_method_99_code 1 (some (.object "java/math/BigInteger")) (Rm 4 2 7 53) #[(.ref x0)] h0 [] (fun v h V' => ∃ (r0 : Addr) (r1 : Addr) (kr0 : ClassId), v = some (.ref r0) ∧ Exa Z h r0 "java/math/BigInteger" ∧ Fld Z h r0 "java/math/BigInteger" "bitLengthPlusOne" "I" (.int (0 : Int32)) ∧ Fld Z h r0 "java/math/BigInteger" "mag" "[I" (.ref r1) ∧ Fld Z h r0 "java/math/BigInteger" "signum" "I" (.int (1 : Int32)) ∧ h0.size ≤ r0 ∧ Exa Z h r1 "[I" ∧ Arv Z h r1 kr0 .int (1 : Int32) [(.int s2)] (.int (0 : Int32)) ∧ h0.size ≤ r1) [] := by
  refine Con.of (a0 := a0) (L0 := #[.val (.ref x0)]) pf21 (fun _ => rfl) all0 hO EW.nil ?_
  intro p e s m below meth c S0 hnm hsf W
  replace W := W.aloadN d17_99_0 rfl rfl rfl
  replace W := W.getf d17_99_1 (tw62 H) Via.refl F_x0_intVal rfl
  replace W := W.ifnonnullF (pc' := 7) d17_99_4 rfl
  replace W := W.aloadN d17_99_7 rfl rfl rfl
  replace W := W.getf d17_99_8 (tw60 H) Via.refl F_x0_intCompact rfl
  obtain ⟨V1, h1, r1, W1, K1, hQ1, SF1⟩ := W.callS (pc' := 14) (argsL := [(.long u0)]) (rest := []) (Wd := 0) (cells' := 2) (slots' := 7) (y := N20) d17_99_11 (m28_valueOf H u0 s0 s1 s2 h0 W.old p3 p4 p0 p1 p2 p5) (tw128 H) (tw129 H) (tw130 H) (tw131 H) (by decide) (lenOf pd16 rfl) rfl rfl (by decide) (by decide) rfl sf0 all0
  clear W
  obtain ⟨_, r01, r11, kr01, rfl, q1_1, q1_2, q1_3, q1_4, q1_5, q1_6, q1_7, q1_8⟩ := hQ1
  have z1 : h0.size ≤ h1.size := K1.1
  replace W1 := W1.cast (st' := [(.ref r01)]) rfl
  exact W1.aret (t := (.object "java/math/BigInteger")) d17_99_14 rfl rfl rfl rfl (by decide) (by decide) (fun V' cv => ⟨r01, r11, kr01, rfl, q1_1, q1_2, q1_3, q1_4, q1_5, q1_6, q1_7, q1_8⟩)
theorem m25_toBigIntegerExact (H : Cx Z a0 gA gK) (x0 : Addr) (u0 : Int64) (u2 : Int32) (s0 : Int64) (s1 s2 : Int32) (h0 : Heap) (hO : Old Z n0 h0) (E_x0 : Exa Z h0 x0 "java/math/BigDecimal") (F_x0_intCompact : Fld Z h0 x0 "java/math/BigDecimal" "intCompact" "J" (.long u0)) (F_x0_intVal : Fld Z h0 x0 "java/math/BigDecimal" "intVal" "Ljava/math/BigInteger;" .null) (F_x0_scale : Fld Z h0 x0 "java/math/BigDecimal" "scale" "I" (.int u2)) (p0 : (0 : Int32) = u2) (p1 : (Jvm.Free.XT.ushrL u0 (32 : Int32)) = s0) (p2 : (s0.toInt32) = s1) (p3 : (u0.toInt32) = s2) (p4 : (Jvm.Free.XT.cmpL u0 (0 : Int64)) = (1 : Int32)) (p5 : (Jvm.Free.XT.cmpL u0 (16 : Int64)) = (1 : Int32)) (p6 : s1 = (0 : Int32)) : Con l Z [] n0 N22 jdk_17_method_81_code 1 (some (.object "java/math/BigInteger")) (Rm 5 2 7 65) #[(.ref x0)] h0 [] (fun v h V' => ∃ (r0 : Addr) (r1 : Addr) (kr0 : ClassId), v = some (.ref r0) ∧ Exa Z h r0 "java/math/BigInteger" ∧ Fld Z h r0 "java/math/BigInteger" "bitLengthPlusOne" "I" (.int (0 : Int32)) ∧ Fld Z h r0 "java/math/BigInteger" "mag" "[I" (.ref r1) ∧ Fld Z h r0 "java/math/BigInteger" "signum" "I" (.int (1 : Int32)) ∧ h0.size ≤ r0 ∧ Exa Z h r1 "[I" ∧ Arv Z h r1 kr0 .int (1 : Int32) [(.int s2)] (.int (0 : Int32)) ∧ h0.size ≤ r1) [] := by
  refine Con.of (a0 := a0) (L0 := #[.val (.ref x0)]) pf22 (fun _ => rfl) all0 hO EW.nil ?_
  intro p e s m below meth c S0 hnm hsf W
  replace W := W.aloadN d17_81_0 rfl rfl rfl
  replace W := W.iconst (v := (0 : Int32)) d17_81_1 rfl rfl
  replace W := W.bipush (v := (7 : Int32)) d17_81_2 rfl rfl
  obtain ⟨V1, h1, r1, W1, K1, hQ1, SF1⟩ := W.callV (pc' := 7) (argsL := [(.int (0 : Int32)), (.int (7 : Int32))]) (rest := []) (Wd := 0) (cells' := 0) (slots' := 0) (a := x0) (C := "java/math/BigDecimal") (y := N18) (z := N18) d17_81_4 (m31_setScale H x0 (0 : Int32) (7 : Int32) u2 h0 W.old F_x0_scale (by decide) (by decide) p0) E_x0 (tw118 H) (tw119 H) (Or.inl (tw121 H)) (tw121 H) (tw120 H) (tw34 H) (tw122 H) (by decide) (lenOf pd14 rfl) rfl rfl (by decide) (by decide) rfl sf0 all0
  clear W
  obtain ⟨_, rfl, hs1⟩ := hQ1
  subst hs1
  replace W1 := W1.cast (st' := [(.ref x0)]) rfl
  obtain ⟨V2, h2, r2, W2, K2, hQ2, SF2⟩ := W1.callP (pc' := 10) (argsL := []) (rest := []) (Wd := 0) (cells' := 2) (slots' := 7) (a := x0) (C := "java/math/BigDecimal") (y := N21) d17_81_7 (m32_inflated H x0 u0 s0 s1 s2 h0 W1.old F_x0_intCompact F_x0_intVal p1 p2 p3 p4 p5 p6) E_x0 (tw123 H) (tw124 H) (tw126 H) (tw125 H) (tw34 H) (tw127 H) (by decide) (lenOf pd17 rfl) rfl rfl (by decide) (by decide) rfl sf0 all0
  clear W1
  obtain ⟨_, r02, r12, kr02, rfl, q2_1, q2_2, q2_3, q2_4, q2_5, q2_6, q2_7, q2_8⟩ := hQ2
  have z2 : h0.size ≤ h2.size := K2.1
  replace W2 := W2.cast (st' := [(.ref r02)]) rfl
  exact W2.aret (t := (.object "java/math/BigInteger")) d17_81_10 rfl rfl rfl rfl (by decide) (by decide) (fun V' cv => ⟨r02, r12, kr02, rfl, q2_1, q2_2, q2_3, q2_4, q2_5, q2_6, q2_7, q2_8⟩)
theorem m35_init (H : Cx Z a0 gA gK) (x0 : Addr) (u0 u1 : Int32) (h0 : Heap) (hO : Old Z n0 h0) (E_x0 : Exa Z h0 x0 "java/math/MutableBigInteger") (F_x0_intLen : Fld Z h0 x0 "java/math/MutableBigInteger" "intLen" "I" (.int u0)) (F_x0_offset : Fld Z h0 x0 "java/math/MutableBigInteger" "offset" "I" (.int u1)) (F_x0_value : Fld Z h0 x0 "java/math/MutableBigInteger" "value" "[I" .null) (g_x0 : n0 ≤ x0) : Con l Z [] n0 N23 jdk_2101_method_1_code 1 none (Rm 1 1 1 12) #[(.ref x0)] h0 [x0] (fun v h V' => ∃ (r0 : Addr) (kr0 : ClassId), v = none ∧ Exa Z h x0 "java/math/MutableBigInteger" ∧ Fld Z h x0 "java/math/MutableBigInteger" "intLen" "I" (.int (0 : Int32)) ∧ Fld Z h x0 "java/math/MutableBigInteger" "offset" "I" (.int (0 : Int32)) ∧ Fld Z h x0 "java/math/MutableBigInteger" "value" "[I" (.ref r0) ∧ Exa Z h r0 "[I" ∧ Arv Z h r0 kr0 .int (1 : Int32) [(.int (0 : Int32))] (.int (0 : Int32)) ∧ h0.size ≤ r0) [] := by
  refine Con.of (a0 := a0) (L0 := #[.val (.ref x0)]) pf23 (fun _ => rfl) (allS g_x0 all0) hO EW.nil ?_
  intro p e s m below meth c S0 hnm hsf W
  replace W := W.aloadN d2101_1_0 rfl rfl rfl
  replace W := W.initO (Wd := 0) d2101_1_1 (tw165 H) (tw7 H) (tw8 H) rfl rfl (by decide) (by decide) rfl
  replace W := W.aloadN d2101_1_4 rfl rfl rfl
  replace W := W.iconst (v := (0 : Int32)) d2101_1_5 rfl rfl
  obtain ⟨h1, W1, w1, SF1⟩ := W.putf (pc' := 9) (ty := .int) d2101_1_6 (tw166 H) Via.refl F_x0_offset E_x0 (Or.inl (tw167 H)) (tw159 H) (by decide) rfl rfl safe0 (Or.inl (List.mem_of_getElem? (i := 0) rfl)) rfl
  clear W
  have z1 : h0.size ≤ h1.size := Nat.le_of_eq w1.size.symm
  have f1 := F_x0_offset.same w1
  replace W1 := W1.aloadN d2101_1_9 rfl rfl rfl
  replace W1 := W1.iconst (v := (1 : Int32)) d2101_1_10 rfl rfl
  obtain ⟨h2, a2, W2, E2, g2, ⟨⟨k2, A2⟩, B2⟩, sf2, SF2⟩ := W1.newarrE (pc' := 13) (ad := "[I") (cap := 1) (cells' := 1) (slots' := 1) d2101_1_11 (tw143 H) (by decide) (by decide) (by decide) (by decide) rfl rfl rfl (by decide) (by decide)
  clear W1
  rw [← g2] at A2 B2
  have z2 : h1.size ≤ h2.size := E2.1
  have v2 : Arv Z h2 a2 k2 .int (1 : Int32) [(.int (0 : Int32))] (.int (0 : Int32)) := A2.pad (pad_rep [] (.int (0 : Int32)) 1)
  have f3 := ((F_x0_value.other w1 (Or.inr (sn16 H))).ext E2)
  have e4 := ((E_x0.wr w1).ext E2)
  obtain ⟨h5, W5, w5, SF5⟩ := W2.putf (pc' := 16) (ty := (.array .int)) d2101_1_13 (tw168 H) Via.refl f3 e4 (Or.inl (tw169 H)) (tw159 H) (by decide) rfl rfl safe0 (Or.inl (List.mem_of_getElem? (i := 0) rfl)) rfl
  clear W2
  have z5 : h2.size ≤ h5.size := Nat.le_of_eq w5.size.symm
  have f5 := f3.same w5
  replace W5 := W5.aloadN d2101_1_16 rfl rfl rfl
  replace W5 := W5.iconst (v := (0 : Int32)) d2101_1_17 rfl rfl
  have f6 := (((F_x0_intLen.other w1 (Or.inr (sn17 H))).ext E2).other w5 (Or.inr (sn18 H)))
  have e7 := (e4.wr w5)
  obtain ⟨h8, W8, w8, SF8⟩ := W5.putf (pc' := 21) (ty := .int) d2101_1_18 (tw170 H) Via.refl f6 e7 (Or.inl (tw171 H)) (tw159 H) (by decide) rfl rfl safe0 (Or.inl (List.mem_of_getElem? (i := 0) rfl)) rfl
  clear W5
  have z8 : h5.size ≤ h8.size := Nat.le_of_eq w8.size.symm
  have f8 := f6.same w8
  have e9 := (e7.wr w8)
  have f10 := (((f1.ext E2).other w5 (Or.inr (sn19 H))).other w8 (Or.inr (sn20 H)))
  have f11 := (f5.other w8 (Or.inr (sn21 H)))
  have e12 := ((B2.wr w5).wr w8)
  have v13 := ((v2.other w5 (Nat.ne_of_gt (Nat.lt_of_lt_of_le E_x0.lt (Nat.le_trans z1 (Nat.le_of_eq g2.symm))))).other w8 (Nat.ne_of_gt (Nat.lt_of_lt_of_le E_x0.lt (Nat.le_trans z1 (Nat.le_of_eq g2.symm)))))
  exact W8.vret d2101_1_21 rfl (by decide) (by decide) (fun V' cv => ⟨a2, k2, rfl, e9, f8, f10, f11, e12, v13, (Nat.le_trans z1 (Nat.le_of_eq g2.symm))⟩)
theorem m36_init (H : Cx Z a0 gA gK) (x0 x1 : Addr) (kp0 : ClassId) (u0 u1 u2 : Int32) (h0 : Heap) (hO : Old Z n0 h0) (E_x0 : Exa Z h0 x0 "java/math/MutableBigInteger") (F_x0_intLen : Fld Z h0 x0 "java/math/MutableBigInteger" "intLen" "I" (.int u0)) (F_x0_offset : Fld Z h0 x0 "java/math/MutableBigInteger" "offset" "I" (.int u1)) (F_x0_value : Fld Z h0 x0 "java/math/MutableBigInteger" "value" "[I" .null) (E_x1 : Exa Z h0 x1 "[I") (V_x1 : Arv Z h0 x1 kp0 .int (1 : Int32) [(.int u2)] (.int (0 : Int32))) (g_x0 : n0 ≤ x0) : Con l Z [] n0 N24 jdk_2101_method_3_code 2 none (Rm 1 0 0 12) #[(.ref x0), (.ref x1)] h0 [x0] (fun v h V' => v = none ∧ Exa Z h x0 "java/math/MutableBigInteger" ∧ Fld Z h x0 "java/math/MutableBigInteger" "intLen" "I" (.int (1 : Int32)) ∧ Fld Z h x0 "java/math/MutableBigInteger" "offset" "I" (.int (0 : Int32)) ∧ Fld Z h x0 "java/math/MutableBigInteger" "value" "[I" (.ref x1)) [] := by
  refine Con.of (a0 := a0) (L0 := #[.val (.ref x0), .val (.ref x1)]) pf24 (fun _ => rfl) (allS g_x0 all0) hO EW.nil ?_
  intro p e s m below meth c S0 hnm hsf W
  replace W := W.aloadN d2101_3_0 rfl rfl rfl
  replace W := W.initO (Wd := 0) d2101_3_1 (tw165 H) (tw7 H) (tw8 H) rfl rfl (by decide) (by decide) rfl
  replace W := W.aloadN d2101_3_4 rfl rfl rfl
  replace W := W.iconst (v := (0 : Int32)) d2101_3_5 rfl rfl
  obtain ⟨h1, W1, w1, SF1⟩ := W.putf (pc' := 9) (ty := .int) d2101_3_6 (tw166 H) Via.refl F_x0_offset E_x0 (Or.inl (tw167 H)) (tw159 H) (by decide) rfl rfl safe0 (Or.inl (List.mem_of_getElem? (i := 0) rfl)) rfl
  clear W
  have z1 : h0.size ≤ h1.size := Nat.le_of_eq w1.size.symm
  have f1 := F_x0_offset.same w1
  replace W1 := W1.aloadN d2101_3_9 rfl rfl rfl
  replace W1 := W1.aloadN d2101_3_10 rfl rfl rfl
  have f2 := (F_x0_value.other w1 (Or.inr (sn16 H)))
  have e3 := (E_x0.wr w1)
  obtain ⟨h4, W4, w4, SF4⟩ := W1.putf (pc' := 14) (ty := (.array .int)) d2101_3_11 (tw168 H) Via.refl f2 e3 (Or.inl (tw169 H)) (tw159 H) (by decide) rfl rfl safe0 (Or.inl (List.mem_of_getElem? (i := 0) rfl)) rfl
  clear W1
  have z4 : h1.size ≤ h4.size := Nat.le_of_eq w4.size.symm
  have f4 := f2.same w4
  replace W4 := W4.aloadN d2101_3_14 rfl rfl rfl
  replace W4 := W4.aloadN d2101_3_15 rfl rfl rfl
  have v5 := ((V_x1.other w1 (Exa.ne (E_x1.wr w1) e3 (by decide))).other w4 (Exa.ne (E_x1.wr w1) e3 (by decide)))
  replace W4 := W4.alen d2101_3_16 v5 rfl
  have f6 := ((F_x0_intLen.other w1 (Or.inr (sn17 H))).other w4 (Or.inr (sn18 H)))
  have e7 := (e3.wr w4)
  obtain ⟨h8, W8, w8, SF8⟩ := W4.putf (pc' := 20) (ty := .int) d2101_3_17 (tw170 H) Via.refl f6 e7 (Or.inl (tw171 H)) (tw159 H) (by decide) rfl rfl safe0 (Or.inl (List.mem_of_getElem? (i := 0) rfl)) rfl
  clear W4
  have z8 : h4.size ≤ h8.size := Nat.le_of_eq w8.size.symm
  have f8 := f6.same w8
  have e9 := (e7.wr w8)
  have f10 := ((f1.other w4 (Or.inr (sn19 H))).other w8 (Or.inr (sn20 H)))
  have f11 := (f4.other w8 (Or.inr (sn21 H)))
  exact W8.vret d2101_3_20 rfl (by decide) (by decide) (fun V' cv => ⟨rfl, e9, f8, f10, f11⟩)
theorem m37_init (H : Cx Z a0 gA gK) (x0 : Addr) (u0 u1 : Int32) (h0 : Heap) (hO : Old Z n0 h0) (E_x0 : Exa Z h0 x0 "java/math/MutableBigInteger") (F_x0_intLen : Fld Z h0 x0 "java/math/MutableBigInteger" "intLen" "I" (.int u0)) (F_x0_offset : Fld Z h0 x0 "java/math/MutableBigInteger" "offset" "I" (.int u1)) (F_x0_value : Fld Z h0 x0 "java/math/MutableBigInteger" "value" "[I" .null) (g_x0 : n0 ≤ x0) : Con l Z [] n0 N24 jdk_2101_method_3_code 2 none (Rm 1 0 0 12) #[(.ref x0), (.ref (gA 3))] h0 [x0] (fun v h V' => v = none ∧ Exa Z h x0 "java/math/MutableBigInteger" ∧ Fld Z h x0 "java/math/MutableBigInteger" "intLen" "I" (.int (1 : Int32)) ∧ Fld Z h x0 "java/math/MutableBigInteger" "offset" "I" (.int (0 : Int32)) ∧ Fld Z h x0 "java/math/MutableBigInteger" "value" "[I" (.ref (gA 3))) [] := by
  refine Con.of (a0 := a0) (L0 := #[.val (.ref x0), .val (.ref (gA 3))]) pf24 (fun _ => rfl) (allS g_x0 all0) hO EW.nil ?_
  intro p e s m below meth c S0 hnm hsf W
  replace W := W.aloadN d2101_3_0 rfl rfl rfl
  replace W := W.initO (Wd := 0) d2101_3_1 (tw165 H) (tw7 H) (tw8 H) rfl rfl (by decide) (by decide) rfl
  replace W := W.aloadN d2101_3_4 rfl rfl rfl
  replace W := W.iconst (v := (0 : Int32)) d2101_3_5 rfl rfl
  obtain ⟨h1, W1, w1, SF1⟩ := W.putf (pc' := 9) (ty := .int) d2101_3_6 (tw166 H) Via.refl F_x0_offset E_x0 (Or.inl (tw167 H)) (tw159 H) (by decide) rfl rfl safe0 (Or.inl (List.mem_of_getElem? (i := 0) rfl)) rfl
  clear W
  have z1 : h0.size ≤ h1.size := Nat.le_of_eq w1.size.symm
  have f1 := F_x0_offset.same w1
  replace W1 := W1.aloadN d2101_3_9 rfl rfl rfl
  replace W1 := W1.aloadN d2101_3_10 rfl rfl rfl
  have f2 := (F_x0_value.other w1 (Or.inr (sn16 H)))
  have e3 := (E_x0.wr w1)
  obtain ⟨h4, W4, w4, SF4⟩ := W1.putf (pc' := 14) (ty := (.array .int)) d2101_3_11 (tw168 H) Via.refl f2 e3 (Or.inl (tw169 H)) (tw159 H) (by decide) rfl rfl safe0 (Or.inl (List.mem_of_getElem? (i := 0) rfl)) rfl
  clear W1
  have z4 : h1.size ≤ h4.size := Nat.le_of_eq w4.size.symm
  have f4 := f2.same w4
  replace W4 := W4.aloadN d2101_3_14 rfl rfl rfl
  replace W4 := W4.aloadN d2101_3_15 rfl rfl rfl
  have v5 := (gf36 H).ext W4.old.2
  replace W4 := W4.alen d2101_3_16 v5 rfl
  have f6 := ((F_x0_intLen.other w1 (Or.inr (sn17 H))).other w4 (Or.inr (sn18 H)))
  have e7 := (e3.wr w4)
  obtain ⟨h8, W8, w8, SF8⟩ := W4.putf (pc' := 20) (ty := .int) d2101_3_17 (tw170 H) Via.refl f6 e7 (Or.inl (tw171 H)) (tw159 H) (by decide) rfl rfl safe0 (Or.inl (List.mem_of_getElem? (i := 0) rfl)) rfl
  clear W4
  have z8 : h4.size ≤ h8.size := Nat.le_of_eq w8.size.symm
  have f8 := f6.same w8
  have e9 := (e7.wr w8)
  have f10 := ((f1.other w4 (Or.inr (sn19 H))).other w8 (Or.inr (sn20 H)))
  have f11 := (f4.other w8 (Or.inr (sn21 H)))
  exact W8.vret d2101_3_20 rfl (by decide) (by decide) (fun V' cv => ⟨rfl, e9, f8, f10, f11⟩)
theorem m41_compare (H : Cx Z a0 gA gK) (x0 x1 x2 : Addr) (kp0 : ClassId) (u0 u1 u2 u3 u4 s0 s1 s2 : Int32) (h0 : Heap) (hO : Old Z n0 h0) (F_x0_intLen : Fld Z h0 x0 "java/math/MutableBigInteger" "intLen" "I" (.int u0)) (F_x0_offset : Fld Z h0 x0 "java/math/MutableBigInteger" "offset" "I" (.int u1)) (F_x0_value : Fld Z h0 x0 "java/math/MutableBigInteger" "value" "[I" (.ref x2)) (F_x1_intLen : Fld Z h0 x1 "java/math/MutableBigInteger" "intLen" "I" (.int u2)) (F_x1_offset : Fld Z h0 x1 "java/math/MutableBigInteger" "offset" "I" (.int u3)) (F_x1_value : Fld Z h0 x1 "java/math/MutableBigInteger" "value" "[I" (.ref (gA 3))) (V_x2 : Arv Z h0 x2 kp0 .int (1 : Int32) [(.int u4)] (.int (0 : Int32))) (p0 : ¬ (u0 < u2)) (p1 : ¬ (u2 < u0)) (p2 : (u0 + u1) = s0) (p3 : u1 < s0) (p4 : u1 = (0 : Int32)) (p5 : (u4 + (-2147483648 : Int32)) = s1) (p6 : u3 = (0 : Int32)) (p7 : ¬ (s1 < (-1147483648 : Int32))) (p8 : ¬ ((-1147483648 : Int32) < s1)) (p9 : (u0 + (0 : Int32)) = s2) (p10 : ¬ ((1 : Int32) < s2)) : Con l Z [] n0 N25 jdk_2101_method_15_code 8 (some .int) (Rm 0 0 0 0) #[(.ref x0), (.ref x1)] h0 [] (fun v h V' => v = some (.int (0 : Int32)) ∧ h0 = h) [] := by
  refine Con.of (a0 := a0) (L0 := #[.val (.ref x0), .val (.ref x1), .unset, .unset, .unset, .unset, .unset, .unset]) pf25 (fun _ => rfl) all0 hO EW.nil ?_
  intro p e s m below meth c S0 hnm hsf W
  replace W := W.aloadN d2101_15_0 rfl rfl rfl
  replace W := W.getf d2101_15_1 (tw170 H) Via.refl F_x1_intLen rfl
  replace W := W.istoreN (L' := #[.val (.ref x0), .val (.ref x1), .val (.int u2), .unset, .unset, .unset, .unset, .unset]) d2101_15_4 rfl rfl
  replace W := W.aloadN d2101_15_5 rfl rfl rfl
  replace W := W.getf d2101_15_6 (tw170 H) Via.refl F_x0_intLen rfl
  replace W := W.iloadN d2101_15_9 rfl rfl
  replace W := W.icmpT (pc' := 15) d2101_15_10 (flt p0).2.1 (by decide) (by decide)
  replace W := W.aloadN d2101_15_15 rfl rfl rfl
  replace W := W.getf d2101_15_16 (tw170 H) Via.refl F_x0_intLen rfl
  replace W := W.iloadN d2101_15_19 rfl rfl
  replace W := W.icmpT (pc' := 25) d2101_15_20 (flt p1).2.2.2 (by decide) (by decide)
  replace W := W.aloadN d2101_15_25 rfl rfl rfl
  replace W := W.getf d2101_15_26 (tw168 H) Via.refl F_x1_value rfl
  replace W := W.astoreN (L' := #[.val (.ref x0), .val (.ref x1), .val (.int u2), .val (.ref (gA 3)), .unset, .unset, .unset, .unset]) d2101_15_29 rfl rfl rfl
  replace W := W.aloadN d2101_15_30 rfl rfl rfl
  replace W := W.getf d2101_15_31 (tw166 H) Via.refl F_x0_offset rfl
  replace W := W.istore (L' := #[.val (.ref x0), .val (.ref x1), .val (.int u2), .val (.ref (gA 3)), .val (.int u1), .unset, .unset, .unset]) d2101_15_34 rfl rfl
  replace W := W.aloadN d2101_15_36 rfl rfl rfl
  replace W := W.getf d2101_15_37 (tw166 H) Via.refl F_x1_offset rfl
  replace W := W.istore (L' := #[.val (.ref x0), .val (.ref x1), .val (.int u2), .val (.ref (gA 3)), .val (.int u1), .val (.int u3), .unset, .unset]) d2101_15_40 rfl rfl
  replace W := W.iload d2101_15_42 rfl rfl
  replace W := W.aloadN d2101_15_44 rfl rfl rfl
  replace W := W.getf d2101_15_45 (tw170 H) Via.refl F_x0_intLen rfl
  replace W := W.aloadN d2101_15_48 rfl rfl rfl
  replace W := W.getf d2101_15_49 (tw166 H) Via.refl F_x0_offset rfl
  replace W := W.iadd (v := s0) d2101_15_52 p2 rfl
  replace W := W.icmpF (pc' := 56) d2101_15_53 (tlt p3).2.1 rfl
  replace W := W.aloadN d2101_15_56 rfl rfl rfl
  replace W := W.getf d2101_15_57 (tw168 H) Via.refl F_x0_value rfl
  replace W := W.iload d2101_15_60 rfl rfl
  subst p4
  replace W := W.iaload (w := (.int u4)) d2101_15_62 V_x2 ⟨by decide, by decide⟩ rfl rfl
  replace W := W.ldcI d2101_15_63 (tw190 H) rfl
  replace W := W.iadd (v := s1) d2101_15_65 p5 rfl
  replace W := W.istore (L' := #[.val (.ref x0), .val (.ref x1), .val (.int u2), .val (.ref (gA 3)), .val (.int (0 : Int32)), .val (.int u3), .val (.int s1), .unset]) d2101_15_66 rfl rfl
  replace W := W.aloadN d2101_15_68 rfl rfl rfl
  replace W := W.iload d2101_15_69 rfl rfl
  subst p6
  have v1 := (gf36 H).ext W.old.2
  replace W := W.iaload (w := (.int (1000000000 : Int32))) d2101_15_71 v1 ⟨by decide, by decide⟩ rfl rfl
  replace W := W.ldcI d2101_15_72 (tw190 H) rfl
  replace W := W.iadd (v := (-1147483648 : Int32)) d2101_15_74 (by decide) rfl
  replace W := W.istore (L' := #[.val (.ref x0), .val (.ref x1), .val (.int u2), .val (.ref (gA 3)), .val (.int (0 : Int32)), .val (.int (0 : Int32)), .val (.int s1), .val (.int (-1147483648 : Int32))]) d2101_15_75 rfl rfl
  replace W := W.iload d2101_15_77 rfl rfl
  replace W := W.iload d2101_15_79 rfl rfl
  replace W := W.icmpT (pc' := 86) d2101_15_81 (flt p7).2.1 (by decide) (by decide)
  replace W := W.iload d2101_15_86 rfl rfl
  replace W := W.iload d2101_15_88 rfl rfl
  replace W := W.icmpT (pc' := 95) d2101_15_90 (flt p8).2.2.2 (by decide) (by decide)
  replace W := W.iinc (v := (1 : Int32)) (L' := #[.val (.ref x0), .val (.ref x1), .val (.int u2), .val (.ref (gA 3)), .val (.int (1 : Int32)), .val (.int (0 : Int32)), .val (.int s1), .val (.int (-1147483648 : Int32))]) d2101_15_95 rfl (by decide) rfl rfl
  replace W := W.iinc (v := (1 : Int32)) (L' := #[.val (.ref x0), .val (.ref x1), .val (.int u2), .val (.ref (gA 3)), .val (.int (1 : Int32)), .val (.int (1 : Int32)), .val (.int s1), .val (.int (-1147483648 : Int32))]) d2101_15_98 rfl (by decide) rfl rfl
  replace W := W.goto (pc' := 42) d2101_15_101 (by decide) (by decide)
  replace W := W.iload d2101_15_42 rfl rfl
  replace W := W.aloadN d2101_15_44 rfl rfl rfl
  replace W := W.getf d2101_15_45 (tw170 H) Via.refl F_x0_intLen rfl
  replace W := W.aloadN d2101_15_48 rfl rfl rfl
  replace W := W.getf d2101_15_49 (tw166 H) Via.refl F_x0_offset rfl
  replace W := W.iadd (v := s2) d2101_15_52 p9 rfl
  replace W := W.icmpT (pc' := 104) d2101_15_53 (flt p10).2.1 (by decide) (by decide)
  replace W := W.iconst (v := (0 : Int32)) d2101_15_104 rfl rfl
  exact W.iret (t := .int) d2101_15_105 rfl (by simp) rfl (by decide) (by decide) (fun V' cv => ⟨rfl, rfl⟩)
theorem m42_divideKnuth (H : Cx Z a0 gA gK) (x0 x1 x2 x3 x4 : Addr) (kp0 kp1 : ClassId) (u0 u1 u2 u3 u4 u5 u6 u7 u8 s0 s1 s2 : Int32) (h0 : Heap) (hO : Old Z n0 h0) (E_x0 : Exa Z h0 x0 "java/math/MutableBigInteger") (F_x0_intLen : Fld Z h0 x0 "java/math/MutableBigInteger" "intLen" "I" (.int u1)) (F_x0_offset : Fld Z h0 x0 "java/math/MutableBigInteger" "offset" "I" (.int u2)) (F_x0_value : Fld Z h0 x0 "java/math/MutableBigInteger" "value" "[I" (.ref x3)) (F_x1_intLen : Fld Z h0 x1 "java/math/MutableBigInteger" "intLen" "I" (.int u3)) (F_x1_offset : Fld Z h0 x1 "java/math/MutableBigInteger" "offset" "I" (.int u4)) (F_x1_value : Fld Z h0 x1 "java/math/MutableBigInteger" "value" "[I" (.ref (gA 3))) (E_x2 : Exa Z h0 x2 "java/math/MutableBigInteger") (F_x2_intLen : Fld Z h0 x2 "java/math/MutableBigInteger" "intLen" "I" (.int u5)) (F_x2_offset : Fld Z h0 x2 "java/math/MutableBigInteger" "offset" "I" (.int u6)) (F_x2_value : Fld Z h0 x2 "java/math/MutableBigInteger" "value" "[I" (.ref x4)) (V_x3 : Arv Z h0 x3 kp0 .int (1 : Int32) [(.int u7)] (.int (0 : Int32))) (E_x4 : Exa Z h0 x4 "[I") (V_x4 : Arv Z h0 x4 kp1 .int (1 : Int32) [(.int u8)] (.int (0 : Int32))) (p0 : ¬ (u3 = (0 : Int32))) (p1 : ¬ (u1 = (0 : Int32))) (p2 : (u1 + u2) = s0) (p3 : (u7 + (-2147483648 : Int32)) = s1) (p4 : (u1 + (0 : Int32)) = s2) (p5 : ¬ (u1 < u3)) (p6 : ¬ (u3 < u1)) (p7 : u2 < s0) (p8 : u2 = (0 : Int32)) (p9 : u4 = (0 : Int32)) (p10 : ¬ (s1 < (-1147483648 : Int32))) (p11 : ¬ ((-1147483648 : Int32) < s1)) (p12 : ¬ ((1 : Int32) < s2)) (p13 : ¬ (u0 = (0 : Int32))) (g_x2 : n0 ≤ x2) (g_x4 : n0 ≤ x4) : Con l Z [] n0 N26 jdk_2101_method_57_code 8 (some (.object "java/math/MutableBigInteger")) (Rm 2 2 4 25) #[(.ref x0), (.ref x1), (.ref x2), (.int u0)] h0 [x2, x4] (fun v h V' => ∃ (r0 : Addr) (r1 : Addr) (kr0 : ClassId), v = some (.ref r0) ∧ Exa Z h r0 "java/math/MutableBigInteger" ∧ Fld Z h r0 "java/math/MutableBigInteger" "intLen" "I" (.int (0 : Int32)) ∧ Fld Z h r0 "java/math/MutableBigInteger" "offset" "I" (.int (0 : Int32)) ∧ Fld Z h r0 "java/math/MutableBigInteger" "value" "[I" (.ref r1) ∧ h0.size ≤ r0 ∧ Exa Z h x2 "java/math/MutableBigInteger" ∧ Fld Z h x2 "java/math/MutableBigInteger" "intLen" "I" (.int (1 : Int32)) ∧ Fld Z h x2 "java/math/MutableBigInteger" "offset" "I" (.int (0 : Int32)) ∧ Fld Z h x2 "java/math/MutableBigInteger" "value" "[I" (.ref x4) ∧ Exa Z h x4 "[I" ∧ Arv Z h x4 kp1 .int (1 : Int32) [(.int (1 : Int32))] (.int (0 : Int32)) ∧ Exa Z h r1 "[I" ∧ Arv Z h r1 kr0 .int (1 : Int32) [(.int (0 : Int32))] (.int (0 : Int32)) ∧ h0.size ≤ r1) [] := by
  refine Con.of (a0 := a0) (L0 := #[.val (.ref x0), .val (.ref x1), .val (.ref x2), .val (.int u0), .unset, .unset, .unset, .unset]) pf26 (fun _ => rfl) (allS g_x2 (allS g_x4 all0)) hO EW.nil ?_
  intro p e s m below meth c S0 hnm hsf W
  replace W := W.aloadN d2101_57_0 rfl rfl rfl
  replace W := W.getf d2101_57_1 (tw170 H) Via.refl F_x1_intLen rfl
  replace W := W.ifT (pc' := 17) d2101_57_4 (feq p0).2 (by decide) (by decide)
  replace W := W.aloadN d2101_57_17 rfl rfl rfl
  replace W := W.getf d2101_57_18 (tw170 H) Via.refl F_x0_intLen rfl
  replace W := W.ifT (pc' := 50) d2101_57_21 (feq p1).2 (by decide) (by decide)
  replace W := W.aloadN d2101_57_50 rfl rfl rfl
  replace W := W.aloadN d2101_57_51 rfl rfl rfl
  obtain ⟨V1, h1, r1, W1, K1, hQ1, SF1⟩ := W.callV (pc' := 55) (argsL := [(.ref x1)]) (rest := []) (Wd := 0) (cells' := 0) (slots' := 0) (a := x0) (C := "java/math/MutableBigInteger") (y := N25) (z := N25) d2101_57_52 (m41_compare H x0 x1 x3 kp0 u1 u2 u3 u4 u7 s0 s1 s2 h0 W.old F_x0_intLen F_x0_offset F_x0_value F_x1_intLen F_x1_offset F_x1_value V_x3 p5 p6 p2 p7 p8 p3 p9 p10 p11 p4 p12) E_x0 (tw185 H) (tw186 H) (Or.inl (tw188 H)) (tw188 H) (tw187 H) (tw160 H) (tw189 H) (by decide) (lenOf pd19 rfl) rfl rfl (by decide) (by decide) rfl sf0 all0
  clear W
  obtain ⟨_, rfl, hs1⟩ := hQ1
  subst hs1
  replace W1 := W1.cast (st' := [(.int (0 : Int32))]) rfl
  replace W1 := W1.istore (L' := #[.val (.ref x0), .val (.ref x1), .val (.ref x2), .val (.int u0), .val (.int (0 : Int32)), .unset, .unset, .unset]) d2101_57_55 rfl rfl
  replace W1 := W1.iload d2101_57_57 rfl rfl
  replace W1 := W1.ifT (pc' := 89) d2101_57_59 (flt (by decide : ¬ ((0 : Int32) < (0 : Int32)))).2.1 (by decide) (by decide)
  replace W1 := W1.iload d2101_57_89 rfl rfl
  replace W1 := W1.ifF (pc' := 94) d2101_57_91 (teq (by decide : (0 : Int32) = (0 : Int32))).2 rfl
  replace W1 := W1.aloadN d2101_57_94 rfl rfl rfl
  replace W1 := W1.getf d2101_57_95 (tw168 H) Via.refl F_x2_value rfl
  replace W1 := W1.iconst (v := (0 : Int32)) d2101_57_98 rfl rfl
  replace W1 := W1.aloadN d2101_57_99 rfl rfl rfl
  replace W1 := W1.iconst (v := (1 : Int32)) d2101_57_100 rfl rfl
  replace W1 := W1.dupX1 d2101_57_101 rfl rfl rfl
  obtain ⟨h2, W2, w2, SF2⟩ := W1.putf (pc' := 105) (ty := .int) d2101_57_102 (tw170 H) Via.refl F_x2_intLen E_x2 (Or.inl (tw171 H)) (tw159 H) (by decide) rfl rfl safe0 (Or.inl (List.mem_of_getElem? (i := 0) rfl)) rfl
  clear W1
  have z2 : h0.size ≤ h2.size := Nat.le_of_eq w2.size.symm
  have f2 := F_x2_intLen.same w2
  have v3 := (V_x4.other w2 (Exa.ne E_x4 E_x2 (by decide)))
  obtain ⟨h4, W4, w4, A4, SF4⟩ := W2.iastore (pc' := 106) (i := 0) (x' := (1 : Int32)) d2101_57_105 v3 ⟨by decide, by decide⟩ rfl (by show 0 < 1; decide) rfl safe0 (Or.inl (List.mem_of_getElem? (i := 1) rfl)) rfl
  clear W2
  have z4 : h2.size ≤ h4.size := Nat.le_of_eq w4.size.symm
  have v4 : Arv Z h4 x4 kp1 .int (1 : Int32) [(.int (1 : Int32))] (.int (0 : Int32)) := A4
  replace W4 := W4.aloadN d2101_57_106 rfl rfl rfl
  replace W4 := W4.iconst (v := (0 : Int32)) d2101_57_107 rfl rfl
  have f5 := ((F_x2_offset.other w2 (Or.inr (sn20 H))).other w4 (Or.inl (Exa.ne E_x2 E_x4 (by decide))))
  have e6 := ((E_x2.wr w2).wr w4)
  obtain ⟨h7, W7, w7, SF7⟩ := W4.putf (pc' := 111) (ty := .int) d2101_57_108 (tw166 H) Via.refl f5 e6 (Or.inl (tw167 H)) (tw159 H) (by decide) rfl rfl safe0 (Or.inl (List.mem_of_getElem? (i := 0) rfl)) rfl
  clear W4
  have z7 : h4.size ≤ h7.size := Nat.le_of_eq w7.size.symm
  have f7 := f5.same w7
  replace W7 := W7.iloadN d2101_57_111 rfl rfl
  replace W7 := W7.ifF (pc' := 115) d2101_57_112 (feq p13).1 rfl
  obtain ⟨h8, a8, W8, E8, g8, ⟨A8, D8, U8⟩, sf8, SF8⟩ := W7.new (pc' := 118) (cells' := 1) (slots' := 3) d2101_57_115 (tw191 H) (tw159 H) (tw160 H) rfl rfl rfl (by decide) (by decide)
  clear W7
  rw [← g8] at A8 D8 U8
  have z8 : h7.size ≤ h8.size := E8.1
  replace W8 := W8.dup d2101_57_118 rfl rfl
  obtain ⟨V9, h9, r9, W9, K9, hQ9, SF9⟩ := W8.callI (pc' := 122) (argsL := []) (rest := [(.ref a8)]) (Wd := 1) (cells' := 2) (slots' := 4) (a := a8) (y := N23) d2101_57_119 (m35_init H a8 (0 : Int32) (0 : Int32) h8 W8.old A8 (D8 (Or.inl (tw171 H)) (ty := .int) (by decide) : Fld Z h8 a8 "java/math/MutableBigInteger" "intLen" "I" (.int (0 : Int32))) (D8 (Or.inl (tw167 H)) (ty := .int) (by decide) : Fld Z h8 a8 "java/math/MutableBigInteger" "offset" "I" (.int (0 : Int32))) (D8 (Or.inl (tw169 H)) (ty := (.array .int)) (by decide) : Fld Z h8 a8 "java/math/MutableBigInteger" "value" "[I" .null) (Nat.le_trans W8.1.2.2.2.2.2.2.2.1 (Nat.le_trans (Nat.le_trans (Nat.le_trans z2 z4) z7) (Nat.le_of_eq g8.symm)))) rfl (tw192 H) (tw162 H) (tw160 H) (tw164 H) (by decide) (lenOf pd0 rfl) rfl rfl (by decide) (by decide) rfl (sfS safe0 sf0) (allS (Or.inr (Nat.le_trans (Nat.le_trans (Nat.le_trans z2 z4) z7) (Nat.le_of_eq g8.symm))) all0)
  clear W8
  obtain ⟨_, r09, kr09, rfl, q9_1, q9_2, q9_3, q9_4, q9_5, q9_6, q9_7⟩ := hQ9
  have z9 : h8.size ≤ h9.size := K9.1
  replace W9 := W9.cast (st' := [(.ref a8)]) rfl
  replace W9 := W9.goto (pc' := 126) d2101_57_122 (by decide) (by decide)
  have e10 := (((e6.wr w7).ext E8).keep K9)
  have f11 := ((((f2.other w4 (Or.inl (Exa.ne e10 (((((E_x4.wr w2).wr w4).wr w7).ext E8).keep K9) (by decide)))).other w7 (Or.inr (sn17 H))).ext E8).keep K9 (ninS (Nat.ne_of_lt (Nat.lt_of_lt_of_le E_x2.lt (Nat.le_trans (Nat.le_trans (Nat.le_trans z2 z4) z7) (Nat.le_of_eq g8.symm)))) nin0))
  have f12 := ((f7.ext E8).keep K9 (ninS (Nat.ne_of_lt (Nat.lt_of_lt_of_le E_x2.lt (Nat.le_trans (Nat.le_trans (Nat.le_trans z2 z4) z7) (Nat.le_of_eq g8.symm)))) nin0))
  have f13 := (((((F_x2_value.other w2 (Or.inr (sn21 H))).other w4 (Or.inl (Exa.ne e10 (((((E_x4.wr w2).wr w4).wr w7).ext E8).keep K9) (by decide)))).other w7 (Or.inr (sn16 H))).ext E8).keep K9 (ninS (Nat.ne_of_lt (Nat.lt_of_lt_of_le E_x2.lt (Nat.le_trans (Nat.le_trans (Nat.le_trans z2 z4) z7) (Nat.le_of_eq g8.symm)))) nin0))
  have e14 := (((((E_x4.wr w2).wr w4).wr w7).ext E8).keep K9)
  have v15 := (((v4.other w7 (Exa.ne e14 e10 (by decide))).ext E8).keep K9 (ninS (Nat.ne_of_lt (Nat.lt_of_lt_of_le E_x4.lt (Nat.le_trans (Nat.le_trans (Nat.le_trans z2 z4) z7) (Nat.le_of_eq g8.symm)))) nin0))
  exact W9.aret (t := (.object "java/math/MutableBigInteger")) d2101_57_126 rfl rfl rfl rfl (by decide) (by decide) (fun V' cv => ⟨a8, r09, kr09, rfl, q9_1, q9_2, q9_3, q9_4, (Nat.le_trans (Nat.le_trans (Nat.le_trans z2 z4) z7) (Nat.le_of_eq g8.symm)), e10, f11, f12, f13, e14, v15, q9_5, q9_6, (Nat.le_trans (Nat.le_trans (Nat.le_trans (Nat.le_trans z2 z4) z7) z8) q9_7)⟩)
theorem m38_divideKnuth (H : Cx Z a0 gA gK) (x0 x1 x2 x3 x4 : Addr) (kp0 kp1 : ClassId) (u0 u1 u2 u3 u4 u5 u6 u7 s0 s1 s2 : Int32) (h0 : Heap) (hO : Old Z n0 h0) (E_x0 : Exa Z h0 x0 "java/math/MutableBigInteger") (F_x0_intLen : Fld Z h0 x0 "java/math/MutableBigInteger" "intLen" "I" (.int u0)) (F_x0_offset : Fld Z h0 x0 "java/math/MutableBigInteger" "offset" "I" (.int u1)) (F_x0_value : Fld Z h0 x0 "java/math/MutableBigInteger" "value" "[I" (.ref x3)) (F_x1_intLen : Fld Z h0 x1 "java/math/MutableBigInteger" "intLen" "I" (.int u2)) (F_x1_offset : Fld Z h0 x1 "java/math/MutableBigInteger" "offset" "I" (.int u3)) (F_x1_value : Fld Z h0 x1 "java/math/MutableBigInteger" "value" "[I" (.ref (gA 3))) (E_x2 : Exa Z h0 x2 "java/math/MutableBigInteger") (F_x2_intLen : Fld Z h0 x2 "java/math/MutableBigInteger" "intLen" "I" (.int u4)) (F_x2_offset : Fld Z h0 x2 "java/math/MutableBigInteger" "offset" "I" (.int u5)) (F_x2_value : Fld Z h0 x2 "java/math/MutableBigInteger" "value" "[I" (.ref x4)) (V_x3 : Arv Z h0 x3 kp0 .int (1 : Int32) [(.int u6)] (.int (0 : Int32))) (E_x4 : Exa Z h0 x4 "[I") (V_x4 : Arv Z h0 x4 kp1 .int (1 : Int32) [(.int u7)] (.int (0 : Int32))) (p0 : (u0 + u1) = s0) (p1 : (u6 + (-2147483648 : Int32)) = s1) (p2 : (u0 + (0 : Int32)) = s2) (p3 : ¬ (u2 = (0 : Int32))) (p4 : ¬ (u0 = (0 : Int32))) (p5 : ¬ (u0 < u2)) (p6 : ¬ (u2 < u0)) (p7 : u1 < s0) (p8 : u1 = (0 : Int32)) (p9 : u3 = (0 : Int32)) (p10 : ¬ (s1 < (-1147483648 : Int32))) (p11 : ¬ ((-1147483648 : Int32) < s1)) (p12 : ¬ ((1 : Int32) < s2)) (g_x2 : n0 ≤ x2) (g_x4 : n0 ≤ x4) : Con l Z [] n0 N27 jdk_2101_method_56_code 3 (some (.object "java/math/MutableBigInteger")) (Rm 3 2 4 44) #[(.ref x0), (.ref x1), (.ref x2)] h0 [x2, x4] (fun v h V' => ∃ (r0 : Addr) (r1 : Addr) (kr0 : ClassId), v = some (.ref r0) ∧ Exa Z h r0 "java/math/MutableBigInteger" ∧ Fld Z h r0 "java/math/MutableBigInteger" "intLen" "I" (.int (0 : Int32)) ∧ Fld Z h r0 "java/math/MutableBigInteger" "offset" "I" (.int (0 : Int32)) ∧ Fld Z h r0 "java/math/MutableBigInteger" "value" "[I" (.ref r1) ∧ h0.size ≤ r0 ∧ Exa Z h x2 "java/math/MutableBigInteger" ∧ Fld Z h x2 "java/math/MutableBigInteger" "intLen" "I" (.int (1 : Int32)) ∧ Fld Z h x2 "java/math/MutableBigInteger" "offset" "I" (.int (0 : Int32)) ∧ Fld Z h x2 "java/math/MutableBigInteger" "value" "[I" (.ref x4) ∧ Exa Z h x4 "[I" ∧ Arv Z h x4 kp1 .int (1 : Int32) [(.int (1 : Int32))] (.int (0 : Int32)) ∧ Exa Z h r1 "[I" ∧ Arv Z h r1 kr0 .int (1 : Int32) [(.int (0 : Int32))] (.int (0 : Int32)) ∧ h0.size ≤ r1) [] := by
  refine Con.of (a0 := a0) (L0 := #[.val (.ref x0), .val (.ref x1), .val (.ref x2)]) pf27 (fun _ => rfl) (allS g_x2 (allS g_x4 all0)) hO EW.nil ?_
  intro p e s m below meth c S0 hnm hsf W
  replace W := W.aloadN d2101_56_0 rfl rfl rfl
  replace W := W.aloadN d2101_56_1 rfl rfl rfl
  replace W := W.aloadN d2101_56_2 rfl rfl rfl
  replace W := W.iconst (v := (1 : Int32)) d2101_56_3 rfl rfl
  obtain ⟨V1, h1, r1, W1, K1, hQ1, SF1⟩ := W.callV (pc' := 7) (argsL := [(.ref x1), (.ref x2), (.int (1 : Int32))]) (rest := []) (Wd := 0) (cells' := 2) (slots' := 4) (a := x0) (C := "java/math/MutableBigInteger") (y := N26) (z := N26) d2101_56_4 (m42_divideKnuth H x0 x1 x2 x3 x4 kp0 kp1 (1 : Int32) u0 u1 u2 u3 u4 u5 u6 u7 s0 s1 s2 h0 W.old E_x0 F_x0_intLen F_x0_offset F_x0_value F_x1_intLen F_x1_offset F_x1_value E_x2 F_x2_intLen F_x2_offset F_x2_value V_x3 E_x4 V_x4 p3 p4 p0 p1 p2 p5 p6 p7 p8 p9 p10 p11 p12 (by decide) g_x2 g_x4) E_x0 (tw180 H) (tw181 H) (Or.inl (tw183 H)) (tw183 H) (tw182 H) (tw160 H) (tw184 H) (by decide) (lenOf pd20 rfl) rfl rfl (by decide) (by decide) rfl (sfS safe0 (sfS safe0 sf0)) (allS (Or.inl (List.mem_of_getElem? (i := 0) rfl)) (allS (Or.inl (List.mem_of_getElem? (i := 1) rfl)) all0))
  clear W
  obtain ⟨_, r01, r11, kr01, rfl, q1_1, q1_2, q1_3, q1_4, q1_5, q1_6, q1_7, q1_8, q1_9, q1_10, q1_11, q1_12, q1_13, q1_14⟩ := hQ1
  have z1 : h0.size ≤ h1.size := K1.1
  replace W1 := W1.cast (st' := [(.ref r01)]) rfl
  exact W1.aret (t := (.object "java/math/MutableBigInteger")) d2101_56_7 rfl rfl rfl rfl (by decide) (by decide) (fun V' cv => ⟨r01, r11, kr01, rfl, q1_1, q1_2, q1_3, q1_4, q1_5, q1_6, q1_7, q1_8, q1_9, q1_10, q1_11, q1_12, q1_13, q1_14⟩)
theorem m44_getMagnitudeArray (H : Cx Z a0 gA gK) (x0 x1 : Addr) (kp0 : ClassId) (u0 u1 u2 : Int32) (h0 : Heap) (hO : Old Z n0 h0) (F_x0_intLen : Fld Z h0 x0 "java/math/MutableBigInteger" "intLen" "I" (.int u0)) (F_x0_offset : Fld Z h0 x0 "java/math/MutableBigInteger" "offset" "I" (.int u1)) (F_x0_value : Fld Z h0 x0 "java/math/MutableBigInteger" "value" "[I" (.ref x1)) (V_x1 : Arv Z h0 x1 kp0 .int (1 : Int32) [(.int u2)] (.int (0 : Int32))) (p0 : ¬ ((0 : Int32) < u1)) (p1 : (1 : Int32) = u0) : Con l Z [] n0 N28 jdk_2101_method_7_code 2 (some (.array .int)) (Rm 0 0 0 0) #[(.ref x0)] h0 [] (fun v h V' => v = some (.ref x1) ∧ h0 = h) [] := by
  refine Con.of (a0 := a0) (L0 := #[.val (.ref x0), .unset]) pf28 (fun _ => rfl) all0 hO EW.nil ?_
  intro p e s m below meth c S0 hnm hsf W
  replace W := W.aloadN d2101_7_0 rfl rfl rfl
  replace W := W.getf d2101_7_1 (tw166 H) Via.refl F_x0_offset rfl
  replace W := W.ifF (pc' := 7) d2101_7_4 (flt p0).2.2.1 rfl
  replace W := W.aloadN d2101_7_7 rfl rfl rfl
  replace W := W.getf d2101_7_8 (tw168 H) Via.refl F_x0_value rfl
  replace W := W.alen d2101_7_11 V_x1 rfl
  replace W := W.aloadN d2101_7_12 rfl rfl rfl
  replace W := W.getf d2101_7_13 (tw170 H) Via.refl F_x0_intLen rfl
  replace W := W.icmpT (pc' := 64) d2101_7_16 (teq p1).1 (by decide) (by decide)
  replace W := W.aloadN d2101_7_64 rfl rfl rfl
  replace W := W.getf d2101_7_65 (tw168 H) Via.refl F_x0_value rfl
  exact W.aret (t := (.array .int)) d2101_7_68 rfl rfl rfl rfl (by decide) (by decide) (fun V' cv => ⟨rfl, rfl⟩)
theorem m45_init (H : Cx Z a0 gA gK) (x0 x1 : Addr) (kp0 : ClassId) (u0 u1 u2 u3 : Int32) (h0 : Heap) (hO : Old Z n0 h0) (E_x0 : Exa Z h0 x0 "java/math/BigInteger") (F_x0_bitLengthPlusOne : Fld Z h0 x0 "java/math/BigInteger" "bitLengthPlusOne" "I" (.int u1)) (F_x0_mag : Fld Z h0 x0 "java/math/BigInteger" "mag" "[I" .null) (F_x0_signum : Fld Z h0 x0 "java/math/BigInteger" "signum" "I" (.int u2)) (E_x1 : Exa Z h0 x1 "[I") (V_x1 : Arv Z h0 x1 kp0 .int (1 : Int32) [(.int u3)] (.int (0 : Int32))) (g_x0 : n0 ≤ x0) : Con l Z [] n0 N29 jdk_2097_method_25_code 3 none (Rm 2 0 0 24) #[(.ref x0), (.ref x1), (.int u0)] h0 [x0] (fun v h V' => v = none ∧ Exa Z h x0 "java/math/BigInteger" ∧ Fld Z h x0 "java/math/BigInteger" "bitLengthPlusOne" "I" (.int u1) ∧ Fld Z h x0 "java/math/BigInteger" "mag" "[I" (.ref x1) ∧ Fld Z h x0 "java/math/BigInteger" "signum" "I" (.int u0)) [] := by
  refine Con.of (a0 := a0) (L0 := #[.val (.ref x0), .val (.ref x1), .val (.int u0)]) pf29 (fun _ => rfl) (allS g_x0 all0) hO EW.nil ?_
  intro p e s m below meth c S0 hnm hsf W
  replace W := W.aloadN d2097_25_0 rfl rfl rfl
  obtain ⟨V1, h1, r1, W1, K1, hQ1, SF1⟩ := W.callI (pc' := 4) (argsL := []) (rest := []) (Wd := 0) (cells' := 0) (slots' := 0) (a := x0) (y := N2) d2097_25_1 (m30_init H x0 h0 W.old) rfl (tw139 H) (tw50 H) (tw53 H) (tw54 H) (by decide) (lenOf pd0 rfl) rfl rfl (by decide) (by decide) rfl sf0 all0
  clear W
  obtain ⟨_, rfl, hs1⟩ := hQ1
  subst hs1
  replace W1 := W1.cast (st' := []) rfl
  replace W1 := W1.aloadN d2097_25_4 rfl rfl rfl
  replace W1 := W1.aloadN d2097_25_5 rfl rfl rfl
  replace W1 := W1.alen d2097_25_6 V_x1 rfl
  replace W1 := W1.ifT (pc' := 14) d2097_25_7 (feq (by decide : ¬ ((1 : Int32) = (0 : Int32)))).2 (by decide) (by decide)
  replace W1 := W1.iloadN d2097_25_14 rfl rfl
  obtain ⟨h2, W2, w2, SF2⟩ := W1.putf (pc' := 18) (ty := .int) d2097_25_15 (tw141 H) Via.refl F_x0_signum E_x0 (Or.inr ⟨(tw142 H), rfl, hnm⟩) (tw134 H) (by decide) rfl rfl safe0 (Or.inl (List.mem_of_getElem? (i := 0) rfl)) rfl
  clear W1
  have z2 : h0.size ≤ h2.size := Nat.le_of_eq w2.size.symm
  have f2 := F_x0_signum.same w2
  replace W2 := W2.aloadN d2097_25_18 rfl rfl rfl
  replace W2 := W2.aloadN d2097_25_19 rfl rfl rfl
  have f3 := (F_x0_mag.other w2 (Or.inr (sn12 H)))
  have e4 := (E_x0.wr w2)
  obtain ⟨h5, W5, w5, SF5⟩ := W2.putf (pc' := 23) (ty := (.array .int)) d2097_25_20 (tw144 H) Via.refl f3 e4 (Or.inr ⟨(tw145 H), rfl, hnm⟩) (tw134 H) (by decide) rfl rfl safe0 (Or.inl (List.mem_of_getElem? (i := 0) rfl)) rfl
  clear W2
  have z5 : h2.size ≤ h5.size := Nat.le_of_eq w5.size.symm
  have f5 := f3.same w5
  replace W5 := W5.aloadN d2097_25_23 rfl rfl rfl
  replace W5 := W5.getf d2097_25_24 (tw144 H) Via.refl f5 rfl
  have v6 := ((V_x1.other w2 (Exa.ne (E_x1.wr w2) e4 (by decide))).other w5 (Exa.ne (E_x1.wr w2) e4 (by decide)))
  replace W5 := W5.alen d2097_25_27 v6 rfl
  replace W5 := W5.ldcI d2097_25_28 (tw207 H) rfl
  replace W5 := W5.icmpT (pc' := 37) d2097_25_30 (tlt (by decide : (1 : Int32) < (67108864 : Int32))).1 (by decide) (by decide)
  have e7 := (e4.wr w5)
  have f8 := ((F_x0_bitLengthPlusOne.other w2 (Or.inr (sn13 H))).other w5 (Or.inr (sn14 H)))
  have f9 := (f2.other w5 (Or.inr (sn15 H)))
  exact W5.vret d2097_25_37 rfl (by decide) (by decide) (fun V' cv => ⟨rfl, e7, f8, f5, f9⟩)
theorem m43_toBigInteger (H : Cx Z a0 gA gK) (x0 x1 : Addr) (kp0 : ClassId) (u0 u1 u2 u3 : Int32) (h0 : Heap) (hO : Old Z n0 h0) (E_x0 : Exa Z h0 x0 "java/math/MutableBigInteger") (F_x0_intLen : Fld Z h0 x0 "java/math/MutableBigInteger" "intLen" "I" (.int u1)) (F_x0_offset : Fld Z h0 x0 "java/math/MutableBigInteger" "offset" "I" (.int u2)) (F_x0_value : Fld Z h0 x0 "java/math/MutableBigInteger" "value" "[I" (.ref x1)) (E_x1 : Exa Z h0 x1 "[I") (V_x1 : Arv Z h0 x1 kp0 .int (1 : Int32) [(.int u3)] (.int (0 : Int32))) (p0 : ¬ (u1 = (0 : Int32))) (p1 : ¬ (u0 = (0 : Int32))) (p2 : ¬ ((0 : Int32) < u2)) (p3 : (1 : Int32) = u1) : Con l Z [] n0 N30 jdk_2101_method_9_code 2 (some (.object "java/math/BigInteger")) (Rm 3 1 6 39) #[(.ref x0), (.int u0)] h0 [] (fun v h V' => ∃ (r0 : Addr), v = some (.ref r0) ∧ Exa Z h r0 "java/math/BigInteger" ∧ Fld Z h r0 "java/math/BigInteger" "bitLengthPlusOne" "I" (.int (0 : Int32)) ∧ Fld Z h r0 "java/math/BigInteger" "mag" "[I" (.ref x1) ∧ Fld Z h r0 "java/math/BigInteger" "signum" "I" (.int u0) ∧ h0.size ≤ r0) [] := by
  refine Con.of (a0 := a0) (L0 := #[.val (.ref x0), .val (.int u0)]) pf30 (fun _ => rfl) all0 hO EW.nil ?_
  intro p e s m below meth c S0 hnm hsf W
  replace W := W.aloadN d2101_9_0 rfl rfl rfl
  replace W := W.getf d2101_9_1 (tw170 H) Via.refl F_x0_intLen rfl
  replace W := W.ifF (pc' := 7) d2101_9_4 (feq p0).1 rfl
  replace W := W.iloadN d2101_9_7 rfl rfl
  replace W := W.ifT (pc' := 15) d2101_9_8 (feq p1).2 (by decide) (by decide)
  obtain ⟨h1, a1, W1, E1, g1, ⟨A1, D1, U1⟩, sf1, SF1⟩ := W.new (pc' := 18) (cells' := 1) (slots' := 6) d2101_9_15 (tw198 H) (tw134 H) (tw130 H) rfl rfl rfl (by decide) (by decide)
  clear W
  rw [← g1] at A1 D1 U1
  have z1 : h0.size ≤ h1.size := E1.1
  replace W1 := W1.dup d2101_9_18 rfl rfl
  replace W1 := W1.aloadN d2101_9_19 rfl rfl rfl
  have f2 := (F_x0_intLen.ext E1)
  have f3 := (F_x0_offset.ext E1)
  have f4 := (F_x0_value.ext E1)
  have v5 := (V_x1.ext E1)
  have e7 := (E_x0.ext E1)
  obtain ⟨V6, h6, r6, W6, K6, hQ6, SF6⟩ := W1.callP (pc' := 23) (argsL := []) (rest := [(.ref a1), (.ref a1)]) (Wd := 2) (cells' := 1) (slots' := 6) (a := x0) (C := "java/math/MutableBigInteger") (y := N28) d2101_9_20 (m44_getMagnitudeArray H x0 x1 kp0 u1 u2 u3 h1 W1.old f2 f3 f4 v5 p2 p3) e7 (tw199 H) (tw200 H) (tw202 H) (tw201 H) (tw160 H) (tw203 H) (by decide) (lenOf pd22 rfl) rfl rfl (by decide) (by decide) rfl sf0 all0
  clear W1
  obtain ⟨_, rfl, hs6⟩ := hQ6
  subst hs6
  replace W6 := W6.cast (st' := [(.ref x1), (.ref a1), (.ref a1)]) rfl
  replace W6 := W6.iloadN d2101_9_23 rfl rfl
  have e8 := (E_x1.ext E1)
  obtain ⟨V9, h9, r9, W9, K9, hQ9, SF9⟩ := W6.callI (pc' := 27) (argsL := [(.ref x1), (.int u0)]) (rest := [(.ref a1)]) (Wd := 1) (cells' := 1) (slots' := 6) (a := a1) (y := N29) d2101_9_24 (m45_init H a1 x1 kp0 u0 (0 : Int32) (0 : Int32) u3 h1 W6.old A1 (D1 (Or.inl (tw215 H)) (ty := .int) (by decide) : Fld Z h1 a1 "java/math/BigInteger" "bitLengthPlusOne" "I" (.int (0 : Int32))) (D1 (Or.inr (tw145 H)) (ty := (.array .int)) (by decide) : Fld Z h1 a1 "java/math/BigInteger" "mag" "[I" .null) (D1 (Or.inr (tw142 H)) (ty := .int) (by decide) : Fld Z h1 a1 "java/math/BigInteger" "signum" "I" (.int (0 : Int32))) e8 v5 (Nat.le_trans W6.1.2.2.2.2.2.2.2.1 (Nat.le_of_eq g1.symm))) rfl (tw204 H) (tw205 H) (tw130 H) (tw206 H) (by decide) (lenOf pd23 rfl) rfl rfl (by decide) (by decide) rfl (sfS safe0 sf0) (allS (Or.inr (Nat.le_of_eq g1.symm)) all0)
  clear W6
  obtain ⟨_, rfl, q9_1, q9_2, q9_3, q9_4⟩ := hQ9
  have z9 : h1.size ≤ h9.size := K9.1
  replace W9 := W9.cast (st' := [(.ref a1)]) rfl
  exact W9.aret (t := (.object "java/math/BigInteger")) d2101_9_27 rfl rfl rfl rfl (by decide) (by decide) (fun V' cv => ⟨a1, rfl, q9_1, q9_2, q9_3, q9_4, (Nat.le_of_eq g1.symm)⟩)
theorem m46_toBigInteger (H : Cx Z a0 gA gK) (x0 : Addr) (u0 u1 : Int32) (h0 : Heap) (hO : Old Z n0 h0) (F_x0_intLen : Fld Z h0 x0 "java/math/MutableBigInteger" "intLen" "I" (.int u1)) (p0 : u1 = (0 : Int32)) : Con l Z [] n0 N30 jdk_2101_method_9_code 2 (some (.object "java/math/BigInteger")) (Rm 0 0 0 0) #[(.ref x0), (.int u0)] h0 [] (fun v h V' => v = some (.ref (gA 4)) ∧ h0 = h) [] := by
  refine Con.of (a0 := a0) (L0 := #[.val (.ref x0), .val (.int u0)]) pf30 (fun _ => rfl) all0 hO EW.nil ?_
  intro p e s m below meth c S0 hnm hsf W
  replace W := W.aloadN d2101_9_0 rfl rfl rfl
  replace W := W.getf d2101_9_1 (tw170 H) Via.refl F_x0_intLen rfl
  replace W := W.ifT (pc' := 11) d2101_9_4 (teq p0).1 (by decide) (by decide)
  replace W := W.gets d2101_9_11 (tw208 H) (gf34 H) rfl
  exact W.aret (t := (.object "java/math/BigInteger")) d2101_9_14 rfl rfl rfl rfl (by decide) (by decide) (fun V' cv => ⟨rfl, rfl⟩)
theorem m47_divideAndRemainderKnuth (H : Cx Z a0 gA gK) (x0 x1 : Addr) (kp0 : ClassId) (u0 u1 s0 : Int32) (h0 : Heap) (hO : Old Z n0 h0) (E_x0 : Exa Z h0 x0 "java/math/BigInteger") (F_x0_mag : Fld Z h0 x0 "java/math/BigInteger" "mag" "[I" (.ref x1)) (F_x0_signum : Fld Z h0 x0 "java/math/BigInteger" "signum" "I" (.int u0)) (E_x1 : Exa Z h0 x1 "[I") (V_x1 : Arv Z h0 x1 kp0 .int (1 : Int32) [(.int u1)] (.int (0 : Int32))) (p0 : (u1 + (-2147483648 : Int32)) = s0) (p1 : ¬ (s0 < (-1147483648 : Int32))) (p2 : ¬ ((-1147483648 : Int32) < s0)) (p3 : u0 = (1 : Int32)) : Con l Z [] n0 N31 jdk_2097_method_64_code 7 (some (.array (.object "java/math/BigInteger"))) (Rm 4 8 22 58) #[(.ref x0), (.ref (gA 2))] h0 [] (fun v h V' => ∃ (r0 : Addr) (r1 : Addr) (r2 : Addr) (kr0 : ClassId) (kr1 : ClassId), v = some (.ref r0) ∧ Exa Z h r0 "[Ljava/math/BigInteger;" ∧ Arv Z h r0 kr0 (.object "java/math/BigInteger") (2 : Int32) [(.ref r1), (.ref (gA 4))] .null ∧ h0.size ≤ r0 ∧ Exa Z h r1 "java/math/BigInteger" ∧ Fld Z h r1 "java/math/BigInteger" "bitLengthPlusOne" "I" (.int (0 : Int32)) ∧ Fld Z h r1 "java/math/BigInteger" "mag" "[I" (.ref r2) ∧ Fld Z h r1 "java/math/BigInteger" "signum" "I" (.int (1 : Int32)) ∧ h0.size ≤ r1 ∧ Exa Z h r2 "[I" ∧ Arv Z h r2 kr1 .int (1 : Int32) [(.int (1 : Int32))] (.int (0 : Int32)) ∧ h0.size ≤ r2) [] := by
  refine Con.of (a0 := a0) (L0 := #[.val (.ref x0), .val (.ref (gA 2)), .unset, .unset, .unset, .unset, .unset]) pf31 (fun _ => rfl) all0 hO EW.nil ?_
  intro p e s m below meth c S0 hnm hsf W
  replace W := W.iconst (v := (2 : Int32)) d2097_64_0 rfl rfl
  obtain ⟨h1, a1, W1, E1, g1, ⟨⟨k1, A1, O1⟩, B1⟩, sf1, SF1⟩ := W.anewarr (pc' := 4) (C := "java/math/BigInteger") (ad := "[Ljava/math/BigInteger;") (cap := 2) (cells' := 1) (slots' := 2) d2097_64_1 (tw133 H) (tw157 H) (by decide) (by decide) (by decide) (by decide) rfl rfl rfl (by decide) (by decide)
  clear W
  rw [← g1] at A1 B1
  have z1 : h0.size ≤ h1.size := E1.1
  have v1 : Arv Z h1 a1 k1 (.object "java/math/BigInteger") (2 : Int32) [.null, .null] .null := A1.pad (pad_rep [] .null 2)
  replace W1 := W1.astoreN (L' := #[.val (.ref x0), .val (.ref (gA 2)), .val (.ref a1), .unset, .unset, .unset, .unset]) d2097_64_4 rfl rfl rfl
  obtain ⟨h2, a2, W2, E2, g2, ⟨A2, D2, U2⟩, sf2, SF2⟩ := W1.new (pc' := 8) (cells' := 2) (slots' := 5) d2097_64_5 (tw158 H) (tw159 H) (tw160 H) rfl rfl rfl (by decide) (by decide)
  clear W1
  rw [← g2] at A2 D2 U2
  have z2 : h1.size ≤ h2.size := E2.1
  replace W2 := W2.dup d2097_64_8 rfl rfl
  obtain ⟨V3, h3, r3, W3, K3, hQ3, SF3⟩ := W2.callI (pc' := 12) (argsL := []) (rest := [(.ref a2)]) (Wd := 1) (cells' := 3) (slots' := 6) (a := a2) (y := N23) d2097_64_9 (m35_init H a2 (0 : Int32) (0 : Int32) h2 W2.old A2 (D2 (Or.inl (tw171 H)) (ty := .int) (by decide) : Fld Z h2 a2 "java/math/MutableBigInteger" "intLen" "I" (.int (0 : Int32))) (D2 (Or.inl (tw167 H)) (ty := .int) (by decide) : Fld Z h2 a2 "java/math/MutableBigInteger" "offset" "I" (.int (0 : Int32))) (D2 (Or.inl (tw169 H)) (ty := (.array .int)) (by decide) : Fld Z h2 a2 "java/math/MutableBigInteger" "value" "[I" .null) (Nat.le_trans W2.1.2.2.2.2.2.2.2.1 (Nat.le_trans z1 (Nat.le_of_eq g2.symm)))) rfl (tw161 H) (tw162 H) (tw160 H) (tw164 H) (by decide) (lenOf pd0 rfl) rfl rfl (by decide) (by decide) rfl (sfS safe0 sf0) (allS (Or.inr (Nat.le_trans z1 (Nat.le_of_eq g2.symm))) all0)
  clear W2
  obtain ⟨_, r03, kr03, rfl, q3_1, q3_2, q3_3, q3_4, q3_5, q3_6, q3_7⟩ := hQ3
  have z3 : h2.size ≤ h3.size := K3.1
  replace W3 := W3.cast (st' := [(.ref a2)]) rfl
  replace W3 := W3.astoreN (L' := #[.val (.ref x0), .val (.ref (gA 2)), .val (.ref a1), .val (.ref a2), .unset, .unset, .unset]) d2097_64_12 rfl rfl rfl
  obtain ⟨h4, a4, W4, E4, g4, ⟨A4, D4, U4⟩, sf4, SF4⟩ := W3.new (pc' := 16) (cells' := 4) (slots' := 9) d2097_64_13 (tw158 H) (tw159 H) (tw160 H) rfl rfl rfl (by decide) (by decide)
  clear W3
  rw [← g4] at A4 D4 U4
  have z4 : h3.size ≤ h4.size := E4.1
  replace W4 := W4.dup d2097_64_16 rfl rfl
  replace W4 := W4.aloadN d2097_64_17 rfl rfl rfl
  have f5 := ((((F_x0_mag.ext E1).ext E2).keep K3 (ninS (Nat.ne_of_lt (Nat.lt_of_lt_of_le E_x0.lt (Nat.le_trans z1 (Nat.le_of_eq g2.symm)))) nin0)).ext E4)
  replace W4 := W4.getf d2097_64_18 (tw144 H) Via.refl f5 rfl
  have e6 := ((((E_x1.ext E1).ext E2).keep K3).ext E4)
  have v7 := ((((V_x1.ext E1).ext E2).keep K3 (ninS (Nat.ne_of_lt (Nat.lt_of_lt_of_le E_x1.lt (Nat.le_trans z1 (Nat.le_of_eq g2.symm)))) nin0)).ext E4)
  obtain ⟨V8, h8, r8, W8, K8, hQ8, SF8⟩ := W4.callI (pc' := 24) (argsL := [(.ref x1)]) (rest := [(.ref a4)]) (Wd := 1) (cells' := 4) (slots' := 9) (a := a4) (y := N24) d2097_64_21 (m36_init H a4 x1 kp0 (0 : Int32) (0 : Int32) u1 h4 W4.old A4 (D4 (Or.inl (tw171 H)) (ty := .int) (by decide) : Fld Z h4 a4 "java/math/MutableBigInteger" "intLen" "I" (.int (0 : Int32))) (D4 (Or.inl (tw167 H)) (ty := .int) (by decide) : Fld Z h4 a4 "java/math/MutableBigInteger" "offset" "I" (.int (0 : Int32))) (D4 (Or.inl (tw169 H)) (ty := (.array .int)) (by decide) : Fld Z h4 a4 "java/math/MutableBigInteger" "value" "[I" .null) e6 v7 (Nat.le_trans W4.1.2.2.2.2.2.2.2.1 (Nat.le_trans (Nat.le_trans (Nat.le_trans z1 z2) z3) (Nat.le_of_eq g4.symm)))) rfl (tw172 H) (tw173 H) (tw160 H) (tw174 H) (by decide) (lenOf pd18 rfl) rfl rfl (by decide) (by decide) rfl (sfS safe0 sf0) (allS (Or.inr (Nat.le_trans (Nat.le_trans (Nat.le_trans z1 z2) z3) (Nat.le_of_eq g4.symm))) all0)
  clear W4
  obtain ⟨_, rfl, q8_1, q8_2, q8_3, q8_4⟩ := hQ8
  have z8 : h4.size ≤ h8.size := K8.1
  replace W8 := W8.cast (st' := [(.ref a4)]) rfl
  replace W8 := W8.astore (L' := #[.val (.ref x0), .val (.ref (gA 2)), .val (.ref a1), .val (.ref a2), .val (.ref a4), .unset, .unset]) d2097_64_24 rfl rfl rfl
  obtain ⟨h9, a9, W9, E9, g9, ⟨A9, D9, U9⟩, sf9, SF9⟩ := W8.new (pc' := 29) (cells' := 5) (slots' := 12) d2097_64_26 (tw158 H) (tw159 H) (tw160 H) rfl rfl rfl (by decide) (by decide)
  clear W8
  rw [← g9] at A9 D9 U9
  have z9 : h8.size ≤ h9.size := E9.1
  replace W9 := W9.dup d2097_64_29 rfl rfl
  replace W9 := W9.aloadN d2097_64_30 rfl rfl rfl
  have f10 := (gf22 H).ext W9.old.2
  replace W9 := W9.getf d2097_64_31 (tw144 H) Via.refl f10 rfl
  obtain ⟨V11, h11, r11, W11, K11, hQ11, SF11⟩ := W9.callI (pc' := 37) (argsL := [(.ref (gA 3))]) (rest := [(.ref a9)]) (Wd := 1) (cells' := 5) (slots' := 12) (a := a9) (y := N24) d2097_64_34 (m37_init H a9 (0 : Int32) (0 : Int32) h9 W9.old A9 (D9 (Or.inl (tw171 H)) (ty := .int) (by decide) : Fld Z h9 a9 "java/math/MutableBigInteger" "intLen" "I" (.int (0 : Int32))) (D9 (Or.inl (tw167 H)) (ty := .int) (by decide) : Fld Z h9 a9 "java/math/MutableBigInteger" "offset" "I" (.int (0 : Int32))) (D9 (Or.inl (tw169 H)) (ty := (.array .int)) (by decide) : Fld Z h9 a9 "java/math/MutableBigInteger" "value" "[I" .null) (Nat.le_trans W9.1.2.2.2.2.2.2.2.1 (Nat.le_trans (Nat.le_trans (Nat.le_trans (Nat.le_trans (Nat.le_trans z1 z2) z3) z4) z8) (Nat.le_of_eq g9.symm)))) rfl (tw172 H) (tw173 H) (tw160 H) (tw174 H) (by decide) (lenOf pd18 rfl) rfl rfl (by decide) (by decide) rfl (sfS safe0 sf0) (allS (Or.inr (Nat.le_trans (Nat.le_trans (Nat.le_trans (Nat.le_trans (Nat.le_trans z1 z2) z3) z4) z8) (Nat.le_of_eq g9.symm))) all0)
  clear W9
  obtain ⟨_, rfl, q11_1, q11_2, q11_3, q11_4⟩ := hQ11
  have z11 : h9.size ≤ h11.size := K11.1
  replace W11 := W11.cast (st' := [(.ref a9)]) rfl
  replace W11 := W11.astore (L' := #[.val (.ref x0), .val (.ref (gA 2)), .val (.ref a1), .val (.ref a2), .val (.ref a4), .val (.ref a9), .unset]) d2097_64_37 rfl rfl rfl
  replace W11 := W11.aload d2097_64_39 rfl rfl rfl
  replace W11 := W11.aload d2097_64_41 rfl rfl rfl
  replace W11 := W11.aloadN d2097_64_43 rfl rfl rfl
  have e12 := ((q8_1.ext E9).keep K11)
  have f13 := ((q8_2.ext E9).keep K11 (ninS (Nat.ne_of_lt (Nat.lt_of_lt_of_le A4.lt (Nat.le_trans z8 (Nat.le_of_eq g9.symm)))) nin0))
  have f14 := ((q8_3.ext E9).keep K11 (ninS (Nat.ne_of_lt (Nat.lt_of_lt_of_le A4.lt (Nat.le_trans z8 (Nat.le_of_eq g9.symm)))) nin0))
  have f15 := ((q8_4.ext E9).keep K11 (ninS (Nat.ne_of_lt (Nat.lt_of_lt_of_le A4.lt (Nat.le_trans z8 (Nat.le_of_eq g9.symm)))) nin0))
  have e16 := ((((q3_1.ext E4).keep K8).ext E9).keep K11)
  have f17 := ((((q3_2.ext E4).keep K8 (ninS (Nat.ne_of_lt (Nat.lt_of_lt_of_le A2.lt (Nat.le_trans z3 (Nat.le_of_eq g4.symm)))) nin0)).ext E9).keep K11 (ninS (Nat.ne_of_lt (Nat.lt_of_lt_of_le A2.lt (Nat.le_trans (Nat.le_trans (Nat.le_trans z3 z4) z8) (Nat.le_of_eq g9.symm)))) nin0))
  have f18 := ((((q3_3.ext E4).keep K8 (ninS (Nat.ne_of_lt (Nat.lt_of_lt_of_le A2.lt (Nat.le_trans z3 (Nat.le_of_eq g4.symm)))) nin0)).ext E9).keep K11 (ninS (Nat.ne_of_lt (Nat.lt_of_lt_of_le A2.lt (Nat.le_trans (Nat.le_trans (Nat.le_trans z3 z4) z8) (Nat.le_of_eq g9.symm)))) nin0))
  have f19 := ((((q3_4.ext E4).keep K8 (ninS (Nat.ne_of_lt (Nat.lt_of_lt_of_le A2.lt (Nat.le_trans z3 (Nat.le_of_eq g4.symm)))) nin0)).ext E9).keep K11 (ninS (Nat.ne_of_lt (Nat.lt_of_lt_of_le A2.lt (Nat.le_trans (Nat.le_trans (Nat.le_trans z3 z4) z8) (Nat.le_of_eq g9.symm)))) nin0))
  have v20 := (((v7.keep K8 (ninS (Nat.ne_of_lt (Nat.lt_of_lt_of_le E_x1.lt (Nat.le_trans (Nat.le_trans (Nat.le_trans z1 z2) z3) (Nat.le_of_eq g4.symm)))) nin0)).ext E9).keep K11 (ninS (Nat.ne_of_lt (Nat.lt_of_lt_of_le E_x1.lt (Nat.le_trans (Nat.le_trans (Nat.le_trans (Nat.le_trans (Nat.le_trans z1 z2) z3) z4) z8) (Nat.le_of_eq g9.symm)))) nin0))
  have e21 := ((((q3_5.ext E4).keep K8).ext E9).keep K11)
  have v22 := ((((q3_6.ext E4).keep K8 (ninS (Nat.ne_of_lt (Nat.lt_of_lt_of_le q3_5.lt (Nat.le_of_eq g4.symm))) nin0)).ext E9).keep K11 (ninS (Nat.ne_of_lt (Nat.lt_of_lt_of_le q3_5.lt (Nat.le_trans (Nat.le_trans z4 z8) (Nat.le_of_eq g9.symm)))) nin0))
  obtain ⟨V23, h23, r23, W23, K23, hQ23, SF23⟩ := W11.callV (pc' := 47) (argsL := [(.ref a9), (.ref a2)]) (rest := []) (Wd := 0) (cells' := 7) (slots' := 16) (a := a4) (C := "java/math/MutableBigInteger") (y := N27) (z := N27) d2097_64_44 (m38_divideKnuth H a4 a9 a2 x1 r03 kp0 kr03 (1 : Int32) (0 : Int32) (1 : Int32) (0 : Int32) (0 : Int32) (0 : Int32) u1 (0 : Int32) (1 : Int32) s0 (1 : Int32) h11 W11.old e12 f13 f14 f15 q11_2 q11_3 q11_4 e16 f17 f18 f19 v20 e21 v22 (by decide) p0 (by decide) (by decide) (by decide) (by decide) (by decide) (by decide) (by decide) (by decide) p1 p2 (by decide) (Nat.le_trans W11.1.2.2.2.2.2.2.2.1 (Nat.le_trans z1 (Nat.le_of_eq g2.symm))) (Nat.le_trans W11.1.2.2.2.2.2.2.2.1 (Nat.le_trans (Nat.le_trans z1 z2) q3_7))) e12 (tw175 H) (tw176 H) (Or.inl (tw178 H)) (tw178 H) (tw177 H) (tw160 H) (tw179 H) (by decide) (lenOf pd21 rfl) rfl rfl (by decide) (by decide) rfl (sfS safe0 (sfS safe0 sf0)) (allS (Or.inr (Nat.le_trans z1 (Nat.le_of_eq g2.symm))) (allS (Or.inr (Nat.le_trans (Nat.le_trans z1 z2) q3_7)) all0))
  clear W11
  obtain ⟨_, r023, r123, kr023, rfl, q23_1, q23_2, q23_3, q23_4, q23_5, q23_6, q23_7, q23_8, q23_9, q23_10, q23_11, q23_12, q23_13, q23_14⟩ := hQ23
  have z23 : h11.size ≤ h23.size := K23.1
  replace W23 := W23.cast (st' := [(.ref r023)]) rfl
  replace W23 := W23.astore (L' := #[.val (.ref x0), .val (.ref (gA 2)), .val (.ref a1), .val (.ref a2), .val (.ref a4), .val (.ref a9), .val (.ref r023)]) d2097_64_47 rfl rfl rfl
  replace W23 := W23.aloadN d2097_64_49 rfl rfl rfl
  replace W23 := W23.iconst (v := (0 : Int32)) d2097_64_50 rfl rfl
  replace W23 := W23.aloadN d2097_64_51 rfl rfl rfl
  replace W23 := W23.aloadN d2097_64_52 rfl rfl rfl
  have f24 := ((((((((F_x0_signum.ext E1).ext E2).keep K3 (ninS (Nat.ne_of_lt (Nat.lt_of_lt_of_le E_x0.lt (Nat.le_trans z1 (Nat.le_of_eq g2.symm)))) nin0)).ext E4).keep K8 (ninS (Nat.ne_of_lt (Nat.lt_of_lt_of_le E_x0.lt (Nat.le_trans (Nat.le_trans (Nat.le_trans z1 z2) z3) (Nat.le_of_eq g4.symm)))) nin0)).ext E9).keep K11 (ninS (Nat.ne_of_lt (Nat.lt_of_lt_of_le E_x0.lt (Nat.le_trans (Nat.le_trans (Nat.le_trans (Nat.le_trans (Nat.le_trans z1 z2) z3) z4) z8) (Nat.le_of_eq g9.symm)))) nin0)).keep K23 (ninS (Nat.ne_of_lt (Nat.lt_of_lt_of_le E_x0.lt (Nat.le_trans z1 (Nat.le_of_eq g2.symm)))) (ninS (Nat.ne_of_lt (Nat.lt_of_lt_of_le E_x0.lt (Nat.le_trans (Nat.le_trans z1 z2) q3_7))) nin0)))
  replace W23 := W23.getf d2097_64_53 (tw141 H) Via.refl f24 rfl
  replace W23 := W23.aloadN d2097_64_56 rfl rfl rfl
  have f25 := (gf23 H).ext W23.old.2
  replace W23 := W23.getf d2097_64_57 (tw141 H) Via.refl f25 rfl
  replace W23 := W23.icmpF (pc' := 63) d2097_64_60 (teq p3).2 rfl
  replace W23 := W23.iconst (v := (1 : Int32)) d2097_64_63 rfl rfl
  replace W23 := W23.goto (pc' := 68) d2097_64_64 (by decide) (by decide)
  obtain ⟨V26, h26, r26, W26, K26, hQ26, SF26⟩ := W23.callV (pc' := 71) (argsL := [(.int (1 : Int32))]) (rest := [(.int (0 : Int32)), (.ref a1)]) (Wd := 2) (cells' := 8) (slots' := 22) (a := a2) (C := "java/math/MutableBigInteger") (y := N30) (z := N30) d2097_64_68 (m43_toBigInteger H a2 r03 kr03 (1 : Int32) (1 : Int32) (0 : Int32) (1 : Int32) h23 W23.old q23_6 q23_7 q23_8 q23_9 q23_10 q23_11 (by decide) (by decide) (by decide) (by decide)) q23_6 (tw193 H) (tw194 H) (Or.inl (tw196 H)) (tw196 H) (tw195 H) (tw160 H) (tw197 H) (by decide) (lenOf pd24 rfl) rfl rfl (by decide) (by decide) rfl sf0 all0
  clear W23
  obtain ⟨_, r026, rfl, q26_1, q26_2, q26_3, q26_4, q26_5⟩ := hQ26
  have z26 : h23.size ≤ h26.size := K26.1
  replace W26 := W26.cast (st' := [(.ref r026), (.int (0 : Int32)), (.ref a1)]) rfl
  have v27 := ((((((((v1.ext E2).keep K3 (ninS (Nat.ne_of_lt (Nat.lt_of_lt_of_le v1.lt (Nat.le_of_eq g2.symm))) nin0)).ext E4).keep K8 (ninS (Nat.ne_of_lt (Nat.lt_of_lt_of_le v1.lt (Nat.le_trans (Nat.le_trans z2 z3) (Nat.le_of_eq g4.symm)))) nin0)).ext E9).keep K11 (ninS (Nat.ne_of_lt (Nat.lt_of_lt_of_le v1.lt (Nat.le_trans (Nat.le_trans (Nat.le_trans (Nat.le_trans z2 z3) z4) z8) (Nat.le_of_eq g9.symm)))) nin0)).keep K23 (ninS (Nat.ne_of_lt (Nat.lt_of_lt_of_le v1.lt (Nat.le_of_eq g2.symm))) (ninS (Nat.ne_of_lt (Nat.lt_of_lt_of_le v1.lt (Nat.le_trans z2 q3_7))) nin0))).keep K26 nin0)
  obtain ⟨h28, W28, w28, A28, SF28⟩ := W26.aastore (pc' := 72) (i := 0) d2097_64_71 v27 rfl O1 (Ins.self q26_1) ⟨by decide, by decide⟩ rfl (by show 0 < 2; decide) rfl safe0 (Or.inr (Nat.le_of_eq g1.symm)) rfl
  clear W26
  have z28 : h26.size ≤ h28.size := Nat.le_of_eq w28.size.symm
  have v28 : Arv Z h28 a1 k1 (.object "java/math/BigInteger") (2 : Int32) [(.ref r026), .null] .null := A28
  replace W28 := W28.aloadN d2097_64_72 rfl rfl rfl
  replace W28 := W28.iconst (v := (1 : Int32)) d2097_64_73 rfl rfl
  replace W28 := W28.aload d2097_64_74 rfl rfl rfl
  replace W28 := W28.aloadN d2097_64_76 rfl rfl rfl
  have f29 := ((f24.keep K26 nin0).other w28 (Or.inl (Nat.ne_of_lt (Nat.lt_of_lt_of_le E_x0.lt (Nat.le_of_eq g1.symm)))))
  replace W28 := W28.getf d2097_64_77 (tw141 H) Via.refl f29 rfl
  have f30 := ((q23_2.keep K26 nin0).other w28 (Or.inl (Nat.ne_of_gt (Nat.lt_of_lt_of_le v1.lt (Nat.le_trans (Nat.le_trans (Nat.le_trans (Nat.le_trans (Nat.le_trans (Nat.le_trans z2 z3) z4) z8) z9) z11) q23_5)))))
  have e32 := ((q23_1.keep K26).wr w28)
  obtain ⟨V31, h31, r31, W31, K31, hQ31, SF31⟩ := W28.callV (pc' := 83) (argsL := [(.int u0)]) (rest := [(.int (1 : Int32)), (.ref a1)]) (Wd := 2) (cells' := 8) (slots' := 22) (a := r023) (C := "java/math/MutableBigInteger") (y := N30) (z := N30) d2097_64_80 (m46_toBigInteger H r023 u0 (0 : Int32) h28 W28.old f30 (by decide)) e32 (tw193 H) (tw194 H) (Or.inl (tw196 H)) (tw196 H) (tw195 H) (tw160 H) (tw197 H) (by decide) (lenOf pd24 rfl) rfl rfl (by decide) (by decide) rfl sf0 all0
  clear W28
  obtain ⟨_, rfl, hs31⟩ := hQ31
  subst hs31
  replace W31 := W31.cast (st' := [(.ref (gA 4)), (.int (1 : Int32)), (.ref a1)]) rfl
  have e33 := (gf7 H).ext W31.old.2
  obtain ⟨h34, W34, w34, A34, SF34⟩ := W31.aastore (pc' := 84) (i := 1) d2097_64_83 v28 rfl O1 (Ins.self e33) ⟨by decide, by decide⟩ rfl (by show 1 < 2; decide) rfl safe0 (Or.inr (Nat.le_of_eq g1.symm)) rfl
  clear W31
  have z34 : h28.size ≤ h34.size := Nat.le_of_eq w34.size.symm
  have v34 : Arv Z h34 a1 k1 (.object "java/math/BigInteger") (2 : Int32) [(.ref r026), (.ref (gA 4))] .null := A34
  replace W34 := W34.aloadN d2097_64_84 rfl rfl rfl
  have e35 := ((((((((((B1.ext E2).keep K3).ext E4).keep K8).ext E9).keep K11).keep K23).keep K26).wr w28).wr w34)
  have e36 := ((q26_1.wr w28).wr w34)
  have f37 := ((q26_2.other w28 (Or.inl (Nat.ne_of_gt (Nat.lt_of_lt_of_le v1.lt (Nat.le_trans (Nat.le_trans (Nat.le_trans (Nat.le_trans (Nat.le_trans (Nat.le_trans (Nat.le_trans z2 z3) z4) z8) z9) z11) z23) q26_5))))).other w34 (Or.inl (Nat.ne_of_gt (Nat.lt_of_lt_of_le v1.lt (Nat.le_trans (Nat.le_trans (Nat.le_trans (Nat.le_trans (Nat.le_trans (Nat.le_trans (Nat.le_trans z2 z3) z4) z8) z9) z11) z23) q26_5)))))
  have f38 := ((q26_3.other w28 (Or.inl (Nat.ne_of_gt (Nat.lt_of_lt_of_le v1.lt (Nat.le_trans (Nat.le_trans (Nat.le_trans (Nat.le_trans (Nat.le_trans (Nat.le_trans (Nat.le_trans z2 z3) z4) z8) z9) z11) z23) q26_5))))).other w34 (Or.inl (Nat.ne_of_gt (Nat.lt_of_lt_of_le v1.lt (Nat.le_trans (Nat.le_trans (Nat.le_trans (Nat.le_trans (Nat.le_trans (Nat.le_trans (Nat.le_trans z2 z3) z4) z8) z9) z11) z23) q26_5)))))
  have f39 := ((q26_4.other w28 (Or.inl (Nat.ne_of_gt (Nat.lt_of_lt_of_le v1.lt (Nat.le_trans (Nat.le_trans (Nat.le_trans (Nat.le_trans (Nat.le_trans (Nat.le_trans (Nat.le_trans z2 z3) z4) z8) z9) z11) z23) q26_5))))).other w34 (Or.inl (Nat.ne_of_gt (Nat.lt_of_lt_of_le v1.lt (Nat.le_trans (Nat.le_trans (Nat.le_trans (Nat.le_trans (Nat.le_trans (Nat.le_trans (Nat.le_trans z2 z3) z4) z8) z9) z11) z23) q26_5)))))
  have e40 := (((q23_10.keep K26).wr w28).wr w34)
  have v41 := (((q23_11.keep K26 nin0).other w28 (Nat.ne_of_gt (Nat.lt_of_lt_of_le v1.lt (Nat.le_trans z2 q3_7)))).other w34 (Nat.ne_of_gt (Nat.lt_of_lt_of_le v1.lt (Nat.le_trans z2 q3_7))))
  exact W34.aret (t := (.array (.object "java/math/BigInteger"))) d2097_64_85 rfl rfl rfl rfl (by decide) (by decide) (fun V' cv => ⟨a1, r026, r03, k1, kr03, rfl, e35, v34, (Nat.le_of_eq g1.symm), e36, f37, f38, f39, (Nat.le_trans (Nat.le_trans (Nat.le_trans (Nat.le_trans (Nat.le_trans (Nat.le_trans (Nat.le_trans (Nat.le_trans z1 z2) z3) z4) z8) z9) z11) z23) q26_5), e40, v41, (Nat.le_trans (Nat.le_trans z1 z2) q3_7)⟩)
theorem m33_divideAndRemainder (H : Cx Z a0 gA gK) (x0 x1 : Addr) (kp0 : ClassId) (u1 u2 s0 : Int32) (h0 : Heap) (hO : Old Z n0 h0) (E_x0 : Exa Z h0 x0 "java/math/BigInteger") (F_x0_mag : Fld Z h0 x0 "java/math/BigInteger" "mag" "[I" (.ref x1)) (F_x0_signum : Fld Z h0 x0 "java/math/BigInteger" "signum" "I" (.int u1)) (E_x1 : Exa Z h0 x1 "[I") (V_x1 : Arv Z h0 x1 kp0 .int (1 : Int32) [(.int u2)] (.int (0 : Int32))) (p0 : (u2 + (-2147483648 : Int32)) = s0) (p1 : ¬ (s0 < (-1147483648 : Int32))) (p2 : ¬ ((-1147483648 : Int32) < s0)) (p3 : u1 = (1 : Int32)) : Con l Z [] n0 N32 jdk_2097_method_63_code 2 (some (.array (.object "java/math/BigInteger"))) (Rm 5 8 22 76) #[(.ref x0), (.ref (gA 2))] h0 [] (fun v h V' => ∃ (r0 : Addr) (r1 : Addr) (r2 : Addr) (kr0 : ClassId) (kr1 : ClassId), v = some (.ref r0) ∧ Exa Z h r0 "[Ljava/math/BigInteger;" ∧ Arv Z h r0 kr0 (.object "java/math/BigInteger") (2 : Int32) [(.ref r1), (.ref (gA 4))] .null ∧ h0.size ≤ r0 ∧ Exa Z h r1 "java/math/BigInteger" ∧ Fld Z h r1 "java/math/BigInteger" "bitLengthPlusOne" "I" (.int (0 : Int32)) ∧ Fld Z h r1 "java/math/BigInteger" "mag" "[I" (.ref r2) ∧ Fld Z h r1 "java/math/BigInteger" "signum" "I" (.int (1 : Int32)) ∧ h0.size ≤ r1 ∧ Exa Z h r2 "[I" ∧ Arv Z h r2 kr1 .int (1 : Int32) [(.int (1 : Int32))] (.int (0 : Int32)) ∧ h0.size ≤ r2) [] := by
  refine Con.of (a0 := a0) (L0 := #[.val (.ref x0), .val (.ref (gA 2))]) pf32 (fun _ => rfl) all0 hO EW.nil ?_
  intro p e s m below meth c S0 hnm hsf W
  replace W := W.aloadN d2097_63_0 rfl rfl rfl
  have f1 := (gf22 H).ext W.old.2
  replace W := W.getf d2097_63_1 (tw144 H) Via.refl f1 rfl
  have v2 := (gf36 H).ext W.old.2
  replace W := W.alen d2097_63_4 v2 rfl
  replace W := W.bipush (v := (80 : Int32)) d2097_63_5 rfl rfl
  replace W := W.icmpT (pc' := 26) d2097_63_7 (tlt (by decide : (1 : Int32) < (80 : Int32))).1 (by decide) (by decide)
  replace W := W.aloadN d2097_63_26 rfl rfl rfl
  replace W := W.aloadN d2097_63_27 rfl rfl rfl
  obtain ⟨V3, h3, r3, W3, K3, hQ3, SF3⟩ := W.callP (pc' := 31) (argsL := [(.ref (gA 2))]) (rest := []) (Wd := 0) (cells' := 8) (slots' := 22) (a := x0) (C := "java/math/BigInteger") (y := N31) d2097_63_28 (m47_divideAndRemainderKnuth H x0 x1 kp0 u1 u2 s0 h0 W.old E_x0 F_x0_mag F_x0_signum E_x1 V_x1 p0 p1 p2 p3) E_x0 (tw152 H) (tw153 H) (tw155 H) (tw154 H) (tw130 H) (tw156 H) (by decide) (lenOf pd25 rfl) rfl rfl (by decide) (by decide) rfl sf0 all0
  clear W
  obtain ⟨_, r03, r13, r23, kr03, kr13, rfl, q3_1, q3_2, q3_3, q3_4, q3_5, q3_6, q3_7, q3_8, q3_9, q3_10, q3_11⟩ := hQ3
  have z3 : h0.size ≤ h3.size := K3.1
  replace W3 := W3.cast (st' := [(.ref r03)]) rfl
  exact W3.aret (t := (.array (.object "java/math/BigInteger"))) d2097_63_31 rfl rfl rfl rfl (by decide) (by decide) (fun V' cv => ⟨r03, r13, r23, kr03, kr13, rfl, q3_1, q3_2, q3_3, q3_4, q3_5, q3_6, q3_7, q3_8, q3_9, q3_10, q3_11⟩)
theorem m50_numberOfLeadingZeros (H : Cx Z a0 gA gK) (u0 s0 s1 : Int32) (h0 : Heap) (hO : Old Z n0 h0) (p0 : (0 : Int32) < u0) (p1 : u0 < (65536 : Int32)) (p2 : u0 < (256 : Int32)) (p3 : u0 < (16 : Int32)) (p4 : u0 < (4 : Int32)) (p5 : (Jvm.Free.XT.ushr u0 (1 : Int32)) = s0) (p6 : ((31 : Int32) - s0) = s1) : Con l Z [] n0 N33 jdk_33_method_47_code 2 (some .int) (Rm 0 0 0 0) #[(.int u0)] h0 [] (fun v h V' => v = some (.int s1) ∧ h0 = h) [] := by
  refine Con.of (a0 := a0) (L0 := #[.val (.int u0), .unset]) pf33 (fun _ => rfl) all0 hO EW.nil ?_
  intro p e s m below meth c S0 hnm hsf W
  replace W := W.iloadN d33_47_0 rfl rfl
  replace W := W.ifT (pc' := 15) d33_47_1 (tlt p0).2.2.1 (by decide) (by decide)
  replace W := W.bipush (v := (31 : Int32)) d33_47_15 rfl rfl
  replace W := W.istoreN (L' := #[.val (.int u0), .val (.int (31 : Int32))]) d33_47_17 rfl rfl
  replace W := W.iloadN d33_47_18 rfl rfl
  replace W := W.ldcW d33_47_19 (tw223 H) rfl
  replace W := W.icmpT (pc' := 33) d33_47_22 (tlt p1).1 (by decide) (by decide)
  replace W := W.iloadN d33_47_33 rfl rfl
  replace W := W.sipush (v := (256 : Int32)) d33_47_34 rfl rfl
  replace W := W.icmpT (pc' := 48) d33_47_37 (tlt p2).1 (by decide) (by decide)
  replace W := W.iloadN d33_47_48 rfl rfl
  replace W := W.bipush (v := (16 : Int32)) d33_47_49 rfl rfl
  replace W := W.icmpT (pc' := 61) d33_47_51 (tlt p3).1 (by decide) (by decide)
  replace W := W.iloadN d33_47_61 rfl rfl
  replace W := W.iconst (v := (4 : Int32)) d33_47_62 rfl rfl
  replace W := W.icmpT (pc' := 73) d33_47_63 (tlt p4).1 (by decide) (by decide)
  replace W := W.iloadN d33_47_73 rfl rfl
  replace W := W.iloadN d33_47_74 rfl rfl
  replace W := W.iconst (v := (1 : Int32)) d33_47_75 rfl rfl
  replace W := W.iushr (v := s0) d33_47_76 p5 rfl
  replace W := W.isub (v := s1) d33_47_77 p6 rfl
  exact W.iret (t := .int) d33_47_78 rfl (by simp) rfl (by decide) (by decide) (fun V' cv => ⟨rfl, rfl⟩)
theorem m49_bitLengthForInt (H : Cx Z a0 gA gK) (u0 s0 s1 s2 : Int32) (h0 : Heap) (hO : Old Z n0 h0) (p0 : (Jvm.Free.XT.ushr u0 (1 : Int32)) = s0) (p1 : ((31 : Int32) - s0) = s1) (p2 : (0 : Int32) < u0) (p3 : u0 < (65536 : Int32)) (p4 : u0 < (256 : Int32)) (p5 : u0 < (16 : Int32)) (p6 : u0 < (4 : Int32)) (p7 : ((32 : Int32) - s1) = s2) : Con l Z [] n0 N34 jdk_2097_method_74_code 1 (some .int) (Rm 1 0 0 14) #[(.int u0)] h0 [] (fun v h V' => v = some (.int s2) ∧ h0 = h) [] := by
  refine Con.of (a0 := a0) (L0 := #[.val (.int u0)]) pf34 (fun _ => rfl) all0 hO EW.nil ?_
  intro p e s m below meth c S0 hnm hsf W
  replace W := W.bipush (v := (32 : Int32)) d2097_74_0 rfl rfl
  replace W := W.iloadN d2097_74_2 rfl rfl
  obtain ⟨V1, h1, r1, W1, K1, hQ1, SF1⟩ := W.callS (pc' := 6) (argsL := [(.int u0)]) (rest := [(.int (32 : Int32))]) (Wd := 1) (cells' := 0) (slots' := 0) (y := N33) d2097_74_3 (m50_numberOfLeadingZeros H u0 s0 s1 h0 W.old p2 p3 p4 p5 p6 p0 p1) (tw219 H) (tw220 H) (tw221 H) (tw222 H) (by decide) (lenOf pd26 rfl) rfl rfl (by decide) (by decide) rfl sf0 all0
  clear W
  obtain ⟨_, rfl, hs1⟩ := hQ1
  subst hs1
  replace W1 := W1.cast (st' := [(.int s1), (.int (32 : Int32))]) rfl
  replace W1 := W1.isub (v := s2) d2097_74_6 p7 rfl
  exact W1.iret (t := .int) d2097_74_7 rfl (by simp) rfl (by decide) (by decide) (fun V' cv => ⟨rfl, rfl⟩)
theorem m48_bitLength (H : Cx Z a0 gA gK) (x0 x1 : Addr) (kp0 : ClassId) (u0 u1 u2 s0 s1 s2 s3 s4 s5 : Int32) (h0 : Heap) (hO : Old Z n0 h0) (E_x0 : Exa Z h0 x0 "java/math/BigInteger") (F_x0_bitLengthPlusOne : Fld Z h0 x0 "java/math/BigInteger" "bitLengthPlusOne" "I" (.int u0)) (F_x0_mag : Fld Z h0 x0 "java/math/BigInteger" "mag" "[I" (.ref x1)) (F_x0_signum : Fld Z h0 x0 "java/math/BigInteger" "signum" "I" (.int u1)) (V_x1 : Arv Z h0 x1 kp0 .int (1 : Int32) [(.int u2)] (.int (0 : Int32))) (p0 : (u0 - (1 : Int32)) = s0) (p1 : s0 = (-1 : Int32)) (p2 : (Jvm.Free.XT.ushr u2 (1 : Int32)) = s1) (p3 : ((31 : Int32) - s1) = s2) (p4 : ((32 : Int32) - s2) = s3) (p5 : (0 : Int32) < u2) (p6 : u2 < (65536 : Int32)) (p7 : u2 < (256 : Int32)) (p8 : u2 < (16 : Int32)) (p9 : u2 < (4 : Int32)) (p10 : ((0 : Int32) + s3) = s4) (p11 : ¬ (u1 < (0 : Int32))) (p12 : (s4 + (1 : Int32)) = s5) (g_x0 : n0 ≤ x0) : Con l Z [] n0 N35 jdk_2097_method_118_code 7 (some .int) (Rm 2 0 0 27) #[(.ref x0)] h0 [x0] (fun v h V' => v = some (.int s4) ∧ Exa Z h x0 "java/math/BigInteger" ∧ Fld Z h x0 "java/math/BigInteger" "bitLengthPlusOne" "I" (.int s5) ∧ Fld Z h x0 "java/math/BigInteger" "mag" "[I" (.ref x1) ∧ Fld Z h x0 "java/math/BigInteger" "signum" "I" (.int u1)) [] := by
  refine Con.of (a0 := a0) (L0 := #[.val (.ref x0), .unset, .unset, .unset, .unset, .unset, .unset]) pf35 (fun _ => rfl) (allS g_x0 all0) hO EW.nil ?_
  intro p e s m below meth c S0 hnm hsf W
  replace W := W.aloadN d2097_118_0 rfl rfl rfl
  replace W := W.getf d2097_118_1 (tw214 H) Via.refl F_x0_bitLengthPlusOne rfl
  replace W := W.iconst (v := (1 : Int32)) d2097_118_4 rfl rfl
  replace W := W.isub (v := s0) d2097_118_5 p0 rfl
  replace W := W.istoreN (L' := #[.val (.ref x0), .val (.int s0), .unset, .unset, .unset, .unset, .unset]) d2097_118_6 rfl rfl
  replace W := W.iloadN d2097_118_7 rfl rfl
  replace W := W.iconst (v := (-1 : Int32)) d2097_118_8 rfl rfl
  replace W := W.icmpF (pc' := 12) d2097_118_9 (teq p1).2 rfl
  replace W := W.aloadN d2097_118_12 rfl rfl rfl
  replace W := W.getf d2097_118_13 (tw144 H) Via.refl F_x0_mag rfl
  replace W := W.astoreN (L' := #[.val (.ref x0), .val (.int s0), .val (.ref x1), .unset, .unset, .unset, .unset]) d2097_118_16 rfl rfl rfl
  replace W := W.aloadN d2097_118_17 rfl rfl rfl
  replace W := W.alen d2097_118_18 V_x1 rfl
  replace W := W.istoreN (L' := #[.val (.ref x0), .val (.int s0), .val (.ref x1), .val (.int (1 : Int32)), .unset, .unset, .unset]) d2097_118_19 rfl rfl
  replace W := W.iloadN d2097_118_20 rfl rfl
  replace W := W.ifT (pc' := 29) d2097_118_21 (feq (by decide : ¬ ((1 : Int32) = (0 : Int32)))).2 (by decide) (by decide)
  replace W := W.iloadN d2097_118_29 rfl rfl
  replace W := W.iconst (v := (1 : Int32)) d2097_118_30 rfl rfl
  replace W := W.isub (v := (0 : Int32)) d2097_118_31 (by decide) rfl
  replace W := W.iconst (v := (5 : Int32)) d2097_118_32 rfl rfl
  replace W := W.ishl (v := (0 : Int32)) d2097_118_33 (by decide) rfl
  replace W := W.aloadN d2097_118_34 rfl rfl rfl
  replace W := W.getf d2097_118_35 (tw144 H) Via.refl F_x0_mag rfl
  replace W := W.iconst (v := (0 : Int32)) d2097_118_38 rfl rfl
  replace W := W.iaload (w := (.int u2)) d2097_118_39 V_x1 ⟨by decide, by decide⟩ rfl rfl
  obtain ⟨V1, h1, r1, W1, K1, hQ1, SF1⟩ := W.callS (pc' := 43) (argsL := [(.int u2)]) (rest := [(.int (0 : Int32))]) (Wd := 1) (cells' := 0) (slots' := 0) (y := N34) d2097_118_40 (m49_bitLengthForInt H u2 s1 s2 s3 h0 W.old p2 p3 p5 p6 p7 p8 p9 p4) (tw216 H) (tw217 H) (tw130 H) (tw218 H) (by decide) (lenOf pd26 rfl) rfl rfl (by decide) (by decide) rfl sf0 all0
  clear W
  obtain ⟨_, rfl, hs1⟩ := hQ1
  subst hs1
  replace W1 := W1.cast (st' := [(.int s3), (.int (0 : Int32))]) rfl
  replace W1 := W1.iadd (v := s4) d2097_118_43 p10 rfl
  replace W1 := W1.istore (L' := #[.val (.ref x0), .val (.int s0), .val (.ref x1), .val (.int (1 : Int32)), .val (.int s4), .unset, .unset]) d2097_118_44 rfl rfl
  replace W1 := W1.aloadN d2097_118_46 rfl rfl rfl
  replace W1 := W1.getf d2097_118_47 (tw141 H) Via.refl F_x0_signum rfl
  replace W1 := W1.ifT (pc' := 128) d2097_118_50 (flt p11).2.1 (by decide) (by decide)
  replace W1 := W1.iload d2097_118_128 rfl rfl
  replace W1 := W1.istoreN (L' := #[.val (.ref x0), .val (.int s4), .val (.ref x1), .val (.int (1 : Int32)), .val (.int s4), .unset, .unset]) d2097_118_130 rfl rfl
  replace W1 := W1.aloadN d2097_118_131 rfl rfl rfl
  replace W1 := W1.iloadN d2097_118_132 rfl rfl
  replace W1 := W1.iconst (v := (1 : Int32)) d2097_118_133 rfl rfl
  replace W1 := W1.iadd (v := s5) d2097_118_134 p12 rfl
  obtain ⟨h2, W2, w2, SF2⟩ := W1.putf (pc' := 138) (ty := .int) d2097_118_135 (tw214 H) Via.refl F_x0_bitLengthPlusOne E_x0 (Or.inl (tw215 H)) (tw134 H) (by decide) rfl rfl safe0 (Or.inl (List.mem_of_getElem? (i := 0) rfl)) rfl
  clear W1
  have z2 : h0.size ≤ h2.size := Nat.le_of_eq w2.size.symm
  have f2 := F_x0_bitLengthPlusOne.same w2
  replace W2 := W2.iloadN d2097_118_138 rfl rfl
  have e3 := (E_x0.wr w2)
  have f4 := (F_x0_mag.other w2 (Or.inr (sn22 H)))
  have f5 := (F_x0_signum.other w2 (Or.inr (sn23 H)))
  exact W2.iret (t := .int) d2097_118_139 rfl (by simp) rfl (by decide) (by decide) (fun V' cv => ⟨rfl, e3, f2, f4, f5⟩)
theorem m54_signInt (H : Cx Z a0 gA gK) (x0 : Addr) (u0 : Int32) (h0 : Heap) (hO : Old Z n0 h0) (F_x0_signum : Fld Z h0 x0 "java/math/BigInteger" "signum" "I" (.int u0)) (p0 : ¬ (u0 < (0 : Int32))) : Con l Z [] n0 N36 jdk_2097_method_147_code 1 (some .int) (Rm 0 0 0 0) #[(.ref x0)] h0 [] (fun v h V' => v = some (.int (0 : Int32)) ∧ h0 = h) [] := by
  refine Con.of (a0 := a0) (L0 := #[.val (.ref x0)]) pf36 (fun _ => rfl) all0 hO EW.nil ?_
  intro p e s m below meth c S0 hnm hsf W
  replace W := W.aloadN d2097_147_0 rfl rfl rfl
  replace W := W.getf d2097_147_1 (tw141 H) Via.refl F_x0_signum rfl
  replace W := W.ifT (pc' := 11) d2097_147_4 (flt p0).2.1 (by decide) (by decide)
  replace W := W.iconst (v := (0 : Int32)) d2097_147_11 rfl rfl
  exact W.iret (t := .int) d2097_147_12 rfl (by simp) rfl (by decide) (by decide) (fun V' cv => ⟨rfl, rfl⟩)
theorem m56_getInt (H : Cx Z a0 gA gK) (x0 x1 : Addr) (kp0 : ClassId) (u0 u1 u2 : Int32) (h0 : Heap) (hO : Old Z n0 h0) (E_x0 : Exa Z h0 x0 "java/math/BigInteger") (F_x0_mag : Fld Z h0 x0 "java/math/BigInteger" "mag" "[I" (.ref x1)) (F_x0_signum : Fld Z h0 x0 "java/math/BigInteger" "signum" "I" (.int u1)) (V_x1 : Arv Z h0 x1 kp0 .int (1 : Int32) [(.int u2)] (.int (0 : Int32))) (p0 : ¬ (u0 < (0 : Int32))) (p1 : ¬ (u0 < (1 : Int32))) (p2 : ¬ (u1 < (0 : Int32))) : Con l Z [] n0 N37 jdk_2097_method_148_code 3 (some .int) (Rm 1 0 0 12) #[(.ref x0), (.int u0)] h0 [] (fun v h V' => v = some (.int (0 : Int32)) ∧ h0 = h) [] := by
  refine Con.of (a0 := a0) (L0 := #[.val (.ref x0), .val (.int u0), .unset]) pf37 (fun _ => rfl) all0 hO EW.nil ?_
  intro p e s m below meth c S0 hnm hsf W
  replace W := W.iloadN d2097_148_0 rfl rfl
  replace W := W.ifT (pc' := 6) d2097_148_1 (flt p0).2.1 (by decide) (by decide)
  replace W := W.iloadN d2097_148_6 rfl rfl
  replace W := W.aloadN d2097_148_7 rfl rfl rfl
  replace W := W.getf d2097_148_8 (tw144 H) Via.refl F_x0_mag rfl
  replace W := W.alen d2097_148_11 V_x1 rfl
  replace W := W.icmpF (pc' := 15) d2097_148_12 (flt p1).1 rfl
  replace W := W.aloadN d2097_148_15 rfl rfl rfl
  obtain ⟨V1, h1, r1, W1, K1, hQ1, SF1⟩ := W.callP (pc' := 19) (argsL := []) (rest := []) (Wd := 0) (cells' := 0) (slots' := 0) (a := x0) (C := "java/math/BigInteger") (y := N36) d2097_148_16 (m54_signInt H x0 u1 h0 W.old F_x0_signum p2) E_x0 (tw234 H) (tw235 H) (tw237 H) (tw236 H) (tw130 H) (tw238 H) (by decide) (lenOf pd27 rfl) rfl rfl (by decide) (by decide) rfl sf0 all0
  clear W
  obtain ⟨_, rfl, hs1⟩ := hQ1
  subst hs1
  replace W1 := W1.cast (st' := [(.int (0 : Int32))]) rfl
  exact W1.iret (t := .int) d2097_148_19 rfl (by simp) rfl (by decide) (by decide) (fun V' cv => ⟨rfl, rfl⟩)
theorem m57_getInt (H : Cx Z a0 gA gK) (x0 x1 : Addr) (kp0 : ClassId) (u0 u1 u2 s0 s1 : Int32) (h0 : Heap) (hO : Old Z n0 h0) (F_x0_mag : Fld Z h0 x0 "java/math/BigInteger" "mag" "[I" (.ref x1)) (F_x0_signum : Fld Z h0 x0 "java/math/BigInteger" "signum" "I" (.int u1)) (V_x1 : Arv Z h0 x1 kp0 .int (1 : Int32) [(.int u2)] (.int (0 : Int32))) (p0 : ¬ (u0 < (0 : Int32))) (p1 : u0 < (1 : Int32)) (p2 : ((1 : Int32) - u0) = s0) (p3 : (s0 - (1 : Int32)) = s1) (p4 : s1 = (0 : Int32)) (p5 : ¬ (u1 < (0 : Int32))) : Con l Z [] n0 N37 jdk_2097_method_148_code 3 (some .int) (Rm 0 0 0 0) #[(.ref x0), (.int u0)] h0 [] (fun v h V' => v = some (.int u2) ∧ h0 = h) [] := by
  refine Con.of (a0 := a0) (L0 := #[.val (.ref x0), .val (.int u0), .unset]) pf37 (fun _ => rfl) all0 hO EW.nil ?_
  intro p e s m below meth c S0 hnm hsf W
  replace W := W.iloadN d2097_148_0 rfl rfl
  replace W := W.ifT (pc' := 6) d2097_148_1 (flt p0).2.1 (by decide) (by decide)
  replace W := W.iloadN d2097_148_6 rfl rfl
  replace W := W.aloadN d2097_148_7 rfl rfl rfl
  replace W := W.getf d2097_148_8 (tw144 H) Via.refl F_x0_mag rfl
  replace W := W.alen d2097_148_11 V_x1 rfl
  replace W := W.icmpT (pc' := 20) d2097_148_12 (tlt p1).1 (by decide) (by decide)
  replace W := W.aloadN d2097_148_20 rfl rfl rfl
  replace W := W.getf d2097_148_21 (tw144 H) Via.refl F_x0_mag rfl
  replace W := W.aloadN d2097_148_24 rfl rfl rfl
  replace W := W.getf d2097_148_25 (tw144 H) Via.refl F_x0_mag rfl
  replace W := W.alen d2097_148_28 V_x1 rfl
  replace W := W.iloadN d2097_148_29 rfl rfl
  replace W := W.isub (v := s0) d2097_148_30 p2 rfl
  replace W := W.iconst (v := (1 : Int32)) d2097_148_31 rfl rfl
  replace W := W.isub (v := s1) d2097_148_32 p3 rfl
  subst p4
  replace W := W.iaload (w := (.int u2)) d2097_148_33 V_x1 ⟨by decide, by decide⟩ rfl rfl
  replace W := W.istoreN (L' := #[.val (.ref x0), .val (.int u0), .val (.int u2)]) d2097_148_34 rfl rfl
  replace W := W.aloadN d2097_148_35 rfl rfl rfl
  replace W := W.getf d2097_148_36 (tw141 H) Via.refl F_x0_signum rfl
  replace W := W.ifF (pc' := 42) d2097_148_39 (flt p5).1 rfl
  replace W := W.iloadN d2097_148_42 rfl rfl
  replace W := W.goto (pc' := 62) d2097_148_43 (by decide) (by decide)
  exact W.iret (t := .int) d2097_148_62 rfl (by simp) rfl (by decide) (by decide) (fun V' cv => ⟨rfl, rfl⟩)
theorem m51_longValue (H : Cx Z a0 gA gK) (x0 x1 : Addr) (kp0 : ClassId) (u1 u2 : Int32) (s0 s1 s2 : Int64) (h0 : Heap) (hO : Old Z n0 h0) (E_x0 : Exa Z h0 x0 "java/math/BigInteger") (F_x0_mag : Fld Z h0 x0 "java/math/BigInteger" "mag" "[I" (.ref x1)) (F_x0_signum : Fld Z h0 x0 "java/math/BigInteger" "signum" "I" (.int u1)) (V_x1 : Arv Z h0 x1 kp0 .int (1 : Int32) [(.int u2)] (.int (0 : Int32))) (p0 : ¬ (u1 < (0 : Int32))) (p1 : (u2.toInt64) = s0) (p2 : (s0 &&& (4294967295 : Int64)) = s1) (p3 : ((0 : Int64) + s1) = s2) : Con l Z [] n0 N38 jdk_2097_method_136_code 4 (some .long) (Rm 2 0 0 28) #[(.ref x0)] h0 [] (fun v h V' => v = some (.long s2) ∧ h0 = h) [] := by
  refine Con.of (a0 := a0) (L0 := #[.val (.ref x0), .unset, .unset, .unset]) pf38 (fun _ => rfl) all0 hO EW.nil ?_
  intro p e s m below meth c S0 hnm hsf W
  replace W := W.lconst (v := (0 : Int64)) d2097_136_0 rfl rfl
  replace W := W.lstoreN (L' := #[.val (.ref x0), .val (.long (0 : Int64)), .second, .unset]) d2097_136_1 rfl rfl
  replace W := W.iconst (v := (1 : Int32)) d2097_136_2 rfl rfl
  replace W := W.istoreN (L' := #[.val (.ref x0), .val (.long (0 : Int64)), .second, .val (.int (1 : Int32))]) d2097_136_3 rfl rfl
  replace W := W.iloadN d2097_136_4 rfl rfl
  replace W := W.ifF (pc' := 8) d2097_136_5 (flt (by decide : ¬ ((1 : Int32) < (0 : Int32)))).1 rfl
  replace W := W.lloadN d2097_136_8 rfl rfl
  replace W := W.bipush (v := (32 : Int32)) d2097_136_9 rfl rfl
  replace W := W.lshl (v := (0 : Int64)) d2097_136_11 (by decide) rfl
  replace W := W.aloadN d2097_136_12 rfl rfl rfl
  replace W := W.iloadN d2097_136_13 rfl rfl
  obtain ⟨V1, h1, r1, W1, K1, hQ1, SF1⟩ := W.callP (pc' := 17) (argsL := [(.int (1 : Int32))]) (rest := [(.long (0 : Int64))]) (Wd := 2) (cells' := 0) (slots' := 0) (a := x0) (C := "java/math/BigInteger") (y := N37) d2097_136_14 (m56_getInt H x0 x1 kp0 (1 : Int32) u1 u2 h0 W.old E_x0 F_x0_mag F_x0_signum V_x1 (by decide) (by decide) p0) E_x0 (tw229 H) (tw230 H) (tw232 H) (tw231 H) (tw130 H) (tw233 H) (by decide) (lenOf pd26 rfl) rfl rfl (by decide) (by decide) rfl sf0 all0
  clear W
  obtain ⟨_, rfl, hs1⟩ := hQ1
  subst hs1
  replace W1 := W1.cast (st' := [(.int (0 : Int32)), (.long (0 : Int64))]) rfl
  replace W1 := W1.i2l (v := (0 : Int64)) d2097_136_17 (by decide) rfl
  replace W1 := W1.ldc2 d2097_136_18 (tw239 H) rfl
  replace W1 := W1.land (v := (0 : Int64)) d2097_136_21 (by decide) rfl
  replace W1 := W1.ladd (v := (0 : Int64)) d2097_136_22 (by decide) rfl
  replace W1 := W1.lstoreN (L' := #[.val (.ref x0), .val (.long (0 : Int64)), .second, .val (.int (1 : Int32))]) d2097_136_23 rfl rfl
  replace W1 := W1.iinc (v := (0 : Int32)) (L' := #[.val (.ref x0), .val (.long (0 : Int64)), .second, .val (.int (0 : Int32))]) d2097_136_24 rfl (by decide) rfl rfl
  replace W1 := W1.goto (pc' := 4) d2097_136_27 (by decide) (by decide)
  replace W1 := W1.iloadN d2097_136_4 rfl rfl
  replace W1 := W1.ifF (pc' := 8) d2097_136_5 (flt (by decide : ¬ ((0 : Int32) < (0 : Int32)))).1 rfl
  replace W1 := W1.lloadN d2097_136_8 rfl rfl
  replace W1 := W1.bipush (v := (32 : Int32)) d2097_136_9 rfl rfl
  replace W1 := W1.lshl (v := (0 : Int64)) d2097_136_11 (by decide) rfl
  replace W1 := W1.aloadN d2097_136_12 rfl rfl rfl
  replace W1 := W1.iloadN d2097_136_13 rfl rfl
  obtain ⟨V2, h2, r2, W2, K2, hQ2, SF2⟩ := W1.callP (pc' := 17) (argsL := [(.int (0 : Int32))]) (rest := [(.long (0 : Int64))]) (Wd := 2) (cells' := 0) (slots' := 0) (a := x0) (C := "java/math/BigInteger") (y := N37) d2097_136_14 (m57_getInt H x0 x1 kp0 (0 : Int32) u1 u2 (1 : Int32) (0 : Int32) h0 W1.old F_x0_mag F_x0_signum V_x1 (by decide) (by decide) (by decide) (by decide) (by decide) p0) E_x0 (tw229 H) (tw230 H) (tw232 H) (tw231 H) (tw130 H) (tw233 H) (by decide) (lenOf pd26 rfl) rfl rfl (by decide) (by decide) rfl sf0 all0
  clear W1
  obtain ⟨_, rfl, hs2⟩ := hQ2
  subst hs2
  replace W2 := W2.cast (st' := [(.int u2), (.long (0 : Int64))]) rfl
  replace W2 := W2.i2l (v := s0) d2097_136_17 p1 rfl
  replace W2 := W2.ldc2 d2097_136_18 (tw239 H) rfl
  replace W2 := W2.land (v := s1) d2097_136_21 p2 rfl
  replace W2 := W2.ladd (v := s2) d2097_136_22 p3 rfl
  replace W2 := W2.lstoreN (L' := #[.val (.ref x0), .val (.long s2), .second, .val (.int (0 : Int32))]) d2097_136_23 rfl rfl
  replace W2 := W2.iinc (v := (-1 : Int32)) (L' := #[.val (.ref x0), .val (.long s2), .second, .val (.int (-1 : Int32))]) d2097_136_24 rfl (by decide) rfl rfl
  replace W2 := W2.goto (pc' := 4) d2097_136_27 (by decide) (by decide)
  replace W2 := W2.iloadN d2097_136_4 rfl rfl
  replace W2 := W2.ifT (pc' := 30) d2097_136_5 (tlt (by decide : (-1 : Int32) < (0 : Int32))).1 (by decide) (by decide)
  replace W2 := W2.lloadN d2097_136_30 rfl rfl
  exact W2.lret d2097_136_31 rfl (by decide) (by decide) (fun V' cv => ⟨rfl, rfl⟩)
theorem m60_signInt (H : Cx Z a0 gA gK)  (h0 : Heap) (hO : Old Z n0 h0)  : Con l Z [] n0 N36 jdk_2097_method_147_code 1 (some .int) (Rm 0 0 0 0) #[(.ref (gA 4))] h0 [] (fun v h V' => v = some (.int (0 : Int32)) ∧ h0 = h) [] := by
  refine Con.of (a0 := a0) (L0 := #[.val (.ref (gA 4))]) pf36 (fun _ => rfl) all0 hO EW.nil ?_
  intro p e s m below meth c S0 hnm hsf W
  replace W := W.aloadN d2097_147_0 rfl rfl rfl
  have f1 := (gf27 H).ext W.old.2
  replace W := W.getf d2097_147_1 (tw141 H) Via.refl f1 rfl
  replace W := W.ifT (pc' := 11) d2097_147_4 (flt (by decide : ¬ ((0 : Int32) < (0 : Int32)))).2.1 (by decide) (by decide)
  replace W := W.iconst (v := (0 : Int32)) d2097_147_11 rfl rfl
  exact W.iret (t := .int) d2097_147_12 rfl (by simp) rfl (by decide) (by decide) (fun V' cv => ⟨rfl, rfl⟩)
theorem m59_getInt (H : Cx Z a0 gA gK) (u0 : Int32) (h0 : Heap) (hO : Old Z n0 h0) (p0 : ¬ (u0 < (0 : Int32))) : Con l Z [] n0 N37 jdk_2097_method_148_code 3 (some .int) (Rm 1 0 0 12) #[(.ref (gA 4)), (.int u0)] h0 [] (fun v h V' => v = some (.int (0 : Int32)) ∧ h0 = h) [] := by
  refine Con.of (a0 := a0) (L0 := #[.val (.ref (gA 4)), .val (.int u0), .unset]) pf37 (fun _ => rfl) all0 hO EW.nil ?_
  intro p e s m below meth c S0 hnm hsf W
  replace W := W.iloadN d2097_148_0 rfl rfl
  replace W := W.ifT (pc' := 6) d2097_148_1 (flt p0).2.1 (by decide) (by decide)
  replace W := W.iloadN d2097_148_6 rfl rfl
  replace W := W.aloadN d2097_148_7 rfl rfl rfl
  have f1 := (gf26 H).ext W.old.2
  replace W := W.getf d2097_148_8 (tw144 H) Via.refl f1 rfl
  have v2 := (gf37 H).ext W.old.2
  replace W := W.alen d2097_148_11 v2 rfl
  replace W := W.icmpF (pc' := 15) d2097_148_12 (flt p0).1 rfl
  replace W := W.aloadN d2097_148_15 rfl rfl rfl
  have e3 := (gf7 H).ext W.old.2
  obtain ⟨V4, h4, r4, W4, K4, hQ4, SF4⟩ := W.callP (pc' := 19) (argsL := []) (rest := []) (Wd := 0) (cells' := 0) (slots' := 0) (a := (gA 4)) (C := "java/math/BigInteger") (y := N36) d2097_148_16 (m60_signInt H h0 W.old) e3 (tw234 H) (tw235 H) (tw237 H) (tw236 H) (tw130 H) (tw238 H) (by decide) (lenOf pd27 rfl) rfl rfl (by decide) (by decide) rfl sf0 all0
  clear W
  obtain ⟨_, rfl, hs4⟩ := hQ4
  subst hs4
  replace W4 := W4.cast (st' := [(.int (0 : Int32))]) rfl
  exact W4.iret (t := .int) d2097_148_19 rfl (by simp) rfl (by decide) (by decide) (fun V' cv => ⟨rfl, rfl⟩)
theorem m58_intValue (H : Cx Z a0 gA gK)  (h0 : Heap) (hO : Old Z n0 h0)  : Con l Z [] n0 N39 jdk_2097_method_135_code 2 (some .int) (Rm 2 0 0 26) #[(.ref (gA 4))] h0 [] (fun v h V' => v = some (.int (0 : Int32)) ∧ h0 = h) [] := by
  refine Con.of (a0 := a0) (L0 := #[.val (.ref (gA 4)), .unset]) pf39 (fun _ => rfl) all0 hO EW.nil ?_
  intro p e s m below meth c S0 hnm hsf W
  replace W := W.iconst (v := (0 : Int32)) d2097_135_0 rfl rfl
  replace W := W.istoreN (L' := #[.val (.ref (gA 4)), .val (.int (0 : Int32))]) d2097_135_1 rfl rfl
  replace W := W.aloadN d2097_135_2 rfl rfl rfl
  replace W := W.iconst (v := (0 : Int32)) d2097_135_3 rfl rfl
  have e1 := (gf7 H).ext W.old.2
  obtain ⟨V2, h2, r2, W2, K2, hQ2, SF2⟩ := W.callP (pc' := 7) (argsL := [(.int (0 : Int32))]) (rest := []) (Wd := 0) (cells' := 0) (slots' := 0) (a := (gA 4)) (C := "java/math/BigInteger") (y := N37) d2097_135_4 (m59_getInt H (0 : Int32) h0 W.old (by decide)) e1 (tw229 H) (tw230 H) (tw232 H) (tw231 H) (tw130 H) (tw233 H) (by decide) (lenOf pd26 rfl) rfl rfl (by decide) (by decide) rfl sf0 all0
  clear W
  obtain ⟨_, rfl, hs2⟩ := hQ2
  subst hs2
  replace W2 := W2.cast (st' := [(.int (0 : Int32))]) rfl
  replace W2 := W2.istoreN (L' := #[.val (.ref (gA 4)), .val (.int (0 : Int32))]) d2097_135_7 rfl rfl
  replace W2 := W2.iloadN d2097_135_8 rfl rfl
  exact W2.iret (t := .int) d2097_135_9 rfl (by simp) rfl (by decide) (by decide) (fun V' cv => ⟨rfl, rfl⟩)
theorem m62_floorDiv (H : Cx Z a0 gA gK) (u0 u1 s0 s1 : Int64) (h0 : Heap) (hO : Old Z n0 h0) (p0 : u1 = (1000000000 : Int64)) (p1 : (u0 / (1000000000 : Int64)) = s0) (p2 : (u0 ^^^ (1000000000 : Int64)) = s1) (p3 : (Jvm.Free.XT.cmpL s1 (0 : Int64)) = (1 : Int32)) : Con l Z [] n0 N40 jdk_29_method_49_code 6 (some .long) (Rm 0 0 0 0) #[(.long u0), (.long u1)] h0 [] (fun v h V' => v = some (.long s0) ∧ h0 = h) [] := by
  refine Con.of (a0 := a0) (L0 := #[.val (.long u0), .second, .val (.long u1), .second, .unset, .unset]) pf40 (fun _ => rfl) all0 hO EW.nil ?_
  intro p e s m below meth c S0 hnm hsf W
  replace W := W.lloadN d29_49_0 rfl rfl
  replace W := W.lloadN d29_49_1 rfl rfl
  subst p0
  replace W := W.ldiv (v := s0) d29_49_2 (by decide) p1 rfl
  replace W := W.lstore (L' := #[.val (.long u0), .second, .val (.long (1000000000 : Int64)), .second, .val (.long s0), .second]) d29_49_3 rfl rfl
  replace W := W.lloadN d29_49_5 rfl rfl
  replace W := W.lloadN d29_49_6 rfl rfl
  replace W := W.lxor (v := s1) d29_49_7 p2 rfl
  replace W := W.lconst (v := (0 : Int64)) d29_49_8 rfl rfl
  replace W := W.lcmp (v := (1 : Int32)) d29_49_9 p3 rfl
  replace W := W.ifT (pc' := 27) d29_49_10 (flt (by decide : ¬ ((1 : Int32) < (0 : Int32)))).2.1 (by decide) (by decide)
  replace W := W.lload d29_49_27 rfl rfl
  exact W.lret d29_49_29 rfl (by decide) (by decide) (fun V' cv => ⟨rfl, rfl⟩)
theorem m63_addExact (H : Cx Z a0 gA gK) (u0 u1 s0 s1 s2 s3 : Int64) (h0 : Heap) (hO : Old Z n0 h0) (p0 : (u0 + u1) = s0) (p1 : (u0 ^^^ s0) = s1) (p2 : (u1 ^^^ s0) = s2) (p3 : (s1 &&& s2) = s3) (p4 : (Jvm.Free.XT.cmpL s3 (0 : Int64)) = (0 : Int32)) : Con l Z [] n0 N41 jdk_29_method_25_code 6 (some .long) (Rm 0 0 0 0) #[(.long u0), (.long u1)] h0 [] (fun v h V' => v = some (.long s0) ∧ h0 = h) [] := by
  refine Con.of (a0 := a0) (L0 := #[.val (.long u0), .second, .val (.long u1), .second, .unset, .unset]) pf41 (fun _ => rfl) all0 hO EW.nil ?_
  intro p e s m below meth c S0 hnm hsf W
  replace W := W.lloadN d29_25_0 rfl rfl
  replace W := W.lloadN d29_25_1 rfl rfl
  replace W := W.ladd (v := s0) d29_25_2 p0 rfl
  replace W := W.lstore (L' := #[.val (.long u0), .second, .val (.long u1), .second, .val (.long s0), .second]) d29_25_3 rfl rfl
  replace W := W.lloadN d29_25_5 rfl rfl
  replace W := W.lload d29_25_6 rfl rfl
  replace W := W.lxor (v := s1) d29_25_8 p1 rfl
  replace W := W.lloadN d29_25_9 rfl rfl
  replace W := W.lload d29_25_10 rfl rfl
  replace W := W.lxor (v := s2) d29_25_12 p2 rfl
  replace W := W.land (v := s3) d29_25_13 p3 rfl
  replace W := W.lconst (v := (0 : Int64)) d29_25_14 rfl rfl
  replace W := W.lcmp (v := (0 : Int32)) d29_25_15 p4 rfl
  replace W := W.ifT (pc' := 29) d29_25_16 (flt (by decide : ¬ ((0 : Int32) < (0 : Int32)))).2.1 (by decide) (by decide)
  replace W := W.lload d29_25_29 rfl rfl
  exact W.lret d29_25_31 rfl (by decide) (by decide) (fun V' cv => ⟨rfl, rfl⟩)
theorem m64_floorMod (H : Cx Z a0 gA gK) (u0 u1 s0 s1 : Int64) (h0 : Heap) (hO : Old Z n0 h0) (p0 : u1 = (1000000000 : Int64)) (p1 : (u0 - (u0 / (1000000000 : Int64)) * (1000000000 : Int64)) = s0) (p2 : (u0 ^^^ (1000000000 : Int64)) = s1) (p3 : (Jvm.Free.XT.cmpL s1 (0 : Int64)) = (1 : Int32)) : Con l Z [] n0 N42 jdk_29_method_52_code 6 (some .long) (Rm 0 0 0 0) #[(.long u0), (.long u1)] h0 [] (fun v h V' => v = some (.long s0) ∧ h0 = h) [] := by
  refine Con.of (a0 := a0) (L0 := #[.val (.long u0), .second, .val (.long u1), .second, .unset, .unset]) pf42 (fun _ => rfl) all0 hO EW.nil ?_
  intro p e s m below meth c S0 hnm hsf W
  replace W := W.lloadN d29_52_0 rfl rfl
  replace W := W.lloadN d29_52_1 rfl rfl
  subst p0
  replace W := W.lrem (v := s0) d29_52_2 (by decide) p1 rfl
  replace W := W.lstore (L' := #[.val (.long u0), .second, .val (.long (1000000000 : Int64)), .second, .val (.long s0), .second]) d29_52_3 rfl rfl
  replace W := W.lloadN d29_52_5 rfl rfl
  replace W := W.lloadN d29_52_6 rfl rfl
  replace W := W.lxor (v := s1) d29_52_7 p2 rfl
  replace W := W.lconst (v := (0 : Int64)) d29_52_8 rfl rfl
  replace W := W.lcmp (v := (1 : Int32)) d29_52_9 p3 rfl
  replace W := W.ifT (pc' := 25) d29_52_10 (flt (by decide : ¬ ((1 : Int32) < (0 : Int32)))).2.1 (by decide) (by decide)
  replace W := W.lload d29_52_25 rfl rfl
  exact W.lret d29_52_27 rfl (by decide) (by decide) (fun V' cv => ⟨rfl, rfl⟩)
theorem m66_init (H : Cx Z a0 gA gK) (x0 : Addr) (u0 : Int64) (u1 u2 : Int32) (u3 : Int64) (h0 : Heap) (hO : Old Z n0 h0) (E_x0 : Exa Z h0 x0 "java/time/Duration") (F_x0_nanos : Fld Z h0 x0 "java/time/Duration" "nanos" "I" (.int u2)) (F_x0_seconds : Fld Z h0 x0 "java/time/Duration" "seconds" "J" (.long u3)) (g_x0 : n0 ≤ x0) : Con l Z [] n0 N43 jdk_2316_method_17_code 4 none (Rm 1 0 0 12) #[(.ref x0), (.long u0), (.int u1)] h0 [x0] (fun v h V' => v = none ∧ Exa Z h x0 "java/time/Duration" ∧ Fld Z h x0 "java/time/Duration" "nanos" "I" (.int u1) ∧ Fld Z h x0 "java/time/Duration" "seconds" "J" (.long u0)) [] := by
  refine Con.of (a0 := a0) (L0 := #[.val (.ref x0), .val (.long u0), .second, .val (.int u1)]) pf43 (fun _ => rfl) (allS g_x0 all0) hO EW.nil ?_
  intro p e s m below meth c S0 hnm hsf W
  replace W := W.aloadN d2316_17_0 rfl rfl rfl
  replace W := W.initO (Wd := 0) d2316_17_1 (tw267 H) (tw7 H) (tw8 H) rfl rfl (by decide) (by decide) rfl
  replace W := W.aloadN d2316_17_4 rfl rfl rfl
  replace W := W.lloadN d2316_17_5 rfl rfl
  obtain ⟨h1, W1, w1, SF1⟩ := W.putf (pc' := 9) (ty := .long) d2316_17_6 (tw30 H) Via.refl F_x0_seconds E_x0 (Or.inr ⟨(tw31 H), rfl, hnm⟩) (tw262 H) (by decide) rfl rfl safe0 (Or.inl (List.mem_of_getElem? (i := 0) rfl)) rfl
  clear W
  have z1 : h0.size ≤ h1.size := Nat.le_of_eq w1.size.symm
  have f1 := F_x0_seconds.same w1
  replace W1 := W1.aloadN d2316_17_9 rfl rfl rfl
  replace W1 := W1.iloadN d2316_17_10 rfl rfl
  have f2 := (F_x0_nanos.other w1 (Or.inr (sn24 H)))
  have e3 := (E_x0.wr w1)
  obtain ⟨h4, W4, w4, SF4⟩ := W1.putf (pc' := 14) (ty := .int) d2316_17_11 (tw37 H) Via.refl f2 e3 (Or.inr ⟨(tw38 H), rfl, hnm⟩) (tw262 H) (by decide) rfl rfl safe0 (Or.inl (List.mem_of_getElem? (i := 0) rfl)) rfl
  clear W1
  have z4 : h1.size ≤ h4.size := Nat.le_of_eq w4.size.symm
  have f4 := f2.same w4
  have e5 := (e3.wr w4)
  have f6 := (f1.other w4 (Or.inr (sn25 H)))
  exact W4.vret d2316_17_14 rfl (by decide) (by decide) (fun V' cv => ⟨rfl, e5, f4, f6⟩)
theorem m65_create (H : Cx Z a0 gA gK) (u0 : Int64) (u1 : Int32) (s0 s1 : Int64) (h0 : Heap) (hO : Old Z n0 h0) (p0 : (u1.toInt64) = s0) (p1 : (u0 ||| s0) = s1) (p2 : (Jvm.Free.XT.cmpL s1 (0 : Int64)) = (1 : Int32)) : Con l Z [] n0 N44 jdk_2316_method_16_code 3 (some (.object "java/time/Duration")) (Rm 2 1 2 28) #[(.long u0), (.int u1)] h0 [] (fun v h V' => ∃ (r0 : Addr), v = some (.ref r0) ∧ Exa Z h r0 "java/time/Duration" ∧ Fld Z h r0 "java/time/Duration" "nanos" "I" (.int u1) ∧ Fld Z h r0 "java/time/Duration" "seconds" "J" (.long u0) ∧ h0.size ≤ r0) [] := by
  refine Con.of (a0 := a0) (L0 := #[.val (.long u0), .second, .val (.int u1)]) pf44 (fun _ => rfl) all0 hO EW.nil ?_
  intro p e s m below meth c S0 hnm hsf W
  replace W := W.lloadN d2316_16_0 rfl rfl
  replace W := W.iloadN d2316_16_1 rfl rfl
  replace W := W.i2l (v := s0) d2316_16_2 p0 rfl
  replace W := W.lor (v := s1) d2316_16_3 p1 rfl
  replace W := W.lconst (v := (0 : Int64)) d2316_16_4 rfl rfl
  replace W := W.lcmp (v := (1 : Int32)) d2316_16_5 p2 rfl
  replace W := W.ifT (pc' := 13) d2316_16_6 (feq (by decide : ¬ ((1 : Int32) = (0 : Int32)))).2 (by decide) (by decide)
  obtain ⟨h1, a1, W1, E1, g1, ⟨A1, D1, U1⟩, sf1, SF1⟩ := W.new (pc' := 16) (cells' := 1) (slots' := 2) d2316_16_13 (tw261 H) (tw262 H) (tw23 H) rfl rfl rfl (by decide) (by decide)
  clear W
  rw [← g1] at A1 D1 U1
  have z1 : h0.size ≤ h1.size := E1.1
  replace W1 := W1.dup d2316_16_16 rfl rfl
  replace W1 := W1.lloadN d2316_16_17 rfl rfl
  replace W1 := W1.iloadN d2316_16_18 rfl rfl
  obtain ⟨V2, h2, r2, W2, K2, hQ2, SF2⟩ := W1.callI (pc' := 22) (argsL := [(.long u0), (.int u1)]) (rest := [(.ref a1)]) (Wd := 1) (cells' := 1) (slots' := 2) (a := a1) (y := N43) d2316_16_19 (m66_init H a1 u0 u1 (0 : Int32) (0 : Int64) h1 W1.old A1 (D1 (Or.inr (tw38 H)) (ty := .int) (by decide) : Fld Z h1 a1 "java/time/Duration" "nanos" "I" (.int (0 : Int32))) (D1 (Or.inr (tw31 H)) (ty := .long) (by decide) : Fld Z h1 a1 "java/time/Duration" "seconds" "J" (.long (0 : Int64))) (Nat.le_trans W1.1.2.2.2.2.2.2.2.1 (Nat.le_of_eq g1.symm))) rfl (tw263 H) (tw264 H) (tw23 H) (tw266 H) (by decide) (lenOf pd29 rfl) rfl rfl (by decide) (by decide) rfl (sfS safe0 sf0) (allS (Or.inr (Nat.le_of_eq g1.symm)) all0)
  clear W1
  obtain ⟨_, rfl, q2_1, q2_2, q2_3⟩ := hQ2
  have z2 : h1.size ≤ h2.size := K2.1
  replace W2 := W2.cast (st' := [(.ref a1)]) rfl
  exact W2.aret (t := (.object "java/time/Duration")) d2316_16_22 rfl rfl rfl rfl (by decide) (by decide) (fun V' cv => ⟨a1, rfl, q2_1, q2_2, q2_3, (Nat.le_of_eq g1.symm)⟩)
theorem m61_ofSeconds (H : Cx Z a0 gA gK) (u0 u1 s0 s1 s2 s3 s4 s5 s6 : Int64) (s7 : Int32) (s8 s9 : Int64) (h0 : Heap) (hO : Old Z n0 h0) (p0 : (u1 / (1000000000 : Int64)) = s0) (p1 : (u1 ^^^ (1000000000 : Int64)) = s1) (p2 : (Jvm.Free.XT.cmpL s1 (0 : Int64)) = (1 : Int32)) (p3 : (u0 + s0) = s2) (p4 : (u0 ^^^ s2) = s3) (p5 : (s0 ^^^ s2) = s4) (p6 : (s3 &&& s4) = s5) (p7 : (Jvm.Free.XT.cmpL s5 (0 : Int64)) = (0 : Int32)) (p8 : (u1 - (u1 / (1000000000 : Int64)) * (1000000000 : Int64)) = s6) (p9 : (s6.toInt32) = s7) (p10 : (s7.toInt64) = s8) (p11 : (s2 ||| s8) = s9) (p12 : (Jvm.Free.XT.cmpL s9 (0 : Int64)) = (1 : Int32)) : Con l Z [] n0 N45 jdk_2316_method_5_code 7 (some (.object "java/time/Duration")) (Rm 3 1 2 42) #[(.long u0), (.long u1)] h0 [] (fun v h V' => ∃ (r0 : Addr), v = some (.ref r0) ∧ Exa Z h r0 "java/time/Duration" ∧ Fld Z h r0 "java/time/Duration" "nanos" "I" (.int s7) ∧ Fld Z h r0 "java/time/Duration" "seconds" "J" (.long s2) ∧ h0.size ≤ r0) [] := by
  refine Con.of (a0 := a0) (L0 := #[.val (.long u0), .second, .val (.long u1), .second, .unset, .unset, .unset]) pf45 (fun _ => rfl) all0 hO EW.nil ?_
  intro p e s m below meth c S0 hnm hsf W
  replace W := W.lloadN d2316_5_0 rfl rfl
  replace W := W.lloadN d2316_5_1 rfl rfl
  replace W := W.ldc2 d2316_5_2 (tw248 H) rfl
  obtain ⟨V1, h1, r1, W1, K1, hQ1, SF1⟩ := W.callS (pc' := 8) (argsL := [(.long u1), (.long (1000000000 : Int64))]) (rest := [(.long u0)]) (Wd := 2) (cells' := 0) (slots' := 0) (y := N40) d2316_5_5 (m62_floorDiv H u1 (1000000000 : Int64) s0 s1 h0 W.old (by decide) p0 p1 p2) (tw249 H) (tw250 H) (tw103 H) (tw251 H) (by decide) (lenOf pd6 rfl) rfl rfl (by decide) (by decide) rfl sf0 all0
  clear W
  obtain ⟨_, rfl, hs1⟩ := hQ1
  subst hs1
  replace W1 := W1.cast (st' := [(.long s0), (.long u0)]) rfl
  obtain ⟨V2, h2, r2, W2, K2, hQ2, SF2⟩ := W1.callS (pc' := 11) (argsL := [(.long u0), (.long s0)]) (rest := []) (Wd := 0) (cells' := 0) (slots' := 0) (y := N41) d2316_5_8 (m63_addExact H u0 s0 s2 s3 s4 s5 h0 W1.old p3 p4 p5 p6 p7) (tw252 H) (tw253 H) (tw103 H) (tw254 H) (by decide) (lenOf pd6 rfl) rfl rfl (by decide) (by decide) rfl sf0 all0
  clear W1
  obtain ⟨_, rfl, hs2⟩ := hQ2
  subst hs2
  replace W2 := W2.cast (st' := [(.long s2)]) rfl
  replace W2 := W2.lstore (L' := #[.val (.long u0), .second, .val (.long u1), .second, .val (.long s2), .second, .unset]) d2316_5_11 rfl rfl
  replace W2 := W2.lloadN d2316_5_13 rfl rfl
  replace W2 := W2.ldc2 d2316_5_14 (tw248 H) rfl
  obtain ⟨V3, h3, r3, W3, K3, hQ3, SF3⟩ := W2.callS (pc' := 20) (argsL := [(.long u1), (.long (1000000000 : Int64))]) (rest := []) (Wd := 0) (cells' := 0) (slots' := 0) (y := N42) d2316_5_17 (m64_floorMod H u1 (1000000000 : Int64) s6 s1 h0 W2.old (by decide) p8 p1 p2) (tw255 H) (tw256 H) (tw103 H) (tw257 H) (by decide) (lenOf pd6 rfl) rfl rfl (by decide) (by decide) rfl sf0 all0
  clear W2
  obtain ⟨_, rfl, hs3⟩ := hQ3
  subst hs3
  replace W3 := W3.cast (st' := [(.long s6)]) rfl
  replace W3 := W3.l2i (v := s7) d2316_5_20 p9 rfl
  replace W3 := W3.istore (L' := #[.val (.long u0), .second, .val (.long u1), .second, .val (.long s2), .second, .val (.int s7)]) d2316_5_21 rfl rfl
  replace W3 := W3.lload d2316_5_23 rfl rfl
  replace W3 := W3.iload d2316_5_25 rfl rfl
  obtain ⟨V4, h4, r4, W4, K4, hQ4, SF4⟩ := W3.callS (pc' := 30) (argsL := [(.long s2), (.int s7)]) (rest := []) (Wd := 0) (cells' := 1) (slots' := 2) (y := N44) d2316_5_27 (m65_create H s2 s7 s8 s9 h0 W3.old p10 p11 p12) (tw258 H) (tw259 H) (tw23 H) (tw260 H) (by decide) (lenOf pd30 rfl) rfl rfl (by decide) (by decide) rfl sf0 all0
  clear W3
  obtain ⟨_, r04, rfl, q4_1, q4_2, q4_3, q4_4⟩ := hQ4
  have z4 : h0.size ≤ h4.size := K4.1
  replace W4 := W4.cast (st' := [(.ref r04)]) rfl
  exact W4.aret (t := (.object "java/time/Duration")) d2316_5_30 rfl rfl rfl rfl (by decide) (by decide) (fun V' cv => ⟨r04, rfl, q4_1, q4_2, q4_3, q4_4⟩)
theorem m67_movePointRight (H : Cx Z a0 gA gK) (x0 : Addr) (u0 : Int32) (u1 : Int64) (u2 : Int32) (s0 s1 s2 : Int64) (s3 : Int32) (s4 : Int64) (h0 : Heap) (hO : Old Z n0 h0) (E_x0 : Exa Z h0 x0 "java/math/BigDecimal") (F_x0_intCompact : Fld Z h0 x0 "java/math/BigDecimal" "intCompact" "J" (.long u1)) (F_x0_intVal : Fld Z h0 x0 "java/math/BigDecimal" "intVal" "Ljava/math/BigInteger;" .null) (F_x0_scale : Fld Z h0 x0 "java/math/BigDecimal" "scale" "I" (.int u2)) (p0 : ¬ (u0 = (0 : Int32))) (p1 : (u2.toInt64) = s0) (p2 : (u0.toInt64) = s1) (p3 : (s0 - s1) = s2) (p4 : (s2.toInt32) = s3) (p5 : (s3.toInt64) = s4) (p6 : (Jvm.Free.XT.cmpL s4 s2) = (0 : Int32)) (p7 : ¬ (s3 < (0 : Int32))) : Con l Z [] n0 N17 jdk_17_method_67_code 4 (some (.object "java/math/BigDecimal")) (Rm 3 1 5 42) #[(.ref x0), (.int u0)] h0 [] (fun v h V' => ∃ (r0 : Addr), v = some (.ref r0) ∧ Exa Z h r0 "java/math/BigDecimal" ∧ Fld Z h r0 "java/math/BigDecimal" "intCompact" "J" (.long u1) ∧ Fld Z h r0 "java/math/BigDecimal" "intVal" "Ljava/math/BigInteger;" .null ∧ Fld Z h r0 "java/math/BigDecimal" "precision" "I" (.int (0 : Int32)) ∧ Fld Z h r0 "java/math/BigDecimal" "scale" "I" (.int s3) ∧ h0.size ≤ r0) [] := by
  refine Con.of (a0 := a0) (L0 := #[.val (.ref x0), .val (.int u0), .unset, .unset]) pf17 (fun _ => rfl) all0 hO EW.nil ?_
  intro p e s m below meth c S0 hnm hsf W
  replace W := W.iloadN d17_67_0 rfl rfl
  replace W := W.ifT (pc' := 13) d17_67_1 (feq p0).2 (by decide) (by decide)
  replace W := W.aloadN d17_67_13 rfl rfl rfl
  replace W := W.aloadN d17_67_14 rfl rfl rfl
  replace W := W.getf d17_67_15 (tw56 H) Via.refl F_x0_scale rfl
  replace W := W.i2l (v := s0) d17_67_18 p1 rfl
  replace W := W.iloadN d17_67_19 rfl rfl
  replace W := W.i2l (v := s1) d17_67_20 p2 rfl
  replace W := W.lsub (v := s2) d17_67_21 p3 rfl
  obtain ⟨V1, h1, r1, W1, K1, hQ1, SF1⟩ := W.callP (pc' := 25) (argsL := [(.long s2)]) (rest := []) (Wd := 0) (cells' := 0) (slots' := 0) (a := x0) (C := "java/math/BigDecimal") (y := N12) d17_67_22 (m24_checkScale H x0 s2 s3 s4 h0 W.old p4 p5 p6) E_x0 (tw90 H) (tw91 H) (tw93 H) (tw92 H) (tw34 H) (tw94 H) (by decide) (lenOf pd11 rfl) rfl rfl (by decide) (by decide) rfl sf0 all0
  clear W
  obtain ⟨_, rfl, hs1⟩ := hQ1
  subst hs1
  replace W1 := W1.cast (st' := [(.int s3)]) rfl
  replace W1 := W1.istoreN (L' := #[.val (.ref x0), .val (.int u0), .val (.int s3), .unset]) d17_67_25 rfl rfl
  obtain ⟨h2, a2, W2, E2, g2, ⟨A2, D2, U2⟩, sf2, SF2⟩ := W1.new (pc' := 29) (cells' := 1) (slots' := 5) d17_67_26 (tw42 H) (tw43 H) (tw34 H) rfl rfl rfl (by decide) (by decide)
  clear W1
  rw [← g2] at A2 D2 U2
  have z2 : h0.size ≤ h2.size := E2.1
  replace W2 := W2.dup d17_67_29 rfl rfl
  replace W2 := W2.aloadN d17_67_30 rfl rfl rfl
  have f3 := (F_x0_intVal.ext E2)
  replace W2 := W2.getf d17_67_31 (tw62 H) Via.refl f3 rfl
  replace W2 := W2.aloadN d17_67_34 rfl rfl rfl
  have f4 := (F_x0_intCompact.ext E2)
  replace W2 := W2.getf d17_67_35 (tw60 H) Via.refl f4 rfl
  replace W2 := W2.iloadN d17_67_38 rfl rfl
  replace W2 := W2.iconst (v := (0 : Int32)) d17_67_39 rfl rfl
  obtain ⟨V5, h5, r5, W5, K5, hQ5, SF5⟩ := W2.callI (pc' := 43) (argsL := [.null, (.long u1), (.int s3), (.int (0 : Int32))]) (rest := [(.ref a2)]) (Wd := 1) (cells' := 1) (slots' := 5) (a := a2) (y := N3) d17_67_40 (m7_init H a2 u1 s3 (0 : Int32) (0 : Int64) (0 : Int32) (0 : Int32) h2 W2.old A2 (D2 (Or.inr (tw61 H)) (ty := .long) (by decide) : Fld Z h2 a2 "java/math/BigDecimal" "intCompact" "J" (.long (0 : Int64))) (D2 (Or.inr (tw63 H)) (ty := (.object "java/math/BigInteger")) (by decide) : Fld Z h2 a2 "java/math/BigDecimal" "intVal" "Ljava/math/BigInteger;" .null) (D2 (Or.inl (tw59 H)) (ty := .int) (by decide) : Fld Z h2 a2 "java/math/BigDecimal" "precision" "I" (.int (0 : Int32))) (D2 (Or.inr (tw57 H)) (ty := .int) (by decide) : Fld Z h2 a2 "java/math/BigDecimal" "scale" "I" (.int (0 : Int32))) (Nat.le_trans W2.1.2.2.2.2.2.2.2.1 (Nat.le_of_eq g2.symm))) rfl (tw45 H) (tw46 H) (tw34 H) (tw48 H) (by decide) (lenOf pd2 rfl) rfl rfl (by decide) (by decide) rfl (sfS safe0 sf0) (allS (Or.inr (Nat.le_of_eq g2.symm)) all0)
  clear W2
  obtain ⟨_, rfl, q5_1, q5_2, q5_3, q5_4, q5_5⟩ := hQ5
  have z5 : h2.size ≤ h5.size := K5.1
  replace W5 := W5.cast (st' := [(.ref a2)]) rfl
  replace W5 := W5.astoreN (L' := #[.val (.ref x0), .val (.int u0), .val (.int s3), .val (.ref a2)]) d17_67_43 rfl rfl rfl
  replace W5 := W5.aloadN d17_67_44 rfl rfl rfl
  replace W5 := W5.getf d17_67_45 (tw56 H) Via.refl q5_5 rfl
  replace W5 := W5.ifT (pc' := 61) d17_67_48 (flt p7).2.1 (by decide) (by decide)
  replace W5 := W5.aloadN d17_67_61 rfl rfl rfl
  exact W5.aret (t := (.object "java/math/BigDecimal")) d17_67_62 rfl rfl rfl rfl (by decide) (by decide) (fun V' cv => ⟨a2, rfl, q5_1, q5_2, q5_3, q5_4, q5_5, (Nat.le_of_eq g2.symm)⟩)
theorem m22_create (H : Cx Z a0 gA gK) (x0 : Addr) (u0 : Int64) (u2 : Int32) (s0 s1 : Int64) (s2 : Int32) (s3 s4 : Int64) (s5 s6 s7 : Int32) (h0 : Heap) (hO : Old Z n0 h0) (E_x0 : Exa Z h0 x0 "java/math/BigDecimal") (F_x0_intCompact : Fld Z h0 x0 "java/math/BigDecimal" "intCompact" "J" (.long u0)) (F_x0_intVal : Fld Z h0 x0 "java/math/BigDecimal" "intVal" "Ljava/math/BigInteger;" .null) (F_x0_scale : Fld Z h0 x0 "java/math/BigDecimal" "scale" "I" (.int u2)) (p0 : (u2.toInt64) = s0) (p1 : (s0 - (9 : Int64)) = s1) (p2 : (s1.toInt32) = s2) (p3 : (s2.toInt64) = s3) (p4 : (Jvm.Free.XT.cmpL s3 s1) = (0 : Int32)) (p5 : ¬ (s2 < (0 : Int32))) (p6 : (Jvm.Free.XT.ushrL u0 (32 : Int32)) = s4) (p7 : (s4.toInt32) = s5) (p8 : (u0.toInt32) = s6) (p9 : (0 : Int32) = s2) (p10 : (Jvm.Free.XT.cmpL u0 (0 : Int64)) = (1 : Int32)) (p11 : (Jvm.Free.XT.cmpL u0 (16 : Int64)) = (1 : Int32)) (p12 : s5 = (0 : Int32)) (p13 : (s6 + (-2147483648 : Int32)) = s7) (p14 : ¬ (s7 < (-1147483648 : Int32))) (p15 : ¬ ((-1147483648 : Int32) < s7)) : Con l Z [] n0 N46 jdk_2316_method_48_code 3 (some (.object "java/time/Duration")) (Rm 6 12 36 89) #[(.ref x0)] h0 [] (fun v h V' => ∃ (r0 : Addr), v = some (.ref r0) ∧ Exa Z h r0 "java/time/Duration" ∧ Fld Z h r0 "java/time/Duration" "nanos" "I" (.int (0 : Int32)) ∧ Fld Z h r0 "java/time/Duration" "seconds" "J" (.long (1 : Int64)) ∧ h0.size ≤ r0) [] := by
  refine Con.of (a0 := a0) (L0 := #[.val (.ref x0), .unset, .unset]) pf46 (fun _ => rfl) all0 hO EW.nil ?_
  intro p e s m below meth c S0 hnm hsf W
  replace W := W.aloadN d2316_48_0 rfl rfl rfl
  replace W := W.bipush (v := (9 : Int32)) d2316_48_1 rfl rfl
  obtain ⟨V1, h1, r1, W1, K1, hQ1, SF1⟩ := W.callV (pc' := 6) (argsL := [(.int (9 : Int32))]) (rest := []) (Wd := 0) (cells' := 1) (slots' := 5) (a := x0) (C := "java/math/BigDecimal") (y := N17) (z := N17) d2316_48_3 (m67_movePointRight H x0 (9 : Int32) u0 u2 s0 (9 : Int64) s1 s2 s3 h0 W.old E_x0 F_x0_intCompact F_x0_intVal F_x0_scale (by decide) p0 (by decide) p1 p2 p3 p4 p5) E_x0 (tw108 H) (tw109 H) (Or.inl (tw111 H)) (tw111 H) (tw110 H) (tw34 H) (tw112 H) (by decide) (lenOf pd13 rfl) rfl rfl (by decide) (by decide) rfl sf0 all0
  clear W
  obtain ⟨_, r01, rfl, q1_1, q1_2, q1_3, q1_4, q1_5, q1_6⟩ := hQ1
  have z1 : h0.size ≤ h1.size := K1.1
  replace W1 := W1.cast (st' := [(.ref r01)]) rfl
  obtain ⟨V2, h2, r2, W2, K2, hQ2, SF2⟩ := W1.callV (pc' := 9) (argsL := []) (rest := []) (Wd := 0) (cells' := 3) (slots' := 12) (a := r01) (C := "java/math/BigDecimal") (y := N22) (z := N22) d2316_48_6 (m25_toBigIntegerExact H r01 u0 s2 s4 s5 s6 h1 W1.old q1_1 q1_2 q1_3 q1_5 p9 p6 p7 p8 p10 p11 p12) q1_1 (tw113 H) (tw114 H) (Or.inl (tw116 H)) (tw116 H) (tw115 H) (tw34 H) (tw117 H) (by decide) (lenOf pd17 rfl) rfl rfl (by decide) (by decide) rfl sf0 all0
  clear W1
  obtain ⟨_, r02, r12, kr02, rfl, q2_1, q2_2, q2_3, q2_4, q2_5, q2_6, q2_7, q2_8⟩ := hQ2
  have z2 : h1.size ≤ h2.size := K2.1
  replace W2 := W2.cast (st' := [(.ref r02)]) rfl
  replace W2 := W2.astoreN (L' := #[.val (.ref x0), .val (.ref r02), .unset]) d2316_48_9 rfl rfl rfl
  replace W2 := W2.aloadN d2316_48_10 rfl rfl rfl
  replace W2 := W2.gets d2316_48_11 (tw146 H) (gf35 H) rfl
  obtain ⟨V3, h3, r3, W3, K3, hQ3, SF3⟩ := W2.callV (pc' := 17) (argsL := [(.ref (gA 2))]) (rest := []) (Wd := 0) (cells' := 11) (slots' := 34) (a := r02) (C := "java/math/BigInteger") (y := N32) (z := N32) d2316_48_14 (m33_divideAndRemainder H r02 r12 kr02 (1 : Int32) s6 s7 h2 W2.old q2_1 q2_3 q2_4 q2_6 q2_7 p13 p14 p15 (by decide)) q2_1 (tw147 H) (tw148 H) (Or.inl (tw150 H)) (tw150 H) (tw149 H) (tw130 H) (tw151 H) (by decide) (lenOf pd25 rfl) rfl rfl (by decide) (by decide) rfl sf0 all0
  clear W2
  obtain ⟨_, r03, r13, r23, kr03, kr13, rfl, q3_1, q3_2, q3_3, q3_4, q3_5, q3_6, q3_7, q3_8, q3_9, q3_10, q3_11⟩ := hQ3
  have z3 : h2.size ≤ h3.size := K3.1
  replace W3 := W3.cast (st' := [(.ref r03)]) rfl
  replace W3 := W3.astoreN (L' := #[.val (.ref x0), .val (.ref r02), .val (.ref r03)]) d2316_48_17 rfl rfl rfl
  replace W3 := W3.aloadN d2316_48_18 rfl rfl rfl
  replace W3 := W3.iconst (v := (0 : Int32)) d2316_48_19 rfl rfl
  replace W3 := W3.aaload (w := (.ref r13)) d2316_48_20 q3_2 rfl ⟨by decide, by decide⟩ rfl rfl
  obtain ⟨V4, h4, r4, W4, K4, hQ4, SF4⟩ := W3.callV (pc' := 24) (argsL := []) (rest := []) (Wd := 0) (cells' := 11) (slots' := 34) (a := r13) (C := "java/math/BigInteger") (y := N35) (z := N35) d2316_48_21 (m48_bitLength H r13 r23 kr13 (0 : Int32) (1 : Int32) (1 : Int32) (-1 : Int32) (0 : Int32) (31 : Int32) (1 : Int32) (1 : Int32) (2 : Int32) h3 W3.old q3_4 q3_5 q3_6 q3_7 q3_10 (by decide) (by decide) (by decide) (by decide) (by decide) (by decide) (by decide) (by decide) (by decide) (by decide) (by decide) (by decide) (by decide) (Nat.le_trans W3.1.2.2.2.2.2.2.2.1 (Nat.le_trans (Nat.le_trans z1 z2) q3_8))) q3_4 (tw209 H) (tw210 H) (Or.inl (tw212 H)) (tw212 H) (tw211 H) (tw130 H) (tw213 H) (by decide) (lenOf pd27 rfl) rfl rfl (by decide) (by decide) rfl (sfS safe0 sf0) (allS (Or.inr (Nat.le_trans (Nat.le_trans z1 z2) q3_8)) all0)
  clear W3
  obtain ⟨_, rfl, q4_1, q4_2, q4_3, q4_4⟩ := hQ4
  have z4 : h3.size ≤ h4.size := K4.1
  replace W4 := W4.cast (st' := [(.int (1 : Int32))]) rfl
  replace W4 := W4.bipush (v := (63 : Int32)) d2316_48_24 rfl rfl
  replace W4 := W4.icmpT (pc' := 57) d2316_48_26 (flt (by decide : ¬ ((63 : Int32) < (1 : Int32)))).2.2.2 (by decide) (by decide)
  replace W4 := W4.aloadN d2316_48_57 rfl rfl rfl
  replace W4 := W4.iconst (v := (0 : Int32)) d2316_48_58 rfl rfl
  have v5 := (q3_2.keep K4 (ninS (Exa.ne (q3_1.keep K4) q4_1 (by decide)) nin0))
  replace W4 := W4.aaload (w := (.ref r13)) d2316_48_59 v5 rfl ⟨by decide, by decide⟩ rfl rfl
  have v6 := (q3_10.keep K4 (ninS (Exa.ne (q3_9.keep K4) q4_1 (by decide)) nin0))
  obtain ⟨V7, h7, r7, W7, K7, hQ7, SF7⟩ := W4.callV (pc' := 63) (argsL := []) (rest := []) (Wd := 0) (cells' := 11) (slots' := 34) (a := r13) (C := "java/math/BigInteger") (y := N38) (z := N38) d2316_48_60 (m51_longValue H r13 r23 kr13 (1 : Int32) (1 : Int32) (1 : Int64) (1 : Int64) (1 : Int64) h4 W4.old q4_1 q4_3 q4_4 v6 (by decide) (by decide) (by decide) (by decide)) q4_1 (tw224 H) (tw225 H) (Or.inl (tw227 H)) (tw227 H) (tw226 H) (tw130 H) (tw228 H) (by decide) (lenOf pd28 rfl) rfl rfl (by decide) (by decide) rfl sf0 all0
  clear W4
  obtain ⟨_, rfl, hs7⟩ := hQ7
  subst hs7
  replace W7 := W7.cast (st' := [(.long (1 : Int64))]) rfl
  replace W7 := W7.aloadN d2316_48_63 rfl rfl rfl
  replace W7 := W7.iconst (v := (1 : Int32)) d2316_48_64 rfl rfl
  replace W7 := W7.aaload (w := (.ref (gA 4))) d2316_48_65 v5 rfl ⟨by decide, by decide⟩ rfl rfl
  have e8 := (gf7 H).ext W7.old.2
  obtain ⟨V9, h9, r9, W9, K9, hQ9, SF9⟩ := W7.callV (pc' := 69) (argsL := []) (rest := [(.long (1 : Int64))]) (Wd := 2) (cells' := 11) (slots' := 34) (a := (gA 4)) (C := "java/math/BigInteger") (y := N39) (z := N39) d2316_48_66 (m58_intValue H h4 W7.old) e8 (tw240 H) (tw241 H) (Or.inl (tw243 H)) (tw243 H) (tw242 H) (tw130 H) (tw244 H) (by decide) (lenOf pd27 rfl) rfl rfl (by decide) (by decide) rfl sf0 all0
  clear W7
  obtain ⟨_, rfl, hs9⟩ := hQ9
  subst hs9
  replace W9 := W9.cast (st' := [(.int (0 : Int32)), (.long (1 : Int64))]) rfl
  replace W9 := W9.i2l (v := (0 : Int64)) d2316_48_69 (by decide) rfl
  obtain ⟨V10, h10, r10, W10, K10, hQ10, SF10⟩ := W9.callS (pc' := 73) (argsL := [(.long (1 : Int64)), (.long (0 : Int64))]) (rest := []) (Wd := 0) (cells' := 12) (slots' := 36) (y := N45) d2316_48_70 (m61_ofSeconds H (1 : Int64) (0 : Int64) (0 : Int64) (1000000000 : Int64) (1 : Int64) (0 : Int64) (1 : Int64) (0 : Int64) (0 : Int64) (0 : Int32) (0 : Int64) (1 : Int64) h4 W9.old (by decide) (by decide) (by decide) (by decide) (by decide) (by decide) (by decide) (by decide) (by decide) (by decide) (by decide) (by decide) (by decide)) (tw245 H) (tw246 H) (tw23 H) (tw247 H) (by decide) (lenOf pd31 rfl) rfl rfl (by decide) (by decide) rfl sf0 all0
  clear W9
  obtain ⟨_, r010, rfl, q10_1, q10_2, q10_3, q10_4⟩ := hQ10
  have z10 : h4.size ≤ h10.size := K10.1
  replace W10 := W10.cast (st' := [(.ref r010)]) rfl
  exact W10.aret (t := (.object "java/time/Duration")) d2316_48_73 rfl rfl rfl rfl (by decide) (by decide) (fun V' cv => ⟨r010, rfl, q10_1, q10_2, q10_3, (Nat.le_trans (Nat.le_trans (Nat.le_trans (Nat.le_trans z1 z2) z3) z4) q10_4)⟩)
theorem m3_multipliedBy (H : Cx Z a0 gA gK) (u0 : Int64) (s0 : Int32) (h0 : Heap) (hO : Old Z n0 h0) (p0 : (Jvm.Free.XT.cmpL u0 (0 : Int64)) = (1 : Int32)) (p1 : (Jvm.Free.XT.cmpL u0 (1 : Int64)) = (1 : Int32)) (p2 : (u0.toInt32) = s0) (p3 : (Jvm.Free.XT.cmpL u0 (11 : Int64)) = (-1 : Int32)) (p4 : s0 = (2 : Int32)) : Con l Z [] n0 N47 jdk_2316_method_44_code 3 (some (.object "java/time/Duration")) (Rm 8 15 51 122) #[(.ref (gA 0)), (.long u0)] h0 [] (fun v h V' => ∃ (r0 : Addr), v = some (.ref r0) ∧ Exa Z h r0 "java/time/Duration" ∧ Fld Z h r0 "java/time/Duration" "nanos" "I" (.int (0 : Int32)) ∧ Fld Z h r0 "java/time/Duration" "seconds" "J" (.long (1 : Int64)) ∧ h0.size ≤ r0) [] := by
  refine Con.of (a0 := a0) (L0 := #[.val (.ref (gA 0)), .val (.long u0), .second]) pf47 (fun _ => rfl) all0 hO EW.nil ?_
  intro p e s m below meth c S0 hnm hsf W
  replace W := W.lloadN d2316_44_0 rfl rfl
  replace W := W.lconst (v := (0 : Int64)) d2316_44_1 rfl rfl
  replace W := W.lcmp (v := (1 : Int32)) d2316_44_2 p0 rfl
  replace W := W.ifT (pc' := 10) d2316_44_3 (feq (by decide : ¬ ((1 : Int32) = (0 : Int32)))).2 (by decide) (by decide)
  replace W := W.lloadN d2316_44_10 rfl rfl
  replace W := W.lconst (v := (1 : Int64)) d2316_44_11 rfl rfl
  replace W := W.lcmp (v := (1 : Int32)) d2316_44_12 p1 rfl
  replace W := W.ifT (pc' := 18) d2316_44_13 (feq (by decide : ¬ ((1 : Int32) = (0 : Int32)))).2 (by decide) (by decide)
  replace W := W.aloadN d2316_44_18 rfl rfl rfl
  have e1 := (gf0 H).ext W.old.2
  obtain ⟨V2, h2, r2, W2, K2, hQ2, SF2⟩ := W.callP (pc' := 22) (argsL := []) (rest := []) (Wd := 0) (cells' := 2) (slots' := 10) (a := (gA 0)) (C := "java/time/Duration") (y := N11) d2316_44_19 (m4_toBigDecimalSeconds H h0 W.old) e1 (tw25 H) (tw26 H) (tw28 H) (tw27 H) (tw23 H) (tw29 H) (by decide) (lenOf pd10 rfl) rfl rfl (by decide) (by decide) rfl sf0 all0
  clear W
  obtain ⟨_, r02, rfl, q2_1, q2_2, q2_3, q2_4, q2_5, q2_6⟩ := hQ2
  have z2 : h0.size ≤ h2.size := K2.1
  replace W2 := W2.cast (st' := [(.ref r02)]) rfl
  replace W2 := W2.lloadN d2316_44_22 rfl rfl
  obtain ⟨V3, h3, r3, W3, K3, hQ3, SF3⟩ := W2.callS (pc' := 26) (argsL := [(.long u0)]) (rest := [(.ref r02)]) (Wd := 1) (cells' := 2) (slots' := 10) (y := N1) d2316_44_23 (m15_valueOf H u0 s0 h2 W2.old p0 p3 p2 p4) (tw32 H) (tw33 H) (tw34 H) (tw35 H) (by decide) (lenOf pd1 rfl) rfl rfl (by decide) (by decide) rfl sf0 all0
  clear W2
  obtain ⟨_, rfl, hs3⟩ := hQ3
  subst hs3
  replace W3 := W3.cast (st' := [(.ref (gA 12)), (.ref r02)]) rfl
  obtain ⟨V4, h4, r4, W4, K4, hQ4, SF4⟩ := W3.callV (pc' := 29) (argsL := [(.ref (gA 12))]) (rest := []) (Wd := 0) (cells' := 3) (slots' := 15) (a := r02) (C := "java/math/BigDecimal") (y := N16) (z := N16) d2316_44_26 (m16_multiply H r02 (500000000 : Int64) (9 : Int32) (9 : Int64) (9 : Int64) (9 : Int32) (9 : Int64) (1000000000 : Int64) (500000002 : Int64) (0 : Int64) h2 W3.old q2_1 q2_2 q2_5 (by decide) (by decide) (by decide) (by decide) (by decide) (by decide) (by decide) (by decide) (by decide) (by decide) (by decide) (by decide) (by decide) (by decide)) q2_1 (tw85 H) (tw86 H) (Or.inl (tw88 H)) (tw88 H) (tw87 H) (tw34 H) (tw89 H) (by decide) (lenOf pd9 rfl) rfl rfl (by decide) (by decide) rfl sf0 all0
  clear W3
  obtain ⟨_, r04, rfl, q4_1, q4_2, q4_3, q4_4, q4_5, q4_6⟩ := hQ4
  have z4 : h2.size ≤ h4.size := K4.1
  replace W4 := W4.cast (st' := [(.ref r04)]) rfl
  obtain ⟨V5, h5, r5, W5, K5, hQ5, SF5⟩ := W4.callS (pc' := 32) (argsL := [(.ref r04)]) (rest := []) (Wd := 0) (cells' := 15) (slots' := 51) (y := N46) d2316_44_29 (m22_create H r04 (1000000000 : Int64) (9 : Int32) (9 : Int64) (0 : Int64) (0 : Int32) (0 : Int64) (0 : Int64) (0 : Int32) (1000000000 : Int32) (-1147483648 : Int32) h4 W4.old q4_1 q4_2 q4_3 q4_5 (by decide) (by decide) (by decide) (by decide) (by decide) (by decide) (by decide) (by decide) (by decide) (by decide) (by decide) (by decide) (by decide) (by decide) (by decide) (by decide)) (tw105 H) (tw106 H) (tw23 H) (tw107 H) (by decide) (lenOf pd32 rfl) rfl rfl (by decide) (by decide) rfl sf0 all0
  clear W4
  obtain ⟨_, r05, rfl, q5_1, q5_2, q5_3, q5_4⟩ := hQ5
  have z5 : h4.size ≤ h5.size := K5.1
  replace W5 := W5.cast (st' := [(.ref r05)]) rfl
  exact W5.aret (t := (.object "java/time/Duration")) d2316_44_32 rfl rfl rfl rfl (by decide) (by decide) (fun V' cv => ⟨r05, rfl, q5_1, q5_2, q5_3, (Nat.le_trans (Nat.le_trans z2 z4) q5_4)⟩)
theorem m69_compare (H : Cx Z a0 gA gK) (u0 u1 : Int64) (h0 : Heap) (hO : Old Z n0 h0) (p0 : (Jvm.Free.XT.cmpL u0 u1) = (-1 : Int32)) : Con l Z [] n0 N48 jdk_35_method_42_code 4 (some .int) (Rm 0 0 0 0) #[(.long u0), (.long u1)] h0 [] (fun v h V' => v = some (.int (-1 : Int32)) ∧ h0 = h) [] := by
  refine Con.of (a0 := a0) (L0 := #[.val (.long u0), .second, .val (.long u1), .second]) pf48 (fun _ => rfl) all0 hO EW.nil ?_
  intro p e s m below meth c S0 hnm hsf W
  replace W := W.lloadN d35_42_0 rfl rfl
  replace W := W.lloadN d35_42_1 rfl rfl
  replace W := W.lcmp (v := (-1 : Int32)) d35_42_2 p0 rfl
  replace W := W.ifF (pc' := 6) d35_42_3 (tlt (by decide : (-1 : Int32) < (0 : Int32))).2.1 rfl
  replace W := W.iconst (v := (-1 : Int32)) d35_42_6 rfl rfl
  replace W := W.goto (pc' := 21) d35_42_7 (by decide) (by decide)
  exact W.iret (t := .int) d35_42_21 rfl (by simp) rfl (by decide) (by decide) (fun V' cv => ⟨rfl, rfl⟩)
theorem m68_compareTo (H : Cx Z a0 gA gK) (x0 : Addr) (u1 : Int64) (h0 : Heap) (hO : Old Z n0 h0) (F_x0_seconds : Fld Z h0 x0 "java/time/Duration" "seconds" "J" (.long u1)) (p0 : (Jvm.Free.XT.cmpL u1 (8 : Int64)) = (-1 : Int32)) : Con l Z [] n0 N49 jdk_2316_method_66_code 3 (some .int) (Rm 1 0 0 15) #[(.ref x0), (.ref (gA 1))] h0 [] (fun v h V' => v = some (.int (-1 : Int32)) ∧ h0 = h) [] := by
  refine Con.of (a0 := a0) (L0 := #[.val (.ref x0), .val (.ref (gA 1)), .unset]) pf49 (fun _ => rfl) all0 hO EW.nil ?_
  intro p e s m below meth c S0 hnm hsf W
  replace W := W.aloadN d2316_66_0 rfl rfl rfl
  replace W := W.getf d2316_66_1 (tw30 H) Via.refl F_x0_seconds rfl
  replace W := W.aloadN d2316_66_4 rfl rfl rfl
  have f1 := (gf11 H).ext W.old.2
  replace W := W.getf d2316_66_5 (tw30 H) Via.refl f1 rfl
  obtain ⟨V2, h2, r2, W2, K2, hQ2, SF2⟩ := W.callS (pc' := 11) (argsL := [(.long u1), (.long (8 : Int64))]) (rest := []) (Wd := 0) (cells' := 0) (slots' := 0) (y := N48) d2316_66_8 (m69_compare H u1 (8 : Int64) h0 W.old p0) (tw275 H) (tw276 H) (tw277 H) (tw278 H) (by decide) (lenOf pd4 rfl) rfl rfl (by decide) (by decide) rfl sf0 all0
  clear W
  obtain ⟨_, rfl, hs2⟩ := hQ2
  subst hs2
  replace W2 := W2.cast (st' := [(.int (-1 : Int32))]) rfl
  replace W2 := W2.istoreN (L' := #[.val (.ref x0), .val (.ref (gA 1)), .val (.int (-1 : Int32))]) d2316_66_11 rfl rfl
  replace W2 := W2.iloadN d2316_66_12 rfl rfl
  replace W2 := W2.ifF (pc' := 16) d2316_66_13 (feq (by decide : ¬ ((-1 : Int32) = (0 : Int32)))).1 rfl
  replace W2 := W2.iloadN d2316_66_16 rfl rfl
  exact W2.iret (t := .int) d2316_66_17 rfl (by simp) rfl (by decide) (by decide) (fun V' cv => ⟨rfl, rfl⟩)
theorem m2_next (H : Cx Z a0 gA gK) (x0 : Addr) (h0 : Heap) (hO : Old Z n0 h0) (E_x0 : Exa Z h0 x0 "com/example/letters_between_tasks/lettersbetweentasks/service/Backoff") (F_x0_next : Fld Z h0 x0 "com/example/letters_between_tasks/lettersbetweentasks/service/Backoff" "next" "Ljava/time/Duration;" (.ref (gA 0))) (g_x0 : n0 ≤ x0) : Con l Z [] n0 N50 prog_13_method_2_code 3 (some (.object "java/time/Duration")) (Rm 9 15 51 136) #[(.ref x0)] h0 [x0] (fun v h V' => ∃ (r0 : Addr), v = some (.ref (gA 0)) ∧ Exa Z h x0 "com/example/letters_between_tasks/lettersbetweentasks/service/Backoff" ∧ Fld Z h x0 "com/example/letters_between_tasks/lettersbetweentasks/service/Backoff" "next" "Ljava/time/Duration;" (.ref r0) ∧ Exa Z h r0 "java/time/Duration" ∧ Fld Z h r0 "java/time/Duration" "nanos" "I" (.int (0 : Int32)) ∧ Fld Z h r0 "java/time/Duration" "seconds" "J" (.long (1 : Int64)) ∧ h0.size ≤ r0) [] := by
  refine Con.of (a0 := a0) (L0 := #[.val (.ref x0), .unset, .unset]) pf50 (fun _ => rfl) (allS g_x0 all0) hO EW.nil ?_
  intro p e s m below meth c S0 hnm hsf W
  replace W := W.aloadN e13_2_0 rfl rfl rfl
  replace W := W.getf e13_2_1 (tw11 H) Via.refl F_x0_next rfl
  replace W := W.astoreN (L' := #[.val (.ref x0), .val (.ref (gA 0)), .unset]) e13_2_4 rfl rfl rfl
  replace W := W.aloadN e13_2_5 rfl rfl rfl
  replace W := W.getf e13_2_6 (tw11 H) Via.refl F_x0_next rfl
  replace W := W.ldc2 e13_2_9 (tw18 H) rfl
  have e1 := (gf0 H).ext W.old.2
  obtain ⟨V2, h2, r2, W2, K2, hQ2, SF2⟩ := W.callV (pc' := 15) (argsL := [(.long (2 : Int64))]) (rest := []) (Wd := 0) (cells' := 15) (slots' := 51) (a := (gA 0)) (C := "java/time/Duration") (y := N47) (z := N47) e13_2_12 (m3_multipliedBy H (2 : Int64) (2 : Int32) h0 W.old (by decide) (by decide) (by decide) (by decide) (by decide)) e1 (tw19 H) (tw20 H) (Or.inl (tw22 H)) (tw22 H) (tw21 H) (tw23 H) (tw24 H) (by decide) (lenOf pd33 rfl) rfl rfl (by decide) (by decide) rfl sf0 all0
  clear W
  obtain ⟨_, r02, rfl, q2_1, q2_2, q2_3, q2_4⟩ := hQ2
  have z2 : h0.size ≤ h2.size := K2.1
  replace W2 := W2.cast (st' := [(.ref r02)]) rfl
  replace W2 := W2.astoreN (L' := #[.val (.ref x0), .val (.ref (gA 0)), .val (.ref r02)]) e13_2_15 rfl rfl rfl
  replace W2 := W2.aloadN e13_2_16 rfl rfl rfl
  replace W2 := W2.aloadN e13_2_17 rfl rfl rfl
  replace W2 := W2.gets e13_2_18 (tw268 H) (gf29 H) rfl
  obtain ⟨V3, h3, r3, W3, K3, hQ3, SF3⟩ := W2.callV (pc' := 24) (argsL := [(.ref (gA 1))]) (rest := [(.ref x0)]) (Wd := 1) (cells' := 15) (slots' := 51) (a := r02) (C := "java/time/Duration") (y := N49) (z := N49) e13_2_21 (m68_compareTo H r02 (1 : Int64) h2 W2.old q2_3 (by decide)) q2_1 (tw270 H) (tw271 H) (Or.inl (tw273 H)) (tw273 H) (tw272 H) (tw23 H) (tw274 H) (by decide) (lenOf pd34 rfl) rfl rfl (by decide) (by decide) rfl sf0 all0
  clear W2
  obtain ⟨_, rfl, hs3⟩ := hQ3
  subst hs3
  replace W3 := W3.cast (st' := [(.int (-1 : Int32)), (.ref x0)]) rfl
  replace W3 := W3.ifF (pc' := 27) e13_2_24 (tlt (by decide : (-1 : Int32) < (0 : Int32))).2.1 rfl
  replace W3 := W3.aloadN e13_2_27 rfl rfl rfl
  replace W3 := W3.goto (pc' := 34) e13_2_28 (by decide) (by decide)
  have f4 := (F_x0_next.keep K2 nin0)
  have e5 := (E_x0.keep K2)
  obtain ⟨h6, W6, w6, SF6⟩ := W3.putf (pc' := 37) (ty := (.object "java/time/Duration")) e13_2_34 (tw11 H) Via.refl f4 e5 (Or.inl (tw12 H)) (tw1 H) (by decide) rfl rfl safe0 (Or.inl (List.mem_of_getElem? (i := 0) rfl)) rfl
  clear W3
  have z6 : h2.size ≤ h6.size := Nat.le_of_eq w6.size.symm
  have f6 := f4.same w6
  replace W6 := W6.aloadN e13_2_37 rfl rfl rfl
  have e7 := (e5.wr w6)
  have e8 := (q2_1.wr w6)
  have f9 := (q2_2.other w6 (Or.inl (Nat.ne_of_gt (Nat.lt_of_lt_of_le E_x0.lt q2_4))))
  have f10 := (q2_3.other w6 (Or.inl (Nat.ne_of_gt (Nat.lt_of_lt_of_le E_x0.lt q2_4))))
  exact W6.aret (t := (.object "java/time/Duration")) e13_2_38 rfl rfl rfl rfl (by decide) (by decide) (fun V' cv => ⟨r02, rfl, e7, f6, e8, f9, f10, q2_4⟩)
theorem m72_abs (H : Cx Z a0 gA gK) (u0 : Int64) (h0 : Heap) (hO : Old Z n0 h0) (p0 : (Jvm.Free.XT.cmpL u0 (0 : Int64)) = (0 : Int32)) : Con l Z [] n0 N13 jdk_29_method_61_code 2 (some .long) (Rm 0 0 0 0) #[(.long u0)] h0 [] (fun v h V' => v = some (.long u0) ∧ h0 = h) [] := by
  refine Con.of (a0 := a0) (L0 := #[.val (.long u0), .second]) pf13 (fun _ => rfl) all0 hO EW.nil ?_
  intro p e s m below meth c S0 hnm hsf W
  replace W := W.lloadN d29_61_0 rfl rfl
  replace W := W.lconst (v := (0 : Int64)) d29_61_1 rfl rfl
  replace W := W.lcmp (v := (0 : Int32)) d29_61_2 p0 rfl
  replace W := W.ifT (pc' := 11) d29_61_3 (flt (by decide : ¬ ((0 : Int32) < (0 : Int32)))).2.1 (by decide) (by decide)
  replace W := W.lloadN d29_61_11 rfl rfl
  exact W.lret d29_61_12 rfl (by decide) (by decide) (fun V' cv => ⟨rfl, rfl⟩)
theorem m71_multiplyExact (H : Cx Z a0 gA gK) (u0 u1 s0 s1 s2 : Int64) (h0 : Heap) (hO : Old Z n0 h0) (p0 : (u0 * u1) = s0) (p1 : (Jvm.Free.XT.cmpL u0 (0 : Int64)) = (0 : Int32)) (p2 : (Jvm.Free.XT.cmpL u1 (0 : Int64)) = (1 : Int32)) (p3 : (u0 ||| u1) = s1) (p4 : (Jvm.Free.XT.ushrL s1 (31 : Int32)) = s2) (p5 : (Jvm.Free.XT.cmpL s2 (0 : Int64)) = (0 : Int32)) : Con l Z [] n0 N51 jdk_29_method_30_code 10 (some .long) (Rm 1 0 0 13) #[(.long u0), (.long u1)] h0 [] (fun v h V' => v = some (.long s0) ∧ h0 = h) [] := by
  refine Con.of (a0 := a0) (L0 := #[.val (.long u0), .second, .val (.long u1), .second, .unset, .unset, .unset, .unset, .unset, .unset]) pf51 (fun _ => rfl) all0 hO EW.nil ?_
  intro p e s m below meth c S0 hnm hsf W
  replace W := W.lloadN d29_30_0 rfl rfl
  replace W := W.lloadN d29_30_1 rfl rfl
  replace W := W.lmul (v := s0) d29_30_2 p0 rfl
  replace W := W.lstore (L' := #[.val (.long u0), .second, .val (.long u1), .second, .val (.long s0), .second, .unset, .unset, .unset, .unset]) d29_30_3 rfl rfl
  replace W := W.lloadN d29_30_5 rfl rfl
  obtain ⟨V1, h1, r1, W1, K1, hQ1, SF1⟩ := W.callS (pc' := 9) (argsL := [(.long u0)]) (rest := []) (Wd := 0) (cells' := 0) (slots' := 0) (y := N13) d29_30_6 (m72_abs H u0 h0 W.old p1) (tw287 H) (tw102 H) (tw103 H) (tw104 H) (by decide) (lenOf pd12 rfl) rfl rfl (by decide) (by decide) rfl sf0 all0
  clear W
  obtain ⟨_, rfl, hs1⟩ := hQ1
  subst hs1
  replace W1 := W1.cast (st' := [(.long u0)]) rfl
  replace W1 := W1.lstore (L' := #[.val (.long u0), .second, .val (.long u1), .second, .val (.long s0), .second, .val (.long u0), .second, .unset, .unset]) d29_30_9 rfl rfl
  replace W1 := W1.lloadN d29_30_11 rfl rfl
  obtain ⟨V2, h2, r2, W2, K2, hQ2, SF2⟩ := W1.callS (pc' := 15) (argsL := [(.long u1)]) (rest := []) (Wd := 0) (cells' := 0) (slots' := 0) (y := N13) d29_30_12 (m20_abs H u1 h0 W1.old p2) (tw287 H) (tw102 H) (tw103 H) (tw104 H) (by decide) (lenOf pd12 rfl) rfl rfl (by decide) (by decide) rfl sf0 all0
  clear W1
  obtain ⟨_, rfl, hs2⟩ := hQ2
  subst hs2
  replace W2 := W2.cast (st' := [(.long u1)]) rfl
  replace W2 := W2.lstore (L' := #[.val (.long u0), .second, .val (.long u1), .second, .val (.long s0), .second, .val (.long u0), .second, .val (.long u1), .second]) d29_30_15 rfl rfl
  replace W2 := W2.lload d29_30_17 rfl rfl
  replace W2 := W2.lload d29_30_19 rfl rfl
  replace W2 := W2.lor (v := s1) d29_30_21 p3 rfl
  replace W2 := W2.bipush (v := (31 : Int32)) d29_30_22 rfl rfl
  replace W2 := W2.lushr (v := s2) d29_30_24 p4 rfl
  replace W2 := W2.lconst (v := (0 : Int64)) d29_30_25 rfl rfl
  replace W2 := W2.lcmp (v := (0 : Int32)) d29_30_26 p5 rfl
  replace W2 := W2.ifT (pc' := 71) d29_30_27 (teq (by decide : (0 : Int32) = (0 : Int32))).1 (by decide) (by decide)
  replace W2 := W2.lload d29_30_71 rfl rfl
  exact W2.lret d29_30_73 rfl (by decide) (by decide) (fun V' cv => ⟨rfl, rfl⟩)
theorem m70_toNanos (H : Cx Z a0 gA gK)  (h0 : Heap) (hO : Old Z n0 h0)  : Con l Z [] n0 N52 jdk_2316_method_58_code 7 (some .long) (Rm 2 0 0 34) #[(.ref (gA 0))] h0 [] (fun v h V' => v = some (.long (500000000 : Int64)) ∧ h0 = h) [] := by
  refine Con.of (a0 := a0) (L0 := #[.val (.ref (gA 0)), .unset, .unset, .unset, .unset, .unset, .unset]) pf52 (fun _ => rfl) all0 hO EW.nil ?_
  intro p e s m below meth c S0 hnm hsf W
  replace W := W.aloadN d2316_58_0 rfl rfl rfl
  have f1 := (gf9 H).ext W.old.2
  replace W := W.getf d2316_58_1 (tw30 H) Via.refl f1 rfl
  replace W := W.lstoreN (L' := #[.val (.ref (gA 0)), .val (.long (0 : Int64)), .second, .unset, .unset, .unset, .unset]) d2316_58_4 rfl rfl
  replace W := W.aloadN d2316_58_5 rfl rfl rfl
  have f2 := (gf8 H).ext W.old.2
  replace W := W.getf d2316_58_6 (tw37 H) Via.refl f2 rfl
  replace W := W.i2l (v := (500000000 : Int64)) d2316_58_9 (by decide) rfl
  replace W := W.lstoreN (L' := #[.val (.ref (gA 0)), .val (.long (0 : Int64)), .second, .val (.long (500000000 : Int64)), .second, .unset, .unset]) d2316_58_10 rfl rfl
  replace W := W.lloadN d2316_58_11 rfl rfl
  replace W := W.lconst (v := (0 : Int64)) d2316_58_12 rfl rfl
  replace W := W.lcmp (v := (0 : Int32)) d2316_58_13 (by decide) rfl
  replace W := W.ifT (pc' := 27) d2316_58_14 (flt (by decide : ¬ ((0 : Int32) < (0 : Int32)))).2.1 (by decide) (by decide)
  replace W := W.lloadN d2316_58_27 rfl rfl
  replace W := W.ldc2 d2316_58_28 (tw248 H) rfl
  obtain ⟨V3, h3, r3, W3, K3, hQ3, SF3⟩ := W.callS (pc' := 34) (argsL := [(.long (0 : Int64)), (.long (1000000000 : Int64))]) (rest := []) (Wd := 0) (cells' := 0) (slots' := 0) (y := N51) d2316_58_31 (m71_multiplyExact H (0 : Int64) (1000000000 : Int64) (0 : Int64) (1000000000 : Int64) (0 : Int64) h0 W.old (by decide) (by decide) (by decide) (by decide) (by decide) (by decide)) (tw284 H) (tw285 H) (tw103 H) (tw286 H) (by decide) (lenOf pd6 rfl) rfl rfl (by decide) (by decide) rfl sf0 all0
  clear W
  obtain ⟨_, rfl, hs3⟩ := hQ3
  subst hs3
  replace W3 := W3.cast (st' := [(.long (0 : Int64))]) rfl
  replace W3 := W3.lstore (L' := #[.val (.ref (gA 0)), .val (.long (0 : Int64)), .second, .val (.long (500000000 : Int64)), .second, .val (.long (0 : Int64)), .second]) d2316_58_34 rfl rfl
  replace W3 := W3.lload d2316_58_36 rfl rfl
  replace W3 := W3.lloadN d2316_58_38 rfl rfl
  obtain ⟨V4, h4, r4, W4, K4, hQ4, SF4⟩ := W3.callS (pc' := 42) (argsL := [(.long (0 : Int64)), (.long (500000000 : Int64))]) (rest := []) (Wd := 0) (cells' := 0) (slots' := 0) (y := N41) d2316_58_39 (m63_addExact H (0 : Int64) (500000000 : Int64) (500000000 : Int64) (500000000 : Int64) (0 : Int64) (0 : Int64) h0 W3.old (by decide) (by decide) (by decide) (by decide) (by decide)) (tw252 H) (tw253 H) (tw103 H) (tw254 H) (by decide) (lenOf pd6 rfl) rfl rfl (by decide) (by decide) rfl sf0 all0
  clear W3
  obtain ⟨_, rfl, hs4⟩ := hQ4
  subst hs4
  replace W4 := W4.cast (st' := [(.long (500000000 : Int64))]) rfl
  replace W4 := W4.lstore (L' := #[.val (.ref (gA 0)), .val (.long (0 : Int64)), .second, .val (.long (500000000 : Int64)), .second, .val (.long (500000000 : Int64)), .second]) d2316_58_42 rfl rfl
  replace W4 := W4.lload d2316_58_44 rfl rfl
  exact W4.lret d2316_58_46 rfl (by decide) (by decide) (fun V' cv => ⟨rfl, rfl⟩)
theorem m76_valueOf (H : Cx Z a0 gA gK) (u0 : Int64) (s0 : Int32) (h0 : Heap) (hO : Old Z n0 h0) (p0 : (Jvm.Free.XT.cmpL u0 (0 : Int64)) = (1 : Int32)) (p1 : (Jvm.Free.XT.cmpL u0 (11 : Int64)) = (-1 : Int32)) (p2 : (u0.toInt32) = s0) (p3 : s0 = (1 : Int32)) : Con l Z [] n0 N1 jdk_17_method_21_code 2 (some (.object "java/math/BigDecimal")) (Rm 0 0 0 0) #[(.long u0)] h0 [] (fun v h V' => v = some (.ref (gA 11)) ∧ h0 = h) [] := by
  refine Con.of (a0 := a0) (L0 := #[.val (.long u0), .second]) pf1 (fun _ => rfl) all0 hO EW.nil ?_
  intro p e s m below meth c S0 hnm hsf W
  replace W := W.lloadN d17_21_0 rfl rfl
  replace W := W.lconst (v := (0 : Int64)) d17_21_1 rfl rfl
  replace W := W.lcmp (v := (1 : Int32)) d17_21_2 p0 rfl
  replace W := W.ifF (pc' := 6) d17_21_3 (flt (by decide : ¬ ((1 : Int32) < (0 : Int32)))).1 rfl
  replace W := W.lloadN d17_21_6 rfl rfl
  replace W := W.gets d17_21_7 (tw36 H) (gf33 H) rfl
  have v1 := (gf38 H).ext W.old.2
  replace W := W.alen d17_21_10 v1 rfl
  replace W := W.i2l (v := (11 : Int64)) d17_21_11 (by decide) rfl
  replace W := W.lcmp (v := (-1 : Int32)) d17_21_12 p1 rfl
  replace W := W.ifF (pc' := 16) d17_21_13 (tlt (by decide : (-1 : Int32) < (0 : Int32))).2.1 rfl
  replace W := W.gets d17_21_16 (tw36 H) (gf33 H) rfl
  replace W := W.lloadN d17_21_19 rfl rfl
  replace W := W.l2i (v := s0) d17_21_20 p2 rfl
  subst p3
  replace W := W.aaload (w := (.ref (gA 11))) d17_21_21 v1 rfl ⟨by decide, by decide⟩ rfl rfl
  exact W.aret (t := (.object "java/math/BigDecimal")) d17_21_22 rfl rfl rfl rfl (by decide) (by decide) (fun V' cv => ⟨rfl, rfl⟩)
theorem m78_zeroValueOf (H : Cx Z a0 gA gK) (u0 : Int32) (h0 : Heap) (hO : Old Z n0 h0) (p0 : ¬ (u0 < (0 : Int32))) (p1 : u0 < (16 : Int32)) (p2 : u0 = (9 : Int32)) : Con l Z [] n0 N53 jdk_17_method_24_code 1 (some (.object "java/math/BigDecimal")) (Rm 0 0 0 0) #[(.int u0)] h0 [] (fun v h V' => v = some (.ref (gA 30)) ∧ h0 = h) [] := by
  refine Con.of (a0 := a0) (L0 := #[.val (.int u0)]) pf53 (fun _ => rfl) all0 hO EW.nil ?_
  intro p e s m below meth c S0 hnm hsf W
  replace W := W.iloadN d17_24_0 rfl rfl
  replace W := W.ifF (pc' := 4) d17_24_1 (flt p0).1 rfl
  replace W := W.iloadN d17_24_4 rfl rfl
  replace W := W.gets d17_24_5 (tw291 H) (gf32 H) rfl
  have v1 := (gf39 H).ext W.old.2
  replace W := W.alen d17_24_8 v1 rfl
  replace W := W.icmpF (pc' := 12) d17_24_9 (tlt p1).2.1 rfl
  replace W := W.gets d17_24_12 (tw291 H) (gf32 H) rfl
  replace W := W.iloadN d17_24_15 rfl rfl
  subst p2
  replace W := W.aaload (w := (.ref (gA 30))) d17_24_16 v1 rfl ⟨by decide, by decide⟩ rfl rfl
  exact W.aret (t := (.object "java/math/BigDecimal")) d17_24_17 rfl rfl rfl rfl (by decide) (by decide) (fun V' cv => ⟨rfl, rfl⟩)
theorem m77_valueOf (H : Cx Z a0 gA gK) (u0 : Int64) (u1 : Int32) (h0 : Heap) (hO : Old Z n0 h0) (p0 : ¬ (u1 = (0 : Int32))) (p1 : (Jvm.Free.XT.cmpL u0 (0 : Int64)) = (0 : Int32)) (p2 : ¬ (u1 < (0 : Int32))) (p3 : u1 < (16 : Int32)) (p4 : u1 = (9 : Int32)) : Con l Z [] n0 N4 jdk_17_method_20_code 3 (some (.object "java/math/BigDecimal")) (Rm 1 0 0 12) #[(.long u0), (.int u1)] h0 [] (fun v h V' => v = some (.ref (gA 30)) ∧ h0 = h) [] := by
  refine Con.of (a0 := a0) (L0 := #[.val (.long u0), .second, .val (.int u1)]) pf4 (fun _ => rfl) all0 hO EW.nil ?_
  intro p e s m below meth c S0 hnm hsf W
  replace W := W.iloadN d17_20_0 rfl rfl
  replace W := W.ifT (pc' := 9) d17_20_1 (feq p0).2 (by decide) (by decide)
  replace W := W.lloadN d17_20_9 rfl rfl
  replace W := W.lconst (v := (0 : Int64)) d17_20_10 rfl rfl
  replace W := W.lcmp (v := (0 : Int32)) d17_20_11 p1 rfl
  replace W := W.ifF (pc' := 15) d17_20_12 (teq (by decide : (0 : Int32) = (0 : Int32))).2 rfl
  replace W := W.iloadN d17_20_15 rfl rfl
  obtain ⟨V1, h1, r1, W1, K1, hQ1, SF1⟩ := W.callS (pc' := 19) (argsL := [(.int u1)]) (rest := []) (Wd := 0) (cells' := 0) (slots' := 0) (y := N53) d17_20_16 (m78_zeroValueOf H u1 h0 W.old p2 p3 p4) (tw288 H) (tw289 H) (tw34 H) (tw290 H) (by decide) (lenOf pd13 rfl) rfl rfl (by decide) (by decide) rfl sf0 all0
  clear W
  obtain ⟨_, rfl, hs1⟩ := hQ1
  subst hs1
  replace W1 := W1.cast (st' := [(.ref (gA 30))]) rfl
  exact W1.aret (t := (.object "java/math/BigDecimal")) d17_20_19 rfl rfl rfl rfl (by decide) (by decide) (fun V' cv => ⟨rfl, rfl⟩)
theorem m81_longMultiplyPowerTen (H : Cx Z a0 gA gK) (u0 : Int64) (u1 : Int32) (h0 : Heap) (hO : Old Z n0 h0) (p0 : (Jvm.Free.XT.cmpL u0 (0 : Int64)) = (1 : Int32)) (p1 : (0 : Int32) < u1) (p2 : u1 < (19 : Int32)) (p3 : u1 = (9 : Int32)) (p4 : (Jvm.Free.XT.cmpL u0 (1 : Int64)) = (0 : Int32)) : Con l Z [] n0 N6 jdk_17_method_97_code 7 (some .long) (Rm 0 0 0 0) #[(.long u0), (.int u1)] h0 [] (fun v h V' => v = some (.long (1000000000 : Int64)) ∧ h0 = h) [] := by
  refine Con.of (a0 := a0) (L0 := #[.val (.long u0), .second, .val (.int u1), .unset, .unset, .unset, .unset]) pf6 (fun _ => rfl) all0 hO EW.nil ?_
  intro p e s m below meth c S0 hnm hsf W
  replace W := W.lloadN d17_97_0 rfl rfl
  replace W := W.lconst (v := (0 : Int64)) d17_97_1 rfl rfl
  replace W := W.lcmp (v := (1 : Int32)) d17_97_2 p0 rfl
  replace W := W.ifF (pc' := 6) d17_97_3 (feq (by decide : ¬ ((1 : Int32) = (0 : Int32)))).1 rfl
  replace W := W.iloadN d17_97_6 rfl rfl
  replace W := W.ifT (pc' := 12) d17_97_7 (tlt p1).2.2.1 (by decide) (by decide)
  replace W := W.gets d17_97_12 (tw292 H) (gf30 H) rfl
  replace W := W.astoreN (L' := #[.val (.long u0), .second, .val (.int u1), .val (.ref (gA 8)), .unset, .unset, .unset]) d17_97_15 rfl rfl rfl
  replace W := W.gets d17_97_16 (tw293 H) (gf31 H) rfl
  replace W := W.astore (L' := #[.val (.long u0), .second, .val (.int u1), .val (.ref (gA 8)), .val (.ref (gA 9)), .unset, .unset]) d17_97_19 rfl rfl rfl
  replace W := W.iloadN d17_97_21 rfl rfl
  replace W := W.aloadN d17_97_22 rfl rfl rfl
  have v1 := (gf40 H).ext W.old.2
  replace W := W.alen d17_97_23 v1 rfl
  replace W := W.icmpF (pc' := 27) d17_97_24 (tlt p2).2.1 rfl
  replace W := W.iloadN d17_97_27 rfl rfl
  replace W := W.aload d17_97_28 rfl rfl rfl
  have v2 := (gf41 H).ext W.old.2
  replace W := W.alen d17_97_30 v2 rfl
  replace W := W.icmpF (pc' := 34) d17_97_31 (tlt p2).2.1 rfl
  replace W := W.aloadN d17_97_34 rfl rfl rfl
  replace W := W.iloadN d17_97_35 rfl rfl
  subst p3
  replace W := W.laload (w := (.long (1000000000 : Int64))) d17_97_36 v1 ⟨by decide, by decide⟩ rfl rfl
  replace W := W.lstore (L' := #[.val (.long u0), .second, .val (.int (9 : Int32)), .val (.ref (gA 8)), .val (.ref (gA 9)), .val (.long (1000000000 : Int64)), .second]) d17_97_37 rfl rfl
  replace W := W.lloadN d17_97_39 rfl rfl
  replace W := W.lconst (v := (1 : Int64)) d17_97_40 rfl rfl
  replace W := W.lcmp (v := (0 : Int32)) d17_97_41 p4 rfl
  replace W := W.ifF (pc' := 45) d17_97_42 (teq (by decide : (0 : Int32) = (0 : Int32))).2 rfl
  replace W := W.lload d17_97_45 rfl rfl
  exact W.lret d17_97_47 rfl (by decide) (by decide) (fun V' cv => ⟨rfl, rfl⟩)
theorem m80_add (H : Cx Z a0 gA gK) (u0 : Int64) (u1 : Int32) (u2 : Int64) (u3 : Int32) (s0 s1 s2 s3 : Int64) (s4 : Int32) (s5 s6 s7 s8 s9 : Int64) (h0 : Heap) (hO : Old Z n0 h0) (p0 : (u1.toInt64) = s0) (p1 : (u3.toInt64) = s1) (p2 : (s0 - s1) = s2) (p3 : (Jvm.Free.XT.cmpL s2 (0 : Int64)) = (-1 : Int32)) (p4 : (-s2) = s3) (p5 : (s3.toInt32) = s4) (p6 : (s4.toInt64) = s5) (p7 : (Jvm.Free.XT.cmpL s5 s3) = (0 : Int32)) (p8 : (Jvm.Free.XT.cmpL u0 (0 : Int64)) = (1 : Int32)) (p9 : (0 : Int32) < s4) (p10 : s4 < (19 : Int32)) (p11 : s4 = (9 : Int32)) (p12 : (Jvm.Free.XT.cmpL u0 (1 : Int64)) = (0 : Int32)) (p13 : ((1000000000 : Int64) + u2) = s6) (p14 : (s6 ^^^ (1000000000 : Int64)) = s7) (p15 : (s6 ^^^ u2) = s8) (p16 : (s7 &&& s8) = s9) (p17 : (Jvm.Free.XT.cmpL s9 (0 : Int64)) = (0 : Int32)) (p18 : (Jvm.Free.XT.cmpL s6 (-9223372036854775808 : Int64)) = (1 : Int32)) (p19 : ¬ (u3 = (0 : Int32))) (p20 : (Jvm.Free.XT.cmpL s6 (0 : Int64)) = (1 : Int32)) : Con l Z [] n0 N9 jdk_17_method_134_code 12 (some (.object "java/math/BigDecimal")) (Rm 5 1 5 74) #[(.long u0), (.int u1), (.long u2), (.int u3)] h0 [] (fun v h V' => ∃ (r0 : Addr), v = some (.ref r0) ∧ Exa Z h r0 "java/math/BigDecimal" ∧ Fld Z h r0 "java/math/BigDecimal" "intCompact" "J" (.long s6) ∧ Fld Z h r0 "java/math/BigDecimal" "intVal" "Ljava/math/BigInteger;" .null ∧ Fld Z h r0 "java/math/BigDecimal" "precision" "I" (.int (0 : Int32)) ∧ Fld Z h r0 "java/math/BigDecimal" "scale" "I" (.int u3) ∧ h0.size ≤ r0) [] := by
  refine Con.of (a0 := a0) (L0 := #[.val (.long u0), .second, .val (.int u1), .val (.long u2), .second, .val (.int u3), .unset, .unset, .unset, .unset, .unset, .unset]) pf9 (fun _ => rfl) all0 hO EW.nil ?_
  intro p e s m below meth c S0 hnm hsf W
  replace W := W.iloadN d17_134_0 rfl rfl
  replace W := W.i2l (v := s0) d17_134_1 p0 rfl
  replace W := W.iload d17_134_2 rfl rfl
  replace W := W.i2l (v := s1) d17_134_4 p1 rfl
  replace W := W.lsub (v := s2) d17_134_5 p2 rfl
  replace W := W.lstore (L' := #[.val (.long u0), .second, .val (.int u1), .val (.long u2), .second, .val (.int u3), .val (.long s2), .second, .unset, .unset, .unset, .unset]) d17_134_6 rfl rfl
  replace W := W.lload d17_134_8 rfl rfl
  replace W := W.lconst (v := (0 : Int64)) d17_134_10 rfl rfl
  replace W := W.lcmp (v := (-1 : Int32)) d17_134_11 p3 rfl
  replace W := W.ifT (pc' := 22) d17_134_12 (feq (by decide : ¬ ((-1 : Int32) = (0 : Int32)))).2 (by decide) (by decide)
  replace W := W.lload d17_134_22 rfl rfl
  replace W := W.lconst (v := (0 : Int64)) d17_134_24 rfl rfl
  replace W := W.lcmp (v := (-1 : Int32)) d17_134_25 p3 rfl
  replace W := W.ifF (pc' := 29) d17_134_26 (tlt (by decide : (-1 : Int32) < (0 : Int32))).2.1 rfl
  replace W := W.lloadN d17_134_29 rfl rfl
  replace W := W.lload d17_134_30 rfl rfl
  replace W := W.lneg (v := s3) d17_134_32 p4 rfl
  obtain ⟨V1, h1, r1, W1, K1, hQ1, SF1⟩ := W.callS (pc' := 36) (argsL := [(.long u0), (.long s3)]) (rest := []) (Wd := 0) (cells' := 0) (slots' := 0) (y := N5) d17_134_33 (m11_checkScale H u0 s3 s4 s5 h0 W.old p5 p6 p7) (tw72 H) (tw73 H) (tw34 H) (tw74 H) (by decide) (lenOf pd4 rfl) rfl rfl (by decide) (by decide) rfl sf0 all0
  clear W
  obtain ⟨_, rfl, hs1⟩ := hQ1
  subst hs1
  replace W1 := W1.cast (st' := [(.int s4)]) rfl
  replace W1 := W1.istore (L' := #[.val (.long u0), .second, .val (.int u1), .val (.long u2), .second, .val (.int u3), .val (.long s2), .second, .val (.int s4), .unset, .unset, .unset]) d17_134_36 rfl rfl
  replace W1 := W1.lloadN d17_134_38 rfl rfl
  replace W1 := W1.iload d17_134_39 rfl rfl
  obtain ⟨V2, h2, r2, W2, K2, hQ2, SF2⟩ := W1.callS (pc' := 44) (argsL := [(.long u0), (.int s4)]) (rest := []) (Wd := 0) (cells' := 0) (slots' := 0) (y := N6) d17_134_41 (m81_longMultiplyPowerTen H u0 s4 h0 W1.old p8 p9 p10 p11 p12) (tw75 H) (tw76 H) (tw34 H) (tw77 H) (by decide) (lenOf pd5 rfl) rfl rfl (by decide) (by decide) rfl sf0 all0
  clear W1
  obtain ⟨_, rfl, hs2⟩ := hQ2
  subst hs2
  replace W2 := W2.cast (st' := [(.long (1000000000 : Int64))]) rfl
  replace W2 := W2.lstore (L' := #[.val (.long u0), .second, .val (.int u1), .val (.long u2), .second, .val (.int u3), .val (.long s2), .second, .val (.int s4), .val (.long (1000000000 : Int64)), .second, .unset]) d17_134_44 rfl rfl
  replace W2 := W2.lload d17_134_46 rfl rfl
  replace W2 := W2.ldc2 d17_134_48 (tw44 H) rfl
  replace W2 := W2.lcmp (v := (1 : Int32)) d17_134_51 (by decide) rfl
  replace W2 := W2.ifF (pc' := 55) d17_134_52 (feq (by decide : ¬ ((1 : Int32) = (0 : Int32)))).1 rfl
  replace W2 := W2.lload d17_134_55 rfl rfl
  replace W2 := W2.lloadN d17_134_57 rfl rfl
  replace W2 := W2.iload d17_134_58 rfl rfl
  obtain ⟨V3, h3, r3, W3, K3, hQ3, SF3⟩ := W2.callS (pc' := 63) (argsL := [(.long (1000000000 : Int64)), (.long u2), (.int u3)]) (rest := []) (Wd := 0) (cells' := 1) (slots' := 5) (y := N8) d17_134_60 (m13_add H (1000000000 : Int64) u2 u3 s6 s7 s8 s9 h0 W2.old p13 p14 p15 p16 p17 p18 p19 p20) (tw78 H) (tw79 H) (tw34 H) (tw80 H) (by decide) (lenOf pd7 rfl) rfl rfl (by decide) (by decide) rfl sf0 all0
  clear W2
  obtain ⟨_, r03, rfl, q3_1, q3_2, q3_3, q3_4, q3_5, q3_6⟩ := hQ3
  have z3 : h0.size ≤ h3.size := K3.1
  replace W3 := W3.cast (st' := [(.ref r03)]) rfl
  exact W3.aret (t := (.object "java/math/BigDecimal")) d17_134_63 rfl rfl rfl rfl (by decide) (by decide) (fun V' cv => ⟨r03, rfl, q3_1, q3_2, q3_3, q3_4, q3_5, q3_6⟩)
theorem m79_add (H : Cx Z a0 gA gK)  (h0 : Heap) (hO : Old Z n0 h0)  : Con l Z [] n0 N10 jdk_17_method_26_code 2 (some (.object "java/math/BigDecimal")) (Rm 6 1 5 97) #[(.ref (gA 11)), (.ref (gA 30))] h0 [] (fun v h V' => ∃ (r0 : Addr), v = some (.ref r0) ∧ Exa Z h r0 "java/math/BigDecimal" ∧ Fld Z h r0 "java/math/BigDecimal" "intCompact" "J" (.long (1000000000 : Int64)) ∧ Fld Z h r0 "java/math/BigDecimal" "intVal" "Ljava/math/BigInteger;" .null ∧ Fld Z h r0 "java/math/BigDecimal" "precision" "I" (.int (0 : Int32)) ∧ Fld Z h r0 "java/math/BigDecimal" "scale" "I" (.int (9 : Int32)) ∧ h0.size ≤ r0) [] := by
  refine Con.of (a0 := a0) (L0 := #[.val (.ref (gA 11)), .val (.ref (gA 30))]) pf10 (fun _ => rfl) all0 hO EW.nil ?_
  intro p e s m below meth c S0 hnm hsf W
  replace W := W.aloadN d17_26_0 rfl rfl rfl
  have f1 := (gf14 H).ext W.old.2
  replace W := W.getf d17_26_1 (tw60 H) Via.refl f1 rfl
  replace W := W.ldc2 d17_26_4 (tw44 H) rfl
  replace W := W.lcmp (v := (1 : Int32)) d17_26_7 (by decide) rfl
  replace W := W.ifF (pc' := 11) d17_26_8 (feq (by decide : ¬ ((1 : Int32) = (0 : Int32)))).1 rfl
  replace W := W.aloadN d17_26_11 rfl rfl rfl
  have f2 := (gf24 H).ext W.old.2
  replace W := W.getf d17_26_12 (tw60 H) Via.refl f2 rfl
  replace W := W.ldc2 d17_26_15 (tw44 H) rfl
  replace W := W.lcmp (v := (1 : Int32)) d17_26_18 (by decide) rfl
  replace W := W.ifF (pc' := 22) d17_26_19 (feq (by decide : ¬ ((1 : Int32) = (0 : Int32)))).1 rfl
  replace W := W.aloadN d17_26_22 rfl rfl rfl
  replace W := W.getf d17_26_23 (tw60 H) Via.refl f1 rfl
  replace W := W.aloadN d17_26_26 rfl rfl rfl
  have f3 := (gf15 H).ext W.old.2
  replace W := W.getf d17_26_27 (tw56 H) Via.refl f3 rfl
  replace W := W.aloadN d17_26_30 rfl rfl rfl
  replace W := W.getf d17_26_31 (tw60 H) Via.refl f2 rfl
  replace W := W.aloadN d17_26_34 rfl rfl rfl
  have f4 := (gf25 H).ext W.old.2
  replace W := W.getf d17_26_35 (tw56 H) Via.refl f4 rfl
  obtain ⟨V5, h5, r5, W5, K5, hQ5, SF5⟩ := W.callS (pc' := 41) (argsL := [(.long (1 : Int64)), (.int (0 : Int32)), (.long (0 : Int64)), (.int (9 : Int32))]) (rest := []) (Wd := 0) (cells' := 1) (slots' := 5) (y := N9) d17_26_38 (m80_add H (1 : Int64) (0 : Int32) (0 : Int64) (9 : Int32) (0 : Int64) (9 : Int64) (-9 : Int64) (9 : Int64) (9 : Int32) (9 : Int64) (1000000000 : Int64) (0 : Int64) (1000000000 : Int64) (0 : Int64) h0 W.old (by decide) (by decide) (by decide) (by decide) (by decide) (by decide) (by decide) (by decide) (by decide) (by decide) (by decide) (by decide) (by decide) (by decide) (by decide) (by decide) (by decide) (by decide) (by decide) (by decide) (by decide)) (tw69 H) (tw70 H) (tw34 H) (tw71 H) (by decide) (lenOf pd8 rfl) rfl rfl (by decide) (by decide) rfl sf0 all0
  clear W
  obtain ⟨_, r05, rfl, q5_1, q5_2, q5_3, q5_4, q5_5, q5_6⟩ := hQ5
  have z5 : h0.size ≤ h5.size := K5.1
  replace W5 := W5.cast (st' := [(.ref r05)]) rfl
  exact W5.aret (t := (.object "java/math/BigDecimal")) d17_26_41 rfl rfl rfl rfl (by decide) (by decide) (fun V' cv => ⟨r05, rfl, q5_1, q5_2, q5_3, q5_4, q5_5, q5_6⟩)
theorem m75_toBigDecimalSeconds (H : Cx Z a0 gA gK) (x0 : Addr) (u0 : Int32) (u1 : Int64) (s0 : Int32) (s1 : Int64) (h0 : Heap) (hO : Old Z n0 h0) (F_x0_nanos : Fld Z h0 x0 "java/time/Duration" "nanos" "I" (.int u0)) (F_x0_seconds : Fld Z h0 x0 "java/time/Duration" "seconds" "J" (.long u1)) (p0 : (u1.toInt32) = s0) (p1 : (Jvm.Free.XT.cmpL u1 (0 : Int64)) = (1 : Int32)) (p2 : (Jvm.Free.XT.cmpL u1 (11 : Int64)) = (-1 : Int32)) (p3 : s0 = (1 : Int32)) (p4 : (u0.toInt64) = s1) (p5 : (Jvm.Free.XT.cmpL s1 (0 : Int64)) = (0 : Int32)) : Con l Z [] n0 N11 jdk_2316_method_47_code 1 (some (.object "java/math/BigDecimal")) (Rm 7 1 5 110) #[(.ref x0)] h0 [] (fun v h V' => ∃ (r0 : Addr), v = some (.ref r0) ∧ Exa Z h r0 "java/math/BigDecimal" ∧ Fld Z h r0 "java/math/BigDecimal" "intCompact" "J" (.long (1000000000 : Int64)) ∧ Fld Z h r0 "java/math/BigDecimal" "intVal" "Ljava/math/BigInteger;" .null ∧ Fld Z h r0 "java/math/BigDecimal" "precision" "I" (.int (0 : Int32)) ∧ Fld Z h r0 "java/math/BigDecimal" "scale" "I" (.int (9 : Int32)) ∧ h0.size ≤ r0) [] := by
  refine Con.of (a0 := a0) (L0 := #[.val (.ref x0)]) pf11 (fun _ => rfl) all0 hO EW.nil ?_
  intro p e s m below meth c S0 hnm hsf W
  replace W := W.aloadN d2316_47_0 rfl rfl rfl
  replace W := W.getf d2316_47_1 (tw30 H) Via.refl F_x0_seconds rfl
  obtain ⟨V1, h1, r1, W1, K1, hQ1, SF1⟩ := W.callS (pc' := 7) (argsL := [(.long u1)]) (rest := []) (Wd := 0) (cells' := 0) (slots' := 0) (y := N1) d2316_47_4 (m76_valueOf H u1 s0 h0 W.old p1 p2 p0 p3) (tw32 H) (tw33 H) (tw34 H) (tw35 H) (by decide) (lenOf pd1 rfl) rfl rfl (by decide) (by decide) rfl sf0 all0
  clear W
  obtain ⟨_, rfl, hs1⟩ := hQ1
  subst hs1
  replace W1 := W1.cast (st' := [(.ref (gA 11))]) rfl
  replace W1 := W1.aloadN d2316_47_7 rfl rfl rfl
  replace W1 := W1.getf d2316_47_8 (tw37 H) Via.refl F_x0_nanos rfl
  replace W1 := W1.i2l (v := s1) d2316_47_11 p4 rfl
  replace W1 := W1.bipush (v := (9 : Int32)) d2316_47_12 rfl rfl
  obtain ⟨V2, h2, r2, W2, K2, hQ2, SF2⟩ := W1.callS (pc' := 17) (argsL := [(.long s1), (.int (9 : Int32))]) (rest := [(.ref (gA 11))]) (Wd := 1) (cells' := 0) (slots' := 0) (y := N4) d2316_47_14 (m77_valueOf H s1 (9 : Int32) h0 W1.old (by decide) p5 (by decide) (by decide) (by decide)) (tw39 H) (tw40 H) (tw34 H) (tw41 H) (by decide) (lenOf pd3 rfl) rfl rfl (by decide) (by decide) rfl sf0 all0
  clear W1
  obtain ⟨_, rfl, hs2⟩ := hQ2
  subst hs2
  replace W2 := W2.cast (st' := [(.ref (gA 30)), (.ref (gA 11))]) rfl
  have e3 := (gf3 H).ext W2.old.2
  obtain ⟨V4, h4, r4, W4, K4, hQ4, SF4⟩ := W2.callV (pc' := 20) (argsL := [(.ref (gA 30))]) (rest := []) (Wd := 0) (cells' := 1) (slots' := 5) (a := (gA 11)) (C := "java/math/BigDecimal") (y := N10) (z := N10) d2316_47_17 (m79_add H h0 W2.old) e3 (tw64 H) (tw65 H) (Or.inl (tw67 H)) (tw67 H) (tw66 H) (tw34 H) (tw68 H) (by decide) (lenOf pd9 rfl) rfl rfl (by decide) (by decide) rfl sf0 all0
  clear W2
  obtain ⟨_, r04, rfl, q4_1, q4_2, q4_3, q4_4, q4_5, q4_6⟩ := hQ4
  have z4 : h0.size ≤ h4.size := K4.1
  replace W4 := W4.cast (st' := [(.ref r04)]) rfl
  exact W4.aret (t := (.object "java/math/BigDecimal")) d2316_47_20 rfl rfl rfl rfl (by decide) (by decide) (fun V' cv => ⟨r04, rfl, q4_1, q4_2, q4_3, q4_4, q4_5, q4_6⟩)
theorem m87_compare (H : Cx Z a0 gA gK) (x0 x1 x2 : Addr) (kp0 : ClassId) (u0 u1 u2 u3 u4 s0 s1 : Int32) (h0 : Heap) (hO : Old Z n0 h0) (F_x0_intLen : Fld Z h0 x0 "java/math/MutableBigInteger" "intLen" "I" (.int u0)) (F_x0_offset : Fld Z h0 x0 "java/math/MutableBigInteger" "offset" "I" (.int u1)) (F_x0_value : Fld Z h0 x0 "java/math/MutableBigInteger" "value" "[I" (.ref x2)) (F_x1_intLen : Fld Z h0 x1 "java/math/MutableBigInteger" "intLen" "I" (.int u2)) (F_x1_offset : Fld Z h0 x1 "java/math/MutableBigInteger" "offset" "I" (.int u3)) (F_x1_value : Fld Z h0 x1 "java/math/MutableBigInteger" "value" "[I" (.ref (gA 3))) (V_x2 : Arv Z h0 x2 kp0 .int (1 : Int32) [(.int u4)] (.int (0 : Int32))) (p0 : ¬ (u0 < u2)) (p1 : ¬ (u2 < u0)) (p2 : (u0 + u1) = s0) (p3 : u1 < s0) (p4 : u1 = (0 : Int32)) (p5 : (u4 + (-2147483648 : Int32)) = s1) (p6 : u3 = (0 : Int32)) (p7 : ¬ (s1 < (-1147483648 : Int32))) (p8 : (-1147483648 : Int32) < s1) : Con l Z [] n0 N25 jdk_2101_method_15_code 8 (some .int) (Rm 0 0 0 0) #[(.ref x0), (.ref x1)] h0 [] (fun v h V' => v = some (.int (1 : Int32)) ∧ h0 = h) [] := by
  refine Con.of (a0 := a0) (L0 := #[.val (.ref x0), .val (.ref x1), .unset, .unset, .unset, .unset, .unset, .unset]) pf25 (fun _ => rfl) all0 hO EW.nil ?_
  intro p e s m below meth c S0 hnm hsf W
  replace W := W.aloadN d2101_15_0 rfl rfl rfl
  replace W := W.getf d2101_15_1 (tw170 H) Via.refl F_x1_intLen rfl
  replace W := W.istoreN (L' := #[.val (.ref x0), .val (.ref x1), .val (.int u2), .unset, .unset, .unset, .unset, .unset]) d2101_15_4 rfl rfl
  replace W := W.aloadN d2101_15_5 rfl rfl rfl
  replace W := W.getf d2101_15_6 (tw170 H) Via.refl F_x0_intLen rfl
  replace W := W.iloadN d2101_15_9 rfl rfl
  replace W := W.icmpT (pc' := 15) d2101_15_10 (flt p0).2.1 (by decide) (by decide)
  replace W := W.aloadN d2101_15_15 rfl rfl rfl
  replace W := W.getf d2101_15_16 (tw170 H) Via.refl F_x0_intLen rfl
  replace W := W.iloadN d2101_15_19 rfl rfl
  replace W := W.icmpT (pc' := 25) d2101_15_20 (flt p1).2.2.2 (by decide) (by decide)
  replace W := W.aloadN d2101_15_25 rfl rfl rfl
  replace W := W.getf d2101_15_26 (tw168 H) Via.refl F_x1_value rfl
  replace W := W.astoreN (L' := #[.val (.ref x0), .val (.ref x1), .val (.int u2), .val (.ref (gA 3)), .unset, .unset, .unset, .unset]) d2101_15_29 rfl rfl rfl
  replace W := W.aloadN d2101_15_30 rfl rfl rfl
  replace W := W.getf d2101_15_31 (tw166 H) Via.refl F_x0_offset rfl
  replace W := W.istore (L' := #[.val (.ref x0), .val (.ref x1), .val (.int u2), .val (.ref (gA 3)), .val (.int u1), .unset, .unset, .unset]) d2101_15_34 rfl rfl
  replace W := W.aloadN d2101_15_36 rfl rfl rfl
  replace W := W.getf d2101_15_37 (tw166 H) Via.refl F_x1_offset rfl
  replace W := W.istore (L' := #[.val (.ref x0), .val (.ref x1), .val (.int u2), .val (.ref (gA 3)), .val (.int u1), .val (.int u3), .unset, .unset]) d2101_15_40 rfl rfl
  replace W := W.iload d2101_15_42 rfl rfl
  replace W := W.aloadN d2101_15_44 rfl rfl rfl
  replace W := W.getf d2101_15_45 (tw170 H) Via.refl F_x0_intLen rfl
  replace W := W.aloadN d2101_15_48 rfl rfl rfl
  replace W := W.getf d2101_15_49 (tw166 H) Via.refl F_x0_offset rfl
  replace W := W.iadd (v := s0) d2101_15_52 p2 rfl
  replace W := W.icmpF (pc' := 56) d2101_15_53 (tlt p3).2.1 rfl
  replace W := W.aloadN d2101_15_56 rfl rfl rfl
  replace W := W.getf d2101_15_57 (tw168 H) Via.refl F_x0_value rfl
  replace W := W.iload d2101_15_60 rfl rfl
  subst p4
  replace W := W.iaload (w := (.int u4)) d2101_15_62 V_x2 ⟨by decide, by decide⟩ rfl rfl
  replace W := W.ldcI d2101_15_63 (tw190 H) rfl
  replace W := W.iadd (v := s1) d2101_15_65 p5 rfl
  replace W := W.istore (L' := #[.val (.ref x0), .val (.ref x1), .val (.int u2), .val (.ref (gA 3)), .val (.int (0 : Int32)), .val (.int u3), .val (.int s1), .unset]) d2101_15_66 rfl rfl
  replace W := W.aloadN d2101_15_68 rfl rfl rfl
  replace W := W.iload d2101_15_69 rfl rfl
  subst p6
  have v1 := (gf36 H).ext W.old.2
  replace W := W.iaload (w := (.int (1000000000 : Int32))) d2101_15_71 v1 ⟨by decide, by decide⟩ rfl rfl
  replace W := W.ldcI d2101_15_72 (tw190 H) rfl
  replace W := W.iadd (v := (-1147483648 : Int32)) d2101_15_74 (by decide) rfl
  replace W := W.istore (L' := #[.val (.ref x0), .val (.ref x1), .val (.int u2), .val (.ref (gA 3)), .val (.int (0 : Int32)), .val (.int (0 : Int32)), .val (.int s1), .val (.int (-1147483648 : Int32))]) d2101_15_75 rfl rfl
  replace W := W.iload d2101_15_77 rfl rfl
  replace W := W.iload d2101_15_79 rfl rfl
  replace W := W.icmpT (pc' := 86) d2101_15_81 (flt p7).2.1 (by decide) (by decide)
  replace W := W.iload d2101_15_86 rfl rfl
  replace W := W.iload d2101_15_88 rfl rfl
  replace W := W.icmpF (pc' := 93) d2101_15_90 (tlt p8).2.2.2 rfl
  replace W := W.iconst (v := (1 : Int32)) d2101_15_93 rfl rfl
  exact W.iret (t := .int) d2101_15_94 rfl (by simp) rfl (by decide) (by decide) (fun V' cv => ⟨rfl, rfl⟩)
theorem m88_clear (H : Cx Z a0 gA gK) (x0 x1 : Addr) (kp0 : ClassId) (u0 u1 u2 : Int32) (h0 : Heap) (hO : Old Z n0 h0) (E_x0 : Exa Z h0 x0 "java/math/MutableBigInteger") (F_x0_intLen : Fld Z h0 x0 "java/math/MutableBigInteger" "intLen" "I" (.int u0)) (F_x0_offset : Fld Z h0 x0 "java/math/MutableBigInteger" "offset" "I" (.int u1)) (F_x0_value : Fld Z h0 x0 "java/math/MutableBigInteger" "value" "[I" (.ref x1)) (E_x1 : Exa Z h0 x1 "[I") (V_x1 : Arv Z h0 x1 kp0 .int (1 : Int32) [(.int u2)] (.int (0 : Int32))) (g_x0 : n0 ≤ x0) (g_x1 : n0 ≤ x1) : Con l Z [] n0 N54 jdk_2101_method_13_code 3 none (Rm 0 0 0 0) #[(.ref x0)] h0 [x0, x1] (fun v h V' => v = none ∧ Exa Z h x0 "java/math/MutableBigInteger" ∧ Fld Z h x0 "java/math/MutableBigInteger" "intLen" "I" (.int (0 : Int32)) ∧ Fld Z h x0 "java/math/MutableBigInteger" "offset" "I" (.int (0 : Int32)) ∧ Fld Z h x0 "java/math/MutableBigInteger" "value" "[I" (.ref x1) ∧ Exa Z h x1 "[I" ∧ Arv Z h x1 kp0 .int (1 : Int32) [(.int (0 : Int32))] (.int (0 : Int32))) [] := by
  refine Con.of (a0 := a0) (L0 := #[.val (.ref x0), .unset, .unset]) pf54 (fun _ => rfl) (allS g_x0 (allS g_x1 all0)) hO EW.nil ?_
  intro p e s m below meth c S0 hnm hsf W
  replace W := W.aloadN d2101_13_0 rfl rfl rfl
  replace W := W.aloadN d2101_13_1 rfl rfl rfl
  replace W := W.iconst (v := (0 : Int32)) d2101_13_2 rfl rfl
  replace W := W.dupX1 d2101_13_3 rfl rfl rfl
  obtain ⟨h1, W1, w1, SF1⟩ := W.putf (pc' := 7) (ty := .int) d2101_13_4 (tw170 H) Via.refl F_x0_intLen E_x0 (Or.inl (tw171 H)) (tw159 H) (by decide) rfl rfl safe0 (Or.inl (List.mem_of_getElem? (i := 0) rfl)) rfl
  clear W
  have z1 : h0.size ≤ h1.size := Nat.le_of_eq w1.size.symm
  have f1 := F_x0_intLen.same w1
  have f2 := (F_x0_offset.other w1 (Or.inr (sn20 H)))
  have e3 := (E_x0.wr w1)
  obtain ⟨h4, W4, w4, SF4⟩ := W1.putf (pc' := 10) (ty := .int) d2101_13_7 (tw166 H) Via.refl f2 e3 (Or.inl (tw167 H)) (tw159 H) (by decide) rfl rfl safe0 (Or.inl (List.mem_of_getElem? (i := 0) rfl)) rfl
  clear W1
  have z4 : h1.size ≤ h4.size := Nat.le_of_eq w4.size.symm
  have f4 := f2.same w4
  replace W4 := W4.iconst (v := (0 : Int32)) d2101_13_10 rfl rfl
  replace W4 := W4.istoreN (L' := #[.val (.ref x0), .val (.int (0 : Int32)), .unset]) d2101_13_11 rfl rfl
  replace W4 := W4.aloadN d2101_13_12 rfl rfl rfl
  have f5 := ((F_x0_value.other w1 (Or.inr (sn21 H))).other w4 (Or.inr (sn16 H)))
  replace W4 := W4.getf d2101_13_13 (tw168 H) Via.refl f5 rfl
  have v6 := ((V_x1.other w1 (Exa.ne (E_x1.wr w1) e3 (by decide))).other w4 (Exa.ne (E_x1.wr w1) e3 (by decide)))
  replace W4 := W4.alen d2101_13_16 v6 rfl
  replace W4 := W4.istoreN (L' := #[.val (.ref x0), .val (.int (0 : Int32)), .val (.int (1 : Int32))]) d2101_13_17 rfl rfl
  replace W4 := W4.iloadN d2101_13_18 rfl rfl
  replace W4 := W4.iloadN d2101_13_19 rfl rfl
  replace W4 := W4.icmpF (pc' := 23) d2101_13_20 (tlt (by decide : (0 : Int32) < (1 : Int32))).2.1 rfl
  replace W4 := W4.aloadN d2101_13_23 rfl rfl rfl
  replace W4 := W4.getf d2101_13_24 (tw168 H) Via.refl f5 rfl
  replace W4 := W4.iloadN d2101_13_27 rfl rfl
  replace W4 := W4.iconst (v := (0 : Int32)) d2101_13_28 rfl rfl
  obtain ⟨h7, W7, w7, A7, SF7⟩ := W4.iastore (pc' := 30) (i := 0) (x' := (0 : Int32)) d2101_13_29 v6 ⟨by decide, by decide⟩ rfl (by show 0 < 1; decide) rfl safe0 (Or.inl (List.mem_of_getElem? (i := 1) rfl)) rfl
  clear W4
  have z7 : h4.size ≤ h7.size := Nat.le_of_eq w7.size.symm
  have v7 : Arv Z h7 x1 kp0 .int (1 : Int32) [(.int (0 : Int32))] (.int (0 : Int32)) := A7
  replace W7 := W7.iinc (v := (1 : Int32)) (L' := #[.val (.ref x0), .val (.int (1 : Int32)), .val (.int (1 : Int32))]) d2101_13_30 rfl (by decide) rfl rfl
  replace W7 := W7.goto (pc' := 18) d2101_13_33 (by decide) (by decide)
  replace W7 := W7.iloadN d2101_13_18 rfl rfl
  replace W7 := W7.iloadN d2101_13_19 rfl rfl
  replace W7 := W7.icmpT (pc' := 36) d2101_13_20 (flt (by decide : ¬ ((1 : Int32) < (1 : Int32)))).2.1 (by decide) (by decide)
  have e8 := ((e3.wr w4).wr w7)
  have f9 := ((f1.other w4 (Or.inr (sn17 H))).other w7 (Or.inl (Exa.ne e8 (((E_x1.wr w1).wr w4).wr w7) (by decide))))
  have f10 := (f4.other w7 (Or.inl (Exa.ne e8 (((E_x1.wr w1).wr w4).wr w7) (by decide))))
  have f11 := (f5.other w7 (Or.inl (Exa.ne e8 (((E_x1.wr w1).wr w4).wr w7) (by decide))))
  have e12 := (((E_x1.wr w1).wr w4).wr w7)
  exact W7.vret d2101_13_36 rfl (by decide) (by decide) (fun V' cv => ⟨rfl, e8, f9, f10, f11, e12, v7⟩)
theorem m89_divideOneWord (H : Cx Z a0 gA gK) (x0 x1 x2 x3 : Addr) (kp0 kp1 : ClassId) (u0 u1 u2 u3 u4 u5 u6 : Int32) (s0 s1 s2 s3 s4 : Int64) (s5 : Int32) (s6 s7 s8 : Int64) (s9 : Int32) (h0 : Heap) (hO : Old Z n0 h0) (F_x0_intLen : Fld Z h0 x0 "java/math/MutableBigInteger" "intLen" "I" (.int u1)) (F_x0_offset : Fld Z h0 x0 "java/math/MutableBigInteger" "offset" "I" (.int u2)) (F_x0_value : Fld Z h0 x0 "java/math/MutableBigInteger" "value" "[I" (.ref x2)) (E_x1 : Exa Z h0 x1 "java/math/MutableBigInteger") (F_x1_intLen : Fld Z h0 x1 "java/math/MutableBigInteger" "intLen" "I" (.int u3)) (F_x1_offset : Fld Z h0 x1 "java/math/MutableBigInteger" "offset" "I" (.int u4)) (F_x1_value : Fld Z h0 x1 "java/math/MutableBigInteger" "value" "[I" (.ref x3)) (V_x2 : Arv Z h0 x2 kp0 .int (1 : Int32) [(.int u5)] (.int (0 : Int32))) (E_x3 : Exa Z h0 x3 "[I") (V_x3 : Arv Z h0 x3 kp1 .int (1 : Int32) [(.int u6)] (.int (0 : Int32))) (p0 : (u0.toInt64) = s0) (p1 : (s0 &&& (4294967295 : Int64)) = s1) (p2 : u1 = (1 : Int32)) (p3 : u2 = (0 : Int32)) (p4 : (u5.toInt64) = s2) (p5 : (s2 &&& (4294967295 : Int64)) = s3) (p6 : s1 = (1000000000 : Int64)) (p7 : (s3 / (1000000000 : Int64)) = s4) (p8 : (s4.toInt32) = s5) (p9 : (s5.toInt64) = s6) (p10 : (s6 * (1000000000 : Int64)) = s7) (p11 : (s3 - s7) = s8) (p12 : (s8.toInt32) = s9) (p13 : ¬ (s5 = (0 : Int32))) (g_x3 : n0 ≤ x3) (g_x1 : n0 ≤ x1) : Con l Z [] n0 N55 jdk_2101_method_53_code 15 (some .int) (Rm 0 0 0 0) #[(.ref x0), (.int u0), (.ref x1)] h0 [x3, x1] (fun v h V' => v = some (.int s9) ∧ Exa Z h x3 "[I" ∧ Arv Z h x3 kp1 .int (1 : Int32) [(.int s5)] (.int (0 : Int32)) ∧ Exa Z h x1 "java/math/MutableBigInteger" ∧ Fld Z h x1 "java/math/MutableBigInteger" "intLen" "I" (.int (1 : Int32)) ∧ Fld Z h x1 "java/math/MutableBigInteger" "offset" "I" (.int (0 : Int32)) ∧ Fld Z h x1 "java/math/MutableBigInteger" "value" "[I" (.ref x3)) [] := by
  refine Con.of (a0 := a0) (L0 := #[.val (.ref x0), .val (.int u0), .val (.ref x1), .unset, .unset, .unset, .unset, .unset, .unset, .unset, .unset, .unset, .unset, .unset, .unset]) pf55 (fun _ => rfl) (allS g_x3 (allS g_x1 all0)) hO EW.nil ?_
  intro p e s m below meth c S0 hnm hsf W
  replace W := W.iloadN d2101_53_0 rfl rfl
  replace W := W.i2l (v := s0) d2101_53_1 p0 rfl
  replace W := W.ldc2 d2101_53_2 (tw304 H) rfl
  replace W := W.land (v := s1) d2101_53_5 p1 rfl
  replace W := W.lstoreN (L' := #[.val (.ref x0), .val (.int u0), .val (.ref x1), .val (.long s1), .second, .unset, .unset, .unset, .unset, .unset, .unset, .unset, .unset, .unset, .unset]) d2101_53_6 rfl rfl
  replace W := W.aloadN d2101_53_7 rfl rfl rfl
  replace W := W.getf d2101_53_8 (tw170 H) Via.refl F_x0_intLen rfl
  replace W := W.iconst (v := (1 : Int32)) d2101_53_11 rfl rfl
  replace W := W.icmpF (pc' := 15) d2101_53_12 (teq p2).2 rfl
  replace W := W.aloadN d2101_53_15 rfl rfl rfl
  replace W := W.getf d2101_53_16 (tw168 H) Via.refl F_x0_value rfl
  replace W := W.aloadN d2101_53_19 rfl rfl rfl
  replace W := W.getf d2101_53_20 (tw166 H) Via.refl F_x0_offset rfl
  subst p3
  replace W := W.iaload (w := (.int u5)) d2101_53_23 V_x2 ⟨by decide, by decide⟩ rfl rfl
  replace W := W.i2l (v := s2) d2101_53_24 p4 rfl
  replace W := W.ldc2 d2101_53_25 (tw304 H) rfl
  replace W := W.land (v := s3) d2101_53_28 p5 rfl
  replace W := W.lstore (L' := #[.val (.ref x0), .val (.int u0), .val (.ref x1), .val (.long s1), .second, .val (.long s3), .second, .unset, .unset, .unset, .unset, .unset, .unset, .unset, .unset]) d2101_53_29 rfl rfl
  replace W := W.lload d2101_53_31 rfl rfl
  replace W := W.lloadN d2101_53_33 rfl rfl
  subst p6
  replace W := W.ldiv (v := s4) d2101_53_34 (by decide) p7 rfl
  replace W := W.l2i (v := s5) d2101_53_35 p8 rfl
  replace W := W.istore (L' := #[.val (.ref x0), .val (.int u0), .val (.ref x1), .val (.long (1000000000 : Int64)), .second, .val (.long s3), .second, .val (.int s5), .unset, .unset, .unset, .unset, .unset, .unset, .unset]) d2101_53_36 rfl rfl
  replace W := W.lload d2101_53_38 rfl rfl
  replace W := W.iload d2101_53_40 rfl rfl
  replace W := W.i2l (v := s6) d2101_53_42 p9 rfl
  replace W := W.lloadN d2101_53_43 rfl rfl
  replace W := W.lmul (v := s7) d2101_53_44 p10 rfl
  replace W := W.lsub (v := s8) d2101_53_45 p11 rfl
  replace W := W.l2i (v := s9) d2101_53_46 p12 rfl
  replace W := W.istore (L' := #[.val (.ref x0), .val (.int u0), .val (.ref x1), .val (.long (1000000000 : Int64)), .second, .val (.long s3), .second, .val (.int s5), .val (.int s9), .unset, .unset, .unset, .unset, .unset, .unset]) d2101_53_47 rfl rfl
  replace W := W.aloadN d2101_53_49 rfl rfl rfl
  replace W := W.getf d2101_53_50 (tw168 H) Via.refl F_x1_value rfl
  replace W := W.iconst (v := (0 : Int32)) d2101_53_53 rfl rfl
  replace W := W.iload d2101_53_54 rfl rfl
  obtain ⟨h1, W1, w1, A1, SF1⟩ := W.iastore (pc' := 57) (i := 0) (x' := s5) d2101_53_56 V_x3 ⟨by decide, by decide⟩ rfl (by show 0 < 1; decide) rfl safe0 (Or.inl (List.mem_of_getElem? (i := 0) rfl)) rfl
  clear W
  have z1 : h0.size ≤ h1.size := Nat.le_of_eq w1.size.symm
  have v1 : Arv Z h1 x3 kp1 .int (1 : Int32) [(.int s5)] (.int (0 : Int32)) := A1
  replace W1 := W1.aloadN d2101_53_57 rfl rfl rfl
  replace W1 := W1.iload d2101_53_58 rfl rfl
  replace W1 := W1.ifT (pc' := 67) d2101_53_60 (feq p13).2 (by decide) (by decide)
  replace W1 := W1.iconst (v := (1 : Int32)) d2101_53_67 rfl rfl
  have f2 := (F_x1_intLen.other w1 (Or.inl (Exa.ne E_x1 E_x3 (by decide))))
  have e3 := (E_x1.wr w1)
  obtain ⟨h4, W4, w4, SF4⟩ := W1.putf (pc' := 71) (ty := .int) d2101_53_68 (tw170 H) Via.refl f2 e3 (Or.inl (tw171 H)) (tw159 H) (by decide) rfl rfl safe0 (Or.inl (List.mem_of_getElem? (i := 1) rfl)) rfl
  clear W1
  have z4 : h1.size ≤ h4.size := Nat.le_of_eq w4.size.symm
  have f4 := f2.same w4
  replace W4 := W4.aloadN d2101_53_71 rfl rfl rfl
  replace W4 := W4.iconst (v := (0 : Int32)) d2101_53_72 rfl rfl
  have f5 := ((F_x1_offset.other w1 (Or.inl (Exa.ne e3 (E_x3.wr w1) (by decide)))).other w4 (Or.inr (sn20 H)))
  have e6 := (e3.wr w4)
  obtain ⟨h7, W7, w7, SF7⟩ := W4.putf (pc' := 76) (ty := .int) d2101_53_73 (tw166 H) Via.refl f5 e6 (Or.inl (tw167 H)) (tw159 H) (by decide) rfl rfl safe0 (Or.inl (List.mem_of_getElem? (i := 1) rfl)) rfl
  clear W4
  have z7 : h4.size ≤ h7.size := Nat.le_of_eq w7.size.symm
  have f7 := f5.same w7
  replace W7 := W7.iload d2101_53_76 rfl rfl
  have e8 := (((E_x3.wr w1).wr w4).wr w7)
  have v9 := ((v1.other w4 (Exa.ne e8 (e6.wr w7) (by decide))).other w7 (Exa.ne e8 (e6.wr w7) (by decide)))
  have e10 := (e6.wr w7)
  have f11 := (f4.other w7 (Or.inr (sn17 H)))
  have f12 := (((F_x1_value.other w1 (Or.inl (Exa.ne e10 e8 (by decide)))).other w4 (Or.inr (sn21 H))).other w7 (Or.inr (sn16 H)))
  exact W7.iret (t := .int) d2101_53_78 rfl (by simp) rfl (by decide) (by decide) (fun V' cv => ⟨rfl, e8, v9, e10, f11, f7, f12⟩)
theorem m86_divideKnuth (H : Cx Z a0 gA gK) (x0 x1 x2 x3 x4 : Addr) (kp0 kp1 : ClassId) (u0 u1 u2 u3 u4 u5 u6 u7 u8 s0 s1 : Int32) (s2 s3 s4 : Int64) (s5 : Int32) (s6 s7 s8 : Int64) (s9 : Int32) (h0 : Heap) (hO : Old Z n0 h0) (E_x0 : Exa Z h0 x0 "java/math/MutableBigInteger") (F_x0_intLen : Fld Z h0 x0 "java/math/MutableBigInteger" "intLen" "I" (.int u1)) (F_x0_offset : Fld Z h0 x0 "java/math/MutableBigInteger" "offset" "I" (.int u2)) (F_x0_value : Fld Z h0 x0 "java/math/MutableBigInteger" "value" "[I" (.ref x3)) (E_x1 : Exa Z h0 x1 "java/math/MutableBigInteger") (F_x1_intLen : Fld Z h0 x1 "java/math/MutableBigInteger" "intLen" "I" (.int u3)) (F_x1_offset : Fld Z h0 x1 "java/math/MutableBigInteger" "offset" "I" (.int u4)) (F_x1_value : Fld Z h0 x1 "java/math/MutableBigInteger" "value" "[I" (.ref (gA 3))) (E_x2 : Exa Z h0 x2 "java/math/MutableBigInteger") (F_x2_intLen : Fld Z h0 x2 "java/math/MutableBigInteger" "intLen" "I" (.int u5)) (F_x2_offset : Fld Z h0 x2 "java/math/MutableBigInteger" "offset" "I" (.int u6)) (F_x2_value : Fld Z h0 x2 "java/math/MutableBigInteger" "value" "[I" (.ref x4)) (E_x3 : Exa Z h0 x3 "[I") (V_x3 : Arv Z h0 x3 kp0 .int (1 : Int32) [(.int u7)] (.int (0 : Int32))) (E_x4 : Exa Z h0 x4 "[I") (V_x4 : Arv Z h0 x4 kp1 .int (1 : Int32) [(.int u8)] (.int (0 : Int32))) (N_x0_x2 : x0 ≠ x2) (N_x1_x2 : x1 ≠ x2) (N_x3_x4 : x3 ≠ x4) (p0 : ¬ (u3 = (0 : Int32))) (p1 : ¬ (u1 = (0 : Int32))) (p2 : (u1 + u2) = s0) (p3 : (u7 + (-2147483648 : Int32)) = s1) (p4 : ¬ (u1 < u3)) (p5 : ¬ (u3 < u1)) (p6 : u2 < s0) (p7 : u2 = (0 : Int32)) (p8 : u4 = (0 : Int32)) (p9 : ¬ (s1 < (-1147483648 : Int32))) (p10 : (-1147483648 : Int32) < s1) (p11 : u3 = (1 : Int32)) (p12 : (u7.toInt64) = s2) (p13 : (s2 &&& (4294967295 : Int64)) = s3) (p14 : (s3 / (1000000000 : Int64)) = s4) (p15 : (s4.toInt32) = s5) (p16 : (s5.toInt64) = s6) (p17 : (s6 * (1000000000 : Int64)) = s7) (p18 : (s3 - s7) = s8) (p19 : (s8.toInt32) = s9) (p20 : u1 = (1 : Int32)) (p21 : ¬ (s5 = (0 : Int32))) (p22 : ¬ (u0 = (0 : Int32))) (p23 : s9 = (0 : Int32)) (g_x2 : n0 ≤ x2) (g_x4 : n0 ≤ x4) : Con l Z [] n0 N26 jdk_2101_method_57_code 8 (some (.object "java/math/MutableBigInteger")) (Rm 2 2 4 26) #[(.ref x0), (.ref x1), (.ref x2), (.int u0)] h0 [x2, x4] (fun v h V' => ∃ (r0 : Addr) (r1 : Addr) (kr0 : ClassId), v = some (.ref r0) ∧ Exa Z h r0 "java/math/MutableBigInteger" ∧ Fld Z h r0 "java/math/MutableBigInteger" "intLen" "I" (.int (0 : Int32)) ∧ Fld Z h r0 "java/math/MutableBigInteger" "offset" "I" (.int (0 : Int32)) ∧ Fld Z h r0 "java/math/MutableBigInteger" "value" "[I" (.ref r1) ∧ h0.size ≤ r0 ∧ Exa Z h x2 "java/math/MutableBigInteger" ∧ Fld Z h x2 "java/math/MutableBigInteger" "intLen" "I" (.int (1 : Int32)) ∧ Fld Z h x2 "java/math/MutableBigInteger" "offset" "I" (.int (0 : Int32)) ∧ Fld Z h x2 "java/math/MutableBigInteger" "value" "[I" (.ref x4) ∧ Exa Z h x4 "[I" ∧ Arv Z h x4 kp1 .int (1 : Int32) [(.int s5)] (.int (0 : Int32)) ∧ Exa Z h r1 "[I" ∧ Arv Z h r1 kr0 .int (1 : Int32) [(.int (0 : Int32))] (.int (0 : Int32)) ∧ h0.size ≤ r1) [] := by
  refine Con.of (a0 := a0) (L0 := #[.val (.ref x0), .val (.ref x1), .val (.ref x2), .val (.int u0), .unset, .unset, .unset, .unset]) pf26 (fun _ => rfl) (allS g_x2 (allS g_x4 all0)) hO EW.nil ?_
  intro p e s m below meth c S0 hnm hsf W
  replace W := W.aloadN d2101_57_0 rfl rfl rfl
  replace W := W.getf d2101_57_1 (tw170 H) Via.refl F_x1_intLen rfl
  replace W := W.ifT (pc' := 17) d2101_57_4 (feq p0).2 (by decide) (by decide)
  replace W := W.aloadN d2101_57_17 rfl rfl rfl
  replace W := W.getf d2101_57_18 (tw170 H) Via.refl F_x0_intLen rfl
  replace W := W.ifT (pc' := 50) d2101_57_21 (feq p1).2 (by decide) (by decide)
  replace W := W.aloadN d2101_57_50 rfl rfl rfl
  replace W := W.aloadN d2101_57_51 rfl rfl rfl
  obtain ⟨V1, h1, r1, W1, K1, hQ1, SF1⟩ := W.callV (pc' := 55) (argsL := [(.ref x1)]) (rest := []) (Wd := 0) (cells' := 0) (slots' := 0) (a := x0) (C := "java/math/MutableBigInteger") (y := N25) (z := N25) d2101_57_52 (m87_compare H x0 x1 x3 kp0 u1 u2 u3 u4 u7 s0 s1 h0 W.old F_x0_intLen F_x0_offset F_x0_value F_x1_intLen F_x1_offset F_x1_value V_x3 p4 p5 p2 p6 p7 p3 p8 p9 p10) E_x0 (tw185 H) (tw186 H) (Or.inl (tw188 H)) (tw188 H) (tw187 H) (tw160 H) (tw189 H) (by decide) (lenOf pd19 rfl) rfl rfl (by decide) (by decide) rfl sf0 all0
  clear W
  obtain ⟨_, rfl, hs1⟩ := hQ1
  subst hs1
  replace W1 := W1.cast (st' := [(.int (1 : Int32))]) rfl
  replace W1 := W1.istore (L' := #[.val (.ref x0), .val (.ref x1), .val (.ref x2), .val (.int u0), .val (.int (1 : Int32)), .unset, .unset, .unset]) d2101_57_55 rfl rfl
  replace W1 := W1.iload d2101_57_57 rfl rfl
  replace W1 := W1.ifT (pc' := 89) d2101_57_59 (flt (by decide : ¬ ((1 : Int32) < (0 : Int32)))).2.1 (by decide) (by decide)
  replace W1 := W1.iload d2101_57_89 rfl rfl
  replace W1 := W1.ifT (pc' := 127) d2101_57_91 (feq (by decide : ¬ ((1 : Int32) = (0 : Int32)))).2 (by decide) (by decide)
  replace W1 := W1.aloadN d2101_57_127 rfl rfl rfl
  obtain ⟨V2, h2, r2, W2, K2, hQ2, SF2⟩ := W1.callV (pc' := 131) (argsL := []) (rest := []) (Wd := 0) (cells' := 0) (slots' := 0) (a := x2) (C := "java/math/MutableBigInteger") (y := N54) (z := N54) d2101_57_128 (m88_clear H x2 x4 kp1 u5 u6 u8 h0 W1.old E_x2 F_x2_intLen F_x2_offset F_x2_value E_x4 V_x4 g_x2 g_x4) E_x2 (tw294 H) (tw295 H) (Or.inl (tw297 H)) (tw297 H) (tw296 H) (tw160 H) (tw298 H) (by decide) (lenOf pd0 rfl) rfl rfl (by decide) (by decide) rfl (sfS safe0 (sfS safe0 sf0)) (allS (Or.inl (List.mem_of_getElem? (i := 0) rfl)) (allS (Or.inl (List.mem_of_getElem? (i := 1) rfl)) all0))
  clear W1
  obtain ⟨_, rfl, q2_1, q2_2, q2_3, q2_4, q2_5, q2_6⟩ := hQ2
  have z2 : h0.size ≤ h2.size := K2.1
  replace W2 := W2.cast (st' := []) rfl
  replace W2 := W2.aloadN d2101_57_131 rfl rfl rfl
  have f3 := (F_x1_intLen.keep K2 (ninS N_x1_x2 (ninS (Exa.ne (E_x1.keep K2) q2_5 (by decide)) nin0)))
  replace W2 := W2.getf d2101_57_132 (tw170 H) Via.refl f3 rfl
  replace W2 := W2.iconst (v := (1 : Int32)) d2101_57_135 rfl rfl
  replace W2 := W2.icmpF (pc' := 139) d2101_57_136 (teq p11).2 rfl
  replace W2 := W2.aloadN d2101_57_139 rfl rfl rfl
  replace W2 := W2.aloadN d2101_57_140 rfl rfl rfl
  have f4 := (F_x1_value.keep K2 (ninS N_x1_x2 (ninS (Exa.ne (E_x1.keep K2) q2_5 (by decide)) nin0)))
  replace W2 := W2.getf d2101_57_141 (tw168 H) Via.refl f4 rfl
  replace W2 := W2.aloadN d2101_57_144 rfl rfl rfl
  have f5 := (F_x1_offset.keep K2 (ninS N_x1_x2 (ninS (Exa.ne (E_x1.keep K2) q2_5 (by decide)) nin0)))
  replace W2 := W2.getf d2101_57_145 (tw166 H) Via.refl f5 rfl
  subst p8
  have v6 := (gf36 H).ext W2.old.2
  replace W2 := W2.iaload (w := (.int (1000000000 : Int32))) d2101_57_148 v6 ⟨by decide, by decide⟩ rfl rfl
  replace W2 := W2.aloadN d2101_57_149 rfl rfl rfl
  have f7 := (F_x0_intLen.keep K2 (ninS N_x0_x2 (ninS (Exa.ne (E_x0.keep K2) q2_5 (by decide)) nin0)))
  have f8 := (F_x0_offset.keep K2 (ninS N_x0_x2 (ninS (Exa.ne (E_x0.keep K2) q2_5 (by decide)) nin0)))
  have f9 := (F_x0_value.keep K2 (ninS N_x0_x2 (ninS (Exa.ne (E_x0.keep K2) q2_5 (by decide)) nin0)))
  have v10 := (V_x3.keep K2 (ninS (Exa.ne (E_x3.keep K2) q2_1 (by decide)) (ninS N_x3_x4 nin0)))
  have e12 := (E_x0.keep K2)
  obtain ⟨V11, h11, r11, W11, K11, hQ11, SF11⟩ := W2.callV (pc' := 153) (argsL := [(.int (1000000000 : Int32)), (.ref x2)]) (rest := []) (Wd := 0) (cells' := 0) (slots' := 0) (a := x0) (C := "java/math/MutableBigInteger") (y := N55) (z := N55) d2101_57_150 (m89_divideOneWord H x0 x2 x3 x4 kp0 kp1 (1000000000 : Int32) u1 u2 (0 : Int32) (0 : Int32) u7 (0 : Int32) (1000000000 : Int64) (1000000000 : Int64) s2 s3 s4 s5 s6 s7 s8 s9 h2 W2.old f7 f8 f9 q2_1 q2_2 q2_3 q2_4 v10 q2_5 q2_6 (by decide) (by decide) p20 p7 p12 p13 (by decide) p14 p15 p16 p17 p18 p19 p21 g_x4 g_x2) e12 (tw299 H) (tw300 H) (Or.inl (tw302 H)) (tw302 H) (tw301 H) (tw160 H) (tw303 H) (by decide) (lenOf pd36 rfl) rfl rfl (by decide) (by decide) rfl (sfS safe0 (sfS safe0 sf0)) (allS (Or.inl (List.mem_of_getElem? (i := 1) rfl)) (allS (Or.inl (List.mem_of_getElem? (i := 0) rfl)) all0))
  clear W2
  obtain ⟨_, rfl, q11_1, q11_2, q11_3, q11_4, q11_5, q11_6⟩ := hQ11
  have z11 : h2.size ≤ h11.size := K11.1
  replace W11 := W11.cast (st' := [(.int s9)]) rfl
  replace W11 := W11.istore (L' := #[.val (.ref x0), .val (.ref x1), .val (.ref x2), .val (.int u0), .val (.int (1 : Int32)), .val (.int s9), .unset, .unset]) d2101_57_153 rfl rfl
  replace W11 := W11.iloadN d2101_57_155 rfl rfl
  replace W11 := W11.ifF (pc' := 159) d2101_57_156 (feq p22).1 rfl
  replace W11 := W11.iload d2101_57_159 rfl rfl
  replace W11 := W11.ifF (pc' := 164) d2101_57_161 (teq p23).2 rfl
  obtain ⟨h13, a13, W13, E13, g13, ⟨A13, D13, U13⟩, sf13, SF13⟩ := W11.new (pc' := 167) (cells' := 1) (slots' := 3) d2101_57_164 (tw191 H) (tw159 H) (tw160 H) rfl rfl rfl (by decide) (by decide)
  clear W11
  rw [← g13] at A13 D13 U13
  have z13 : h11.size ≤ h13.size := E13.1
  replace W13 := W13.dup d2101_57_167 rfl rfl
  obtain ⟨V14, h14, r14, W14, K14, hQ14, SF14⟩ := W13.callI (pc' := 171) (argsL := []) (rest := [(.ref a13)]) (Wd := 1) (cells' := 2) (slots' := 4) (a := a13) (y := N23) d2101_57_168 (m35_init H a13 (0 : Int32) (0 : Int32) h13 W13.old A13 (D13 (Or.inl (tw171 H)) (ty := .int) (by decide) : Fld Z h13 a13 "java/math/MutableBigInteger" "intLen" "I" (.int (0 : Int32))) (D13 (Or.inl (tw167 H)) (ty := .int) (by decide) : Fld Z h13 a13 "java/math/MutableBigInteger" "offset" "I" (.int (0 : Int32))) (D13 (Or.inl (tw169 H)) (ty := (.array .int)) (by decide) : Fld Z h13 a13 "java/math/MutableBigInteger" "value" "[I" .null) (Nat.le_trans W13.1.2.2.2.2.2.2.2.1 (Nat.le_trans (Nat.le_trans z2 z11) (Nat.le_of_eq g13.symm)))) rfl (tw192 H) (tw162 H) (tw160 H) (tw164 H) (by decide) (lenOf pd0 rfl) rfl rfl (by decide) (by decide) rfl (sfS safe0 sf0) (allS (Or.inr (Nat.le_trans (Nat.le_trans z2 z11) (Nat.le_of_eq g13.symm))) all0)
  clear W13
  obtain ⟨_, r014, kr014, rfl, q14_1, q14_2, q14_3, q14_4, q14_5, q14_6, q14_7⟩ := hQ14
  have z14 : h13.size ≤ h14.size := K14.1
  replace W14 := W14.cast (st' := [(.ref a13)]) rfl
  have e15 := ((q11_3.ext E13).keep K14)
  have f16 := ((q11_4.ext E13).keep K14 (ninS (Nat.ne_of_lt (Nat.lt_of_lt_of_le E_x2.lt (Nat.le_trans (Nat.le_trans z2 z11) (Nat.le_of_eq g13.symm)))) nin0))
  have f17 := ((q11_5.ext E13).keep K14 (ninS (Nat.ne_of_lt (Nat.lt_of_lt_of_le E_x2.lt (Nat.le_trans (Nat.le_trans z2 z11) (Nat.le_of_eq g13.symm)))) nin0))
  have f18 := ((q11_6.ext E13).keep K14 (ninS (Nat.ne_of_lt (Nat.lt_of_lt_of_le E_x2.lt (Nat.le_trans (Nat.le_trans z2 z11) (Nat.le_of_eq g13.symm)))) nin0))
  have e19 := ((q11_1.ext E13).keep K14)
  have v20 := ((q11_2.ext E13).keep K14 (ninS (Nat.ne_of_lt (Nat.lt_of_lt_of_le E_x4.lt (Nat.le_trans (Nat.le_trans z2 z11) (Nat.le_of_eq g13.symm)))) nin0))
  exact W14.aret (t := (.object "java/math/MutableBigInteger")) d2101_57_171 rfl rfl rfl rfl (by decide) (by decide) (fun V' cv => ⟨a13, r014, kr014, rfl, q14_1, q14_2, q14_3, q14_4, (Nat.le_trans (Nat.le_trans z2 z11) (Nat.le_of_eq g13.symm)), e15, f16, f17, f18, e19, v20, q14_5, q14_6, (Nat.le_trans (Nat.le_trans (Nat.le_trans z2 z11) z13) q14_7)⟩)
theorem m85_divideKnuth (H : Cx Z a0 gA gK) (x0 x1 x2 x3 x4 : Addr) (kp0 kp1 : ClassId) (u0 u1 u2 u3 u4 u5 u6 u7 s0 s1 : Int32) (s2 s3 s4 : Int64) (s5 : Int32) (s6 s7 s8 : Int64) (s9 : Int32) (h0 : Heap) (hO : Old Z n0 h0) (E_x0 : Exa Z h0 x0 "java/math/MutableBigInteger") (F_x0_intLen : Fld Z h0 x0 "java/math/MutableBigInteger" "intLen" "I" (.int u0)) (F_x0_offset : Fld Z h0 x0 "java/math/MutableBigInteger" "offset" "I" (.int u1)) (F_x0_value : Fld Z h0 x0 "java/math/MutableBigInteger" "value" "[I" (.ref x3)) (E_x1 : Exa Z h0 x1 "java/math/MutableBigInteger") (F_x1_intLen : Fld Z h0 x1 "java/math/MutableBigInteger" "intLen" "I" (.int u2)) (F_x1_offset : Fld Z h0 x1 "java/math/MutableBigInteger" "offset" "I" (.int u3)) (F_x1_value : Fld Z h0 x1 "java/math/MutableBigInteger" "value" "[I" (.ref (gA 3))) (E_x2 : Exa Z h0 x2 "java/math/MutableBigInteger") (F_x2_intLen : Fld Z h0 x2 "java/math/MutableBigInteger" "intLen" "I" (.int u4)) (F_x2_offset : Fld Z h0 x2 "java/math/MutableBigInteger" "offset" "I" (.int u5)) (F_x2_value : Fld Z h0 x2 "java/math/MutableBigInteger" "value" "[I" (.ref x4)) (E_x3 : Exa Z h0 x3 "[I") (V_x3 : Arv Z h0 x3 kp0 .int (1 : Int32) [(.int u6)] (.int (0 : Int32))) (E_x4 : Exa Z h0 x4 "[I") (V_x4 : Arv Z h0 x4 kp1 .int (1 : Int32) [(.int u7)] (.int (0 : Int32))) (N_x0_x2 : x0 ≠ x2) (N_x1_x2 : x1 ≠ x2) (N_x3_x4 : x3 ≠ x4) (p0 : (u0 + u1) = s0) (p1 : (u6 + (-2147483648 : Int32)) = s1) (p2 : (u6.toInt64) = s2) (p3 : (s2 &&& (4294967295 : Int64)) = s3) (p4 : (s3 / (1000000000 : Int64)) = s4) (p5 : (s4.toInt32) = s5) (p6 : (s5.toInt64) = s6) (p7 : (s6 * (1000000000 : Int64)) = s7) (p8 : (s3 - s7) = s8) (p9 : (s8.toInt32) = s9) (p10 : ¬ (u2 = (0 : Int32))) (p11 : ¬ (u0 = (0 : Int32))) (p12 : ¬ (u0 < u2)) (p13 : ¬ (u2 < u0)) (p14 : u1 < s0) (p15 : u1 = (0 : Int32)) (p16 : u3 = (0 : Int32)) (p17 : ¬ (s1 < (-1147483648 : Int32))) (p18 : (-1147483648 : Int32) < s1) (p19 : u2 = (1 : Int32)) (p20 : u0 = (1 : Int32)) (p21 : ¬ (s5 = (0 : Int32))) (p22 : s9 = (0 : Int32)) (g_x2 : n0 ≤ x2) (g_x4 : n0 ≤ x4) : Con l Z [] n0 N27 jdk_2101_method_56_code 3 (some (.object "java/math/MutableBigInteger")) (Rm 3 2 4 45) #[(.ref x0), (.ref x1), (.ref x2)] h0 [x2, x4] (fun v h V' => ∃ (r0 : Addr) (r1 : Addr) (kr0 : ClassId), v = some (.ref r0) ∧ Exa Z h r0 "java/math/MutableBigInteger" ∧ Fld Z h r0 "java/math/MutableBigInteger" "intLen" "I" (.int (0 : Int32)) ∧ Fld Z h r0 "java/math/MutableBigInteger" "offset" "I" (.int (0 : Int32)) ∧ Fld Z h r0 "java/math/MutableBigInteger" "value" "[I" (.ref r1) ∧ h0.size ≤ r0 ∧ Exa Z h x2 "java/math/MutableBigInteger" ∧ Fld Z h x2 "java/math/MutableBigInteger" "intLen" "I" (.int (1 : Int32)) ∧ Fld Z h x2 "java/math/MutableBigInteger" "offset" "I" (.int (0 : Int32)) ∧ Fld Z h x2 "java/math/MutableBigInteger" "value" "[I" (.ref x4) ∧ Exa Z h x4 "[I" ∧ Arv Z h x4 kp1 .int (1 : Int32) [(.int s5)] (.int (0 : Int32)) ∧ Exa Z h r1 "[I" ∧ Arv Z h r1 kr0 .int (1 : Int32) [(.int (0 : Int32))] (.int (0 : Int32)) ∧ h0.size ≤ r1) [] := by
  refine Con.of (a0 := a0) (L0 := #[.val (.ref x0), .val (.ref x1), .val (.ref x2)]) pf27 (fun _ => rfl) (allS g_x2 (allS g_x4 all0)) hO EW.nil ?_
  intro p e s m below meth c S0 hnm hsf W
  replace W := W.aloadN d2101_56_0 rfl rfl rfl
  replace W := W.aloadN d2101_56_1 rfl rfl rfl
  replace W := W.aloadN d2101_56_2 rfl rfl rfl
  replace W := W.iconst (v := (1 : Int32)) d2101_56_3 rfl rfl
  obtain ⟨V1, h1, r1, W1, K1, hQ1, SF1⟩ := W.callV (pc' := 7) (argsL := [(.ref x1), (.ref x2), (.int (1 : Int32))]) (rest := []) (Wd := 0) (cells' := 2) (slots' := 4) (a := x0) (C := "java/math/MutableBigInteger") (y := N26) (z := N26) d2101_56_4 (m86_divideKnuth H x0 x1 x2 x3 x4 kp0 kp1 (1 : Int32) u0 u1 u2 u3 u4 u5 u6 u7 s0 s1 s2 s3 s4 s5 s6 s7 s8 s9 h0 W.old E_x0 F_x0_intLen F_x0_offset F_x0_value E_x1 F_x1_intLen F_x1_offset F_x1_value E_x2 F_x2_intLen F_x2_offset F_x2_value E_x3 V_x3 E_x4 V_x4 N_x0_x2 N_x1_x2 N_x3_x4 p10 p11 p0 p1 p12 p13 p14 p15 p16 p17 p18 p19 p2 p3 p4 p5 p6 p7 p8 p9 p20 p21 (by decide) p22 g_x2 g_x4) E_x0 (tw180 H) (tw181 H) (Or.inl (tw183 H)) (tw183 H) (tw182 H) (tw160 H) (tw184 H) (by decide) (lenOf pd20 rfl) rfl rfl (by decide) (by decide) rfl (sfS safe0 (sfS safe0 sf0)) (allS (Or.inl (List.mem_of_getElem? (i := 0) rfl)) (allS (Or.inl (List.mem_of_getElem? (i := 1) rfl)) all0))
  clear W
  obtain ⟨_, r01, r11, kr01, rfl, q1_1, q1_2, q1_3, q1_4, q1_5, q1_6, q1_7, q1_8, q1_9, q1_10, q1_11, q1_12, q1_13, q1_14⟩ := hQ1
  have z1 : h0.size ≤ h1.size := K1.1
  replace W1 := W1.cast (st' := [(.ref r01)]) rfl
  exact W1.aret (t := (.object "java/math/MutableBigInteger")) d2101_56_7 rfl rfl rfl rfl (by decide) (by decide) (fun V' cv => ⟨r01, r11, kr01, rfl, q1_1, q1_2, q1_3, q1_4, q1_5, q1_6, q1_7, q1_8, q1_9, q1_10, q1_11, q1_12, q1_13, q1_14⟩)
theorem m90_divideAndRemainderKnuth (H : Cx Z a0 gA gK) (x0 x1 : Addr) (kp0 : ClassId) (u0 u1 s0 : Int32) (s1 s2 s3 : Int64) (s4 : Int32) (s5 s6 s7 : Int64) (s8 : Int32) (h0 : Heap) (hO : Old Z n0 h0) (E_x0 : Exa Z h0 x0 "java/math/BigInteger") (F_x0_mag : Fld Z h0 x0 "java/math/BigInteger" "mag" "[I" (.ref x1)) (F_x0_signum : Fld Z h0 x0 "java/math/BigInteger" "signum" "I" (.int u0)) (E_x1 : Exa Z h0 x1 "[I") (V_x1 : Arv Z h0 x1 kp0 .int (1 : Int32) [(.int u1)] (.int (0 : Int32))) (p0 : (u1 + (-2147483648 : Int32)) = s0) (p1 : (u1.toInt64) = s1) (p2 : (s1 &&& (4294967295 : Int64)) = s2) (p3 : (s2 / (1000000000 : Int64)) = s3) (p4 : (s3.toInt32) = s4) (p5 : (s4.toInt64) = s5) (p6 : (s5 * (1000000000 : Int64)) = s6) (p7 : (s2 - s6) = s7) (p8 : (s7.toInt32) = s8) (p9 : ¬ (s0 < (-1147483648 : Int32))) (p10 : (-1147483648 : Int32) < s0) (p11 : ¬ (s4 = (0 : Int32))) (p12 : s8 = (0 : Int32)) (p13 : u0 = (1 : Int32)) : Con l Z [] n0 N31 jdk_2097_method_64_code 7 (some (.array (.object "java/math/BigInteger"))) (Rm 4 8 22 59) #[(.ref x0), (.ref (gA 2))] h0 [] (fun v h V' => ∃ (r0 : Addr) (r1 : Addr) (r2 : Addr) (kr0 : ClassId) (kr1 : ClassId), v = some (.ref r0) ∧ Exa Z h r0 "[Ljava/math/BigInteger;" ∧ Arv Z h r0 kr0 (.object "java/math/BigInteger") (2 : Int32) [(.ref r1), (.ref (gA 4))] .null ∧ h0.size ≤ r0 ∧ Exa Z h r1 "java/math/BigInteger" ∧ Fld Z h r1 "java/math/BigInteger" "bitLengthPlusOne" "I" (.int (0 : Int32)) ∧ Fld Z h r1 "java/math/BigInteger" "mag" "[I" (.ref r2) ∧ Fld Z h r1 "java/math/BigInteger" "signum" "I" (.int (1 : Int32)) ∧ h0.size ≤ r1 ∧ Exa Z h r2 "[I" ∧ Arv Z h r2 kr1 .int (1 : Int32) [(.int s4)] (.int (0 : Int32)) ∧ h0.size ≤ r2) [] := by
  refine Con.of (a0 := a0) (L0 := #[.val (.ref x0), .val (.ref (gA 2)), .unset, .unset, .unset, .unset, .unset]) pf31 (fun _ => rfl) all0 hO EW.nil ?_
  intro p e s m below meth c S0 hnm hsf W
  replace W := W.iconst (v := (2 : Int32)) d2097_64_0 rfl rfl
  obtain ⟨h1, a1, W1, E1, g1, ⟨⟨k1, A1, O1⟩, B1⟩, sf1, SF1⟩ := W.anewarr (pc' := 4) (C := "java/math/BigInteger") (ad := "[Ljava/math/BigInteger;") (cap := 2) (cells' := 1) (slots' := 2) d2097_64_1 (tw133 H) (tw157 H) (by decide) (by decide) (by decide) (by decide) rfl rfl rfl (by decide) (by decide)
  clear W
  rw [← g1] at A1 B1
  have z1 : h0.size ≤ h1.size := E1.1
  have v1 : Arv Z h1 a1 k1 (.object "java/math/BigInteger") (2 : Int32) [.null, .null] .null := A1.pad (pad_rep [] .null 2)
  replace W1 := W1.astoreN (L' := #[.val (.ref x0), .val (.ref (gA 2)), .val (.ref a1), .unset, .unset, .unset, .unset]) d2097_64_4 rfl rfl rfl
  obtain ⟨h2, a2, W2, E2, g2, ⟨A2, D2, U2⟩, sf2, SF2⟩ := W1.new (pc' := 8) (cells' := 2) (slots' := 5) d2097_64_5 (tw158 H) (tw159 H) (tw160 H) rfl rfl rfl (by decide) (by decide)
  clear W1
  rw [← g2] at A2 D2 U2
  have z2 : h1.size ≤ h2.size := E2.1
  replace W2 := W2.dup d2097_64_8 rfl rfl
  obtain ⟨V3, h3, r3, W3, K3, hQ3, SF3⟩ := W2.callI (pc' := 12) (argsL := []) (rest := [(.ref a2)]) (Wd := 1) (cells' := 3) (slots' := 6) (a := a2) (y := N23) d2097_64_9 (m35_init H a2 (0 : Int32) (0 : Int32) h2 W2.old A2 (D2 (Or.inl (tw171 H)) (ty := .int) (by decide) : Fld Z h2 a2 "java/math/MutableBigInteger" "intLen" "I" (.int (0 : Int32))) (D2 (Or.inl (tw167 H)) (ty := .int) (by decide) : Fld Z h2 a2 "java/math/MutableBigInteger" "offset" "I" (.int (0 : Int32))) (D2 (Or.inl (tw169 H)) (ty := (.array .int)) (by decide) : Fld Z h2 a2 "java/math/MutableBigInteger" "value" "[I" .null) (Nat.le_trans W2.1.2.2.2.2.2.2.2.1 (Nat.le_trans z1 (Nat.le_of_eq g2.symm)))) rfl (tw161 H) (tw162 H) (tw160 H) (tw164 H) (by decide) (lenOf pd0 rfl) rfl rfl (by decide) (by decide) rfl (sfS safe0 sf0) (allS (Or.inr (Nat.le_trans z1 (Nat.le_of_eq g2.symm))) all0)
  clear W2
  obtain ⟨_, r03, kr03, rfl, q3_1, q3_2, q3_3, q3_4, q3_5, q3_6, q3_7⟩ := hQ3
  have z3 : h2.size ≤ h3.size := K3.1
  replace W3 := W3.cast (st' := [(.ref a2)]) rfl
  replace W3 := W3.astoreN (L' := #[.val (.ref x0), .val (.ref (gA 2)), .val (.ref a1), .val (.ref a2), .unset, .unset, .unset]) d2097_64_12 rfl rfl rfl
  obtain ⟨h4, a4, W4, E4, g4, ⟨A4, D4, U4⟩, sf4, SF4⟩ := W3.new (pc' := 16) (cells' := 4) (slots' := 9) d2097_64_13 (tw158 H) (tw159 H) (tw160 H) rfl rfl rfl (by decide) (by decide)
  clear W3
  rw [← g4] at A4 D4 U4
  have z4 : h3.size ≤ h4.size := E4.1
  replace W4 := W4.dup d2097_64_16 rfl rfl
  replace W4 := W4.aloadN d2097_64_17 rfl rfl rfl
  have f5 := ((((F_x0_mag.ext E1).ext E2).keep K3 (ninS (Nat.ne_of_lt (Nat.lt_of_lt_of_le E_x0.lt (Nat.le_trans z1 (Nat.le_of_eq g2.symm)))) nin0)).ext E4)
  replace W4 := W4.getf d2097_64_18 (tw144 H) Via.refl f5 rfl
  have e6 := ((((E_x1.ext E1).ext E2).keep K3).ext E4)
  have v7 := ((((V_x1.ext E1).ext E2).keep K3 (ninS (Nat.ne_of_lt (Nat.lt_of_lt_of_le E_x1.lt (Nat.le_trans z1 (Nat.le_of_eq g2.symm)))) nin0)).ext E4)
  obtain ⟨V8, h8, r8, W8, K8, hQ8, SF8⟩ := W4.callI (pc' := 24) (argsL := [(.ref x1)]) (rest := [(.ref a4)]) (Wd := 1) (cells' := 4) (slots' := 9) (a := a4) (y := N24) d2097_64_21 (m36_init H a4 x1 kp0 (0 : Int32) (0 : Int32) u1 h4 W4.old A4 (D4 (Or.inl (tw171 H)) (ty := .int) (by decide) : Fld Z h4 a4 "java/math/MutableBigInteger" "intLen" "I" (.int (0 : Int32))) (D4 (Or.inl (tw167 H)) (ty := .int) (by decide) : Fld Z h4 a4 "java/math/MutableBigInteger" "offset" "I" (.int (0 : Int32))) (D4 (Or.inl (tw169 H)) (ty := (.array .int)) (by decide) : Fld Z h4 a4 "java/math/MutableBigInteger" "value" "[I" .null) e6 v7 (Nat.le_trans W4.1.2.2.2.2.2.2.2.1 (Nat.le_trans (Nat.le_trans (Nat.le_trans z1 z2) z3) (Nat.le_of_eq g4.symm)))) rfl (tw172 H) (tw173 H) (tw160 H) (tw174 H) (by decide) (lenOf pd18 rfl) rfl rfl (by decide) (by decide) rfl (sfS safe0 sf0) (allS (Or.inr (Nat.le_trans (Nat.le_trans (Nat.le_trans z1 z2) z3) (Nat.le_of_eq g4.symm))) all0)
  clear W4
  obtain ⟨_, rfl, q8_1, q8_2, q8_3, q8_4⟩ := hQ8
  have z8 : h4.size ≤ h8.size := K8.1
  replace W8 := W8.cast (st' := [(.ref a4)]) rfl
  replace W8 := W8.astore (L' := #[.val (.ref x0), .val (.ref (gA 2)), .val (.ref a1), .val (.ref a2), .val (.ref a4), .unset, .unset]) d2097_64_24 rfl rfl rfl
  obtain ⟨h9, a9, W9, E9, g9, ⟨A9, D9, U9⟩, sf9, SF9⟩ := W8.new (pc' := 29) (cells' := 5) (slots' := 12) d2097_64_26 (tw158 H) (tw159 H) (tw160 H) rfl rfl rfl (by decide) (by decide)
  clear W8
  rw [← g9] at A9 D9 U9
  have z9 : h8.size ≤ h9.size := E9.1
  replace W9 := W9.dup d2097_64_29 rfl rfl
  replace W9 := W9.aloadN d2097_64_30 rfl rfl rfl
  have f10 := (gf22 H).ext W9.old.2
  replace W9 := W9.getf d2097_64_31 (tw144 H) Via.refl f10 rfl
  obtain ⟨V11, h11, r11, W11, K11, hQ11, SF11⟩ := W9.callI (pc' := 37) (argsL := [(.ref (gA 3))]) (rest := [(.ref a9)]) (Wd := 1) (cells' := 5) (slots' := 12) (a := a9) (y := N24) d2097_64_34 (m37_init H a9 (0 : Int32) (0 : Int32) h9 W9.old A9 (D9 (Or.inl (tw171 H)) (ty := .int) (by decide) : Fld Z h9 a9 "java/math/MutableBigInteger" "intLen" "I" (.int (0 : Int32))) (D9 (Or.inl (tw167 H)) (ty := .int) (by decide) : Fld Z h9 a9 "java/math/MutableBigInteger" "offset" "I" (.int (0 : Int32))) (D9 (Or.inl (tw169 H)) (ty := (.array .int)) (by decide) : Fld Z h9 a9 "java/math/MutableBigInteger" "value" "[I" .null) (Nat.le_trans W9.1.2.2.2.2.2.2.2.1 (Nat.le_trans (Nat.le_trans (Nat.le_trans (Nat.le_trans (Nat.le_trans z1 z2) z3) z4) z8) (Nat.le_of_eq g9.symm)))) rfl (tw172 H) (tw173 H) (tw160 H) (tw174 H) (by decide) (lenOf pd18 rfl) rfl rfl (by decide) (by decide) rfl (sfS safe0 sf0) (allS (Or.inr (Nat.le_trans (Nat.le_trans (Nat.le_trans (Nat.le_trans (Nat.le_trans z1 z2) z3) z4) z8) (Nat.le_of_eq g9.symm))) all0)
  clear W9
  obtain ⟨_, rfl, q11_1, q11_2, q11_3, q11_4⟩ := hQ11
  have z11 : h9.size ≤ h11.size := K11.1
  replace W11 := W11.cast (st' := [(.ref a9)]) rfl
  replace W11 := W11.astore (L' := #[.val (.ref x0), .val (.ref (gA 2)), .val (.ref a1), .val (.ref a2), .val (.ref a4), .val (.ref a9), .unset]) d2097_64_37 rfl rfl rfl
  replace W11 := W11.aload d2097_64_39 rfl rfl rfl
  replace W11 := W11.aload d2097_64_41 rfl rfl rfl
  replace W11 := W11.aloadN d2097_64_43 rfl rfl rfl
  have e12 := ((q8_1.ext E9).keep K11)
  have f13 := ((q8_2.ext E9).keep K11 (ninS (Nat.ne_of_lt (Nat.lt_of_lt_of_le A4.lt (Nat.le_trans z8 (Nat.le_of_eq g9.symm)))) nin0))
  have f14 := ((q8_3.ext E9).keep K11 (ninS (Nat.ne_of_lt (Nat.lt_of_lt_of_le A4.lt (Nat.le_trans z8 (Nat.le_of_eq g9.symm)))) nin0))
  have f15 := ((q8_4.ext E9).keep K11 (ninS (Nat.ne_of_lt (Nat.lt_of_lt_of_le A4.lt (Nat.le_trans z8 (Nat.le_of_eq g9.symm)))) nin0))
  have e16 := ((((q3_1.ext E4).keep K8).ext E9).keep K11)
  have f17 := ((((q3_2.ext E4).keep K8 (ninS (Nat.ne_of_lt (Nat.lt_of_lt_of_le A2.lt (Nat.le_trans z3 (Nat.le_of_eq g4.symm)))) nin0)).ext E9).keep K11 (ninS (Nat.ne_of_lt (Nat.lt_of_lt_of_le A2.lt (Nat.le_trans (Nat.le_trans (Nat.le_trans z3 z4) z8) (Nat.le_of_eq g9.symm)))) nin0))
  have f18 := ((((q3_3.ext E4).keep K8 (ninS (Nat.ne_of_lt (Nat.lt_of_lt_of_le A2.lt (Nat.le_trans z3 (Nat.le_of_eq g4.symm)))) nin0)).ext E9).keep K11 (ninS (Nat.ne_of_lt (Nat.lt_of_lt_of_le A2.lt (Nat.le_trans (Nat.le_trans (Nat.le_trans z3 z4) z8) (Nat.le_of_eq g9.symm)))) nin0))
  have f19 := ((((q3_4.ext E4).keep K8 (ninS (Nat.ne_of_lt (Nat.lt_of_lt_of_le A2.lt (Nat.le_trans z3 (Nat.le_of_eq g4.symm)))) nin0)).ext E9).keep K11 (ninS (Nat.ne_of_lt (Nat.lt_of_lt_of_le A2.lt (Nat.le_trans (Nat.le_trans (Nat.le_trans z3 z4) z8) (Nat.le_of_eq g9.symm)))) nin0))
  have e20 := (((e6.keep K8).ext E9).keep K11)
  have v21 := (((v7.keep K8 (ninS (Nat.ne_of_lt (Nat.lt_of_lt_of_le E_x1.lt (Nat.le_trans (Nat.le_trans (Nat.le_trans z1 z2) z3) (Nat.le_of_eq g4.symm)))) nin0)).ext E9).keep K11 (ninS (Nat.ne_of_lt (Nat.lt_of_lt_of_le E_x1.lt (Nat.le_trans (Nat.le_trans (Nat.le_trans (Nat.le_trans (Nat.le_trans z1 z2) z3) z4) z8) (Nat.le_of_eq g9.symm)))) nin0))
  have e22 := ((((q3_5.ext E4).keep K8).ext E9).keep K11)
  have v23 := ((((q3_6.ext E4).keep K8 (ninS (Nat.ne_of_lt (Nat.lt_of_lt_of_le q3_5.lt (Nat.le_of_eq g4.symm))) nin0)).ext E9).keep K11 (ninS (Nat.ne_of_lt (Nat.lt_of_lt_of_le q3_5.lt (Nat.le_trans (Nat.le_trans z4 z8) (Nat.le_of_eq g9.symm)))) nin0))
  obtain ⟨V24, h24, r24, W24, K24, hQ24, SF24⟩ := W11.callV (pc' := 47) (argsL := [(.ref a9), (.ref a2)]) (rest := []) (Wd := 0) (cells' := 7) (slots' := 16) (a := a4) (C := "java/math/MutableBigInteger") (y := N27) (z := N27) d2097_64_44 (m85_divideKnuth H a4 a9 a2 x1 r03 kp0 kr03 (1 : Int32) (0 : Int32) (1 : Int32) (0 : Int32) (0 : Int32) (0 : Int32) u1 (0 : Int32) (1 : Int32) s0 s1 s2 s3 s4 s5 s6 s7 s8 h11 W11.old e12 f13 f14 f15 q11_1 q11_2 q11_3 q11_4 e16 f17 f18 f19 e20 v21 e22 v23 (Nat.ne_of_gt (Nat.lt_of_lt_of_le A2.lt (Nat.le_trans z3 (Nat.le_of_eq g4.symm)))) (Nat.ne_of_gt (Nat.lt_of_lt_of_le A2.lt (Nat.le_trans (Nat.le_trans (Nat.le_trans z3 z4) z8) (Nat.le_of_eq g9.symm)))) (Nat.ne_of_lt (Nat.lt_of_lt_of_le E_x1.lt (Nat.le_trans (Nat.le_trans z1 z2) q3_7))) (by decide) p0 p1 p2 p3 p4 p5 p6 p7 p8 (by decide) (by decide) (by decide) (by decide) (by decide) (by decide) (by decide) p9 p10 (by decide) (by decide) p11 p12 (Nat.le_trans W11.1.2.2.2.2.2.2.2.1 (Nat.le_trans z1 (Nat.le_of_eq g2.symm))) (Nat.le_trans W11.1.2.2.2.2.2.2.2.1 (Nat.le_trans (Nat.le_trans z1 z2) q3_7))) e12 (tw175 H) (tw176 H) (Or.inl (tw178 H)) (tw178 H) (tw177 H) (tw160 H) (tw179 H) (by decide) (lenOf pd21 rfl) rfl rfl (by decide) (by decide) rfl (sfS safe0 (sfS safe0 sf0)) (allS (Or.inr (Nat.le_trans z1 (Nat.le_of_eq g2.symm))) (allS (Or.inr (Nat.le_trans (Nat.le_trans z1 z2) q3_7)) all0))
  clear W11
  obtain ⟨_, r024, r124, kr024, rfl, q24_1, q24_2, q24_3, q24_4, q24_5, q24_6, q24_7, q24_8, q24_9, q24_10, q24_11, q24_12, q24_13, q24_14⟩ := hQ24
  have z24 : h11.size ≤ h24.size := K24.1
  replace W24 := W24.cast (st' := [(.ref r024)]) rfl
  replace W24 := W24.astore (L' := #[.val (.ref x0), .val (.ref (gA 2)), .val (.ref a1), .val (.ref a2), .val (.ref a4), .val (.ref a9), .val (.ref r024)]) d2097_64_47 rfl rfl rfl
  replace W24 := W24.aloadN d2097_64_49 rfl rfl rfl
  replace W24 := W24.iconst (v := (0 : Int32)) d2097_64_50 rfl rfl
  replace W24 := W24.aloadN d2097_64_51 rfl rfl rfl
  replace W24 := W24.aloadN d2097_64_52 rfl rfl rfl
  have f25 := ((((((((F_x0_signum.ext E1).ext E2).keep K3 (ninS (Nat.ne_of_lt (Nat.lt_of_lt_of_le E_x0.lt (Nat.le_trans z1 (Nat.le_of_eq g2.symm)))) nin0)).ext E4).keep K8 (ninS (Nat.ne_of_lt (Nat.lt_of_lt_of_le E_x0.lt (Nat.le_trans (Nat.le_trans (Nat.le_trans z1 z2) z3) (Nat.le_of_eq g4.symm)))) nin0)).ext E9).keep K11 (ninS (Nat.ne_of_lt (Nat.lt_of_lt_of_le E_x0.lt (Nat.le_trans (Nat.le_trans (Nat.le_trans (Nat.le_trans (Nat.le_trans z1 z2) z3) z4) z8) (Nat.le_of_eq g9.symm)))) nin0)).keep K24 (ninS (Nat.ne_of_lt (Nat.lt_of_lt_of_le E_x0.lt (Nat.le_trans z1 (Nat.le_of_eq g2.symm)))) (ninS (Nat.ne_of_lt (Nat.lt_of_lt_of_le E_x0.lt (Nat.le_trans (Nat.le_trans z1 z2) q3_7))) nin0)))
  replace W24 := W24.getf d2097_64_53 (tw141 H) Via.refl f25 rfl
  replace W24 := W24.aloadN d2097_64_56 rfl rfl rfl
  have f26 := (gf23 H).ext W24.old.2
  replace W24 := W24.getf d2097_64_57 (tw141 H) Via.refl f26 rfl
  replace W24 := W24.icmpF (pc' := 63) d2097_64_60 (teq p13).2 rfl
  replace W24 := W24.iconst (v := (1 : Int32)) d2097_64_63 rfl rfl
  replace W24 := W24.goto (pc' := 68) d2097_64_64 (by decide) (by decide)
  obtain ⟨V27, h27, r27, W27, K27, hQ27, SF27⟩ := W24.callV (pc' := 71) (argsL := [(.int (1 : Int32))]) (rest := [(.int (0 : Int32)), (.ref a1)]) (Wd := 2) (cells' := 8) (slots' := 22) (a := a2) (C := "java/math/MutableBigInteger") (y := N30) (z := N30) d2097_64_68 (m43_toBigInteger H a2 r03 kr03 (1 : Int32) (1 : Int32) (0 : Int32) s4 h24 W24.old q24_6 q24_7 q24_8 q24_9 q24_10 q24_11 (by decide) (by decide) (by decide) (by decide)) q24_6 (tw193 H) (tw194 H) (Or.inl (tw196 H)) (tw196 H) (tw195 H) (tw160 H) (tw197 H) (by decide) (lenOf pd24 rfl) rfl rfl (by decide) (by decide) rfl sf0 all0
  clear W24
  obtain ⟨_, r027, rfl, q27_1, q27_2, q27_3, q27_4, q27_5⟩ := hQ27
  have z27 : h24.size ≤ h27.size := K27.1
  replace W27 := W27.cast (st' := [(.ref r027), (.int (0 : Int32)), (.ref a1)]) rfl
  have v28 := ((((((((v1.ext E2).keep K3 (ninS (Nat.ne_of_lt (Nat.lt_of_lt_of_le v1.lt (Nat.le_of_eq g2.symm))) nin0)).ext E4).keep K8 (ninS (Nat.ne_of_lt (Nat.lt_of_lt_of_le v1.lt (Nat.le_trans (Nat.le_trans z2 z3) (Nat.le_of_eq g4.symm)))) nin0)).ext E9).keep K11 (ninS (Nat.ne_of_lt (Nat.lt_of_lt_of_le v1.lt (Nat.le_trans (Nat.le_trans (Nat.le_trans (Nat.le_trans z2 z3) z4) z8) (Nat.le_of_eq g9.symm)))) nin0)).keep K24 (ninS (Nat.ne_of_lt (Nat.lt_of_lt_of_le v1.lt (Nat.le_of_eq g2.symm))) (ninS (Nat.ne_of_lt (Nat.lt_of_lt_of_le v1.lt (Nat.le_trans z2 q3_7))) nin0))).keep K27 nin0)
  obtain ⟨h29, W29, w29, A29, SF29⟩ := W27.aastore (pc' := 72) (i := 0) d2097_64_71 v28 rfl O1 (Ins.self q27_1) ⟨by decide, by decide⟩ rfl (by show 0 < 2; decide) rfl safe0 (Or.inr (Nat.le_of_eq g1.symm)) rfl
  clear W27
  have z29 : h27.size ≤ h29.size := Nat.le_of_eq w29.size.symm
  have v29 : Arv Z h29 a1 k1 (.object "java/math/BigInteger") (2 : Int32) [(.ref r027), .null] .null := A29
  replace W29 := W29.aloadN d2097_64_72 rfl rfl rfl
  replace W29 := W29.iconst (v := (1 : Int32)) d2097_64_73 rfl rfl
  replace W29 := W29.aload d2097_64_74 rfl rfl rfl
  replace W29 := W29.aloadN d2097_64_76 rfl rfl rfl
  have f30 := ((f25.keep K27 nin0).other w29 (Or.inl (Nat.ne_of_lt (Nat.lt_of_lt_of_le E_x0.lt (Nat.le_of_eq g1.symm)))))
  replace W29 := W29.getf d2097_64_77 (tw141 H) Via.refl f30 rfl
  have f31 := ((q24_2.keep K27 nin0).other w29 (Or.inl (Nat.ne_of_gt (Nat.lt_of_lt_of_le v1.lt (Nat.le_trans (Nat.le_trans (Nat.le_trans (Nat.le_trans (Nat.le_trans (Nat.le_trans z2 z3) z4) z8) z9) z11) q24_5)))))
  have e33 := ((q24_1.keep K27).wr w29)
  obtain ⟨V32, h32, r32, W32, K32, hQ32, SF32⟩ := W29.callV (pc' := 83) (argsL := [(.int u0)]) (rest := [(.int (1 : Int32)), (.ref a1)]) (Wd := 2) (cells' := 8) (slots' := 22) (a := r024) (C := "java/math/MutableBigInteger") (y := N30) (z := N30) d2097_64_80 (m46_toBigInteger H r024 u0 (0 : Int32) h29 W29.old f31 (by decide)) e33 (tw193 H) (tw194 H) (Or.inl (tw196 H)) (tw196 H) (tw195 H) (tw160 H) (tw197 H) (by decide) (lenOf pd24 rfl) rfl rfl (by decide) (by decide) rfl sf0 all0
  clear W29
  obtain ⟨_, rfl, hs32⟩ := hQ32
  subst hs32
  replace W32 := W32.cast (st' := [(.ref (gA 4)), (.int (1 : Int32)), (.ref a1)]) rfl
  have e34 := (gf7 H).ext W32.old.2
  obtain ⟨h35, W35, w35, A35, SF35⟩ := W32.aastore (pc' := 84) (i := 1) d2097_64_83 v29 rfl O1 (Ins.self e34) ⟨by decide, by decide⟩ rfl (by show 1 < 2; decide) rfl safe0 (Or.inr (Nat.le_of_eq g1.symm)) rfl
  clear W32
  have z35 : h29.size ≤ h35.size := Nat.le_of_eq w35.size.symm
  have v35 : Arv Z h35 a1 k1 (.object "java/math/BigInteger") (2 : Int32) [(.ref r027), (.ref (gA 4))] .null := A35
  replace W35 := W35.aloadN d2097_64_84 rfl rfl rfl
  have e36 := ((((((((((B1.ext E2).keep K3).ext E4).keep K8).ext E9).keep K11).keep K24).keep K27).wr w29).wr w35)
  have e37 := ((q27_1.wr w29).wr w35)
  have f38 := ((q27_2.other w29 (Or.inl (Nat.ne_of_gt (Nat.lt_of_lt_of_le v1.lt (Nat.le_trans (Nat.le_trans (Nat.le_trans (Nat.le_trans (Nat.le_trans (Nat.le_trans (Nat.le_trans z2 z3) z4) z8) z9) z11) z24) q27_5))))).other w35 (Or.inl (Nat.ne_of_gt (Nat.lt_of_lt_of_le v1.lt (Nat.le_trans (Nat.le_trans (Nat.le_trans (Nat.le_trans (Nat.le_trans (Nat.le_trans (Nat.le_trans z2 z3) z4) z8) z9) z11) z24) q27_5)))))
  have f39 := ((q27_3.other w29 (Or.inl (Nat.ne_of_gt (Nat.lt_of_lt_of_le v1.lt (Nat.le_trans (Nat.le_trans (Nat.le_trans (Nat.le_trans (Nat.le_trans (Nat.le_trans (Nat.le_trans z2 z3) z4) z8) z9) z11) z24) q27_5))))).other w35 (Or.inl (Nat.ne_of_gt (Nat.lt_of_lt_of_le v1.lt (Nat.le_trans (Nat.le_trans (Nat.le_trans (Nat.le_trans (Nat.le_trans (Nat.le_trans (Nat.le_trans z2 z3) z4) z8) z9) z11) z24) q27_5)))))
  have f40 := ((q27_4.other w29 (Or.inl (Nat.ne_of_gt (Nat.lt_of_lt_of_le v1.lt (Nat.le_trans (Nat.le_trans (Nat.le_trans (Nat.le_trans (Nat.le_trans (Nat.le_trans (Nat.le_trans z2 z3) z4) z8) z9) z11) z24) q27_5))))).other w35 (Or.inl (Nat.ne_of_gt (Nat.lt_of_lt_of_le v1.lt (Nat.le_trans (Nat.le_trans (Nat.le_trans (Nat.le_trans (Nat.le_trans (Nat.le_trans (Nat.le_trans z2 z3) z4) z8) z9) z11) z24) q27_5)))))
  have e41 := (((q24_10.keep K27).wr w29).wr w35)
  have v42 := (((q24_11.keep K27 nin0).other w29 (Nat.ne_of_gt (Nat.lt_of_lt_of_le v1.lt (Nat.le_trans z2 q3_7)))).other w35 (Nat.ne_of_gt (Nat.lt_of_lt_of_le v1.lt (Nat.le_trans z2 q3_7))))
  exact W35.aret (t := (.array (.object "java/math/BigInteger"))) d2097_64_85 rfl rfl rfl rfl (by decide) (by decide) (fun V' cv => ⟨a1, r027, r03, k1, kr03, rfl, e36, v35, (Nat.le_of_eq g1.symm), e37, f38, f39, f40, (Nat.le_trans (Nat.le_trans (Nat.le_trans (Nat.le_trans (Nat.le_trans (Nat.le_trans (Nat.le_trans (Nat.le_trans z1 z2) z3) z4) z8) z9) z11) z24) q27_5), e41, v42, (Nat.le_trans (Nat.le_trans z1 z2) q3_7)⟩)
theorem m83_divideAndRemainder (H : Cx Z a0 gA gK) (x0 x1 : Addr) (kp0 : ClassId) (u1 u2 s0 : Int32) (s1 s2 s3 : Int64) (s4 : Int32) (s5 s6 s7 : Int64) (s8 : Int32) (h0 : Heap) (hO : Old Z n0 h0) (E_x0 : Exa Z h0 x0 "java/math/BigInteger") (F_x0_mag : Fld Z h0 x0 "java/math/BigInteger" "mag" "[I" (.ref x1)) (F_x0_signum : Fld Z h0 x0 "java/math/BigInteger" "signum" "I" (.int u1)) (E_x1 : Exa Z h0 x1 "[I") (V_x1 : Arv Z h0 x1 kp0 .int (1 : Int32) [(.int u2)] (.int (0 : Int32))) (p0 : (u2 + (-2147483648 : Int32)) = s0) (p1 : (u2.toInt64) = s1) (p2 : (s1 &&& (4294967295 : Int64)) = s2) (p3 : (s2 / (1000000000 : Int64)) = s3) (p4 : (s3.toInt32) = s4) (p5 : (s4.toInt64) = s5) (p6 : (s5 * (1000000000 : Int64)) = s6) (p7 : (s2 - s6) = s7) (p8 : (s7.toInt32) = s8) (p9 : ¬ (s0 < (-1147483648 : Int32))) (p10 : (-1147483648 : Int32) < s0) (p11 : ¬ (s4 = (0 : Int32))) (p12 : s8 = (0 : Int32)) (p13 : u1 = (1 : Int32)) : Con l Z [] n0 N32 jdk_2097_method_63_code 2 (some (.array (.object "java/math/BigInteger"))) (Rm 5 8 22 77) #[(.ref x0), (.ref (gA 2))] h0 [] (fun v h V' => ∃ (r0 : Addr) (r1 : Addr) (r2 : Addr) (kr0 : ClassId) (kr1 : ClassId), v = some (.ref r0) ∧ Exa Z h r0 "[Ljava/math/BigInteger;" ∧ Arv Z h r0 kr0 (.object "java/math/BigInteger") (2 : Int32) [(.ref r1), (.ref (gA 4))] .null ∧ h0.size ≤ r0 ∧ Exa Z h r1 "java/math/BigInteger" ∧ Fld Z h r1 "java/math/BigInteger" "bitLengthPlusOne" "I" (.int (0 : Int32)) ∧ Fld Z h r1 "java/math/BigInteger" "mag" "[I" (.ref r2) ∧ Fld Z h r1 "java/math/BigInteger" "signum" "I" (.int (1 : Int32)) ∧ h0.size ≤ r1 ∧ Exa Z h r2 "[I" ∧ Arv Z h r2 kr1 .int (1 : Int32) [(.int s4)] (.int (0 : Int32)) ∧ h0.size ≤ r2) [] := by
  refine Con.of (a0 := a0) (L0 := #[.val (.ref x0), .val (.ref (gA 2))]) pf32 (fun _ => rfl) all0 hO EW.nil ?_
  intro p e s m below meth c S0 hnm hsf W
  replace W := W.aloadN d2097_63_0 rfl rfl rfl
  have f1 := (gf22 H).ext W.old.2
  replace W := W.getf d2097_63_1 (tw144 H) Via.refl f1 rfl
  have v2 := (gf36 H).ext W.old.2
  replace W := W.alen d2097_63_4 v2 rfl
  replace W := W.bipush (v := (80 : Int32)) d2097_63_5 rfl rfl
  replace W := W.icmpT (pc' := 26) d2097_63_7 (tlt (by decide : (1 : Int32) < (80 : Int32))).1 (by decide) (by decide)
  replace W := W.aloadN d2097_63_26 rfl rfl rfl
  replace W := W.aloadN d2097_63_27 rfl rfl rfl
  obtain ⟨V3, h3, r3, W3, K3, hQ3, SF3⟩ := W.callP (pc' := 31) (argsL := [(.ref (gA 2))]) (rest := []) (Wd := 0) (cells' := 8) (slots' := 22) (a := x0) (C := "java/math/BigInteger") (y := N31) d2097_63_28 (m90_divideAndRemainderKnuth H x0 x1 kp0 u1 u2 s0 s1 s2 s3 s4 s5 s6 s7 s8 h0 W.old E_x0 F_x0_mag F_x0_signum E_x1 V_x1 p0 p1 p2 p3 p4 p5 p6 p7 p8 p9 p10 p11 p12 p13) E_x0 (tw152 H) (tw153 H) (tw155 H) (tw154 H) (tw130 H) (tw156 H) (by decide) (lenOf pd25 rfl) rfl rfl (by decide) (by decide) rfl sf0 all0
  clear W
  obtain ⟨_, r03, r13, r23, kr03, kr13, rfl, q3_1, q3_2, q3_3, q3_4, q3_5, q3_6, q3_7, q3_8, q3_9, q3_10, q3_11⟩ := hQ3
  have z3 : h0.size ≤ h3.size := K3.1
  replace W3 := W3.cast (st' := [(.ref r03)]) rfl
  exact W3.aret (t := (.array (.object "java/math/BigInteger"))) d2097_63_31 rfl rfl rfl rfl (by decide) (by decide) (fun V' cv => ⟨r03, r13, r23, kr03, kr13, rfl, q3_1, q3_2, q3_3, q3_4, q3_5, q3_6, q3_7, q3_8, q3_9, q3_10, q3_11⟩)
theorem m82_create (H : Cx Z a0 gA gK) (x0 : Addr) (u0 : Int64) (u2 : Int32) (s0 s1 : Int64) (s2 : Int32) (s3 s4 : Int64) (s5 s6 s7 : Int32) (s8 s9 s10 : Int64) (s11 : Int32) (s12 s13 s14 : Int64) (s15 s16 s17 s18 s19 s20 : Int32) (s21 s22 s23 s24 s25 s26 s27 : Int64) (h0 : Heap) (hO : Old Z n0 h0) (E_x0 : Exa Z h0 x0 "java/math/BigDecimal") (F_x0_intCompact : Fld Z h0 x0 "java/math/BigDecimal" "intCompact" "J" (.long u0)) (F_x0_intVal : Fld Z h0 x0 "java/math/BigDecimal" "intVal" "Ljava/math/BigInteger;" .null) (F_x0_scale : Fld Z h0 x0 "java/math/BigDecimal" "scale" "I" (.int u2)) (p0 : (u2.toInt64) = s0) (p1 : (s0 - (9 : Int64)) = s1) (p2 : (s1.toInt32) = s2) (p3 : (s2.toInt64) = s3) (p4 : (Jvm.Free.XT.cmpL s3 s1) = (0 : Int32)) (p5 : ¬ (s2 < (0 : Int32))) (p6 : (Jvm.Free.XT.ushrL u0 (32 : Int32)) = s4) (p7 : (s4.toInt32) = s5) (p8 : (u0.toInt32) = s6) (p9 : (0 : Int32) = s2) (p10 : (Jvm.Free.XT.cmpL u0 (0 : Int64)) = (1 : Int32)) (p11 : (Jvm.Free.XT.cmpL u0 (16 : Int64)) = (1 : Int32)) (p12 : s5 = (0 : Int32)) (p13 : (s6 + (-2147483648 : Int32)) = s7) (p14 : (s6.toInt64) = s8) (p15 : (s8 &&& (4294967295 : Int64)) = s9) (p16 : (s9 / (1000000000 : Int64)) = s10) (p17 : (s10.toInt32) = s11) (p18 : (s11.toInt64) = s12) (p19 : (s12 * (1000000000 : Int64)) = s13) (p20 : (s9 - s13) = s14) (p21 : (s14.toInt32) = s15) (p22 : ¬ (s7 < (-1147483648 : Int32))) (p23 : (-1147483648 : Int32) < s7) (p24 : ¬ (s11 = (0 : Int32))) (p25 : s15 = (0 : Int32)) (p26 : (Jvm.Free.XT.ushr s11 (1 : Int32)) = s16) (p27 : ((31 : Int32) - s16) = s17) (p28 : ((32 : Int32) - s17) = s18) (p29 : ((0 : Int32) + s18) = s19) (p30 : (s19 + (1 : Int32)) = s20) (p31 : (0 : Int32) < s11) (p32 : s11 < (65536 : Int32)) (p33 : s11 < (256 : Int32)) (p34 : s11 < (16 : Int32)) (p35 : s11 < (4 : Int32)) (p36 : ¬ ((63 : Int32) < s19)) (p37 : (s12 &&& (4294967295 : Int64)) = s21) (p38 : ((0 : Int64) + s21) = s22) (p39 : (s22 + (0 : Int64)) = s23) (p40 : (s22 ^^^ s23) = s24) (p41 : ((0 : Int64) ^^^ s23) = s25) (p42 : (s24 &&& s25) = s26) (p43 : (s23 ||| (0 : Int64)) = s27) (p44 : (Jvm.Free.XT.cmpL s26 (0 : Int64)) = (0 : Int32)) (p45 : (Jvm.Free.XT.cmpL s27 (0 : Int64)) = (1 : Int32)) : Con l Z [] n0 N46 jdk_2316_method_48_code 3 (some (.object "java/time/Duration")) (Rm 6 12 36 90) #[(.ref x0)] h0 [] (fun v h V' => ∃ (r0 : Addr), v = some (.ref r0) ∧ Exa Z h r0 "java/time/Duration" ∧ Fld Z h r0 "java/time/Duration" "nanos" "I" (.int (0 : Int32)) ∧ Fld Z h r0 "java/time/Duration" "seconds" "J" (.long s23) ∧ h0.size ≤ r0) [] := by
  refine Con.of (a0 := a0) (L0 := #[.val (.ref x0), .unset, .unset]) pf46 (fun _ => rfl) all0 hO EW.nil ?_
  intro p e s m below meth c S0 hnm hsf W
  replace W := W.aloadN d2316_48_0 rfl rfl rfl
  replace W := W.bipush (v := (9 : Int32)) d2316_48_1 rfl rfl
  obtain ⟨V1, h1, r1, W1, K1, hQ1, SF1⟩ := W.callV (pc' := 6) (argsL := [(.int (9 : Int32))]) (rest := []) (Wd := 0) (cells' := 1) (slots' := 5) (a := x0) (C := "java/math/BigDecimal") (y := N17) (z := N17) d2316_48_3 (m67_movePointRight H x0 (9 : Int32) u0 u2 s0 (9 : Int64) s1 s2 s3 h0 W.old E_x0 F_x0_intCompact F_x0_intVal F_x0_scale (by decide) p0 (by decide) p1 p2 p3 p4 p5) E_x0 (tw108 H) (tw109 H) (Or.inl (tw111 H)) (tw111 H) (tw110 H) (tw34 H) (tw112 H) (by decide) (lenOf pd13 rfl) rfl rfl (by decide) (by decide) rfl sf0 all0
  clear W
  obtain ⟨_, r01, rfl, q1_1, q1_2, q1_3, q1_4, q1_5, q1_6⟩ := hQ1
  have z1 : h0.size ≤ h1.size := K1.1
  replace W1 := W1.cast (st' := [(.ref r01)]) rfl
  obtain ⟨V2, h2, r2, W2, K2, hQ2, SF2⟩ := W1.callV (pc' := 9) (argsL := []) (rest := []) (Wd := 0) (cells' := 3) (slots' := 12) (a := r01) (C := "java/math/BigDecimal") (y := N22) (z := N22) d2316_48_6 (m25_toBigIntegerExact H r01 u0 s2 s4 s5 s6 h1 W1.old q1_1 q1_2 q1_3 q1_5 p9 p6 p7 p8 p10 p11 p12) q1_1 (tw113 H) (tw114 H) (Or.inl (tw116 H)) (tw116 H) (tw115 H) (tw34 H) (tw117 H) (by decide) (lenOf pd17 rfl) rfl rfl (by decide) (by decide) rfl sf0 all0
  clear W1
  obtain ⟨_, r02, r12, kr02, rfl, q2_1, q2_2, q2_3, q2_4, q2_5, q2_6, q2_7, q2_8⟩ := hQ2
  have z2 : h1.size ≤ h2.size := K2.1
  replace W2 := W2.cast (st' := [(.ref r02)]) rfl
  replace W2 := W2.astoreN (L' := #[.val (.ref x0), .val (.ref r02), .unset]) d2316_48_9 rfl rfl rfl
  replace W2 := W2.aloadN d2316_48_10 rfl rfl rfl
  replace W2 := W2.gets d2316_48_11 (tw146 H) (gf35 H) rfl
  obtain ⟨V3, h3, r3, W3, K3, hQ3, SF3⟩ := W2.callV (pc' := 17) (argsL := [(.ref (gA 2))]) (rest := []) (Wd := 0) (cells' := 11) (slots' := 34) (a := r02) (C := "java/math/BigInteger") (y := N32) (z := N32) d2316_48_14 (m83_divideAndRemainder H r02 r12 kr02 (1 : Int32) s6 s7 s8 s9 s10 s11 s12 s13 s14 s15 h2 W2.old q2_1 q2_3 q2_4 q2_6 q2_7 p13 p14 p15 p16 p17 p18 p19 p20 p21 p22 p23 p24 p25 (by decide)) q2_1 (tw147 H) (tw148 H) (Or.inl (tw150 H)) (tw150 H) (tw149 H) (tw130 H) (tw151 H) (by decide) (lenOf pd25 rfl) rfl rfl (by decide) (by decide) rfl sf0 all0
  clear W2
  obtain ⟨_, r03, r13, r23, kr03, kr13, rfl, q3_1, q3_2, q3_3, q3_4, q3_5, q3_6, q3_7, q3_8, q3_9, q3_10, q3_11⟩ := hQ3
  have z3 : h2.size ≤ h3.size := K3.1
  replace W3 := W3.cast (st' := [(.ref r03)]) rfl
  replace W3 := W3.astoreN (L' := #[.val (.ref x0), .val (.ref r02), .val (.ref r03)]) d2316_48_17 rfl rfl rfl
  replace W3 := W3.aloadN d2316_48_18 rfl rfl rfl
  replace W3 := W3.iconst (v := (0 : Int32)) d2316_48_19 rfl rfl
  replace W3 := W3.aaload (w := (.ref r13)) d2316_48_20 q3_2 rfl ⟨by decide, by decide⟩ rfl rfl
  obtain ⟨V4, h4, r4, W4, K4, hQ4, SF4⟩ := W3.callV (pc' := 24) (argsL := []) (rest := []) (Wd := 0) (cells' := 11) (slots' := 34) (a := r13) (C := "java/math/BigInteger") (y := N35) (z := N35) d2316_48_21 (m48_bitLength H r13 r23 kr13 (0 : Int32) (1 : Int32) s11 (-1 : Int32) s16 s17 s18 s19 s20 h3 W3.old q3_4 q3_5 q3_6 q3_7 q3_10 (by decide) (by decide) p26 p27 p28 p31 p32 p33 p34 p35 p29 (by decide) p30 (Nat.le_trans W3.1.2.2.2.2.2.2.2.1 (Nat.le_trans (Nat.le_trans z1 z2) q3_8))) q3_4 (tw209 H) (tw210 H) (Or.inl (tw212 H)) (tw212 H) (tw211 H) (tw130 H) (tw213 H) (by decide) (lenOf pd27 rfl) rfl rfl (by decide) (by decide) rfl (sfS safe0 sf0) (allS (Or.inr (Nat.le_trans (Nat.le_trans z1 z2) q3_8)) all0)
  clear W3
  obtain ⟨_, rfl, q4_1, q4_2, q4_3, q4_4⟩ := hQ4
  have z4 : h3.size ≤ h4.size := K4.1
  replace W4 := W4.cast (st' := [(.int s19)]) rfl
  replace W4 := W4.bipush (v := (63 : Int32)) d2316_48_24 rfl rfl
  replace W4 := W4.icmpT (pc' := 57) d2316_48_26 (flt p36).2.2.2 (by decide) (by decide)
  replace W4 := W4.aloadN d2316_48_57 rfl rfl rfl
  replace W4 := W4.iconst (v := (0 : Int32)) d2316_48_58 rfl rfl
  have v5 := (q3_2.keep K4 (ninS (Exa.ne (q3_1.keep K4) q4_1 (by decide)) nin0))
  replace W4 := W4.aaload (w := (.ref r13)) d2316_48_59 v5 rfl ⟨by decide, by decide⟩ rfl rfl
  have v6 := (q3_10.keep K4 (ninS (Exa.ne (q3_9.keep K4) q4_1 (by decide)) nin0))
  obtain ⟨V7, h7, r7, W7, K7, hQ7, SF7⟩ := W4.callV (pc' := 63) (argsL := []) (rest := []) (Wd := 0) (cells' := 11) (slots' := 34) (a := r13) (C := "java/math/BigInteger") (y := N38) (z := N38) d2316_48_60 (m51_longValue H r13 r23 kr13 (1 : Int32) s11 s12 s21 s22 h4 W4.old q4_1 q4_3 q4_4 v6 (by decide) p18 p37 p38) q4_1 (tw224 H) (tw225 H) (Or.inl (tw227 H)) (tw227 H) (tw226 H) (tw130 H) (tw228 H) (by decide) (lenOf pd28 rfl) rfl rfl (by decide) (by decide) rfl sf0 all0
  clear W4
  obtain ⟨_, rfl, hs7⟩ := hQ7
  subst hs7
  replace W7 := W7.cast (st' := [(.long s22)]) rfl
  replace W7 := W7.aloadN d2316_48_63 rfl rfl rfl
  replace W7 := W7.iconst (v := (1 : Int32)) d2316_48_64 rfl rfl
  replace W7 := W7.aaload (w := (.ref (gA 4))) d2316_48_65 v5 rfl ⟨by decide, by decide⟩ rfl rfl
  have e8 := (gf7 H).ext W7.old.2
  obtain ⟨V9, h9, r9, W9, K9, hQ9, SF9⟩ := W7.callV (pc' := 69) (argsL := []) (rest := [(.long s22)]) (Wd := 2) (cells' := 11) (slots' := 34) (a := (gA 4)) (C := "java/math/BigInteger") (y := N39) (z := N39) d2316_48_66 (m58_intValue H h4 W7.old) e8 (tw240 H) (tw241 H) (Or.inl (tw243 H)) (tw243 H) (tw242 H) (tw130 H) (tw244 H) (by decide) (lenOf pd27 rfl) rfl rfl (by decide) (by decide) rfl sf0 all0
  clear W7
  obtain ⟨_, rfl, hs9⟩ := hQ9
  subst hs9
  replace W9 := W9.cast (st' := [(.int (0 : Int32)), (.long s22)]) rfl
  replace W9 := W9.i2l (v := (0 : Int64)) d2316_48_69 (by decide) rfl
  obtain ⟨V10, h10, r10, W10, K10, hQ10, SF10⟩ := W9.callS (pc' := 73) (argsL := [(.long s22), (.long (0 : Int64))]) (rest := []) (Wd := 0) (cells' := 12) (slots' := 36) (y := N45) d2316_48_70 (m61_ofSeconds H s22 (0 : Int64) (0 : Int64) (1000000000 : Int64) s23 s24 s25 s26 (0 : Int64) (0 : Int32) (0 : Int64) s27 h4 W9.old (by decide) (by decide) (by decide) p39 p40 p41 p42 p44 (by decide) (by decide) (by decide) p43 p45) (tw245 H) (tw246 H) (tw23 H) (tw247 H) (by decide) (lenOf pd31 rfl) rfl rfl (by decide) (by decide) rfl sf0 all0
  clear W9
  obtain ⟨_, r010, rfl, q10_1, q10_2, q10_3, q10_4⟩ := hQ10
  have z10 : h4.size ≤ h10.size := K10.1
  replace W10 := W10.cast (st' := [(.ref r010)]) rfl
  exact W10.aret (t := (.object "java/time/Duration")) d2316_48_73 rfl rfl rfl rfl (by decide) (by decide) (fun V' cv => ⟨r010, rfl, q10_1, q10_2, q10_3, (Nat.le_trans (Nat.le_trans (Nat.le_trans (Nat.le_trans z1 z2) z3) z4) q10_4)⟩)
theorem m74_multipliedBy (H : Cx Z a0 gA gK) (x0 : Addr) (u0 : Int64) (u1 : Int32) (u2 : Int64) (s0 : Int32) (s1 : Int64) (s2 : Int32) (h0 : Heap) (hO : Old Z n0 h0) (E_x0 : Exa Z h0 x0 "java/time/Duration") (F_x0_nanos : Fld Z h0 x0 "java/time/Duration" "nanos" "I" (.int u1)) (F_x0_seconds : Fld Z h0 x0 "java/time/Duration" "seconds" "J" (.long u2)) (p0 : (Jvm.Free.XT.cmpL u0 (0 : Int64)) = (1 : Int32)) (p1 : (Jvm.Free.XT.cmpL u0 (1 : Int64)) = (1 : Int32)) (p2 : (u2.toInt32) = s0) (p3 : (u1.toInt64) = s1) (p4 : (Jvm.Free.XT.cmpL u2 (0 : Int64)) = (1 : Int32)) (p5 : (Jvm.Free.XT.cmpL u2 (11 : Int64)) = (-1 : Int32)) (p6 : s0 = (1 : Int32)) (p7 : (Jvm.Free.XT.cmpL s1 (0 : Int64)) = (0 : Int32)) (p8 : (u0.toInt32) = s2) (p9 : (Jvm.Free.XT.cmpL u0 (11 : Int64)) = (-1 : Int32)) (p10 : s2 = (2 : Int32)) : Con l Z [] n0 N47 jdk_2316_method_44_code 3 (some (.object "java/time/Duration")) (Rm 8 14 46 122) #[(.ref x0), (.long u0)] h0 [] (fun v h V' => ∃ (r0 : Addr), v = some (.ref r0) ∧ Exa Z h r0 "java/time/Duration" ∧ Fld Z h r0 "java/time/Duration" "nanos" "I" (.int (0 : Int32)) ∧ Fld Z h r0 "java/time/Duration" "seconds" "J" (.long (2 : Int64)) ∧ h0.size ≤ r0) [] := by
  refine Con.of (a0 := a0) (L0 := #[.val (.ref x0), .val (.long u0), .second]) pf47 (fun _ => rfl) all0 hO EW.nil ?_
  intro p e s m below meth c S0 hnm hsf W
  replace W := W.lloadN d2316_44_0 rfl rfl
  replace W := W.lconst (v := (0 : Int64)) d2316_44_1 rfl rfl
  replace W := W.lcmp (v := (1 : Int32)) d2316_44_2 p0 rfl
  replace W := W.ifT (pc' := 10) d2316_44_3 (feq (by decide : ¬ ((1 : Int32) = (0 : Int32)))).2 (by decide) (by decide)
  replace W := W.lloadN d2316_44_10 rfl rfl
  replace W := W.lconst (v := (1 : Int64)) d2316_44_11 rfl rfl
  replace W := W.lcmp (v := (1 : Int32)) d2316_44_12 p1 rfl
  replace W := W.ifT (pc' := 18) d2316_44_13 (feq (by decide : ¬ ((1 : Int32) = (0 : Int32)))).2 (by decide) (by decide)
  replace W := W.aloadN d2316_44_18 rfl rfl rfl
  obtain ⟨V1, h1, r1, W1, K1, hQ1, SF1⟩ := W.callP (pc' := 22) (argsL := []) (rest := []) (Wd := 0) (cells' := 1) (slots' := 5) (a := x0) (C := "java/time/Duration") (y := N11) d2316_44_19 (m75_toBigDecimalSeconds H x0 u1 u2 s0 s1 h0 W.old F_x0_nanos F_x0_seconds p2 p4 p5 p6 p3 p7) E_x0 (tw25 H) (tw26 H) (tw28 H) (tw27 H) (tw23 H) (tw29 H) (by decide) (lenOf pd10 rfl) rfl rfl (by decide) (by decide) rfl sf0 all0
  clear W
  obtain ⟨_, r01, rfl, q1_1, q1_2, q1_3, q1_4, q1_5, q1_6⟩ := hQ1
  have z1 : h0.size ≤ h1.size := K1.1
  replace W1 := W1.cast (st' := [(.ref r01)]) rfl
  replace W1 := W1.lloadN d2316_44_22 rfl rfl
  obtain ⟨V2, h2, r2, W2, K2, hQ2, SF2⟩ := W1.callS (pc' := 26) (argsL := [(.long u0)]) (rest := [(.ref r01)]) (Wd := 1) (cells' := 1) (slots' := 5) (y := N1) d2316_44_23 (m15_valueOf H u0 s2 h1 W1.old p0 p9 p8 p10) (tw32 H) (tw33 H) (tw34 H) (tw35 H) (by decide) (lenOf pd1 rfl) rfl rfl (by decide) (by decide) rfl sf0 all0
  clear W1
  obtain ⟨_, rfl, hs2⟩ := hQ2
  subst hs2
  replace W2 := W2.cast (st' := [(.ref (gA 12)), (.ref r01)]) rfl
  obtain ⟨V3, h3, r3, W3, K3, hQ3, SF3⟩ := W2.callV (pc' := 29) (argsL := [(.ref (gA 12))]) (rest := []) (Wd := 0) (cells' := 2) (slots' := 10) (a := r01) (C := "java/math/BigDecimal") (y := N16) (z := N16) d2316_44_26 (m16_multiply H r01 (1000000000 : Int64) (9 : Int32) (9 : Int64) (9 : Int64) (9 : Int32) (9 : Int64) (2000000000 : Int64) (1000000002 : Int64) (0 : Int64) h1 W2.old q1_1 q1_2 q1_5 (by decide) (by decide) (by decide) (by decide) (by decide) (by decide) (by decide) (by decide) (by decide) (by decide) (by decide) (by decide) (by decide) (by decide)) q1_1 (tw85 H) (tw86 H) (Or.inl (tw88 H)) (tw88 H) (tw87 H) (tw34 H) (tw89 H) (by decide) (lenOf pd9 rfl) rfl rfl (by decide) (by decide) rfl sf0 all0
  clear W2
  obtain ⟨_, r03, rfl, q3_1, q3_2, q3_3, q3_4, q3_5, q3_6⟩ := hQ3
  have z3 : h1.size ≤ h3.size := K3.1
  replace W3 := W3.cast (st' := [(.ref r03)]) rfl
  obtain ⟨V4, h4, r4, W4, K4, hQ4, SF4⟩ := W3.callS (pc' := 32) (argsL := [(.ref r03)]) (rest := []) (Wd := 0) (cells' := 14) (slots' := 46) (y := N46) d2316_44_29 (m82_create H r03 (2000000000 : Int64) (9 : Int32) (9 : Int64) (0 : Int64) (0 : Int32) (0 : Int64) (0 : Int64) (0 : Int32) (2000000000 : Int32) (-147483648 : Int32) (2000000000 : Int64) (2000000000 : Int64) (2 : Int64) (2 : Int32) (2 : Int64) (2000000000 : Int64) (0 : Int64) (0 : Int32) (1 : Int32) (30 : Int32) (2 : Int32) (2 : Int32) (3 : Int32) (2 : Int64) (2 : Int64) (2 : Int64) (0 : Int64) (2 : Int64) (0 : Int64) (2 : Int64) h3 W3.old q3_1 q3_2 q3_3 q3_5 (by decide) (by decide) (by decide) (by decide) (by decide) (by decide) (by decide) (by decide) (by decide) (by decide) (by decide) (by decide) (by decide) (by decide) (by decide) (by decide) (by decide) (by decide) (by decide) (by decide) (by decide) (by decide) (by decide) (by decide) (by decide) (by decide) (by decide) (by decide) (by decide) (by decide) (by decide) (by decide) (by decide) (by decide) (by decide) (by decide) (by decide) (by decide) (by decide) (by decide) (by decide) (by decide) (by decide) (by decide) (by decide) (by decide)) (tw105 H) (tw106 H) (tw23 H) (tw107 H) (by decide) (lenOf pd32 rfl) rfl rfl (by decide) (by decide) rfl sf0 all0
  clear W3
  obtain ⟨_, r04, rfl, q4_1, q4_2, q4_3, q4_4⟩ := hQ4
  have z4 : h3.size ≤ h4.size := K4.1
  replace W4 := W4.cast (st' := [(.ref r04)]) rfl
  exact W4.aret (t := (.object "java/time/Duration")) d2316_44_32 rfl rfl rfl rfl (by decide) (by decide) (fun V' cv => ⟨r04, rfl, q4_1, q4_2, q4_3, (Nat.le_trans (Nat.le_trans z1 z3) q4_4)⟩)
theorem m73_next (H : Cx Z a0 gA gK) (x0 x1 : Addr) (u0 : Int32) (u1 : Int64) (s0 : Int32) (s1 : Int64) (h0 : Heap) (hO : Old Z n0 h0) (E_x0 : Exa Z h0 x0 "com/example/letters_between_tasks/lettersbetweentasks/service/Backoff") (F_x0_next : Fld Z h0 x0 "com/example/letters_between_tasks/lettersbetweentasks/service/Backoff" "next" "Ljava/time/Duration;" (.ref x1)) (E_x1 : Exa Z h0 x1 "java/time/Duration") (F_x1_nanos : Fld Z h0 x1 "java/time/Duration" "nanos" "I" (.int u0)) (F_x1_seconds : Fld Z h0 x1 "java/time/Duration" "seconds" "J" (.long u1)) (p0 : (u1.toInt32) = s0) (p1 : (u0.toInt64) = s1) (p2 : (Jvm.Free.XT.cmpL u1 (0 : Int64)) = (1 : Int32)) (p3 : (Jvm.Free.XT.cmpL u1 (11 : Int64)) = (-1 : Int32)) (p4 : s0 = (1 : Int32)) (p5 : (Jvm.Free.XT.cmpL s1 (0 : Int64)) = (0 : Int32)) (g_x0 : n0 ≤ x0) : Con l Z [] n0 N50 prog_13_method_2_code 3 (some (.object "java/time/Duration")) (Rm 9 14 46 136) #[(.ref x0)] h0 [x0] (fun v h V' => ∃ (r0 : Addr), v = some (.ref x1) ∧ Exa Z h x0 "com/example/letters_between_tasks/lettersbetweentasks/service/Backoff" ∧ Fld Z h x0 "com/example/letters_between_tasks/lettersbetweentasks/service/Backoff" "next" "Ljava/time/Duration;" (.ref r0) ∧ Exa Z h r0 "java/time/Duration" ∧ Fld Z h r0 "java/time/Duration" "nanos" "I" (.int (0 : Int32)) ∧ Fld Z h r0 "java/time/Duration" "seconds" "J" (.long (2 : Int64)) ∧ h0.size ≤ r0) [] := by
  refine Con.of (a0 := a0) (L0 := #[.val (.ref x0), .unset, .unset]) pf50 (fun _ => rfl) (allS g_x0 all0) hO EW.nil ?_
  intro p e s m below meth c S0 hnm hsf W
  replace W := W.aloadN e13_2_0 rfl rfl rfl
  replace W := W.getf e13_2_1 (tw11 H) Via.refl F_x0_next rfl
  replace W := W.astoreN (L' := #[.val (.ref x0), .val (.ref x1), .unset]) e13_2_4 rfl rfl rfl
  replace W := W.aloadN e13_2_5 rfl rfl rfl
  replace W := W.getf e13_2_6 (tw11 H) Via.refl F_x0_next rfl
  replace W := W.ldc2 e13_2_9 (tw18 H) rfl
  obtain ⟨V1, h1, r1, W1, K1, hQ1, SF1⟩ := W.callV (pc' := 15) (argsL := [(.long (2 : Int64))]) (rest := []) (Wd := 0) (cells' := 14) (slots' := 46) (a := x1) (C := "java/time/Duration") (y := N47) (z := N47) e13_2_12 (m74_multipliedBy H x1 (2 : Int64) u0 u1 s0 s1 (2 : Int32) h0 W.old E_x1 F_x1_nanos F_x1_seconds (by decide) (by decide) p0 p1 p2 p3 p4 p5 (by decide) (by decide) (by decide)) E_x1 (tw19 H) (tw20 H) (Or.inl (tw22 H)) (tw22 H) (tw21 H) (tw23 H) (tw24 H) (by decide) (lenOf pd33 rfl) rfl rfl (by decide) (by decide) rfl sf0 all0
  clear W
  obtain ⟨_, r01, rfl, q1_1, q1_2, q1_3, q1_4⟩ := hQ1
  have z1 : h0.size ≤ h1.size := K1.1
  replace W1 := W1.cast (st' := [(.ref r01)]) rfl
  replace W1 := W1.astoreN (L' := #[.val (.ref x0), .val (.ref x1), .val (.ref r01)]) e13_2_15 rfl rfl rfl
  replace W1 := W1.aloadN e13_2_16 rfl rfl rfl
  replace W1 := W1.aloadN e13_2_17 rfl rfl rfl
  replace W1 := W1.gets e13_2_18 (tw268 H) (gf29 H) rfl
  obtain ⟨V2, h2, r2, W2, K2, hQ2, SF2⟩ := W1.callV (pc' := 24) (argsL := [(.ref (gA 1))]) (rest := [(.ref x0)]) (Wd := 1) (cells' := 14) (slots' := 46) (a := r01) (C := "java/time/Duration") (y := N49) (z := N49) e13_2_21 (m68_compareTo H r01 (2 : Int64) h1 W1.old q1_3 (by decide)) q1_1 (tw270 H) (tw271 H) (Or.inl (tw273 H)) (tw273 H) (tw272 H) (tw23 H) (tw274 H) (by decide) (lenOf pd34 rfl) rfl rfl (by decide) (by decide) rfl sf0 all0
  clear W1
  obtain ⟨_, rfl, hs2⟩ := hQ2
  subst hs2
  replace W2 := W2.cast (st' := [(.int (-1 : Int32)), (.ref x0)]) rfl
  replace W2 := W2.ifF (pc' := 27) e13_2_24 (tlt (by decide : (-1 : Int32) < (0 : Int32))).2.1 rfl
  replace W2 := W2.aloadN e13_2_27 rfl rfl rfl
  replace W2 := W2.goto (pc' := 34) e13_2_28 (by decide) (by decide)
  have f3 := (F_x0_next.keep K1 nin0)
  have e4 := (E_x0.keep K1)
  obtain ⟨h5, W5, w5, SF5⟩ := W2.putf (pc' := 37) (ty := (.object "java/time/Duration")) e13_2_34 (tw11 H) Via.refl f3 e4 (Or.inl (tw12 H)) (tw1 H) (by decide) rfl rfl safe0 (Or.inl (List.mem_of_getElem? (i := 0) rfl)) rfl
  clear W2
  have z5 : h1.size ≤ h5.size := Nat.le_of_eq w5.size.symm
  have f5 := f3.same w5
  replace W5 := W5.aloadN e13_2_37 rfl rfl rfl
  have e6 := (e4.wr w5)
  have e7 := (q1_1.wr w5)
  have f8 := (q1_2.other w5 (Or.inl (Nat.ne_of_gt (Nat.lt_of_lt_of_le E_x0.lt q1_4))))
  have f9 := (q1_3.other w5 (Or.inl (Nat.ne_of_gt (Nat.lt_of_lt_of_le E_x0.lt q1_4))))
  exact W5.aret (t := (.object "java/time/Duration")) e13_2_38 rfl rfl rfl rfl (by decide) (by decide) (fun V' cv => ⟨r01, rfl, e6, f5, e7, f8, f9, q1_4⟩)
theorem m92_multiplyExact (H : Cx Z a0 gA gK) (u0 u1 s0 s1 s2 : Int64) (h0 : Heap) (hO : Old Z n0 h0) (p0 : (u0 * u1) = s0) (p1 : (Jvm.Free.XT.cmpL u0 (0 : Int64)) = (1 : Int32)) (p2 : (Jvm.Free.XT.cmpL u1 (0 : Int64)) = (1 : Int32)) (p3 : (u0 ||| u1) = s1) (p4 : (Jvm.Free.XT.ushrL s1 (31 : Int32)) = s2) (p5 : (Jvm.Free.XT.cmpL s2 (0 : Int64)) = (0 : Int32)) : Con l Z [] n0 N51 jdk_29_method_30_code 10 (some .long) (Rm 1 0 0 13) #[(.long u0), (.long u1)] h0 [] (fun v h V' => v = some (.long s0) ∧ h0 = h) [] := by
  refine Con.of (a0 := a0) (L0 := #[.val (.long u0), .second, .val (.long u1), .second, .unset, .unset, .unset, .unset, .unset, .unset]) pf51 (fun _ => rfl) all0 hO EW.nil ?_
  intro p e s m below meth c S0 hnm hsf W
  replace W := W.lloadN d29_30_0 rfl rfl
  replace W := W.lloadN d29_30_1 rfl rfl
  replace W := W.lmul (v := s0) d29_30_2 p0 rfl
  replace W := W.lstore (L' := #[.val (.long u0), .second, .val (.long u1), .second, .val (.long s0), .second, .unset, .unset, .unset, .unset]) d29_30_3 rfl rfl
  replace W := W.lloadN d29_30_5 rfl rfl
  obtain ⟨V1, h1, r1, W1, K1, hQ1, SF1⟩ := W.callS (pc' := 9) (argsL := [(.long u0)]) (rest := []) (Wd := 0) (cells' := 0) (slots' := 0) (y := N13) d29_30_6 (m20_abs H u0 h0 W.old p1) (tw287 H) (tw102 H) (tw103 H) (tw104 H) (by decide) (lenOf pd12 rfl) rfl rfl (by decide) (by decide) rfl sf0 all0
  clear W
  obtain ⟨_, rfl, hs1⟩ := hQ1
  subst hs1
  replace W1 := W1.cast (st' := [(.long u0)]) rfl
  replace W1 := W1.lstore (L' := #[.val (.long u0), .second, .val (.long u1), .second, .val (.long s0), .second, .val (.long u0), .second, .unset, .unset]) d29_30_9 rfl rfl
  replace W1 := W1.lloadN d29_30_11 rfl rfl
  obtain ⟨V2, h2, r2, W2, K2, hQ2, SF2⟩ := W1.callS (pc' := 15) (argsL := [(.long u1)]) (rest := []) (Wd := 0) (cells' := 0) (slots' := 0) (y := N13) d29_30_12 (m20_abs H u1 h0 W1.old p2) (tw287 H) (tw102 H) (tw103 H) (tw104 H) (by decide) (lenOf pd12 rfl) rfl rfl (by decide) (by decide) rfl sf0 all0
  clear W1
  obtain ⟨_, rfl, hs2⟩ := hQ2
  subst hs2
  replace W2 := W2.cast (st' := [(.long u1)]) rfl
  replace W2 := W2.lstore (L' := #[.val (.long u0), .second, .val (.long u1), .second, .val (.long s0), .second, .val (.long u0), .second, .val (.long u1), .second]) d29_30_15 rfl rfl
  replace W2 := W2.lload d29_30_17 rfl rfl
  replace W2 := W2.lload d29_30_19 rfl rfl
  replace W2 := W2.lor (v := s1) d29_30_21 p3 rfl
  replace W2 := W2.bipush (v := (31 : Int32)) d29_30_22 rfl rfl
  replace W2 := W2.lushr (v := s2) d29_30_24 p4 rfl
  replace W2 := W2.lconst (v := (0 : Int64)) d29_30_25 rfl rfl
  replace W2 := W2.lcmp (v := (0 : Int32)) d29_30_26 p5 rfl
  replace W2 := W2.ifT (pc' := 71) d29_30_27 (teq (by decide : (0 : Int32) = (0 : Int32))).1 (by decide) (by decide)
  replace W2 := W2.lload d29_30_71 rfl rfl
  exact W2.lret d29_30_73 rfl (by decide) (by decide) (fun V' cv => ⟨rfl, rfl⟩)
theorem m91_toNanos (H : Cx Z a0 gA gK) (x0 : Addr) (u0 : Int32) (u1 s0 s1 s2 s3 s4 s5 s6 s7 : Int64) (h0 : Heap) (hO : Old Z n0 h0) (F_x0_nanos : Fld Z h0 x0 "java/time/Duration" "nanos" "I" (.int u0)) (F_x0_seconds : Fld Z h0 x0 "java/time/Duration" "seconds" "J" (.long u1)) (p0 : (u0.toInt64) = s0) (p1 : (Jvm.Free.XT.cmpL u1 (0 : Int64)) = (1 : Int32)) (p2 : (u1 * (1000000000 : Int64)) = s1) (p3 : (u1 ||| (1000000000 : Int64)) = s2) (p4 : (Jvm.Free.XT.ushrL s2 (31 : Int32)) = s3) (p5 : (Jvm.Free.XT.cmpL s3 (0 : Int64)) = (0 : Int32)) (p6 : (s1 + s0) = s4) (p7 : (s1 ^^^ s4) = s5) (p8 : (s0 ^^^ s4) = s6) (p9 : (s5 &&& s6) = s7) (p10 : (Jvm.Free.XT.cmpL s7 (0 : Int64)) = (0 : Int32)) : Con l Z [] n0 N52 jdk_2316_method_58_code 7 (some .long) (Rm 2 0 0 34) #[(.ref x0)] h0 [] (fun v h V' => v = some (.long s4) ∧ h0 = h) [] := by
  refine Con.of (a0 := a0) (L0 := #[.val (.ref x0), .unset, .unset, .unset, .unset, .unset, .unset]) pf52 (fun _ => rfl) all0 hO EW.nil ?_
  intro p e s m below meth c S0 hnm hsf W
  replace W := W.aloadN d2316_58_0 rfl rfl rfl
  replace W := W.getf d2316_58_1 (tw30 H) Via.refl F_x0_seconds rfl
  replace W := W.lstoreN (L' := #[.val (.ref x0), .val (.long u1), .second, .unset, .unset, .unset, .unset]) d2316_58_4 rfl rfl
  replace W := W.aloadN d2316_58_5 rfl rfl rfl
  replace W := W.getf d2316_58_6 (tw37 H) Via.refl F_x0_nanos rfl
  replace W := W.i2l (v := s0) d2316_58_9 p0 rfl
  replace W := W.lstoreN (L' := #[.val (.ref x0), .val (.long u1), .second, .val (.long s0), .second, .unset, .unset]) d2316_58_10 rfl rfl
  replace W := W.lloadN d2316_58_11 rfl rfl
  replace W := W.lconst (v := (0 : Int64)) d2316_58_12 rfl rfl
  replace W := W.lcmp (v := (1 : Int32)) d2316_58_13 p1 rfl
  replace W := W.ifT (pc' := 27) d2316_58_14 (flt (by decide : ¬ ((1 : Int32) < (0 : Int32)))).2.1 (by decide) (by decide)
  replace W := W.lloadN d2316_58_27 rfl rfl
  replace W := W.ldc2 d2316_58_28 (tw248 H) rfl
  obtain ⟨V1, h1, r1, W1, K1, hQ1, SF1⟩ := W.callS (pc' := 34) (argsL := [(.long u1), (.long (1000000000 : Int64))]) (rest := []) (Wd := 0) (cells' := 0) (slots' := 0) (y := N51) d2316_58_31 (m92_multiplyExact H u1 (1000000000 : Int64) s1 s2 s3 h0 W.old p2 p1 (by decide) p3 p4 p5) (tw284 H) (tw285 H) (tw103 H) (tw286 H) (by decide) (lenOf pd6 rfl) rfl rfl (by decide) (by decide) rfl sf0 all0
  clear W
  obtain ⟨_, rfl, hs1⟩ := hQ1
  subst hs1
  replace W1 := W1.cast (st' := [(.long s1)]) rfl
  replace W1 := W1.lstore (L' := #[.val (.ref x0), .val (.long u1), .second, .val (.long s0), .second, .val (.long s1), .second]) d2316_58_34 rfl rfl
  replace W1 := W1.lload d2316_58_36 rfl rfl
  replace W1 := W1.lloadN d2316_58_38 rfl rfl
  obtain ⟨V2, h2, r2, W2, K2, hQ2, SF2⟩ := W1.callS (pc' := 42) (argsL := [(.long s1), (.long s0)]) (rest := []) (Wd := 0) (cells' := 0) (slots' := 0) (y := N41) d2316_58_39 (m63_addExact H s1 s0 s4 s5 s6 s7 h0 W1.old p6 p7 p8 p9 p10) (tw252 H) (tw253 H) (tw103 H) (tw254 H) (by decide) (lenOf pd6 rfl) rfl rfl (by decide) (by decide) rfl sf0 all0
  clear W1
  obtain ⟨_, rfl, hs2⟩ := hQ2
  subst hs2
  replace W2 := W2.cast (st' := [(.long s4)]) rfl
  replace W2 := W2.lstore (L' := #[.val (.ref x0), .val (.long u1), .second, .val (.long s0), .second, .val (.long s4), .second]) d2316_58_42 rfl rfl
  replace W2 := W2.lload d2316_58_44 rfl rfl
  exact W2.lret d2316_58_46 rfl (by decide) (by decide) (fun V' cv => ⟨rfl, rfl⟩)
theorem m98_longMultiplyPowerTen (H : Cx Z a0 gA gK) (u0 : Int64) (u1 : Int32) (s0 : Int64) (h0 : Heap) (hO : Old Z n0 h0) (p0 : (Jvm.Free.XT.cmpL u0 (0 : Int64)) = (1 : Int32)) (p1 : (0 : Int32) < u1) (p2 : u1 < (19 : Int32)) (p3 : u1 = (9 : Int32)) (p4 : (Jvm.Free.XT.cmpL u0 (1 : Int64)) = (1 : Int32)) (p5 : (Jvm.Free.XT.cmpL u0 (9223372036 : Int64)) = (-1 : Int32)) (p6 : (u0 * (1000000000 : Int64)) = s0) : Con l Z [] n0 N6 jdk_17_method_97_code 7 (some .long) (Rm 1 0 0 13) #[(.long u0), (.int u1)] h0 [] (fun v h V' => v = some (.long s0) ∧ h0 = h) [] := by
  refine Con.of (a0 := a0) (L0 := #[.val (.long u0), .second, .val (.int u1), .unset, .unset, .unset, .unset]) pf6 (fun _ => rfl) all0 hO EW.nil ?_
  intro p e s m below meth c S0 hnm hsf W
  replace W := W.lloadN d17_97_0 rfl rfl
  replace W := W.lconst (v := (0 : Int64)) d17_97_1 rfl rfl
  replace W := W.lcmp (v := (1 : Int32)) d17_97_2 p0 rfl
  replace W := W.ifF (pc' := 6) d17_97_3 (feq (by decide : ¬ ((1 : Int32) = (0 : Int32)))).1 rfl
  replace W := W.iloadN d17_97_6 rfl rfl
  replace W := W.ifT (pc' := 12) d17_97_7 (tlt p1).2.2.1 (by decide) (by decide)
  replace W := W.gets d17_97_12 (tw292 H) (gf30 H) rfl
  replace W := W.astoreN (L' := #[.val (.long u0), .second, .val (.int u1), .val (.ref (gA 8)), .unset, .unset, .unset]) d17_97_15 rfl rfl rfl
  replace W := W.gets d17_97_16 (tw293 H) (gf31 H) rfl
  replace W := W.astore (L' := #[.val (.long u0), .second, .val (.int u1), .val (.ref (gA 8)), .val (.ref (gA 9)), .unset, .unset]) d17_97_19 rfl rfl rfl
  replace W := W.iloadN d17_97_21 rfl rfl
  replace W := W.aloadN d17_97_22 rfl rfl rfl
  have v1 := (gf40 H).ext W.old.2
  replace W := W.alen d17_97_23 v1 rfl
  replace W := W.icmpF (pc' := 27) d17_97_24 (tlt p2).2.1 rfl
  replace W := W.iloadN d17_97_27 rfl rfl
  replace W := W.aload d17_97_28 rfl rfl rfl
  have v2 := (gf41 H).ext W.old.2
  replace W := W.alen d17_97_30 v2 rfl
  replace W := W.icmpF (pc' := 34) d17_97_31 (tlt p2).2.1 rfl
  replace W := W.aloadN d17_97_34 rfl rfl rfl
  replace W := W.iloadN d17_97_35 rfl rfl
  subst p3
  replace W := W.laload (w := (.long (1000000000 : Int64))) d17_97_36 v1 ⟨by decide, by decide⟩ rfl rfl
  replace W := W.lstore (L' := #[.val (.long u0), .second, .val (.int (9 : Int32)), .val (.ref (gA 8)), .val (.ref (gA 9)), .val (.long (1000000000 : Int64)), .second]) d17_97_37 rfl rfl
  replace W := W.lloadN d17_97_39 rfl rfl
  replace W := W.lconst (v := (1 : Int64)) d17_97_40 rfl rfl
  replace W := W.lcmp (v := (1 : Int32)) d17_97_41 p4 rfl
  replace W := W.ifT (pc' := 48) d17_97_42 (feq (by decide : ¬ ((1 : Int32) = (0 : Int32)))).2 (by decide) (by decide)
  replace W := W.lloadN d17_97_48 rfl rfl
  obtain ⟨V3, h3, r3, W3, K3, hQ3, SF3⟩ := W.callS (pc' := 52) (argsL := [(.long u0)]) (rest := []) (Wd := 0) (cells' := 0) (slots' := 0) (y := N13) d17_97_49 (m20_abs H u0 h0 W.old p0) (tw101 H) (tw102 H) (tw103 H) (tw104 H) (by decide) (lenOf pd12 rfl) rfl rfl (by decide) (by decide) rfl sf0 all0
  clear W
  obtain ⟨_, rfl, hs3⟩ := hQ3
  subst hs3
  replace W3 := W3.cast (st' := [(.long u0)]) rfl
  replace W3 := W3.aload d17_97_52 rfl rfl rfl
  replace W3 := W3.iloadN d17_97_54 rfl rfl
  replace W3 := W3.laload (w := (.long (9223372036 : Int64))) d17_97_55 v2 ⟨by decide, by decide⟩ rfl rfl
  replace W3 := W3.lcmp (v := (-1 : Int32)) d17_97_56 p5 rfl
  replace W3 := W3.ifF (pc' := 60) d17_97_57 (flt (by decide : ¬ ((0 : Int32) < (-1 : Int32)))).2.2.1 rfl
  replace W3 := W3.lloadN d17_97_60 rfl rfl
  replace W3 := W3.lload d17_97_61 rfl rfl
  replace W3 := W3.lmul (v := s0) d17_97_63 p6 rfl
  exact W3.lret d17_97_64 rfl (by decide) (by decide) (fun V' cv => ⟨rfl, rfl⟩)
theorem m97_add (H : Cx Z a0 gA gK) (u0 : Int64) (u1 : Int32) (u2 : Int64) (u3 : Int32) (s0 s1 s2 s3 : Int64) (s4 : Int32) (s5 s6 s7 s8 s9 s10 : Int64) (h0 : Heap) (hO : Old Z n0 h0) (p0 : (u1.toInt64) = s0) (p1 : (u3.toInt64) = s1) (p2 : (s0 - s1) = s2) (p3 : (Jvm.Free.XT.cmpL s2 (0 : Int64)) = (-1 : Int32)) (p4 : (-s2) = s3) (p5 : (s3.toInt32) = s4) (p6 : (s4.toInt64) = s5) (p7 : (Jvm.Free.XT.cmpL s5 s3) = (0 : Int32)) (p8 : (u0 * (1000000000 : Int64)) = s6) (p9 : (Jvm.Free.XT.cmpL u0 (0 : Int64)) = (1 : Int32)) (p10 : (0 : Int32) < s4) (p11 : s4 < (19 : Int32)) (p12 : s4 = (9 : Int32)) (p13 : (Jvm.Free.XT.cmpL u0 (1 : Int64)) = (1 : Int32)) (p14 : (Jvm.Free.XT.cmpL u0 (9223372036 : Int64)) = (-1 : Int32)) (p15 : (Jvm.Free.XT.cmpL s6 (-9223372036854775808 : Int64)) = (1 : Int32)) (p16 : (s6 + u2) = s7) (p17 : (s7 ^^^ s6) = s8) (p18 : (s7 ^^^ u2) = s9) (p19 : (s8 &&& s9) = s10) (p20 : (Jvm.Free.XT.cmpL s10 (0 : Int64)) = (0 : Int32)) (p21 : (Jvm.Free.XT.cmpL s7 (-9223372036854775808 : Int64)) = (1 : Int32)) (p22 : ¬ (u3 = (0 : Int32))) (p23 : (Jvm.Free.XT.cmpL s7 (0 : Int64)) = (1 : Int32)) : Con l Z [] n0 N9 jdk_17_method_134_code 12 (some (.object "java/math/BigDecimal")) (Rm 5 1 5 74) #[(.long u0), (.int u1), (.long u2), (.int u3)] h0 [] (fun v h V' => ∃ (r0 : Addr), v = some (.ref r0) ∧ Exa Z h r0 "java/math/BigDecimal" ∧ Fld Z h r0 "java/math/BigDecimal" "intCompact" "J" (.long s7) ∧ Fld Z h r0 "java/math/BigDecimal" "intVal" "Ljava/math/BigInteger;" .null ∧ Fld Z h r0 "java/math/BigDecimal" "precision" "I" (.int (0 : Int32)) ∧ Fld Z h r0 "java/math/BigDecimal" "scale" "I" (.int u3) ∧ h0.size ≤ r0) [] := by
  refine Con.of (a0 := a0) (L0 := #[.val (.long u0), .second, .val (.int u1), .val (.long u2), .second, .val (.int u3), .unset, .unset, .unset, .unset, .unset, .unset]) pf9 (fun _ => rfl) all0 hO EW.nil ?_
  intro p e s m below meth c S0 hnm hsf W
  replace W := W.iloadN d17_134_0 rfl rfl
  replace W := W.i2l (v := s0) d17_134_1 p0 rfl
  replace W := W.iload d17_134_2 rfl rfl
  replace W := W.i2l (v := s1) d17_134_4 p1 rfl
  replace W := W.lsub (v := s2) d17_134_5 p2 rfl
  replace W := W.lstore (L' := #[.val (.long u0), .second, .val (.int u1), .val (.long u2), .second, .val (.int u3), .val (.long s2), .second, .unset, .unset, .unset, .unset]) d17_134_6 rfl rfl
  replace W := W.lload d17_134_8 rfl rfl
  replace W := W.lconst (v := (0 : Int64)) d17_134_10 rfl rfl
  replace W := W.lcmp (v := (-1 : Int32)) d17_134_11 p3 rfl
  replace W := W.ifT (pc' := 22) d17_134_12 (feq (by decide : ¬ ((-1 : Int32) = (0 : Int32)))).2 (by decide) (by decide)
  replace W := W.lload d17_134_22 rfl rfl
  replace W := W.lconst (v := (0 : Int64)) d17_134_24 rfl rfl
  replace W := W.lcmp (v := (-1 : Int32)) d17_134_25 p3 rfl
  replace W := W.ifF (pc' := 29) d17_134_26 (tlt (by decide : (-1 : Int32) < (0 : Int32))).2.1 rfl
  replace W := W.lloadN d17_134_29 rfl rfl
  replace W := W.lload d17_134_30 rfl rfl
  replace W := W.lneg (v := s3) d17_134_32 p4 rfl
  obtain ⟨V1, h1, r1, W1, K1, hQ1, SF1⟩ := W.callS (pc' := 36) (argsL := [(.long u0), (.long s3)]) (rest := []) (Wd := 0) (cells' := 0) (slots' := 0) (y := N5) d17_134_33 (m11_checkScale H u0 s3 s4 s5 h0 W.old p5 p6 p7) (tw72 H) (tw73 H) (tw34 H) (tw74 H) (by decide) (lenOf pd4 rfl) rfl rfl (by decide) (by decide) rfl sf0 all0
  clear W
  obtain ⟨_, rfl, hs1⟩ := hQ1
  subst hs1
  replace W1 := W1.cast (st' := [(.int s4)]) rfl
  replace W1 := W1.istore (L' := #[.val (.long u0), .second, .val (.int u1), .val (.long u2), .second, .val (.int u3), .val (.long s2), .second, .val (.int s4), .unset, .unset, .unset]) d17_134_36 rfl rfl
  replace W1 := W1.lloadN d17_134_38 rfl rfl
  replace W1 := W1.iload d17_134_39 rfl rfl
  obtain ⟨V2, h2, r2, W2, K2, hQ2, SF2⟩ := W1.callS (pc' := 44) (argsL := [(.long u0), (.int s4)]) (rest := []) (Wd := 0) (cells' := 0) (slots' := 0) (y := N6) d17_134_41 (m98_longMultiplyPowerTen H u0 s4 s6 h0 W1.old p9 p10 p11 p12 p13 p14 p8) (tw75 H) (tw76 H) (tw34 H) (tw77 H) (by decide) (lenOf pd5 rfl) rfl rfl (by decide) (by decide) rfl sf0 all0
  clear W1
  obtain ⟨_, rfl, hs2⟩ := hQ2
  subst hs2
  replace W2 := W2.cast (st' := [(.long s6)]) rfl
  replace W2 := W2.lstore (L' := #[.val (.long u0), .second, .val (.int u1), .val (.long u2), .second, .val (.int u3), .val (.long s2), .second, .val (.int s4), .val (.long s6), .second, .unset]) d17_134_44 rfl rfl
  replace W2 := W2.lload d17_134_46 rfl rfl
  replace W2 := W2.ldc2 d17_134_48 (tw44 H) rfl
  replace W2 := W2.lcmp (v := (1 : Int32)) d17_134_51 p15 rfl
  replace W2 := W2.ifF (pc' := 55) d17_134_52 (feq (by decide : ¬ ((1 : Int32) = (0 : Int32)))).1 rfl
  replace W2 := W2.lload d17_134_55 rfl rfl
  replace W2 := W2.lloadN d17_134_57 rfl rfl
  replace W2 := W2.iload d17_134_58 rfl rfl
  obtain ⟨V3, h3, r3, W3, K3, hQ3, SF3⟩ := W2.callS (pc' := 63) (argsL := [(.long s6), (.long u2), (.int u3)]) (rest := []) (Wd := 0) (cells' := 1) (slots' := 5) (y := N8) d17_134_60 (m13_add H s6 u2 u3 s7 s8 s9 s10 h0 W2.old p16 p17 p18 p19 p20 p21 p22 p23) (tw78 H) (tw79 H) (tw34 H) (tw80 H) (by decide) (lenOf pd7 rfl) rfl rfl (by decide) (by decide) rfl sf0 all0
  clear W2
  obtain ⟨_, r03, rfl, q3_1, q3_2, q3_3, q3_4, q3_5, q3_6⟩ := hQ3
  have z3 : h0.size ≤ h3.size := K3.1
  replace W3 := W3.cast (st' := [(.ref r03)]) rfl
  exact W3.aret (t := (.object "java/math/BigDecimal")) d17_134_63 rfl rfl rfl rfl (by decide) (by decide) (fun V' cv => ⟨r03, rfl, q3_1, q3_2, q3_3, q3_4, q3_5, q3_6⟩)
theorem m96_add (H : Cx Z a0 gA gK)  (h0 : Heap) (hO : Old Z n0 h0)  : Con l Z [] n0 N10 jdk_17_method_26_code 2 (some (.object "java/math/BigDecimal")) (Rm 6 1 5 97) #[(.ref (gA 12)), (.ref (gA 30))] h0 [] (fun v h V' => ∃ (r0 : Addr), v = some (.ref r0) ∧ Exa Z h r0 "java/math/BigDecimal" ∧ Fld Z h r0 "java/math/BigDecimal" "intCompact" "J" (.long (2000000000 : Int64)) ∧ Fld Z h r0 "java/math/BigDecimal" "intVal" "Ljava/math/BigInteger;" .null ∧ Fld Z h r0 "java/math/BigDecimal" "precision" "I" (.int (0 : Int32)) ∧ Fld Z h r0 "java/math/BigDecimal" "scale" "I" (.int (9 : Int32)) ∧ h0.size ≤ r0) [] := by
  refine Con.of (a0 := a0) (L0 := #[.val (.ref (gA 12)), .val (.ref (gA 30))]) pf10 (fun _ => rfl) all0 hO EW.nil ?_
  intro p e s m below meth c S0 hnm hsf W
  replace W := W.aloadN d17_26_0 rfl rfl rfl
  have f1 := (gf16 H).ext W.old.2
  replace W := W.getf d17_26_1 (tw60 H) Via.refl f1 rfl
  replace W := W.ldc2 d17_26_4 (tw44 H) rfl
  replace W := W.lcmp (v := (1 : Int32)) d17_26_7 (by decide) rfl
  replace W := W.ifF (pc' := 11) d17_26_8 (feq (by decide : ¬ ((1 : Int32) = (0 : Int32)))).1 rfl
  replace W := W.aloadN d17_26_11 rfl rfl rfl
  have f2 := (gf24 H).ext W.old.2
  replace W := W.getf d17_26_12 (tw60 H) Via.refl f2 rfl
  replace W := W.ldc2 d17_26_15 (tw44 H) rfl
  replace W := W.lcmp (v := (1 : Int32)) d17_26_18 (by decide) rfl
  replace W := W.ifF (pc' := 22) d17_26_19 (feq (by decide : ¬ ((1 : Int32) = (0 : Int32)))).1 rfl
  replace W := W.aloadN d17_26_22 rfl rfl rfl
  replace W := W.getf d17_26_23 (tw60 H) Via.refl f1 rfl
  replace W := W.aloadN d17_26_26 rfl rfl rfl
  have f3 := (gf17 H).ext W.old.2
  replace W := W.getf d17_26_27 (tw56 H) Via.refl f3 rfl
  replace W := W.aloadN d17_26_30 rfl rfl rfl
  replace W := W.getf d17_26_31 (tw60 H) Via.refl f2 rfl
  replace W := W.aloadN d17_26_34 rfl rfl rfl
  have f4 := (gf25 H).ext W.old.2
  replace W := W.getf d17_26_35 (tw56 H) Via.refl f4 rfl
  obtain ⟨V5, h5, r5, W5, K5, hQ5, SF5⟩ := W.callS (pc' := 41) (argsL := [(.long (2 : Int64)), (.int (0 : Int32)), (.long (0 : Int64)), (.int (9 : Int32))]) (rest := []) (Wd := 0) (cells' := 1) (slots' := 5) (y := N9) d17_26_38 (m97_add H (2 : Int64) (0 : Int32) (0 : Int64) (9 : Int32) (0 : Int64) (9 : Int64) (-9 : Int64) (9 : Int64) (9 : Int32) (9 : Int64) (2000000000 : Int64) (2000000000 : Int64) (0 : Int64) (2000000000 : Int64) (0 : Int64) h0 W.old (by decide) (by decide) (by decide) (by decide) (by decide) (by decide) (by decide) (by decide) (by decide) (by decide) (by decide) (by decide) (by decide) (by decide) (by decide) (by decide) (by decide) (by decide) (by decide) (by decide) (by decide) (by decide) (by decide) (by decide)) (tw69 H) (tw70 H) (tw34 H) (tw71 H) (by decide) (lenOf pd8 rfl) rfl rfl (by decide) (by decide) rfl sf0 all0
  clear W
  obtain ⟨_, r05, rfl, q5_1, q5_2, q5_3, q5_4, q5_5, q5_6⟩ := hQ5
  have z5 : h0.size ≤ h5.size := K5.1
  replace W5 := W5.cast (st' := [(.ref r05)]) rfl
  exact W5.aret (t := (.object "java/math/BigDecimal")) d17_26_41 rfl rfl rfl rfl (by decide) (by decide) (fun V' cv => ⟨r05, rfl, q5_1, q5_2, q5_3, q5_4, q5_5, q5_6⟩)
theorem m95_toBigDecimalSeconds (H : Cx Z a0 gA gK) (x0 : Addr) (u0 : Int32) (u1 : Int64) (s0 : Int32) (s1 : Int64) (h0 : Heap) (hO : Old Z n0 h0) (F_x0_nanos : Fld Z h0 x0 "java/time/Duration" "nanos" "I" (.int u0)) (F_x0_seconds : Fld Z h0 x0 "java/time/Duration" "seconds" "J" (.long u1)) (p0 : (u1.toInt32) = s0) (p1 : (Jvm.Free.XT.cmpL u1 (0 : Int64)) = (1 : Int32)) (p2 : (Jvm.Free.XT.cmpL u1 (11 : Int64)) = (-1 : Int32)) (p3 : s0 = (2 : Int32)) (p4 : (u0.toInt64) = s1) (p5 : (Jvm.Free.XT.cmpL s1 (0 : Int64)) = (0 : Int32)) : Con l Z [] n0 N11 jdk_2316_method_47_code 1 (some (.object "java/math/BigDecimal")) (Rm 7 1 5 110) #[(.ref x0)] h0 [] (fun v h V' => ∃ (r0 : Addr), v = some (.ref r0) ∧ Exa Z h r0 "java/math/BigDecimal" ∧ Fld Z h r0 "java/math/BigDecimal" "intCompact" "J" (.long (2000000000 : Int64)) ∧ Fld Z h r0 "java/math/BigDecimal" "intVal" "Ljava/math/BigInteger;" .null ∧ Fld Z h r0 "java/math/BigDecimal" "precision" "I" (.int (0 : Int32)) ∧ Fld Z h r0 "java/math/BigDecimal" "scale" "I" (.int (9 : Int32)) ∧ h0.size ≤ r0) [] := by
  refine Con.of (a0 := a0) (L0 := #[.val (.ref x0)]) pf11 (fun _ => rfl) all0 hO EW.nil ?_
  intro p e s m below meth c S0 hnm hsf W
  replace W := W.aloadN d2316_47_0 rfl rfl rfl
  replace W := W.getf d2316_47_1 (tw30 H) Via.refl F_x0_seconds rfl
  obtain ⟨V1, h1, r1, W1, K1, hQ1, SF1⟩ := W.callS (pc' := 7) (argsL := [(.long u1)]) (rest := []) (Wd := 0) (cells' := 0) (slots' := 0) (y := N1) d2316_47_4 (m15_valueOf H u1 s0 h0 W.old p1 p2 p0 p3) (tw32 H) (tw33 H) (tw34 H) (tw35 H) (by decide) (lenOf pd1 rfl) rfl rfl (by decide) (by decide) rfl sf0 all0
  clear W
  obtain ⟨_, rfl, hs1⟩ := hQ1
  subst hs1
  replace W1 := W1.cast (st' := [(.ref (gA 12))]) rfl
  replace W1 := W1.aloadN d2316_47_7 rfl rfl rfl
  replace W1 := W1.getf d2316_47_8 (tw37 H) Via.refl F_x0_nanos rfl
  replace W1 := W1.i2l (v := s1) d2316_47_11 p4 rfl
  replace W1 := W1.bipush (v := (9 : Int32)) d2316_47_12 rfl rfl
  obtain ⟨V2, h2, r2, W2, K2, hQ2, SF2⟩ := W1.callS (pc' := 17) (argsL := [(.long s1), (.int (9 : Int32))]) (rest := [(.ref (gA 12))]) (Wd := 1) (cells' := 0) (slots' := 0) (y := N4) d2316_47_14 (m77_valueOf H s1 (9 : Int32) h0 W1.old (by decide) p5 (by decide) (by decide) (by decide)) (tw39 H) (tw40 H) (tw34 H) (tw41 H) (by decide) (lenOf pd3 rfl) rfl rfl (by decide) (by decide) rfl sf0 all0
  clear W1
  obtain ⟨_, rfl, hs2⟩ := hQ2
  subst hs2
  replace W2 := W2.cast (st' := [(.ref (gA 30)), (.ref (gA 12))]) rfl
  have e3 := (gf4 H).ext W2.old.2
  obtain ⟨V4, h4, r4, W4, K4, hQ4, SF4⟩ := W2.callV (pc' := 20) (argsL := [(.ref (gA 30))]) (rest := []) (Wd := 0) (cells' := 1) (slots' := 5) (a := (gA 12)) (C := "java/math/BigDecimal") (y := N10) (z := N10) d2316_47_17 (m96_add H h0 W2.old) e3 (tw64 H) (tw65 H) (Or.inl (tw67 H)) (tw67 H) (tw66 H) (tw34 H) (tw68 H) (by decide) (lenOf pd9 rfl) rfl rfl (by decide) (by decide) rfl sf0 all0
  clear W2
  obtain ⟨_, r04, rfl, q4_1, q4_2, q4_3, q4_4, q4_5, q4_6⟩ := hQ4
  have z4 : h0.size ≤ h4.size := K4.1
  replace W4 := W4.cast (st' := [(.ref r04)]) rfl
  exact W4.aret (t := (.object "java/math/BigDecimal")) d2316_47_20 rfl rfl rfl rfl (by decide) (by decide) (fun V' cv => ⟨r04, rfl, q4_1, q4_2, q4_3, q4_4, q4_5, q4_6⟩)
theorem m102_numberOfLeadingZeros (H : Cx Z a0 gA gK) (u0 s0 s1 s2 : Int32) (h0 : Heap) (hO : Old Z n0 h0) (p0 : (0 : Int32) < u0) (p1 : u0 < (65536 : Int32)) (p2 : u0 < (256 : Int32)) (p3 : u0 < (16 : Int32)) (p4 : ¬ (u0 < (4 : Int32))) (p5 : (Jvm.Free.XT.ushr u0 (2 : Int32)) = s0) (p6 : (Jvm.Free.XT.ushr s0 (1 : Int32)) = s1) (p7 : ((29 : Int32) - s1) = s2) : Con l Z [] n0 N33 jdk_33_method_47_code 2 (some .int) (Rm 0 0 0 0) #[(.int u0)] h0 [] (fun v h V' => v = some (.int s2) ∧ h0 = h) [] := by
  refine Con.of (a0 := a0) (L0 := #[.val (.int u0), .unset]) pf33 (fun _ => rfl) all0 hO EW.nil ?_
  intro p e s m below meth c S0 hnm hsf W
  replace W := W.iloadN d33_47_0 rfl rfl
  replace W := W.ifT (pc' := 15) d33_47_1 (tlt p0).2.2.1 (by decide) (by decide)
  replace W := W.bipush (v := (31 : Int32)) d33_47_15 rfl rfl
  replace W := W.istoreN (L' := #[.val (.int u0), .val (.int (31 : Int32))]) d33_47_17 rfl rfl
  replace W := W.iloadN d33_47_18 rfl rfl
  replace W := W.ldcW d33_47_19 (tw223 H) rfl
  replace W := W.icmpT (pc' := 33) d33_47_22 (tlt p1).1 (by decide) (by decide)
  replace W := W.iloadN d33_47_33 rfl rfl
  replace W := W.sipush (v := (256 : Int32)) d33_47_34 rfl rfl
  replace W := W.icmpT (pc' := 48) d33_47_37 (tlt p2).1 (by decide) (by decide)
  replace W := W.iloadN d33_47_48 rfl rfl
  replace W := W.bipush (v := (16 : Int32)) d33_47_49 rfl rfl
  replace W := W.icmpT (pc' := 61) d33_47_51 (tlt p3).1 (by decide) (by decide)
  replace W := W.iloadN d33_47_61 rfl rfl
  replace W := W.iconst (v := (4 : Int32)) d33_47_62 rfl rfl
  replace W := W.icmpF (pc' := 66) d33_47_63 (flt p4).1 rfl
  replace W := W.iinc (v := (29 : Int32)) (L' := #[.val (.int u0), .val (.int (29 : Int32))]) d33_47_66 rfl (by decide) rfl rfl
  replace W := W.iloadN d33_47_69 rfl rfl
  replace W := W.iconst (v := (2 : Int32)) d33_47_70 rfl rfl
  replace W := W.iushr (v := s0) d33_47_71 p5 rfl
  replace W := W.istoreN (L' := #[.val (.int s0), .val (.int (29 : Int32))]) d33_47_72 rfl rfl
  replace W := W.iloadN d33_47_73 rfl rfl
  replace W := W.iloadN d33_47_74 rfl rfl
  replace W := W.iconst (v := (1 : Int32)) d33_47_75 rfl rfl
  replace W := W.iushr (v := s1) d33_47_76 p6 rfl
  replace W := W.isub (v := s2) d33_47_77 p7 rfl
  exact W.iret (t := .int) d33_47_78 rfl (by simp) rfl (by decide) (by decide) (fun V' cv => ⟨rfl, rfl⟩)
theorem m101_bitLengthForInt (H : Cx Z a0 gA gK) (u0 s0 s1 s2 s3 : Int32) (h0 : Heap) (hO : Old Z n0 h0) (p0 : (Jvm.Free.XT.ushr u0 (2 : Int32)) = s0) (p1 : (Jvm.Free.XT.ushr s0 (1 : Int32)) = s1) (p2 : ((29 : Int32) - s1) = s2) (p3 : (0 : Int32) < u0) (p4 : u0 < (65536 : Int32)) (p5 : u0 < (256 : Int32)) (p6 : u0 < (16 : Int32)) (p7 : ¬ (u0 < (4 : Int32))) (p8 : ((32 : Int32) - s2) = s3) : Con l Z [] n0 N34 jdk_2097_method_74_code 1 (some .int) (Rm 1 0 0 14) #[(.int u0)] h0 [] (fun v h V' => v = some (.int s3) ∧ h0 = h) [] := by
  refine Con.of (a0 := a0) (L0 := #[.val (.int u0)]) pf34 (fun _ => rfl) all0 hO EW.nil ?_
  intro p e s m below meth c S0 hnm hsf W
  replace W := W.bipush (v := (32 : Int32)) d2097_74_0 rfl rfl
  replace W := W.iloadN d2097_74_2 rfl rfl
  obtain ⟨V1, h1, r1, W1, K1, hQ1, SF1⟩ := W.callS (pc' := 6) (argsL := [(.int u0)]) (rest := [(.int (32 : Int32))]) (Wd := 1) (cells' := 0) (slots' := 0) (y := N33) d2097_74_3 (m102_numberOfLeadingZeros H u0 s0 s1 s2 h0 W.old p3 p4 p5 p6 p7 p0 p1 p2) (tw219 H) (tw220 H) (tw221 H) (tw222 H) (by decide) (lenOf pd26 rfl) rfl rfl (by decide) (by decide) rfl sf0 all0
  clear W
  obtain ⟨_, rfl, hs1⟩ := hQ1
  subst hs1
  replace W1 := W1.cast (st' := [(.int s2), (.int (32 : Int32))]) rfl
  replace W1 := W1.isub (v := s3) d2097_74_6 p8 rfl
  exact W1.iret (t := .int) d2097_74_7 rfl (by simp) rfl (by decide) (by decide) (fun V' cv => ⟨rfl, rfl⟩)
theorem m100_bitLength (H : Cx Z a0 gA gK) (x0 x1 : Addr) (kp0 : ClassId) (u0 u1 u2 s0 s1 s2 s3 s4 s5 s6 : Int32) (h0 : Heap) (hO : Old Z n0 h0) (E_x0 : Exa Z h0 x0 "java/math/BigInteger") (F_x0_bitLengthPlusOne : Fld Z h0 x0 "java/math/BigInteger" "bitLengthPlusOne" "I" (.int u0)) (F_x0_mag : Fld Z h0 x0 "java/math/BigInteger" "mag" "[I" (.ref x1)) (F_x0_signum : Fld Z h0 x0 "java/math/BigInteger" "signum" "I" (.int u1)) (V_x1 : Arv Z h0 x1 kp0 .int (1 : Int32) [(.int u2)] (.int (0 : Int32))) (p0 : (u0 - (1 : Int32)) = s0) (p1 : s0 = (-1 : Int32)) (p2 : (Jvm.Free.XT.ushr u2 (2 : Int32)) = s1) (p3 : (Jvm.Free.XT.ushr s1 (1 : Int32)) = s2) (p4 : ((29 : Int32) - s2) = s3) (p5 : ((32 : Int32) - s3) = s4) (p6 : (0 : Int32) < u2) (p7 : u2 < (65536 : Int32)) (p8 : u2 < (256 : Int32)) (p9 : u2 < (16 : Int32)) (p10 : ¬ (u2 < (4 : Int32))) (p11 : ((0 : Int32) + s4) = s5) (p12 : ¬ (u1 < (0 : Int32))) (p13 : (s5 + (1 : Int32)) = s6) (g_x0 : n0 ≤ x0) : Con l Z [] n0 N35 jdk_2097_method_118_code 7 (some .int) (Rm 2 0 0 27) #[(.ref x0)] h0 [x0] (fun v h V' => v = some (.int s5) ∧ Exa Z h x0 "java/math/BigInteger" ∧ Fld Z h x0 "java/math/BigInteger" "bitLengthPlusOne" "I" (.int s6) ∧ Fld Z h x0 "java/math/BigInteger" "mag" "[I" (.ref x1) ∧ Fld Z h x0 "java/math/BigInteger" "signum" "I" (.int u1)) [] := by
  refine Con.of (a0 := a0) (L0 := #[.val (.ref x0), .unset, .unset, .unset, .unset, .unset, .unset]) pf35 (fun _ => rfl) (allS g_x0 all0) hO EW.nil ?_
  intro p e s m below meth c S0 hnm hsf W
  replace W := W.aloadN d2097_118_0 rfl rfl rfl
  replace W := W.getf d2097_118_1 (tw214 H) Via.refl F_x0_bitLengthPlusOne rfl
  replace W := W.iconst (v := (1 : Int32)) d2097_118_4 rfl rfl
  replace W := W.isub (v := s0) d2097_118_5 p0 rfl
  replace W := W.istoreN (L' := #[.val (.ref x0), .val (.int s0), .unset, .unset, .unset, .unset, .unset]) d2097_118_6 rfl rfl
  replace W := W.iloadN d2097_118_7 rfl rfl
  replace W := W.iconst (v := (-1 : Int32)) d2097_118_8 rfl rfl
  replace W := W.icmpF (pc' := 12) d2097_118_9 (teq p1).2 rfl
  replace W := W.aloadN d2097_118_12 rfl rfl rfl
  replace W := W.getf d2097_118_13 (tw144 H) Via.refl F_x0_mag rfl
  replace W := W.astoreN (L' := #[.val (.ref x0), .val (.int s0), .val (.ref x1), .unset, .unset, .unset, .unset]) d2097_118_16 rfl rfl rfl
  replace W := W.aloadN d2097_118_17 rfl rfl rfl
  replace W := W.alen d2097_118_18 V_x1 rfl
  replace W := W.istoreN (L' := #[.val (.ref x0), .val (.int s0), .val (.ref x1), .val (.int (1 : Int32)), .unset, .unset, .unset]) d2097_118_19 rfl rfl
  replace W := W.iloadN d2097_118_20 rfl rfl
  replace W := W.ifT (pc' := 29) d2097_118_21 (feq (by decide : ¬ ((1 : Int32) = (0 : Int32)))).2 (by decide) (by decide)
  replace W := W.iloadN d2097_118_29 rfl rfl
  replace W := W.iconst (v := (1 : Int32)) d2097_118_30 rfl rfl
  replace W := W.isub (v := (0 : Int32)) d2097_118_31 (by decide) rfl
  replace W := W.iconst (v := (5 : Int32)) d2097_118_32 rfl rfl
  replace W := W.ishl (v := (0 : Int32)) d2097_118_33 (by decide) rfl
  replace W := W.aloadN d2097_118_34 rfl rfl rfl
  replace W := W.getf d2097_118_35 (tw144 H) Via.refl F_x0_mag rfl
  replace W := W.iconst (v := (0 : Int32)) d2097_118_38 rfl rfl
  replace W := W.iaload (w := (.int u2)) d2097_118_39 V_x1 ⟨by decide, by decide⟩ rfl rfl
  obtain ⟨V1, h1, r1, W1, K1, hQ1, SF1⟩ := W.callS (pc' := 43) (argsL := [(.int u2)]) (rest := [(.int (0 : Int32))]) (Wd := 1) (cells' := 0) (slots' := 0) (y := N34) d2097_118_40 (m101_bitLengthForInt H u2 s1 s2 s3 s4 h0 W.old p2 p3 p4 p6 p7 p8 p9 p10 p5) (tw216 H) (tw217 H) (tw130 H) (tw218 H) (by decide) (lenOf pd26 rfl) rfl rfl (by decide) (by decide) rfl sf0 all0
  clear W
  obtain ⟨_, rfl, hs1⟩ := hQ1
  subst hs1
  replace W1 := W1.cast (st' := [(.int s4), (.int (0 : Int32))]) rfl
  replace W1 := W1.iadd (v := s5) d2097_118_43 p11 rfl
  replace W1 := W1.istore (L' := #[.val (.ref x0), .val (.int s0), .val (.ref x1), .val (.int (1 : Int32)), .val (.int s5), .unset, .unset]) d2097_118_44 rfl rfl
  replace W1 := W1.aloadN d2097_118_46 rfl rfl rfl
  replace W1 := W1.getf d2097_118_47 (tw141 H) Via.refl F_x0_signum rfl
  replace W1 := W1.ifT (pc' := 128) d2097_118_50 (flt p12).2.1 (by decide) (by decide)
  replace W1 := W1.iload d2097_118_128 rfl rfl
  replace W1 := W1.istoreN (L' := #[.val (.ref x0), .val (.int s5), .val (.ref x1), .val (.int (1 : Int32)), .val (.int s5), .unset, .unset]) d2097_118_130 rfl rfl
  replace W1 := W1.aloadN d2097_118_131 rfl rfl rfl
  replace W1 := W1.iloadN d2097_118_132 rfl rfl
  replace W1 := W1.iconst (v := (1 : Int32)) d2097_118_133 rfl rfl
  replace W1 := W1.iadd (v := s6) d2097_118_134 p13 rfl
  obtain ⟨h2, W2, w2, SF2⟩ := W1.putf (pc' := 138) (ty := .int) d2097_118_135 (tw214 H) Via.refl F_x0_bitLengthPlusOne E_x0 (Or.inl (tw215 H)) (tw134 H) (by decide) rfl rfl safe0 (Or.inl (List.mem_of_getElem? (i := 0) rfl)) rfl
  clear W1
  have z2 : h0.size ≤ h2.size := Nat.le_of_eq w2.size.symm
  have f2 := F_x0_bitLengthPlusOne.same w2
  replace W2 := W2.iloadN d2097_118_138 rfl rfl
  have e3 := (E_x0.wr w2)
  have f4 := (F_x0_mag.other w2 (Or.inr (sn22 H)))
  have f5 := (F_x0_signum.other w2 (Or.inr (sn23 H)))
  exact W2.iret (t := .int) d2097_118_139 rfl (by simp) rfl (by decide) (by decide) (fun V' cv => ⟨rfl, e3, f2, f4, f5⟩)
theorem m99_create (H : Cx Z a0 gA gK) (x0 : Addr) (u0 : Int64) (u2 : Int32) (s0 s1 : Int64) (s2 : Int32) (s3 s4 : Int64) (s5 s6 s7 : Int32) (s8 s9 s10 : Int64) (s11 : Int32) (s12 s13 s14 : Int64) (s15 s16 s17 s18 s19 s20 s21 : Int32) (s22 s23 s24 s25 s26 s27 s28 : Int64) (h0 : Heap) (hO : Old Z n0 h0) (E_x0 : Exa Z h0 x0 "java/math/BigDecimal") (F_x0_intCompact : Fld Z h0 x0 "java/math/BigDecimal" "intCompact" "J" (.long u0)) (F_x0_intVal : Fld Z h0 x0 "java/math/BigDecimal" "intVal" "Ljava/math/BigInteger;" .null) (F_x0_scale : Fld Z h0 x0 "java/math/BigDecimal" "scale" "I" (.int u2)) (p0 : (u2.toInt64) = s0) (p1 : (s0 - (9 : Int64)) = s1) (p2 : (s1.toInt32) = s2) (p3 : (s2.toInt64) = s3) (p4 : (Jvm.Free.XT.cmpL s3 s1) = (0 : Int32)) (p5 : ¬ (s2 < (0 : Int32))) (p6 : (Jvm.Free.XT.ushrL u0 (32 : Int32)) = s4) (p7 : (s4.toInt32) = s5) (p8 : (u0.toInt32) = s6) (p9 : (0 : Int32) = s2) (p10 : (Jvm.Free.XT.cmpL u0 (0 : Int64)) = (1 : Int32)) (p11 : (Jvm.Free.XT.cmpL u0 (16 : Int64)) = (1 : Int32)) (p12 : s5 = (0 : Int32)) (p13 : (s6 + (-2147483648 : Int32)) = s7) (p14 : (s6.toInt64) = s8) (p15 : (s8 &&& (4294967295 : Int64)) = s9) (p16 : (s9 / (1000000000 : Int64)) = s10) (p17 : (s10.toInt32) = s11) (p18 : (s11.toInt64) = s12) (p19 : (s12 * (1000000000 : Int64)) = s13) (p20 : (s9 - s13) = s14) (p21 : (s14.toInt32) = s15) (p22 : ¬ (s7 < (-1147483648 : Int32))) (p23 : (-1147483648 : Int32) < s7) (p24 : ¬ (s11 = (0 : Int32))) (p25 : s15 = (0 : Int32)) (p26 : (Jvm.Free.XT.ushr s11 (2 : Int32)) = s16) (p27 : (Jvm.Free.XT.ushr s16 (1 : Int32)) = s17) (p28 : ((29 : Int32) - s17) = s18) (p29 : ((32 : Int32) - s18) = s19) (p30 : ((0 : Int32) + s19) = s20) (p31 : (s20 + (1 : Int32)) = s21) (p32 : (0 : Int32) < s11) (p33 : s11 < (65536 : Int32)) (p34 : s11 < (256 : Int32)) (p35 : s11 < (16 : Int32)) (p36 : ¬ (s11 < (4 : Int32))) (p37 : ¬ ((63 : Int32) < s20)) (p38 : (s12 &&& (4294967295 : Int64)) = s22) (p39 : ((0 : Int64) + s22) = s23) (p40 : (s23 + (0 : Int64)) = s24) (p41 : (s23 ^^^ s24) = s25) (p42 : ((0 : Int64) ^^^ s24) = s26) (p43 : (s25 &&& s26) = s27) (p44 : (s24 ||| (0 : Int64)) = s28) (p45 : (Jvm.Free.XT.cmpL s27 (0 : Int64)) = (0 : Int32)) (p46 : (Jvm.Free.XT.cmpL s28 (0 : Int64)) = (1 : Int32)) : Con l Z [] n0 N46 jdk_2316_method_48_code 3 (some (.object "java/time/Duration")) (Rm 6 12 36 90) #[(.ref x0)] h0 [] (fun v h V' => ∃ (r0 : Addr), v = some (.ref r0) ∧ Exa Z h r0 "java/time/Duration" ∧ Fld Z h r0 "java/time/Duration" "nanos" "I" (.int (0 : Int32)) ∧ Fld Z h r0 "java/time/Duration" "seconds" "J" (.long s24) ∧ h0.size ≤ r0) [] := by
  refine Con.of (a0 := a0) (L0 := #[.val (.ref x0), .unset, .unset]) pf46 (fun _ => rfl) all0 hO EW.nil ?_
  intro p e s m below meth c S0 hnm hsf W
  replace W := W.aloadN d2316_48_0 rfl rfl rfl
  replace W := W.bipush (v := (9 : Int32)) d2316_48_1 rfl rfl
  obtain ⟨V1, h1, r1, W1, K1, hQ1, SF1⟩ := W.callV (pc' := 6) (argsL := [(.int (9 : Int32))]) (rest := []) (Wd := 0) (cells' := 1) (slots' := 5) (a := x0) (C := "java/math/BigDecimal") (y := N17) (z := N17) d2316_48_3 (m67_movePointRight H x0 (9 : Int32) u0 u2 s0 (9 : Int64) s1 s2 s3 h0 W.old E_x0 F_x0_intCompact F_x0_intVal F_x0_scale (by decide) p0 (by decide) p1 p2 p3 p4 p5) E_x0 (tw108 H) (tw109 H) (Or.inl (tw111 H)) (tw111 H) (tw110 H) (tw34 H) (tw112 H) (by decide) (lenOf pd13 rfl) rfl rfl (by decide) (by decide) rfl sf0 all0
  clear W
  obtain ⟨_, r01, rfl, q1_1, q1_2, q1_3, q1_4, q1_5, q1_6⟩ := hQ1
  have z1 : h0.size ≤ h1.size := K1.1
  replace W1 := W1.cast (st' := [(.ref r01)]) rfl
  obtain ⟨V2, h2, r2, W2, K2, hQ2, SF2⟩ := W1.callV (pc' := 9) (argsL := []) (rest := []) (Wd := 0) (cells' := 3) (slots' := 12) (a := r01) (C := "java/math/BigDecimal") (y := N22) (z := N22) d2316_48_6 (m25_toBigIntegerExact H r01 u0 s2 s4 s5 s6 h1 W1.old q1_1 q1_2 q1_3 q1_5 p9 p6 p7 p8 p10 p11 p12) q1_1 (tw113 H) (tw114 H) (Or.inl (tw116 H)) (tw116 H) (tw115 H) (tw34 H) (tw117 H) (by decide) (lenOf pd17 rfl) rfl rfl (by decide) (by decide) rfl sf0 all0
  clear W1
  obtain ⟨_, r02, r12, kr02, rfl, q2_1, q2_2, q2_3, q2_4, q2_5, q2_6, q2_7, q2_8⟩ := hQ2
  have z2 : h1.size ≤ h2.size := K2.1
  replace W2 := W2.cast (st' := [(.ref r02)]) rfl
  replace W2 := W2.astoreN (L' := #[.val (.ref x0), .val (.ref r02), .unset]) d2316_48_9 rfl rfl rfl
  replace W2 := W2.aloadN d2316_48_10 rfl rfl rfl
  replace W2 := W2.gets d2316_48_11 (tw146 H) (gf35 H) rfl
  obtain ⟨V3, h3, r3, W3, K3, hQ3, SF3⟩ := W2.callV (pc' := 17) (argsL := [(.ref (gA 2))]) (rest := []) (Wd := 0) (cells' := 11) (slots' := 34) (a := r02) (C := "java/math/BigInteger") (y := N32) (z := N32) d2316_48_14 (m83_divideAndRemainder H r02 r12 kr02 (1 : Int32) s6 s7 s8 s9 s10 s11 s12 s13 s14 s15 h2 W2.old q2_1 q2_3 q2_4 q2_6 q2_7 p13 p14 p15 p16 p17 p18 p19 p20 p21 p22 p23 p24 p25 (by decide)) q2_1 (tw147 H) (tw148 H) (Or.inl (tw150 H)) (tw150 H) (tw149 H) (tw130 H) (tw151 H) (by decide) (lenOf pd25 rfl) rfl rfl (by decide) (by decide) rfl sf0 all0
  clear W2
  obtain ⟨_, r03, r13, r23, kr03, kr13, rfl, q3_1, q3_2, q3_3, q3_4, q3_5, q3_6, q3_7, q3_8, q3_9, q3_10, q3_11⟩ := hQ3
  have z3 : h2.size ≤ h3.size := K3.1
  replace W3 := W3.cast (st' := [(.ref r03)]) rfl
  replace W3 := W3.astoreN (L' := #[.val (.ref x0), .val (.ref r02), .val (.ref r03)]) d2316_48_17 rfl rfl rfl
  replace W3 := W3.aloadN d2316_48_18 rfl rfl rfl
  replace W3 := W3.iconst (v := (0 : Int32)) d2316_48_19 rfl rfl
  replace W3 := W3.aaload (w := (.ref r13)) d2316_48_20 q3_2 rfl ⟨by decide, by decide⟩ rfl rfl
  obtain ⟨V4, h4, r4, W4, K4, hQ4, SF4⟩ := W3.callV (pc' := 24) (argsL := []) (rest := []) (Wd := 0) (cells' := 11) (slots' := 34) (a := r13) (C := "java/math/BigInteger") (y := N35) (z := N35) d2316_48_21 (m100_bitLength H r13 r23 kr13 (0 : Int32) (1 : Int32) s11 (-1 : Int32) s16 s17 s18 s19 s20 s21 h3 W3.old q3_4 q3_5 q3_6 q3_7 q3_10 (by decide) (by decide) p26 p27 p28 p29 p32 p33 p34 p35 p36 p30 (by decide) p31 (Nat.le_trans W3.1.2.2.2.2.2.2.2.1 (Nat.le_trans (Nat.le_trans z1 z2) q3_8))) q3_4 (tw209 H) (tw210 H) (Or.inl (tw212 H)) (tw212 H) (tw211 H) (tw130 H) (tw213 H) (by decide) (lenOf pd27 rfl) rfl rfl (by decide) (by decide) rfl (sfS safe0 sf0) (allS (Or.inr (Nat.le_trans (Nat.le_trans z1 z2) q3_8)) all0)
  clear W3
  obtain ⟨_, rfl, q4_1, q4_2, q4_3, q4_4⟩ := hQ4
  have z4 : h3.size ≤ h4.size := K4.1
  replace W4 := W4.cast (st' := [(.int s20)]) rfl
  replace W4 := W4.bipush (v := (63 : Int32)) d2316_48_24 rfl rfl
  replace W4 := W4.icmpT (pc' := 57) d2316_48_26 (flt p37).2.2.2 (by decide) (by decide)
  replace W4 := W4.aloadN d2316_48_57 rfl rfl rfl
  replace W4 := W4.iconst (v := (0 : Int32)) d2316_48_58 rfl rfl
  have v5 := (q3_2.keep K4 (ninS (Exa.ne (q3_1.keep K4) q4_1 (by decide)) nin0))
  replace W4 := W4.aaload (w := (.ref r13)) d2316_48_59 v5 rfl ⟨by decide, by decide⟩ rfl rfl
  have v6 := (q3_10.keep K4 (ninS (Exa.ne (q3_9.keep K4) q4_1 (by decide)) nin0))
  obtain ⟨V7, h7, r7, W7, K7, hQ7, SF7⟩ := W4.callV (pc' := 63) (argsL := []) (rest := []) (Wd := 0) (cells' := 11) (slots' := 34) (a := r13) (C := "java/math/BigInteger") (y := N38) (z := N38) d2316_48_60 (m51_longValue H r13 r23 kr13 (1 : Int32) s11 s12 s22 s23 h4 W4.old q4_1 q4_3 q4_4 v6 (by decide) p18 p38 p39) q4_1 (tw224 H) (tw225 H) (Or.inl (tw227 H)) (tw227 H) (tw226 H) (tw130 H) (tw228 H) (by decide) (lenOf pd28 rfl) rfl rfl (by decide) (by decide) rfl sf0 all0
  clear W4
  obtain ⟨_, rfl, hs7⟩ := hQ7
  subst hs7
  replace W7 := W7.cast (st' := [(.long s23)]) rfl
  replace W7 := W7.aloadN d2316_48_63 rfl rfl rfl
  replace W7 := W7.iconst (v := (1 : Int32)) d2316_48_64 rfl rfl
  replace W7 := W7.aaload (w := (.ref (gA 4))) d2316_48_65 v5 rfl ⟨by decide, by decide⟩ rfl rfl
  have e8 := (gf7 H).ext W7.old.2
  obtain ⟨V9, h9, r9, W9, K9, hQ9, SF9⟩ := W7.callV (pc' := 69) (argsL := []) (rest := [(.long s23)]) (Wd := 2) (cells' := 11) (slots' := 34) (a := (gA 4)) (C := "java/math/BigInteger") (y := N39) (z := N39) d2316_48_66 (m58_intValue H h4 W7.old) e8 (tw240 H) (tw241 H) (Or.inl (tw243 H)) (tw243 H) (tw242 H) (tw130 H) (tw244 H) (by decide) (lenOf pd27 rfl) rfl rfl (by decide) (by decide) rfl sf0 all0
  clear W7
  obtain ⟨_, rfl, hs9⟩ := hQ9
  subst hs9
  replace W9 := W9.cast (st' := [(.int (0 : Int32)), (.long s23)]) rfl
  replace W9 := W9.i2l (v := (0 : Int64)) d2316_48_69 (by decide) rfl
  obtain ⟨V10, h10, r10, W10, K10, hQ10, SF10⟩ := W9.callS (pc' := 73) (argsL := [(.long s23), (.long (0 : Int64))]) (rest := []) (Wd := 0) (cells' := 12) (slots' := 36) (y := N45) d2316_48_70 (m61_ofSeconds H s23 (0 : Int64) (0 : Int64) (1000000000 : Int64) s24 s25 s26 s27 (0 : Int64) (0 : Int32) (0 : Int64) s28 h4 W9.old (by decide) (by decide) (by decide) p40 p41 p42 p43 p45 (by decide) (by decide) (by decide) p44 p46) (tw245 H) (tw246 H) (tw23 H) (tw247 H) (by decide) (lenOf pd31 rfl) rfl rfl (by decide) (by decide) rfl sf0 all0
  clear W9
  obtain ⟨_, r010, rfl, q10_1, q10_2, q10_3, q10_4⟩ := hQ10
  have z10 : h4.size ≤ h10.size := K10.1
  replace W10 := W10.cast (st' := [(.ref r010)]) rfl
  exact W10.aret (t := (.object "java/time/Duration")) d2316_48_73 rfl rfl rfl rfl (by decide) (by decide) (fun V' cv => ⟨r010, rfl, q10_1, q10_2, q10_3, (Nat.le_trans (Nat.le_trans (Nat.le_trans (Nat.le_trans z1 z2) z3) z4) q10_4)⟩)
theorem m94_multipliedBy (H : Cx Z a0 gA gK) (x0 : Addr) (u0 : Int64) (u1 : Int32) (u2 : Int64) (s0 : Int32) (s1 : Int64) (s2 : Int32) (h0 : Heap) (hO : Old Z n0 h0) (E_x0 : Exa Z h0 x0 "java/time/Duration") (F_x0_nanos : Fld Z h0 x0 "java/time/Duration" "nanos" "I" (.int u1)) (F_x0_seconds : Fld Z h0 x0 "java/time/Duration" "seconds" "J" (.long u2)) (p0 : (Jvm.Free.XT.cmpL u0 (0 : Int64)) = (1 : Int32)) (p1 : (Jvm.Free.XT.cmpL u0 (1 : Int64)) = (1 : Int32)) (p2 : (u2.toInt32) = s0) (p3 : (u1.toInt64) = s1) (p4 : (Jvm.Free.XT.cmpL u2 (0 : Int64)) = (1 : Int32)) (p5 : (Jvm.Free.XT.cmpL u2 (11 : Int64)) = (-1 : Int32)) (p6 : s0 = (2 : Int32)) (p7 : (Jvm.Free.XT.cmpL s1 (0 : Int64)) = (0 : Int32)) (p8 : (u0.toInt32) = s2) (p9 : (Jvm.Free.XT.cmpL u0 (11 : Int64)) = (-1 : Int32)) (p10 : s2 = (2 : Int32)) : Con l Z [] n0 N47 jdk_2316_method_44_code 3 (some (.object "java/time/Duration")) (Rm 8 14 46 122) #[(.ref x0), (.long u0)] h0 [] (fun v h V' => ∃ (r0 : Addr), v = some (.ref r0) ∧ Exa Z h r0 "java/time/Duration" ∧ Fld Z h r0 "java/time/Duration" "nanos" "I" (.int (0 : Int32)) ∧ Fld Z h r0 "java/time/Duration" "seconds" "J" (.long (4 : Int64)) ∧ h0.size ≤ r0) [] := by
  refine Con.of (a0 := a0) (L0 := #[.val (.ref x0), .val (.long u0), .second]) pf47 (fun _ => rfl) all0 hO EW.nil ?_
  intro p e s m below meth c S0 hnm hsf W
  replace W := W.lloadN d2316_44_0 rfl rfl
  replace W := W.lconst (v := (0 : Int64)) d2316_44_1 rfl rfl
  replace W := W.lcmp (v := (1 : Int32)) d2316_44_2 p0 rfl
  replace W := W.ifT (pc' := 10) d2316_44_3 (feq (by decide : ¬ ((1 : Int32) = (0 : Int32)))).2 (by decide) (by decide)
  replace W := W.lloadN d2316_44_10 rfl rfl
  replace W := W.lconst (v := (1 : Int64)) d2316_44_11 rfl rfl
  replace W := W.lcmp (v := (1 : Int32)) d2316_44_12 p1 rfl
  replace W := W.ifT (pc' := 18) d2316_44_13 (feq (by decide : ¬ ((1 : Int32) = (0 : Int32)))).2 (by decide) (by decide)
  replace W := W.aloadN d2316_44_18 rfl rfl rfl
  obtain ⟨V1, h1, r1, W1, K1, hQ1, SF1⟩ := W.callP (pc' := 22) (argsL := []) (rest := []) (Wd := 0) (cells' := 1) (slots' := 5) (a := x0) (C := "java/time/Duration") (y := N11) d2316_44_19 (m95_toBigDecimalSeconds H x0 u1 u2 s0 s1 h0 W.old F_x0_nanos F_x0_seconds p2 p4 p5 p6 p3 p7) E_x0 (tw25 H) (tw26 H) (tw28 H) (tw27 H) (tw23 H) (tw29 H) (by decide) (lenOf pd10 rfl) rfl rfl (by decide) (by decide) rfl sf0 all0
  clear W
  obtain ⟨_, r01, rfl, q1_1, q1_2, q1_3, q1_4, q1_5, q1_6⟩ := hQ1
  have z1 : h0.size ≤ h1.size := K1.1
  replace W1 := W1.cast (st' := [(.ref r01)]) rfl
  replace W1 := W1.lloadN d2316_44_22 rfl rfl
  obtain ⟨V2, h2, r2, W2, K2, hQ2, SF2⟩ := W1.callS (pc' := 26) (argsL := [(.long u0)]) (rest := [(.ref r01)]) (Wd := 1) (cells' := 1) (slots' := 5) (y := N1) d2316_44_23 (m15_valueOf H u0 s2 h1 W1.old p0 p9 p8 p10) (tw32 H) (tw33 H) (tw34 H) (tw35 H) (by decide) (lenOf pd1 rfl) rfl rfl (by decide) (by decide) rfl sf0 all0
  clear W1
  obtain ⟨_, rfl, hs2⟩ := hQ2
  subst hs2
  replace W2 := W2.cast (st' := [(.ref (gA 12)), (.ref r01)]) rfl
  obtain ⟨V3, h3, r3, W3, K3, hQ3, SF3⟩ := W2.callV (pc' := 29) (argsL := [(.ref (gA 12))]) (rest := []) (Wd := 0) (cells' := 2) (slots' := 10) (a := r01) (C := "java/math/BigDecimal") (y := N16) (z := N16) d2316_44_26 (m16_multiply H r01 (2000000000 : Int64) (9 : Int32) (9 : Int64) (9 : Int64) (9 : Int32) (9 : Int64) (4000000000 : Int64) (2000000002 : Int64) (0 : Int64) h1 W2.old q1_1 q1_2 q1_5 (by decide) (by decide) (by decide) (by decide) (by decide) (by decide) (by decide) (by decide) (by decide) (by decide) (by decide) (by decide) (by decide) (by decide)) q1_1 (tw85 H) (tw86 H) (Or.inl (tw88 H)) (tw88 H) (tw87 H) (tw34 H) (tw89 H) (by decide) (lenOf pd9 rfl) rfl rfl (by decide) (by decide) rfl sf0 all0
  clear W2
  obtain ⟨_, r03, rfl, q3_1, q3_2, q3_3, q3_4, q3_5, q3_6⟩ := hQ3
  have z3 : h1.size ≤ h3.size := K3.1
  replace W3 := W3.cast (st' := [(.ref r03)]) rfl
  obtain ⟨V4, h4, r4, W4, K4, hQ4, SF4⟩ := W3.callS (pc' := 32) (argsL := [(.ref r03)]) (rest := []) (Wd := 0) (cells' := 14) (slots' := 46) (y := N46) d2316_44_29 (m99_create H r03 (4000000000 : Int64) (9 : Int32) (9 : Int64) (0 : Int64) (0 : Int32) (0 : Int64) (0 : Int64) (0 : Int32) (-294967296 : Int32) (1852516352 : Int32) (-294967296 : Int64) (4000000000 : Int64) (4 : Int64) (4 : Int32) (4 : Int64) (4000000000 : Int64) (0 : Int64) (0 : Int32) (1 : Int32) (0 : Int32) (29 : Int32) (3 : Int32) (3 : Int32) (4 : Int32) (4 : Int64) (4 : Int64) (4 : Int64) (0 : Int64) (4 : Int64) (0 : Int64) (4 : Int64) h3 W3.old q3_1 q3_2 q3_3 q3_5 (by decide) (by decide) (by decide) (by decide) (by decide) (by decide) (by decide) (by decide) (by decide) (by decide) (by decide) (by decide) (by decide) (by decide) (by decide) (by decide) (by decide) (by decide) (by decide) (by decide) (by decide) (by decide) (by decide) (by decide) (by decide) (by decide) (by decide) (by decide) (by decide) (by decide) (by decide) (by decide) (by decide) (by decide) (by decide) (by decide) (by decide) (by decide) (by decide) (by decide) (by decide) (by decide) (by decide) (by decide) (by decide) (by decide) (by decide)) (tw105 H) (tw106 H) (tw23 H) (tw107 H) (by decide) (lenOf pd32 rfl) rfl rfl (by decide) (by decide) rfl sf0 all0
  clear W3
  obtain ⟨_, r04, rfl, q4_1, q4_2, q4_3, q4_4⟩ := hQ4
  have z4 : h3.size ≤ h4.size := K4.1
  replace W4 := W4.cast (st' := [(.ref r04)]) rfl
  exact W4.aret (t := (.object "java/time/Duration")) d2316_44_32 rfl rfl rfl rfl (by decide) (by decide) (fun V' cv => ⟨r04, rfl, q4_1, q4_2, q4_3, (Nat.le_trans (Nat.le_trans z1 z3) q4_4)⟩)
theorem m93_next (H : Cx Z a0 gA gK) (x0 x1 : Addr) (u0 : Int32) (u1 : Int64) (s0 : Int32) (s1 : Int64) (h0 : Heap) (hO : Old Z n0 h0) (E_x0 : Exa Z h0 x0 "com/example/letters_between_tasks/lettersbetweentasks/service/Backoff") (F_x0_next : Fld Z h0 x0 "com/example/letters_between_tasks/lettersbetweentasks/service/Backoff" "next" "Ljava/time/Duration;" (.ref x1)) (E_x1 : Exa Z h0 x1 "java/time/Duration") (F_x1_nanos : Fld Z h0 x1 "java/time/Duration" "nanos" "I" (.int u0)) (F_x1_seconds : Fld Z h0 x1 "java/time/Duration" "seconds" "J" (.long u1)) (p0 : (u1.toInt32) = s0) (p1 : (u0.toInt64) = s1) (p2 : (Jvm.Free.XT.cmpL u1 (0 : Int64)) = (1 : Int32)) (p3 : (Jvm.Free.XT.cmpL u1 (11 : Int64)) = (-1 : Int32)) (p4 : s0 = (2 : Int32)) (p5 : (Jvm.Free.XT.cmpL s1 (0 : Int64)) = (0 : Int32)) (g_x0 : n0 ≤ x0) : Con l Z [] n0 N50 prog_13_method_2_code 3 (some (.object "java/time/Duration")) (Rm 9 14 46 136) #[(.ref x0)] h0 [x0] (fun v h V' => ∃ (r0 : Addr), v = some (.ref x1) ∧ Exa Z h x0 "com/example/letters_between_tasks/lettersbetweentasks/service/Backoff" ∧ Fld Z h x0 "com/example/letters_between_tasks/lettersbetweentasks/service/Backoff" "next" "Ljava/time/Duration;" (.ref r0) ∧ Exa Z h r0 "java/time/Duration" ∧ Fld Z h r0 "java/time/Duration" "nanos" "I" (.int (0 : Int32)) ∧ Fld Z h r0 "java/time/Duration" "seconds" "J" (.long (4 : Int64)) ∧ h0.size ≤ r0) [] := by
  refine Con.of (a0 := a0) (L0 := #[.val (.ref x0), .unset, .unset]) pf50 (fun _ => rfl) (allS g_x0 all0) hO EW.nil ?_
  intro p e s m below meth c S0 hnm hsf W
  replace W := W.aloadN e13_2_0 rfl rfl rfl
  replace W := W.getf e13_2_1 (tw11 H) Via.refl F_x0_next rfl
  replace W := W.astoreN (L' := #[.val (.ref x0), .val (.ref x1), .unset]) e13_2_4 rfl rfl rfl
  replace W := W.aloadN e13_2_5 rfl rfl rfl
  replace W := W.getf e13_2_6 (tw11 H) Via.refl F_x0_next rfl
  replace W := W.ldc2 e13_2_9 (tw18 H) rfl
  obtain ⟨V1, h1, r1, W1, K1, hQ1, SF1⟩ := W.callV (pc' := 15) (argsL := [(.long (2 : Int64))]) (rest := []) (Wd := 0) (cells' := 14) (slots' := 46) (a := x1) (C := "java/time/Duration") (y := N47) (z := N47) e13_2_12 (m94_multipliedBy H x1 (2 : Int64) u0 u1 s0 s1 (2 : Int32) h0 W.old E_x1 F_x1_nanos F_x1_seconds (by decide) (by decide) p0 p1 p2 p3 p4 p5 (by decide) (by decide) (by decide)) E_x1 (tw19 H) (tw20 H) (Or.inl (tw22 H)) (tw22 H) (tw21 H) (tw23 H) (tw24 H) (by decide) (lenOf pd33 rfl) rfl rfl (by decide) (by decide) rfl sf0 all0
  clear W
  obtain ⟨_, r01, rfl, q1_1, q1_2, q1_3, q1_4⟩ := hQ1
  have z1 : h0.size ≤ h1.size := K1.1
  replace W1 := W1.cast (st' := [(.ref r01)]) rfl
  replace W1 := W1.astoreN (L' := #[.val (.ref x0), .val (.ref x1), .val (.ref r01)]) e13_2_15 rfl rfl rfl
  replace W1 := W1.aloadN e13_2_16 rfl rfl rfl
  replace W1 := W1.aloadN e13_2_17 rfl rfl rfl
  replace W1 := W1.gets e13_2_18 (tw268 H) (gf29 H) rfl
  obtain ⟨V2, h2, r2, W2, K2, hQ2, SF2⟩ := W1.callV (pc' := 24) (argsL := [(.ref (gA 1))]) (rest := [(.ref x0)]) (Wd := 1) (cells' := 14) (slots' := 46) (a := r01) (C := "java/time/Duration") (y := N49) (z := N49) e13_2_21 (m68_compareTo H r01 (4 : Int64) h1 W1.old q1_3 (by decide)) q1_1 (tw270 H) (tw271 H) (Or.inl (tw273 H)) (tw273 H) (tw272 H) (tw23 H) (tw274 H) (by decide) (lenOf pd34 rfl) rfl rfl (by decide) (by decide) rfl sf0 all0
  clear W1
  obtain ⟨_, rfl, hs2⟩ := hQ2
  subst hs2
  replace W2 := W2.cast (st' := [(.int (-1 : Int32)), (.ref x0)]) rfl
  replace W2 := W2.ifF (pc' := 27) e13_2_24 (tlt (by decide : (-1 : Int32) < (0 : Int32))).2.1 rfl
  replace W2 := W2.aloadN e13_2_27 rfl rfl rfl
  replace W2 := W2.goto (pc' := 34) e13_2_28 (by decide) (by decide)
  have f3 := (F_x0_next.keep K1 nin0)
  have e4 := (E_x0.keep K1)
  obtain ⟨h5, W5, w5, SF5⟩ := W2.putf (pc' := 37) (ty := (.object "java/time/Duration")) e13_2_34 (tw11 H) Via.refl f3 e4 (Or.inl (tw12 H)) (tw1 H) (by decide) rfl rfl safe0 (Or.inl (List.mem_of_getElem? (i := 0) rfl)) rfl
  clear W2
  have z5 : h1.size ≤ h5.size := Nat.le_of_eq w5.size.symm
  have f5 := f3.same w5
  replace W5 := W5.aloadN e13_2_37 rfl rfl rfl
  have e6 := (e4.wr w5)
  have e7 := (q1_1.wr w5)
  have f8 := (q1_2.other w5 (Or.inl (Nat.ne_of_gt (Nat.lt_of_lt_of_le E_x0.lt q1_4))))
  have f9 := (q1_3.other w5 (Or.inl (Nat.ne_of_gt (Nat.lt_of_lt_of_le E_x0.lt q1_4))))
  exact W5.aret (t := (.object "java/time/Duration")) e13_2_38 rfl rfl rfl rfl (by decide) (by decide) (fun V' cv => ⟨r01, rfl, e6, f5, e7, f8, f9, q1_4⟩)
theorem m106_valueOf (H : Cx Z a0 gA gK) (u0 : Int64) (s0 : Int32) (h0 : Heap) (hO : Old Z n0 h0) (p0 : (Jvm.Free.XT.cmpL u0 (0 : Int64)) = (1 : Int32)) (p1 : (Jvm.Free.XT.cmpL u0 (11 : Int64)) = (-1 : Int32)) (p2 : (u0.toInt32) = s0) (p3 : s0 = (4 : Int32)) : Con l Z [] n0 N1 jdk_17_method_21_code 2 (some (.object "java/math/BigDecimal")) (Rm 0 0 0 0) #[(.long u0)] h0 [] (fun v h V' => v = some (.ref (gA 14)) ∧ h0 = h) [] := by
  refine Con.of (a0 := a0) (L0 := #[.val (.long u0), .second]) pf1 (fun _ => rfl) all0 hO EW.nil ?_
  intro p e s m below meth c S0 hnm hsf W
  replace W := W.lloadN d17_21_0 rfl rfl
  replace W := W.lconst (v := (0 : Int64)) d17_21_1 rfl rfl
  replace W := W.lcmp (v := (1 : Int32)) d17_21_2 p0 rfl
  replace W := W.ifF (pc' := 6) d17_21_3 (flt (by decide : ¬ ((1 : Int32) < (0 : Int32)))).1 rfl
  replace W := W.lloadN d17_21_6 rfl rfl
  replace W := W.gets d17_21_7 (tw36 H) (gf33 H) rfl
  have v1 := (gf38 H).ext W.old.2
  replace W := W.alen d17_21_10 v1 rfl
  replace W := W.i2l (v := (11 : Int64)) d17_21_11 (by decide) rfl
  replace W := W.lcmp (v := (-1 : Int32)) d17_21_12 p1 rfl
  replace W := W.ifF (pc' := 16) d17_21_13 (tlt (by decide : (-1 : Int32) < (0 : Int32))).2.1 rfl
  replace W := W.gets d17_21_16 (tw36 H) (gf33 H) rfl
  replace W := W.lloadN d17_21_19 rfl rfl
  replace W := W.l2i (v := s0) d17_21_20 p2 rfl
  subst p3
  replace W := W.aaload (w := (.ref (gA 14))) d17_21_21 v1 rfl ⟨by decide, by decide⟩ rfl rfl
  exact W.aret (t := (.object "java/math/BigDecimal")) d17_21_22 rfl rfl rfl rfl (by decide) (by decide) (fun V' cv => ⟨rfl, rfl⟩)
theorem m107_add (H : Cx Z a0 gA gK)  (h0 : Heap) (hO : Old Z n0 h0)  : Con l Z [] n0 N10 jdk_17_method_26_code 2 (some (.object "java/math/BigDecimal")) (Rm 6 1 5 97) #[(.ref (gA 14)), (.ref (gA 30))] h0 [] (fun v h V' => ∃ (r0 : Addr), v = some (.ref r0) ∧ Exa Z h r0 "java/math/BigDecimal" ∧ Fld Z h r0 "java/math/BigDecimal" "intCompact" "J" (.long (4000000000 : Int64)) ∧ Fld Z h r0 "java/math/BigDecimal" "intVal" "Ljava/math/BigInteger;" .null ∧ Fld Z h r0 "java/math/BigDecimal" "precision" "I" (.int (0 : Int32)) ∧ Fld Z h r0 "java/math/BigDecimal" "scale" "I" (.int (9 : Int32)) ∧ h0.size ≤ r0) [] := by
  refine Con.of (a0 := a0) (L0 := #[.val (.ref (gA 14)), .val (.ref (gA 30))]) pf10 (fun _ => rfl) all0 hO EW.nil ?_
  intro p e s m below meth c S0 hnm hsf W
  replace W := W.aloadN d17_26_0 rfl rfl rfl
  have f1 := (gf18 H).ext W.old.2
  replace W := W.getf d17_26_1 (tw60 H) Via.refl f1 rfl
  replace W := W.ldc2 d17_26_4 (tw44 H) rfl
  replace W := W.lcmp (v := (1 : Int32)) d17_26_7 (by decide) rfl
  replace W := W.ifF (pc' := 11) d17_26_8 (feq (by decide : ¬ ((1 : Int32) = (0 : Int32)))).1 rfl
  replace W := W.aloadN d17_26_11 rfl rfl rfl
  have f2 := (gf24 H).ext W.old.2
  replace W := W.getf d17_26_12 (tw60 H) Via.refl f2 rfl
  replace W := W.ldc2 d17_26_15 (tw44 H) rfl
  replace W := W.lcmp (v := (1 : Int32)) d17_26_18 (by decide) rfl
  replace W := W.ifF (pc' := 22) d17_26_19 (feq (by decide : ¬ ((1 : Int32) = (0 : Int32)))).1 rfl
  replace W := W.aloadN d17_26_22 rfl rfl rfl
  replace W := W.getf d17_26_23 (tw60 H) Via.refl f1 rfl
  replace W := W.aloadN d17_26_26 rfl rfl rfl
  have f3 := (gf19 H).ext W.old.2
  replace W := W.getf d17_26_27 (tw56 H) Via.refl f3 rfl
  replace W := W.aloadN d17_26_30 rfl rfl rfl
  replace W := W.getf d17_26_31 (tw60 H) Via.refl f2 rfl
  replace W := W.aloadN d17_26_34 rfl rfl rfl
  have f4 := (gf25 H).ext W.old.2
  replace W := W.getf d17_26_35 (tw56 H) Via.refl f4 rfl
  obtain ⟨V5, h5, r5, W5, K5, hQ5, SF5⟩ := W.callS (pc' := 41) (argsL := [(.long (4 : Int64)), (.int (0 : Int32)), (.long (0 : Int64)), (.int (9 : Int32))]) (rest := []) (Wd := 0) (cells' := 1) (slots' := 5) (y := N9) d17_26_38 (m97_add H (4 : Int64) (0 : Int32) (0 : Int64) (9 : Int32) (0 : Int64) (9 : Int64) (-9 : Int64) (9 : Int64) (9 : Int32) (9 : Int64) (4000000000 : Int64) (4000000000 : Int64) (0 : Int64) (4000000000 : Int64) (0 : Int64) h0 W.old (by decide) (by decide) (by decide) (by decide) (by decide) (by decide) (by decide) (by decide) (by decide) (by decide) (by decide) (by decide) (by decide) (by decide) (by decide) (by decide) (by decide) (by decide) (by decide) (by decide) (by decide) (by decide) (by decide) (by decide)) (tw69 H) (tw70 H) (tw34 H) (tw71 H) (by decide) (lenOf pd8 rfl) rfl rfl (by decide) (by decide) rfl sf0 all0
  clear W
  obtain ⟨_, r05, rfl, q5_1, q5_2, q5_3, q5_4, q5_5, q5_6⟩ := hQ5
  have z5 : h0.size ≤ h5.size := K5.1
  replace W5 := W5.cast (st' := [(.ref r05)]) rfl
  exact W5.aret (t := (.object "java/math/BigDecimal")) d17_26_41 rfl rfl rfl rfl (by decide) (by decide) (fun V' cv => ⟨r05, rfl, q5_1, q5_2, q5_3, q5_4, q5_5, q5_6⟩)
theorem m105_toBigDecimalSeconds (H : Cx Z a0 gA gK) (x0 : Addr) (u0 : Int32) (u1 : Int64) (s0 : Int32) (s1 : Int64) (h0 : Heap) (hO : Old Z n0 h0) (F_x0_nanos : Fld Z h0 x0 "java/time/Duration" "nanos" "I" (.int u0)) (F_x0_seconds : Fld Z h0 x0 "java/time/Duration" "seconds" "J" (.long u1)) (p0 : (u1.toInt32) = s0) (p1 : (Jvm.Free.XT.cmpL u1 (0 : Int64)) = (1 : Int32)) (p2 : (Jvm.Free.XT.cmpL u1 (11 : Int64)) = (-1 : Int32)) (p3 : s0 = (4 : Int32)) (p4 : (u0.toInt64) = s1) (p5 : (Jvm.Free.XT.cmpL s1 (0 : Int64)) = (0 : Int32)) : Con l Z [] n0 N11 jdk_2316_method_47_code 1 (some (.object "java/math/BigDecimal")) (Rm 7 1 5 110) #[(.ref x0)] h0 [] (fun v h V' => ∃ (r0 : Addr), v = some (.ref r0) ∧ Exa Z h r0 "java/math/BigDecimal" ∧ Fld Z h r0 "java/math/BigDecimal" "intCompact" "J" (.long (4000000000 : Int64)) ∧ Fld Z h r0 "java/math/BigDecimal" "intVal" "Ljava/math/BigInteger;" .null ∧ Fld Z h r0 "java/math/BigDecimal" "precision" "I" (.int (0 : Int32)) ∧ Fld Z h r0 "java/math/BigDecimal" "scale" "I" (.int (9 : Int32)) ∧ h0.size ≤ r0) [] := by
  refine Con.of (a0 := a0) (L0 := #[.val (.ref x0)]) pf11 (fun _ => rfl) all0 hO EW.nil ?_
  intro p e s m below meth c S0 hnm hsf W
  replace W := W.aloadN d2316_47_0 rfl rfl rfl
  replace W := W.getf d2316_47_1 (tw30 H) Via.refl F_x0_seconds rfl
  obtain ⟨V1, h1, r1, W1, K1, hQ1, SF1⟩ := W.callS (pc' := 7) (argsL := [(.long u1)]) (rest := []) (Wd := 0) (cells' := 0) (slots' := 0) (y := N1) d2316_47_4 (m106_valueOf H u1 s0 h0 W.old p1 p2 p0 p3) (tw32 H) (tw33 H) (tw34 H) (tw35 H) (by decide) (lenOf pd1 rfl) rfl rfl (by decide) (by decide) rfl sf0 all0
  clear W
  obtain ⟨_, rfl, hs1⟩ := hQ1
  subst hs1
  replace W1 := W1.cast (st' := [(.ref (gA 14))]) rfl
  replace W1 := W1.aloadN d2316_47_7 rfl rfl rfl
  replace W1 := W1.getf d2316_47_8 (tw37 H) Via.refl F_x0_nanos rfl
  replace W1 := W1.i2l (v := s1) d2316_47_11 p4 rfl
  replace W1 := W1.bipush (v := (9 : Int32)) d2316_47_12 rfl rfl
  obtain ⟨V2, h2, r2, W2, K2, hQ2, SF2⟩ := W1.callS (pc' := 17) (argsL := [(.long s1), (.int (9 : Int32))]) (rest := [(.ref (gA 14))]) (Wd := 1) (cells' := 0) (slots' := 0) (y := N4) d2316_47_14 (m77_valueOf H s1 (9 : Int32) h0 W1.old (by decide) p5 (by decide) (by decide) (by decide)) (tw39 H) (tw40 H) (tw34 H) (tw41 H) (by decide) (lenOf pd3 rfl) rfl rfl (by decide) (by decide) rfl sf0 all0
  clear W1
  obtain ⟨_, rfl, hs2⟩ := hQ2
  subst hs2
  replace W2 := W2.cast (st' := [(.ref (gA 30)), (.ref (gA 14))]) rfl
  have e3 := (gf5 H).ext W2.old.2
  obtain ⟨V4, h4, r4, W4, K4, hQ4, SF4⟩ := W2.callV (pc' := 20) (argsL := [(.ref (gA 30))]) (rest := []) (Wd := 0) (cells' := 1) (slots' := 5) (a := (gA 14)) (C := "java/math/BigDecimal") (y := N10) (z := N10) d2316_47_17 (m107_add H h0 W2.old) e3 (tw64 H) (tw65 H) (Or.inl (tw67 H)) (tw67 H) (tw66 H) (tw34 H) (tw68 H) (by decide) (lenOf pd9 rfl) rfl rfl (by decide) (by decide) rfl sf0 all0
  clear W2
  obtain ⟨_, r04, rfl, q4_1, q4_2, q4_3, q4_4, q4_5, q4_6⟩ := hQ4
  have z4 : h0.size ≤ h4.size := K4.1
  replace W4 := W4.cast (st' := [(.ref r04)]) rfl
  exact W4.aret (t := (.object "java/math/BigDecimal")) d2316_47_20 rfl rfl rfl rfl (by decide) (by decide) (fun V' cv => ⟨r04, rfl, q4_1, q4_2, q4_3, q4_4, q4_5, q4_6⟩)
theorem m110_multiply (H : Cx Z a0 gA gK) (u0 u1 s0 s1 s2 s3 : Int64) (h0 : Heap) (hO : Old Z n0 h0) (p0 : (u0 * u1) = s0) (p1 : (Jvm.Free.XT.cmpL u0 (0 : Int64)) = (1 : Int32)) (p2 : (Jvm.Free.XT.cmpL u1 (0 : Int64)) = (1 : Int32)) (p3 : (u0 ||| u1) = s1) (p4 : (Jvm.Free.XT.ushrL s1 (31 : Int32)) = s2) (p5 : (Jvm.Free.XT.cmpL s2 (0 : Int64)) = (1 : Int32)) (p6 : u1 = (2 : Int64)) (p7 : (s0 / (2 : Int64)) = s3) (p8 : (Jvm.Free.XT.cmpL s3 u0) = (0 : Int32)) : Con l Z [] n0 N14 jdk_17_method_156_code 10 (some .long) (Rm 1 0 0 13) #[(.long u0), (.long u1)] h0 [] (fun v h V' => v = some (.long s0) ∧ h0 = h) [] := by
  refine Con.of (a0 := a0) (L0 := #[.val (.long u0), .second, .val (.long u1), .second, .unset, .unset, .unset, .unset, .unset, .unset]) pf14 (fun _ => rfl) all0 hO EW.nil ?_
  intro p e s m below meth c S0 hnm hsf W
  replace W := W.lloadN d17_156_0 rfl rfl
  replace W := W.lloadN d17_156_1 rfl rfl
  replace W := W.lmul (v := s0) d17_156_2 p0 rfl
  replace W := W.lstore (L' := #[.val (.long u0), .second, .val (.long u1), .second, .val (.long s0), .second, .unset, .unset, .unset, .unset]) d17_156_3 rfl rfl
  replace W := W.lloadN d17_156_5 rfl rfl
  obtain ⟨V1, h1, r1, W1, K1, hQ1, SF1⟩ := W.callS (pc' := 9) (argsL := [(.long u0)]) (rest := []) (Wd := 0) (cells' := 0) (slots' := 0) (y := N13) d17_156_6 (m20_abs H u0 h0 W.old p1) (tw101 H) (tw102 H) (tw103 H) (tw104 H) (by decide) (lenOf pd12 rfl) rfl rfl (by decide) (by decide) rfl sf0 all0
  clear W
  obtain ⟨_, rfl, hs1⟩ := hQ1
  subst hs1
  replace W1 := W1.cast (st' := [(.long u0)]) rfl
  replace W1 := W1.lstore (L' := #[.val (.long u0), .second, .val (.long u1), .second, .val (.long s0), .second, .val (.long u0), .second, .unset, .unset]) d17_156_9 rfl rfl
  replace W1 := W1.lloadN d17_156_11 rfl rfl
  obtain ⟨V2, h2, r2, W2, K2, hQ2, SF2⟩ := W1.callS (pc' := 15) (argsL := [(.long u1)]) (rest := []) (Wd := 0) (cells' := 0) (slots' := 0) (y := N13) d17_156_12 (m20_abs H u1 h0 W1.old p2) (tw101 H) (tw102 H) (tw103 H) (tw104 H) (by decide) (lenOf pd12 rfl) rfl rfl (by decide) (by decide) rfl sf0 all0
  clear W1
  obtain ⟨_, rfl, hs2⟩ := hQ2
  subst hs2
  replace W2 := W2.cast (st' := [(.long u1)]) rfl
  replace W2 := W2.lstore (L' := #[.val (.long u0), .second, .val (.long u1), .second, .val (.long s0), .second, .val (.long u0), .second, .val (.long u1), .second]) d17_156_15 rfl rfl
  replace W2 := W2.lload d17_156_17 rfl rfl
  replace W2 := W2.lload d17_156_19 rfl rfl
  replace W2 := W2.lor (v := s1) d17_156_21 p3 rfl
  replace W2 := W2.bipush (v := (31 : Int32)) d17_156_22 rfl rfl
  replace W2 := W2.lushr (v := s2) d17_156_24 p4 rfl
  replace W2 := W2.lconst (v := (0 : Int64)) d17_156_25 rfl rfl
  replace W2 := W2.lcmp (v := (1 : Int32)) d17_156_26 p5 rfl
  replace W2 := W2.ifF (pc' := 30) d17_156_27 (feq (by decide : ¬ ((1 : Int32) = (0 : Int32)))).1 rfl
  replace W2 := W2.lloadN d17_156_30 rfl rfl
  replace W2 := W2.lconst (v := (0 : Int64)) d17_156_31 rfl rfl
  replace W2 := W2.lcmp (v := (1 : Int32)) d17_156_32 p2 rfl
  replace W2 := W2.ifF (pc' := 36) d17_156_33 (feq (by decide : ¬ ((1 : Int32) = (0 : Int32)))).1 rfl
  replace W2 := W2.lload d17_156_36 rfl rfl
  replace W2 := W2.lloadN d17_156_38 rfl rfl
  subst p6
  replace W2 := W2.ldiv (v := s3) d17_156_39 (by decide) p7 rfl
  replace W2 := W2.lloadN d17_156_40 rfl rfl
  replace W2 := W2.lcmp (v := (0 : Int32)) d17_156_41 p8 rfl
  replace W2 := W2.ifF (pc' := 45) d17_156_42 (teq (by decide : (0 : Int32) = (0 : Int32))).2 rfl
  replace W2 := W2.lload d17_156_45 rfl rfl
  exact W2.lret d17_156_47 rfl (by decide) (by decide) (fun V' cv => ⟨rfl, rfl⟩)
theorem m109_multiply (H : Cx Z a0 gA gK) (u0 u1 : Int64) (u2 : Int32) (s0 s1 s2 s3 : Int64) (h0 : Heap) (hO : Old Z n0 h0) (p0 : (u0 * u1) = s0) (p1 : (u0 ||| u1) = s1) (p2 : (Jvm.Free.XT.ushrL s1 (31 : Int32)) = s2) (p3 : (s0 / (2 : Int64)) = s3) (p4 : (Jvm.Free.XT.cmpL u0 (0 : Int64)) = (1 : Int32)) (p5 : (Jvm.Free.XT.cmpL u1 (0 : Int64)) = (1 : Int32)) (p6 : (Jvm.Free.XT.cmpL s2 (0 : Int64)) = (1 : Int32)) (p7 : u1 = (2 : Int64)) (p8 : (Jvm.Free.XT.cmpL s3 u0) = (0 : Int32)) (p9 : (Jvm.Free.XT.cmpL s0 (-9223372036854775808 : Int64)) = (1 : Int32)) (p10 : ¬ (u2 = (0 : Int32))) (p11 : (Jvm.Free.XT.cmpL s0 (0 : Int64)) = (1 : Int32)) : Con l Z [] n0 N15 jdk_17_method_157_code 7 (some (.object "java/math/BigDecimal")) (Rm 4 1 5 56) #[(.long u0), (.long u1), (.int u2)] h0 [] (fun v h V' => ∃ (r0 : Addr), v = some (.ref r0) ∧ Exa Z h r0 "java/math/BigDecimal" ∧ Fld Z h r0 "java/math/BigDecimal" "intCompact" "J" (.long s0) ∧ Fld Z h r0 "java/math/BigDecimal" "intVal" "Ljava/math/BigInteger;" .null ∧ Fld Z h r0 "java/math/BigDecimal" "precision" "I" (.int (0 : Int32)) ∧ Fld Z h r0 "java/math/BigDecimal" "scale" "I" (.int u2) ∧ h0.size ≤ r0) [] := by
  refine Con.of (a0 := a0) (L0 := #[.val (.long u0), .second, .val (.long u1), .second, .val (.int u2), .unset, .unset]) pf15 (fun _ => rfl) all0 hO EW.nil ?_
  intro p e s m below meth c S0 hnm hsf W
  replace W := W.lloadN d17_157_0 rfl rfl
  replace W := W.lloadN d17_157_1 rfl rfl
  obtain ⟨V1, h1, r1, W1, K1, hQ1, SF1⟩ := W.callS (pc' := 5) (argsL := [(.long u0), (.long u1)]) (rest := []) (Wd := 0) (cells' := 0) (slots' := 0) (y := N14) d17_157_2 (m110_multiply H u0 u1 s0 s1 s2 s3 h0 W.old p0 p4 p5 p1 p2 p6 p7 p3 p8) (tw98 H) (tw99 H) (tw34 H) (tw100 H) (by decide) (lenOf pd6 rfl) rfl rfl (by decide) (by decide) rfl sf0 all0
  clear W
  obtain ⟨_, rfl, hs1⟩ := hQ1
  subst hs1
  replace W1 := W1.cast (st' := [(.long s0)]) rfl
  replace W1 := W1.lstore (L' := #[.val (.long u0), .second, .val (.long u1), .second, .val (.int u2), .val (.long s0), .second]) d17_157_5 rfl rfl
  replace W1 := W1.lload d17_157_7 rfl rfl
  replace W1 := W1.ldc2 d17_157_9 (tw44 H) rfl
  replace W1 := W1.lcmp (v := (1 : Int32)) d17_157_12 p9 rfl
  replace W1 := W1.ifF (pc' := 16) d17_157_13 (feq (by decide : ¬ ((1 : Int32) = (0 : Int32)))).1 rfl
  replace W1 := W1.lload d17_157_16 rfl rfl
  replace W1 := W1.iload d17_157_18 rfl rfl
  obtain ⟨V2, h2, r2, W2, K2, hQ2, SF2⟩ := W1.callS (pc' := 23) (argsL := [(.long s0), (.int u2)]) (rest := []) (Wd := 0) (cells' := 1) (slots' := 5) (y := N4) d17_157_20 (m6_valueOf H s0 u2 h0 W1.old p10 p11 p9) (tw84 H) (tw40 H) (tw34 H) (tw41 H) (by decide) (lenOf pd3 rfl) rfl rfl (by decide) (by decide) rfl sf0 all0
  clear W1
  obtain ⟨_, r02, rfl, q2_1, q2_2, q2_3, q2_4, q2_5, q2_6⟩ := hQ2
  have z2 : h0.size ≤ h2.size := K2.1
  replace W2 := W2.cast (st' := [(.ref r02)]) rfl
  exact W2.aret (t := (.object "java/math/BigDecimal")) d17_157_23 rfl rfl rfl rfl (by decide) (by decide) (fun V' cv => ⟨r02, rfl, q2_1, q2_2, q2_3, q2_4, q2_5, q2_6⟩)
theorem m108_multiply (H : Cx Z a0 gA gK) (x0 : Addr) (u0 : Int64) (u2 : Int32) (s0 s1 : Int64) (s2 : Int32) (s3 s4 s5 s6 s7 : Int64) (h0 : Heap) (hO : Old Z n0 h0) (E_x0 : Exa Z h0 x0 "java/math/BigDecimal") (F_x0_intCompact : Fld Z h0 x0 "java/math/BigDecimal" "intCompact" "J" (.long u0)) (F_x0_scale : Fld Z h0 x0 "java/math/BigDecimal" "scale" "I" (.int u2)) (p0 : (u2.toInt64) = s0) (p1 : (s0 + (0 : Int64)) = s1) (p2 : (s1.toInt32) = s2) (p3 : (s2.toInt64) = s3) (p4 : (Jvm.Free.XT.cmpL s3 s1) = (0 : Int32)) (p5 : (Jvm.Free.XT.cmpL u0 (-9223372036854775808 : Int64)) = (1 : Int32)) (p6 : (u0 * (2 : Int64)) = s4) (p7 : (u0 ||| (2 : Int64)) = s5) (p8 : (Jvm.Free.XT.ushrL s5 (31 : Int32)) = s6) (p9 : (s4 / (2 : Int64)) = s7) (p10 : (Jvm.Free.XT.cmpL u0 (0 : Int64)) = (1 : Int32)) (p11 : (Jvm.Free.XT.cmpL s6 (0 : Int64)) = (1 : Int32)) (p12 : (Jvm.Free.XT.cmpL s7 u0) = (0 : Int32)) (p13 : (Jvm.Free.XT.cmpL s4 (-9223372036854775808 : Int64)) = (1 : Int32)) (p14 : ¬ (s2 = (0 : Int32))) (p15 : (Jvm.Free.XT.cmpL s4 (0 : Int64)) = (1 : Int32)) : Con l Z [] n0 N16 jdk_17_method_31_code 3 (some (.object "java/math/BigDecimal")) (Rm 5 1 5 74) #[(.ref x0), (.ref (gA 12))] h0 [] (fun v h V' => ∃ (r0 : Addr), v = some (.ref r0) ∧ Exa Z h r0 "java/math/BigDecimal" ∧ Fld Z h r0 "java/math/BigDecimal" "intCompact" "J" (.long s4) ∧ Fld Z h r0 "java/math/BigDecimal" "intVal" "Ljava/math/BigInteger;" .null ∧ Fld Z h r0 "java/math/BigDecimal" "precision" "I" (.int (0 : Int32)) ∧ Fld Z h r0 "java/math/BigDecimal" "scale" "I" (.int s2) ∧ h0.size ≤ r0) [] := by
  refine Con.of (a0 := a0) (L0 := #[.val (.ref x0), .val (.ref (gA 12)), .unset]) pf16 (fun _ => rfl) all0 hO EW.nil ?_
  intro p e s m below meth c S0 hnm hsf W
  replace W := W.aloadN d17_31_0 rfl rfl rfl
  replace W := W.aloadN d17_31_1 rfl rfl rfl
  replace W := W.getf d17_31_2 (tw56 H) Via.refl F_x0_scale rfl
  replace W := W.i2l (v := s0) d17_31_5 p0 rfl
  replace W := W.aloadN d17_31_6 rfl rfl rfl
  have f1 := (gf17 H).ext W.old.2
  replace W := W.getf d17_31_7 (tw56 H) Via.refl f1 rfl
  replace W := W.i2l (v := (0 : Int64)) d17_31_10 (by decide) rfl
  replace W := W.ladd (v := s1) d17_31_11 p1 rfl
  obtain ⟨V2, h2, r2, W2, K2, hQ2, SF2⟩ := W.callP (pc' := 15) (argsL := [(.long s1)]) (rest := []) (Wd := 0) (cells' := 0) (slots' := 0) (a := x0) (C := "java/math/BigDecimal") (y := N12) d17_31_12 (m21_checkScale H x0 s1 s2 s3 h0 W.old p2 p3 p4) E_x0 (tw90 H) (tw91 H) (tw93 H) (tw92 H) (tw34 H) (tw94 H) (by decide) (lenOf pd11 rfl) rfl rfl (by decide) (by decide) rfl sf0 all0
  clear W
  obtain ⟨_, rfl, hs2⟩ := hQ2
  subst hs2
  replace W2 := W2.cast (st' := [(.int s2)]) rfl
  replace W2 := W2.istoreN (L' := #[.val (.ref x0), .val (.ref (gA 12)), .val (.int s2)]) d17_31_15 rfl rfl
  replace W2 := W2.aloadN d17_31_16 rfl rfl rfl
  replace W2 := W2.getf d17_31_17 (tw60 H) Via.refl F_x0_intCompact rfl
  replace W2 := W2.ldc2 d17_31_20 (tw44 H) rfl
  replace W2 := W2.lcmp (v := (1 : Int32)) d17_31_23 p5 rfl
  replace W2 := W2.ifF (pc' := 27) d17_31_24 (feq (by decide : ¬ ((1 : Int32) = (0 : Int32)))).1 rfl
  replace W2 := W2.aloadN d17_31_27 rfl rfl rfl
  have f3 := (gf16 H).ext W2.old.2
  replace W2 := W2.getf d17_31_28 (tw60 H) Via.refl f3 rfl
  replace W2 := W2.ldc2 d17_31_31 (tw44 H) rfl
  replace W2 := W2.lcmp (v := (1 : Int32)) d17_31_34 (by decide) rfl
  replace W2 := W2.ifF (pc' := 38) d17_31_35 (feq (by decide : ¬ ((1 : Int32) = (0 : Int32)))).1 rfl
  replace W2 := W2.aloadN d17_31_38 rfl rfl rfl
  replace W2 := W2.getf d17_31_39 (tw60 H) Via.refl F_x0_intCompact rfl
  replace W2 := W2.aloadN d17_31_42 rfl rfl rfl
  replace W2 := W2.getf d17_31_43 (tw60 H) Via.refl f3 rfl
  replace W2 := W2.iloadN d17_31_46 rfl rfl
  obtain ⟨V4, h4, r4, W4, K4, hQ4, SF4⟩ := W2.callS (pc' := 50) (argsL := [(.long u0), (.long (2 : Int64)), (.int s2)]) (rest := []) (Wd := 0) (cells' := 1) (slots' := 5) (y := N15) d17_31_47 (m109_multiply H u0 (2 : Int64) s2 s4 s5 s6 s7 h0 W2.old p6 p7 p8 p9 p10 (by decide) p11 (by decide) p12 p13 p14 p15) (tw95 H) (tw96 H) (tw34 H) (tw97 H) (by decide) (lenOf pd7 rfl) rfl rfl (by decide) (by decide) rfl sf0 all0
  clear W2
  obtain ⟨_, r04, rfl, q4_1, q4_2, q4_3, q4_4, q4_5, q4_6⟩ := hQ4
  have z4 : h0.size ≤ h4.size := K4.1
  replace W4 := W4.cast (st' := [(.ref r04)]) rfl
  exact W4.aret (t := (.object "java/math/BigDecimal")) d17_31_50 rfl rfl rfl rfl (by decide) (by decide) (fun V' cv => ⟨r04, rfl, q4_1, q4_2, q4_3, q4_4, q4_5, q4_6⟩)
theorem m115_init (H : Cx Z a0 gA gK) (x0 : Addr) (u0 : Int64) (u1 u2 : Int32) (s0 : Int64) (s1 s2 : Int32) (h0 : Heap) (hO : Old Z n0 h0) (E_x0 : Exa Z h0 x0 "java/math/BigInteger") (F_x0_bitLengthPlusOne : Fld Z h0 x0 "java/math/BigInteger" "bitLengthPlusOne" "I" (.int u1)) (F_x0_mag : Fld Z h0 x0 "java/math/BigInteger" "mag" "[I" .null) (F_x0_signum : Fld Z h0 x0 "java/math/BigInteger" "signum" "I" (.int u2)) (p0 : (Jvm.Free.XT.cmpL u0 (0 : Int64)) = (1 : Int32)) (p1 : (Jvm.Free.XT.ushrL u0 (32 : Int32)) = s0) (p2 : (s0.toInt32) = s1) (p3 : ¬ (s1 = (0 : Int32))) (p4 : (u0.toInt32) = s2) (g_x0 : n0 ≤ x0) : Con l Z [] n0 N19 jdk_2097_method_30_code 4 none (Rm 2 1 2 24) #[(.ref x0), (.long u0)] h0 [x0] (fun v h V' => ∃ (r0 : Addr) (kr0 : ClassId), v = none ∧ Exa Z h x0 "java/math/BigInteger" ∧ Fld Z h x0 "java/math/BigInteger" "bitLengthPlusOne" "I" (.int u1) ∧ Fld Z h x0 "java/math/BigInteger" "mag" "[I" (.ref r0) ∧ Fld Z h x0 "java/math/BigInteger" "signum" "I" (.int (1 : Int32)) ∧ Exa Z h r0 "[I" ∧ Arv Z h r0 kr0 .int (2 : Int32) [(.int s1), (.int s2)] (.int (0 : Int32)) ∧ h0.size ≤ r0) [] := by
  refine Con.of (a0 := a0) (L0 := #[.val (.ref x0), .val (.long u0), .second, .unset]) pf19 (fun _ => rfl) (allS g_x0 all0) hO EW.nil ?_
  intro p e s m below meth c S0 hnm hsf W
  replace W := W.aloadN d2097_30_0 rfl rfl rfl
  obtain ⟨V1, h1, r1, W1, K1, hQ1, SF1⟩ := W.callI (pc' := 4) (argsL := []) (rest := []) (Wd := 0) (cells' := 0) (slots' := 0) (a := x0) (y := N2) d2097_30_1 (m30_init H x0 h0 W.old) rfl (tw139 H) (tw50 H) (tw53 H) (tw54 H) (by decide) (lenOf pd0 rfl) rfl rfl (by decide) (by decide) rfl sf0 all0
  clear W
  obtain ⟨_, rfl, hs1⟩ := hQ1
  subst hs1
  replace W1 := W1.cast (st' := []) rfl
  replace W1 := W1.lloadN d2097_30_4 rfl rfl
  replace W1 := W1.lconst (v := (0 : Int64)) d2097_30_5 rfl rfl
  replace W1 := W1.lcmp (v := (1 : Int32)) d2097_30_6 p0 rfl
  replace W1 := W1.ifT (pc' := 21) d2097_30_7 (flt (by decide : ¬ ((1 : Int32) < (0 : Int32)))).2.1 (by decide) (by decide)
  replace W1 := W1.aloadN d2097_30_21 rfl rfl rfl
  replace W1 := W1.iconst (v := (1 : Int32)) d2097_30_22 rfl rfl
  obtain ⟨h2, W2, w2, SF2⟩ := W1.putf (pc' := 26) (ty := .int) d2097_30_23 (tw141 H) Via.refl F_x0_signum E_x0 (Or.inr ⟨(tw142 H), rfl, hnm⟩) (tw134 H) (by decide) rfl rfl safe0 (Or.inl (List.mem_of_getElem? (i := 0) rfl)) rfl
  clear W1
  have z2 : h0.size ≤ h2.size := Nat.le_of_eq w2.size.symm
  have f2 := F_x0_signum.same w2
  replace W2 := W2.lloadN d2097_30_26 rfl rfl
  replace W2 := W2.bipush (v := (32 : Int32)) d2097_30_27 rfl rfl
  replace W2 := W2.lushr (v := s0) d2097_30_29 p1 rfl
  replace W2 := W2.l2i (v := s1) d2097_30_30 p2 rfl
  replace W2 := W2.istoreN (L' := #[.val (.ref x0), .val (.long u0), .second, .val (.int s1)]) d2097_30_31 rfl rfl
  replace W2 := W2.iloadN d2097_30_32 rfl rfl
  replace W2 := W2.ifT (pc' := 54) d2097_30_33 (feq p3).2 (by decide) (by decide)
  replace W2 := W2.aloadN d2097_30_54 rfl rfl rfl
  replace W2 := W2.iconst (v := (2 : Int32)) d2097_30_55 rfl rfl
  obtain ⟨h3, a3, W3, E3, g3, ⟨⟨k3, A3⟩, B3⟩, sf3, SF3⟩ := W2.newarrE (pc' := 58) (ad := "[I") (cap := 2) (cells' := 1) (slots' := 2) d2097_30_56 (tw143 H) (by decide) (by decide) (by decide) (by decide) rfl rfl rfl (by decide) (by decide)
  clear W2
  rw [← g3] at A3 B3
  have z3 : h2.size ≤ h3.size := E3.1
  have v3 : Arv Z h3 a3 k3 .int (2 : Int32) [(.int (0 : Int32)), (.int (0 : Int32))] (.int (0 : Int32)) := A3.pad (pad_rep [] (.int (0 : Int32)) 2)
  have f4 := ((F_x0_mag.other w2 (Or.inr (sn12 H))).ext E3)
  have e5 := ((E_x0.wr w2).ext E3)
  obtain ⟨h6, W6, w6, SF6⟩ := W3.putf (pc' := 61) (ty := (.array .int)) d2097_30_58 (tw144 H) Via.refl f4 e5 (Or.inr ⟨(tw145 H), rfl, hnm⟩) (tw134 H) (by decide) rfl rfl safe0 (Or.inl (List.mem_of_getElem? (i := 0) rfl)) rfl
  clear W3
  have z6 : h3.size ≤ h6.size := Nat.le_of_eq w6.size.symm
  have f6 := f4.same w6
  replace W6 := W6.aloadN d2097_30_61 rfl rfl rfl
  replace W6 := W6.getf d2097_30_62 (tw144 H) Via.refl f6 rfl
  replace W6 := W6.iconst (v := (0 : Int32)) d2097_30_65 rfl rfl
  replace W6 := W6.iloadN d2097_30_66 rfl rfl
  have v7 := (v3.other w6 (Nat.ne_of_gt (Nat.lt_of_lt_of_le E_x0.lt (Nat.le_trans z2 (Nat.le_of_eq g3.symm)))))
  obtain ⟨h8, W8, w8, A8, SF8⟩ := W6.iastore (pc' := 68) (i := 0) (x' := s1) d2097_30_67 v7 ⟨by decide, by decide⟩ rfl (by show 0 < 2; decide) rfl safe0 (Or.inr (Nat.le_trans z2 (Nat.le_of_eq g3.symm))) rfl
  clear W6
  have z8 : h6.size ≤ h8.size := Nat.le_of_eq w8.size.symm
  have v8 : Arv Z h8 a3 k3 .int (2 : Int32) [(.int s1), (.int (0 : Int32))] (.int (0 : Int32)) := A8
  replace W8 := W8.aloadN d2097_30_68 rfl rfl rfl
  have f9 := (f6.other w8 (Or.inl (Nat.ne_of_lt (Nat.lt_of_lt_of_le E_x0.lt (Nat.le_trans z2 (Nat.le_of_eq g3.symm))))))
  replace W8 := W8.getf d2097_30_69 (tw144 H) Via.refl f9 rfl
  replace W8 := W8.iconst (v := (1 : Int32)) d2097_30_72 rfl rfl
  replace W8 := W8.lloadN d2097_30_73 rfl rfl
  replace W8 := W8.l2i (v := s2) d2097_30_74 p4 rfl
  obtain ⟨h10, W10, w10, A10, SF10⟩ := W8.iastore (pc' := 76) (i := 1) (x' := s2) d2097_30_75 v8 ⟨by decide, by decide⟩ rfl (by show 1 < 2; decide) rfl safe0 (Or.inr (Nat.le_trans z2 (Nat.le_of_eq g3.symm))) rfl
  clear W8
  have z10 : h8.size ≤ h10.size := Nat.le_of_eq w10.size.symm
  have v10 : Arv Z h10 a3 k3 .int (2 : Int32) [(.int s1), (.int s2)] (.int (0 : Int32)) := A10
  have e11 := (((e5.wr w6).wr w8).wr w10)
  have f12 := (((((F_x0_bitLengthPlusOne.other w2 (Or.inr (sn13 H))).ext E3).other w6 (Or.inr (sn14 H))).other w8 (Or.inl (Nat.ne_of_lt (Nat.lt_of_lt_of_le E_x0.lt (Nat.le_trans z2 (Nat.le_of_eq g3.symm)))))).other w10 (Or.inl (Nat.ne_of_lt (Nat.lt_of_lt_of_le E_x0.lt (Nat.le_trans z2 (Nat.le_of_eq g3.symm))))))
  have f13 := (f9.other w10 (Or.inl (Nat.ne_of_lt (Nat.lt_of_lt_of_le E_x0.lt (Nat.le_trans z2 (Nat.le_of_eq g3.symm))))))
  have f14 := ((((f2.ext E3).other w6 (Or.inr (sn15 H))).other w8 (Or.inl (Nat.ne_of_lt (Nat.lt_of_lt_of_le E_x0.lt (Nat.le_trans z2 (Nat.le_of_eq g3.symm)))))).other w10 (Or.inl (Nat.ne_of_lt (Nat.lt_of_lt_of_le E_x0.lt (Nat.le_trans z2 (Nat.le_of_eq g3.symm))))))
  have e15 := (((B3.wr w6).wr w8).wr w10)
  exact W10.vret d2097_30_76 rfl (by decide) (by decide) (fun V' cv => ⟨a3, k3, rfl, e11, f12, f13, f14, e15, v10, (Nat.le_trans z2 (Nat.le_of_eq g3.symm))⟩)
theorem m114_valueOf (H : Cx Z a0 gA gK) (u0 s0 : Int64) (s1 s2 : Int32) (h0 : Heap) (hO : Old Z n0 h0) (p0 : (Jvm.Free.XT.cmpL u0 (0 : Int64)) = (1 : Int32)) (p1 : (Jvm.Free.XT.cmpL u0 (16 : Int64)) = (1 : Int32)) (p2 : (Jvm.Free.XT.ushrL u0 (32 : Int32)) = s0) (p3 : (s0.toInt32) = s1) (p4 : (u0.toInt32) = s2) (p5 : ¬ (s1 = (0 : Int32))) : Con l Z [] n0 N20 jdk_2097_method_29_code 2 (some (.object "java/math/BigInteger")) (Rm 3 2 8 40) #[(.long u0)] h0 [] (fun v h V' => ∃ (r0 : Addr) (r1 : Addr) (kr0 : ClassId), v = some (.ref r0) ∧ Exa Z h r0 "java/math/BigInteger" ∧ Fld Z h r0 "java/math/BigInteger" "bitLengthPlusOne" "I" (.int (0 : Int32)) ∧ Fld Z h r0 "java/math/BigInteger" "mag" "[I" (.ref r1) ∧ Fld Z h r0 "java/math/BigInteger" "signum" "I" (.int (1 : Int32)) ∧ h0.size ≤ r0 ∧ Exa Z h r1 "[I" ∧ Arv Z h r1 kr0 .int (2 : Int32) [(.int s1), (.int s2)] (.int (0 : Int32)) ∧ h0.size ≤ r1) [] := by
  refine Con.of (a0 := a0) (L0 := #[.val (.long u0), .second]) pf20 (fun _ => rfl) all0 hO EW.nil ?_
  intro p e s m below meth c S0 hnm hsf W
  replace W := W.lloadN d2097_29_0 rfl rfl
  replace W := W.lconst (v := (0 : Int64)) d2097_29_1 rfl rfl
  replace W := W.lcmp (v := (1 : Int32)) d2097_29_2 p0 rfl
  replace W := W.ifT (pc' := 10) d2097_29_3 (feq (by decide : ¬ ((1 : Int32) = (0 : Int32)))).2 (by decide) (by decide)
  replace W := W.lloadN d2097_29_10 rfl rfl
  replace W := W.lconst (v := (0 : Int64)) d2097_29_11 rfl rfl
  replace W := W.lcmp (v := (1 : Int32)) d2097_29_12 p0 rfl
  replace W := W.ifF (pc' := 16) d2097_29_13 (tlt (by decide : (0 : Int32) < (1 : Int32))).2.2.2 rfl
  replace W := W.lloadN d2097_29_16 rfl rfl
  replace W := W.ldc2 d2097_29_17 (tw132 H) rfl
  replace W := W.lcmp (v := (1 : Int32)) d2097_29_20 p1 rfl
  replace W := W.ifT (pc' := 31) d2097_29_21 (tlt (by decide : (0 : Int32) < (1 : Int32))).2.2.1 (by decide) (by decide)
  replace W := W.lloadN d2097_29_31 rfl rfl
  replace W := W.lconst (v := (0 : Int64)) d2097_29_32 rfl rfl
  replace W := W.lcmp (v := (1 : Int32)) d2097_29_33 p0 rfl
  replace W := W.ifT (pc' := 53) d2097_29_34 (flt (by decide : ¬ ((1 : Int32) < (0 : Int32)))).2.1 (by decide) (by decide)
  obtain ⟨h1, a1, W1, E1, g1, ⟨A1, D1, U1⟩, sf1, SF1⟩ := W.new (pc' := 56) (cells' := 1) (slots' := 6) d2097_29_53 (tw133 H) (tw134 H) (tw130 H) rfl rfl rfl (by decide) (by decide)
  clear W
  rw [← g1] at A1 D1 U1
  have z1 : h0.size ≤ h1.size := E1.1
  replace W1 := W1.dup d2097_29_56 rfl rfl
  replace W1 := W1.lloadN d2097_29_57 rfl rfl
  obtain ⟨V2, h2, r2, W2, K2, hQ2, SF2⟩ := W1.callI (pc' := 61) (argsL := [(.long u0)]) (rest := [(.ref a1)]) (Wd := 1) (cells' := 2) (slots' := 8) (a := a1) (y := N19) d2097_29_58 (m115_init H a1 u0 (0 : Int32) (0 : Int32) s0 s1 s2 h1 W1.old A1 (D1 (Or.inl (tw215 H)) (ty := .int) (by decide) : Fld Z h1 a1 "java/math/BigInteger" "bitLengthPlusOne" "I" (.int (0 : Int32))) (D1 (Or.inr (tw145 H)) (ty := (.array .int)) (by decide) : Fld Z h1 a1 "java/math/BigInteger" "mag" "[I" .null) (D1 (Or.inr (tw142 H)) (ty := .int) (by decide) : Fld Z h1 a1 "java/math/BigInteger" "signum" "I" (.int (0 : Int32))) p0 p2 p3 p5 p4 (Nat.le_trans W1.1.2.2.2.2.2.2.2.1 (Nat.le_of_eq g1.symm))) rfl (tw135 H) (tw136 H) (tw130 H) (tw138 H) (by decide) (lenOf pd15 rfl) rfl rfl (by decide) (by decide) rfl (sfS safe0 sf0) (allS (Or.inr (Nat.le_of_eq g1.symm)) all0)
  clear W1
  obtain ⟨_, r02, kr02, rfl, q2_1, q2_2, q2_3, q2_4, q2_5, q2_6, q2_7⟩ := hQ2
  have z2 : h1.size ≤ h2.size := K2.1
  replace W2 := W2.cast (st' := [(.ref a1)]) rfl
  exact W2.aret (t := (.object "java/math/BigInteger")) d2097_29_61 rfl rfl rfl rfl (by decide) (by decide) (fun V' cv => ⟨a1, r02, kr02, rfl, q2_1, q2_2, q2_3, q2_4, (Nat.le_of_eq g1.symm), q2_5, q2_6, (Nat.le_trans z1 q2_7)⟩)
theorem m116_inflated (H : Cx Z a0 gA gK) (x0 : Addr) (u0 s0 : Int64) (s1 s2 : Int32) (h0 : Heap) (hO : Old Z n0 h0) (F_x0_intCompact : Fld Z h0 x0 "java/math/BigDecimal" "intCompact" "J" (.long u0)) (F_x0_intVal : Fld Z h0 x0 "java/math/BigDecimal" "intVal" "Ljava/math/BigInteger;" .null) (p0 : (Jvm.Free.XT.ushrL u0 (32 : Int32)) = s0) (p1 : (s0.toInt32) = s1) (p2 : (u0.toInt32) = s2) (p3 : (Jvm.Free.XT.cmpL u0 (0 : Int64)) = (1 : Int32)) (p4 : (Jvm.Free.XT.cmpL u0 (16 : Int64)) = (1 : Int32)) (p5 : ¬ (s1 = (0 : Int32))) : Con l Z [] n0 N21 jdk_17_method_99_code 1 (some (.object "java/math/BigInteger")) (Rm 4 2 8 53) #[(.ref x0)] h0 [] (fun v h V' => ∃ (r0 : Addr) (r1 : Addr) (kr0 : ClassId), v = some (.ref r0) ∧ Exa Z h r0 "java/math/BigInteger" ∧ Fld Z h r0 "java/math/BigInteger" "bitLengthPlusOne" "I" (.int (0 : Int32)) ∧ Fld Z h r0 "java/math/BigInteger" "mag" "[I" (.ref r1) ∧ Fld Z h r0 "java/math/BigInteger" "signum" "I" (.int (1 : Int32)) ∧ h0.size ≤ r0 ∧ Exa Z h r1 "[I" ∧ Arv Z h r1 kr0 .int (2 : Int32) [(.int s1), (.int s2)] (.int (0 : Int32)) ∧ h0.size ≤ r1) [] := by
  refine Con.of (a0 := a0) (L0 := #[.val (.ref x0)]) pf21 (fun _ => rfl) all0 hO EW.nil ?_
  intro p e s m below meth c S0 hnm hsf W
  replace W := W.aloadN d17_99_0 rfl rfl rfl
  replace W := W.getf d17_99_1 (tw62 H) Via.refl F_x0_intVal rfl
  replace W := W.ifnonnullF (pc' := 7) d17_99_4 rfl
  replace W := W.aloadN d17_99_7 rfl rfl rfl
  replace W := W.getf d17_99_8 (tw60 H) Via.refl F_x0_intCompact rfl
  obtain ⟨V1, h1, r1, W1, K1, hQ1, SF1⟩ := W.callS (pc' := 14) (argsL := [(.long u0)]) (rest := []) (Wd := 0) (cells' := 2) (slots' := 8) (y := N20) d17_99_11 (m114_valueOf H u0 s0 s1 s2 h0 W.old p3 p4 p0 p1 p2 p5) (tw128 H) (tw129 H) (tw130 H) (tw131 H) (by decide) (lenOf pd16 rfl) rfl rfl (by decide) (by decide) rfl sf0 all0
  clear W
  obtain ⟨_, r01, r11, kr01, rfl, q1_1, q1_2, q1_3, q1_4, q1_5, q1_6, q1_7, q1_8⟩ := hQ1
  have z1 : h0.size ≤ h1.size := K1.1
  replace W1 := W1.cast (st' := [(.ref r01)]) rfl
  exact W1.aret (t := (.object "java/math/BigInteger")) d17_99_14 rfl rfl rfl rfl (by decide) (by decide) (fun V' cv => ⟨r01, r11, kr01, rfl, q1_1, q1_2, q1_3, q1_4, q1_5, q1_6, q1_7, q1_8⟩)
theorem m112_toBigIntegerExact (H : Cx Z a0 gA gK) (x0 : Addr) (u0 : Int64) (u2 : Int32) (s0 : Int64) (s1 s2 : Int32) (h0 : Heap) (hO : Old Z n0 h0) (E_x0 : Exa Z h0 x0 "java/math/BigDecimal") (F_x0_intCompact : Fld Z h0 x0 "java/math/BigDecimal" "intCompact" "J" (.long u0)) (F_x0_intVal : Fld Z h0 x0 "java/math/BigDecimal" "intVal" "Ljava/math/BigInteger;" .null) (F_x0_scale : Fld Z h0 x0 "java/math/BigDecimal" "scale" "I" (.int u2)) (p0 : (0 : Int32) = u2) (p1 : (Jvm.Free.XT.ushrL u0 (32 : Int32)) = s0) (p2 : (s0.toInt32) = s1) (p3 : (u0.toInt32) = s2) (p4 : (Jvm.Free.XT.cmpL u0 (0 : Int64)) = (1 : Int32)) (p5 : (Jvm.Free.XT.cmpL u0 (16 : Int64)) = (1 : Int32)) (p6 : ¬ (s1 = (0 : Int32))) : Con l Z [] n0 N22 jdk_17_method_81_code 1 (some (.object "java/math/BigInteger")) (Rm 5 2 8 65) #[(.ref x0)] h0 [] (fun v h V' => ∃ (r0 : Addr) (r1 : Addr) (kr0 : ClassId), v = some (.ref r0) ∧ Exa Z h r0 "java/math/BigInteger" ∧ Fld Z h r0 "java/math/BigInteger" "bitLengthPlusOne" "I" (.int (0 : Int32)) ∧ Fld Z h r0 "java/math/BigInteger" "mag" "[I" (.ref r1) ∧ Fld Z h r0 "java/math/BigInteger" "signum" "I" (.int (1 : Int32)) ∧ h0.size ≤ r0 ∧ Exa Z h r1 "[I" ∧ Arv Z h r1 kr0 .int (2 : Int32) [(.int s1), (.int s2)] (.int (0 : Int32)) ∧ h0.size ≤ r1) [] := by
  refine Con.of (a0 := a0) (L0 := #[.val (.ref x0)]) pf22 (fun _ => rfl) all0 hO EW.nil ?_
  intro p e s m below meth c S0 hnm hsf W
  replace W := W.aloadN d17_81_0 rfl rfl rfl
  replace W := W.iconst (v := (0 : Int32)) d17_81_1 rfl rfl
  replace W := W.bipush (v := (7 : Int32)) d17_81_2 rfl rfl
  obtain ⟨V1, h1, r1, W1, K1, hQ1, SF1⟩ := W.callV (pc' := 7) (argsL := [(.int (0 : Int32)), (.int (7 : Int32))]) (rest := []) (Wd := 0) (cells' := 0) (slots' := 0) (a := x0) (C := "java/math/BigDecimal") (y := N18) (z := N18) d17_81_4 (m31_setScale H x0 (0 : Int32) (7 : Int32) u2 h0 W.old F_x0_scale (by decide) (by decide) p0) E_x0 (tw118 H) (tw119 H) (Or.inl (tw121 H)) (tw121 H) (tw120 H) (tw34 H) (tw122 H) (by decide) (lenOf pd14 rfl) rfl rfl (by decide) (by decide) rfl sf0 all0
  clear W
  obtain ⟨_, rfl, hs1⟩ := hQ1
  subst hs1
  replace W1 := W1.cast (st' := [(.ref x0)]) rfl
  obtain ⟨V2, h2, r2, W2, K2, hQ2, SF2⟩ := W1.callP (pc' := 10) (argsL := []) (rest := []) (Wd := 0) (cells' := 2) (slots' := 8) (a := x0) (C := "java/math/BigDecimal") (y := N21) d17_81_7 (m116_inflated H x0 u0 s0 s1 s2 h0 W1.old F_x0_intCompact F_x0_intVal p1 p2 p3 p4 p5 p6) E_x0 (tw123 H) (tw124 H) (tw126 H) (tw125 H) (tw34 H) (tw127 H) (by decide) (lenOf pd17 rfl) rfl rfl (by decide) (by decide) rfl sf0 all0
  clear W1
  obtain ⟨_, r02, r12, kr02, rfl, q2_1, q2_2, q2_3, q2_4, q2_5, q2_6, q2_7, q2_8⟩ := hQ2
  have z2 : h0.size ≤ h2.size := K2.1
  replace W2 := W2.cast (st' := [(.ref r02)]) rfl
  exact W2.aret (t := (.object "java/math/BigInteger")) d17_81_10 rfl rfl rfl rfl (by decide) (by decide) (fun V' cv => ⟨r02, r12, kr02, rfl, q2_1, q2_2, q2_3, q2_4, q2_5, q2_6, q2_7, q2_8⟩)
theorem m119_init (H : Cx Z a0 gA gK) (x0 x1 : Addr) (kp0 : ClassId) (u0 u1 u2 u3 : Int32) (h0 : Heap) (hO : Old Z n0 h0) (E_x0 : Exa Z h0 x0 "java/math/MutableBigInteger") (F_x0_intLen : Fld Z h0 x0 "java/math/MutableBigInteger" "intLen" "I" (.int u0)) (F_x0_offset : Fld Z h0 x0 "java/math/MutableBigInteger" "offset" "I" (.int u1)) (F_x0_value : Fld Z h0 x0 "java/math/MutableBigInteger" "value" "[I" .null) (E_x1 : Exa Z h0 x1 "[I") (V_x1 : Arv Z h0 x1 kp0 .int (2 : Int32) [(.int u2), (.int u3)] (.int (0 : Int32))) (g_x0 : n0 ≤ x0) : Con l Z [] n0 N24 jdk_2101_method_3_code 2 none (Rm 1 0 0 12) #[(.ref x0), (.ref x1)] h0 [x0] (fun v h V' => v = none ∧ Exa Z h x0 "java/math/MutableBigInteger" ∧ Fld Z h x0 "java/math/MutableBigInteger" "intLen" "I" (.int (2 : Int32)) ∧ Fld Z h x0 "java/math/MutableBigInteger" "offset" "I" (.int (0 : Int32)) ∧ Fld Z h x0 "java/math/MutableBigInteger" "value" "[I" (.ref x1)) [] := by
  refine Con.of (a0 := a0) (L0 := #[.val (.ref x0), .val (.ref x1)]) pf24 (fun _ => rfl) (allS g_x0 all0) hO EW.nil ?_
  intro p e s m below meth c S0 hnm hsf W
  replace W := W.aloadN d2101_3_0 rfl rfl rfl
  replace W := W.initO (Wd := 0) d2101_3_1 (tw165 H) (tw7 H) (tw8 H) rfl rfl (by decide) (by decide) rfl
  replace W := W.aloadN d2101_3_4 rfl rfl rfl
  replace W := W.iconst (v := (0 : Int32)) d2101_3_5 rfl rfl
  obtain ⟨h1, W1, w1, SF1⟩ := W.putf (pc' := 9) (ty := .int) d2101_3_6 (tw166 H) Via.refl F_x0_offset E_x0 (Or.inl (tw167 H)) (tw159 H) (by decide) rfl rfl safe0 (Or.inl (List.mem_of_getElem? (i := 0) rfl)) rfl
  clear W
  have z1 : h0.size ≤ h1.size := Nat.le_of_eq w1.size.symm
  have f1 := F_x0_offset.same w1
  replace W1 := W1.aloadN d2101_3_9 rfl rfl rfl
  replace W1 := W1.aloadN d2101_3_10 rfl rfl rfl
  have f2 := (F_x0_value.other w1 (Or.inr (sn16 H)))
  have e3 := (E_x0.wr w1)
  obtain ⟨h4, W4, w4, SF4⟩ := W1.putf (pc' := 14) (ty := (.array .int)) d2101_3_11 (tw168 H) Via.refl f2 e3 (Or.inl (tw169 H)) (tw159 H) (by decide) rfl rfl safe0 (Or.inl (List.mem_of_getElem? (i := 0) rfl)) rfl
  clear W1
  have z4 : h1.size ≤ h4.size := Nat.le_of_eq w4.size.symm
  have f4 := f2.same w4
  replace W4 := W4.aloadN d2101_3_14 rfl rfl rfl
  replace W4 := W4.aloadN d2101_3_15 rfl rfl rfl
  have v5 := ((V_x1.other w1 (Exa.ne (E_x1.wr w1) e3 (by decide))).other w4 (Exa.ne (E_x1.wr w1) e3 (by decide)))
  replace W4 := W4.alen d2101_3_16 v5 rfl
  have f6 := ((F_x0_intLen.other w1 (Or.inr (sn17 H))).other w4 (Or.inr (sn18 H)))
  have e7 := (e3.wr w4)
  obtain ⟨h8, W8, w8, SF8⟩ := W4.putf (pc' := 20) (ty := .int) d2101_3_17 (tw170 H) Via.refl f6 e7 (Or.inl (tw171 H)) (tw159 H) (by decide) rfl rfl safe0 (Or.inl (List.mem_of_getElem? (i := 0) rfl)) rfl
  clear W4
  have z8 : h4.size ≤ h8.size := Nat.le_of_eq w8.size.symm
  have f8 := f6.same w8
  have e9 := (e7.wr w8)
  have f10 := ((f1.other w4 (Or.inr (sn19 H))).other w8 (Or.inr (sn20 H)))
  have f11 := (f4.other w8 (Or.inr (sn21 H)))
  exact W8.vret d2101_3_20 rfl (by decide) (by decide) (fun V' cv => ⟨rfl, e9, f8, f10, f11⟩)
theorem m122_compare (H : Cx Z a0 gA gK) (x0 x1 : Addr) (u0 u2 : Int32) (h0 : Heap) (hO : Old Z n0 h0) (F_x0_intLen : Fld Z h0 x0 "java/math/MutableBigInteger" "intLen" "I" (.int u0)) (F_x1_intLen : Fld Z h0 x1 "java/math/MutableBigInteger" "intLen" "I" (.int u2)) (p0 : ¬ (u0 < u2)) (p1 : u2 < u0) : Con l Z [] n0 N25 jdk_2101_method_15_code 8 (some .int) (Rm 0 0 0 0) #[(.ref x0), (.ref x1)] h0 [] (fun v h V' => v = some (.int (1 : Int32)) ∧ h0 = h) [] := by
  refine Con.of (a0 := a0) (L0 := #[.val (.ref x0), .val (.ref x1), .unset, .unset, .unset, .unset, .unset, .unset]) pf25 (fun _ => rfl) all0 hO EW.nil ?_
  intro p e s m below meth c S0 hnm hsf W
  replace W := W.aloadN d2101_15_0 rfl rfl rfl
  replace W := W.getf d2101_15_1 (tw170 H) Via.refl F_x1_intLen rfl
  replace W := W.istoreN (L' := #[.val (.ref x0), .val (.ref x1), .val (.int u2), .unset, .unset, .unset, .unset, .unset]) d2101_15_4 rfl rfl
  replace W := W.aloadN d2101_15_5 rfl rfl rfl
  replace W := W.getf d2101_15_6 (tw170 H) Via.refl F_x0_intLen rfl
  replace W := W.iloadN d2101_15_9 rfl rfl
  replace W := W.icmpT (pc' := 15) d2101_15_10 (flt p0).2.1 (by decide) (by decide)
  replace W := W.aloadN d2101_15_15 rfl rfl rfl
  replace W := W.getf d2101_15_16 (tw170 H) Via.refl F_x0_intLen rfl
  replace W := W.iloadN d2101_15_19 rfl rfl
  replace W := W.icmpF (pc' := 23) d2101_15_20 (tlt p1).2.2.2 rfl
  replace W := W.iconst (v := (1 : Int32)) d2101_15_23 rfl rfl
  exact W.iret (t := .int) d2101_15_24 rfl (by simp) rfl (by decide) (by decide) (fun V' cv => ⟨rfl, rfl⟩)
theorem m124_numberOfLeadingZeros (H : Cx Z a0 gA gK) (u0 s0 s1 s2 s3 s4 : Int32) (h0 : Heap) (hO : Old Z n0 h0) (p0 : (0 : Int32) < u0) (p1 : ¬ (u0 < (65536 : Int32))) (p2 : (Jvm.Free.XT.ushr u0 (16 : Int32)) = s0) (p3 : ¬ (s0 < (256 : Int32))) (p4 : (Jvm.Free.XT.ushr s0 (8 : Int32)) = s1) (p5 : ¬ (s1 < (16 : Int32))) (p6 : (Jvm.Free.XT.ushr s1 (4 : Int32)) = s2) (p7 : s2 < (4 : Int32)) (p8 : (Jvm.Free.XT.ushr s2 (1 : Int32)) = s3) (p9 : ((3 : Int32) - s3) = s4) : Con l Z [] n0 N33 jdk_33_method_47_code 2 (some .int) (Rm 0 0 0 0) #[(.int u0)] h0 [] (fun v h V' => v = some (.int s4) ∧ h0 = h) [] := by
  refine Con.of (a0 := a0) (L0 := #[.val (.int u0), .unset]) pf33 (fun _ => rfl) all0 hO EW.nil ?_
  intro p e s m below meth c S0 hnm hsf W
  replace W := W.iloadN d33_47_0 rfl rfl
  replace W := W.ifT (pc' := 15) d33_47_1 (tlt p0).2.2.1 (by decide) (by decide)
  replace W := W.bipush (v := (31 : Int32)) d33_47_15 rfl rfl
  replace W := W.istoreN (L' := #[.val (.int u0), .val (.int (31 : Int32))]) d33_47_17 rfl rfl
  replace W := W.iloadN d33_47_18 rfl rfl
  replace W := W.ldcW d33_47_19 (tw223 H) rfl
  replace W := W.icmpF (pc' := 25) d33_47_22 (flt p1).1 rfl
  replace W := W.iinc (v := (15 : Int32)) (L' := #[.val (.int u0), .val (.int (15 : Int32))]) d33_47_25 rfl (by decide) rfl rfl
  replace W := W.iloadN d33_47_28 rfl rfl
  replace W := W.bipush (v := (16 : Int32)) d33_47_29 rfl rfl
  replace W := W.iushr (v := s0) d33_47_31 p2 rfl
  replace W := W.istoreN (L' := #[.val (.int s0), .val (.int (15 : Int32))]) d33_47_32 rfl rfl
  replace W := W.iloadN d33_47_33 rfl rfl
  replace W := W.sipush (v := (256 : Int32)) d33_47_34 rfl rfl
  replace W := W.icmpF (pc' := 40) d33_47_37 (flt p3).1 rfl
  replace W := W.iinc (v := (7 : Int32)) (L' := #[.val (.int s0), .val (.int (7 : Int32))]) d33_47_40 rfl (by decide) rfl rfl
  replace W := W.iloadN d33_47_43 rfl rfl
  replace W := W.bipush (v := (8 : Int32)) d33_47_44 rfl rfl
  replace W := W.iushr (v := s1) d33_47_46 p4 rfl
  replace W := W.istoreN (L' := #[.val (.int s1), .val (.int (7 : Int32))]) d33_47_47 rfl rfl
  replace W := W.iloadN d33_47_48 rfl rfl
  replace W := W.bipush (v := (16 : Int32)) d33_47_49 rfl rfl
  replace W := W.icmpF (pc' := 54) d33_47_51 (flt p5).1 rfl
  replace W := W.iinc (v := (3 : Int32)) (L' := #[.val (.int s1), .val (.int (3 : Int32))]) d33_47_54 rfl (by decide) rfl rfl
  replace W := W.iloadN d33_47_57 rfl rfl
  replace W := W.iconst (v := (4 : Int32)) d33_47_58 rfl rfl
  replace W := W.iushr (v := s2) d33_47_59 p6 rfl
  replace W := W.istoreN (L' := #[.val (.int s2), .val (.int (3 : Int32))]) d33_47_60 rfl rfl
  replace W := W.iloadN d33_47_61 rfl rfl
  replace W := W.iconst (v := (4 : Int32)) d33_47_62 rfl rfl
  replace W := W.icmpT (pc' := 73) d33_47_63 (tlt p7).1 (by decide) (by decide)
  replace W := W.iloadN d33_47_73 rfl rfl
  replace W := W.iloadN d33_47_74 rfl rfl
  replace W := W.iconst (v := (1 : Int32)) d33_47_75 rfl rfl
  replace W := W.iushr (v := s3) d33_47_76 p8 rfl
  replace W := W.isub (v := s4) d33_47_77 p9 rfl
  exact W.iret (t := .int) d33_47_78 rfl (by simp) rfl (by decide) (by decide) (fun V' cv => ⟨rfl, rfl⟩)
theorem m125_normalize (H : Cx Z a0 gA gK) (x0 x1 : Addr) (kp0 : ClassId) (u0 u1 u2 u3 s0 s1 : Int32) (h0 : Heap) (hO : Old Z n0 h0) (E_x0 : Exa Z h0 x0 "java/math/MutableBigInteger") (F_x0_intLen : Fld Z h0 x0 "java/math/MutableBigInteger" "intLen" "I" (.int u0)) (F_x0_offset : Fld Z h0 x0 "java/math/MutableBigInteger" "offset" "I" (.int u1)) (F_x0_value : Fld Z h0 x0 "java/math/MutableBigInteger" "value" "[I" (.ref x1)) (V_x1 : Arv Z h0 x1 kp0 .int (2 : Int32) [(.int u2), (.int u3)] (.int (0 : Int32))) (p0 : ¬ (u0 = (0 : Int32))) (p1 : u1 = (0 : Int32)) (p2 : u2 = (0 : Int32)) (p3 : ((0 : Int32) + u0) = s0) (p4 : (1 : Int32) < s0) (p5 : ¬ (u3 = (0 : Int32))) (p6 : (u0 - (1 : Int32)) = s1) (p7 : ¬ (s1 = (0 : Int32))) (g_x0 : n0 ≤ x0) : Con l Z [] n0 N56 jdk_2101_method_21_code 4 none (Rm 0 0 0 0) #[(.ref x0)] h0 [x0] (fun v h V' => v = none ∧ Exa Z h x0 "java/math/MutableBigInteger" ∧ Fld Z h x0 "java/math/MutableBigInteger" "intLen" "I" (.int s1) ∧ Fld Z h x0 "java/math/MutableBigInteger" "offset" "I" (.int (1 : Int32)) ∧ Fld Z h x0 "java/math/MutableBigInteger" "value" "[I" (.ref x1)) [] := by
  refine Con.of (a0 := a0) (L0 := #[.val (.ref x0), .unset, .unset, .unset]) pf56 (fun _ => rfl) (allS g_x0 all0) hO EW.nil ?_
  intro p e s m below meth c S0 hnm hsf W
  replace W := W.aloadN d2101_21_0 rfl rfl rfl
  replace W := W.getf d2101_21_1 (tw170 H) Via.refl F_x0_intLen rfl
  replace W := W.ifT (pc' := 13) d2101_21_4 (feq p0).2 (by decide) (by decide)
  replace W := W.aloadN d2101_21_13 rfl rfl rfl
  replace W := W.getf d2101_21_14 (tw166 H) Via.refl F_x0_offset rfl
  replace W := W.istoreN (L' := #[.val (.ref x0), .val (.int u1), .unset, .unset]) d2101_21_17 rfl rfl
  replace W := W.aloadN d2101_21_18 rfl rfl rfl
  replace W := W.getf d2101_21_19 (tw168 H) Via.refl F_x0_value rfl
  replace W := W.iloadN d2101_21_22 rfl rfl
  subst p1
  replace W := W.iaload (w := (.int u2)) d2101_21_23 V_x1 ⟨by decide, by decide⟩ rfl rfl
  replace W := W.ifT (pc' := 28) d2101_21_24 (teq p2).1 (by decide) (by decide)
  replace W := W.iloadN d2101_21_28 rfl rfl
  replace W := W.aloadN d2101_21_29 rfl rfl rfl
  replace W := W.getf d2101_21_30 (tw170 H) Via.refl F_x0_intLen rfl
  replace W := W.iadd (v := s0) d2101_21_33 p3 rfl
  replace W := W.istoreN (L' := #[.val (.ref x0), .val (.int (0 : Int32)), .val (.int s0), .unset]) d2101_21_34 rfl rfl
  replace W := W.iinc (v := (1 : Int32)) (L' := #[.val (.ref x0), .val (.int (1 : Int32)), .val (.int s0), .unset]) d2101_21_35 rfl (by decide) rfl rfl
  replace W := W.iloadN d2101_21_38 rfl rfl
  replace W := W.iloadN d2101_21_39 rfl rfl
  replace W := W.icmpF (pc' := 43) d2101_21_40 (tlt p4).2.1 rfl
  replace W := W.aloadN d2101_21_43 rfl rfl rfl
  replace W := W.getf d2101_21_44 (tw168 H) Via.refl F_x0_value rfl
  replace W := W.iloadN d2101_21_47 rfl rfl
  replace W := W.iaload (w := (.int u3)) d2101_21_48 V_x1 ⟨by decide, by decide⟩ rfl rfl
  replace W := W.ifF (pc' := 52) d2101_21_49 (feq p5).1 rfl
  replace W := W.iloadN d2101_21_52 rfl rfl
  replace W := W.aloadN d2101_21_53 rfl rfl rfl
  replace W := W.getf d2101_21_54 (tw166 H) Via.refl F_x0_offset rfl
  replace W := W.isub (v := (1 : Int32)) d2101_21_57 (by decide) rfl
  replace W := W.istoreN (L' := #[.val (.ref x0), .val (.int (1 : Int32)), .val (.int s0), .val (.int (1 : Int32))]) d2101_21_58 rfl rfl
  replace W := W.aloadN d2101_21_59 rfl rfl rfl
  replace W := W.dup d2101_21_60 rfl rfl
  replace W := W.getf d2101_21_61 (tw170 H) Via.refl F_x0_intLen rfl
  replace W := W.iloadN d2101_21_64 rfl rfl
  replace W := W.isub (v := s1) d2101_21_65 p6 rfl
  obtain ⟨h1, W1, w1, SF1⟩ := W.putf (pc' := 69) (ty := .int) d2101_21_66 (tw170 H) Via.refl F_x0_intLen E_x0 (Or.inl (tw171 H)) (tw159 H) (by decide) rfl rfl safe0 (Or.inl (List.mem_of_getElem? (i := 0) rfl)) rfl
  clear W
  have z1 : h0.size ≤ h1.size := Nat.le_of_eq w1.size.symm
  have f1 := F_x0_intLen.same w1
  replace W1 := W1.aloadN d2101_21_69 rfl rfl rfl
  replace W1 := W1.aloadN d2101_21_70 rfl rfl rfl
  replace W1 := W1.getf d2101_21_71 (tw170 H) Via.refl f1 rfl
  replace W1 := W1.ifT (pc' := 81) d2101_21_74 (feq p7).2 (by decide) (by decide)
  replace W1 := W1.aloadN d2101_21_81 rfl rfl rfl
  have f2 := (F_x0_offset.other w1 (Or.inr (sn20 H)))
  replace W1 := W1.getf d2101_21_82 (tw166 H) Via.refl f2 rfl
  replace W1 := W1.iloadN d2101_21_85 rfl rfl
  replace W1 := W1.iadd (v := (1 : Int32)) d2101_21_86 (by decide) rfl
  have e3 := (E_x0.wr w1)
  obtain ⟨h4, W4, w4, SF4⟩ := W1.putf (pc' := 90) (ty := .int) d2101_21_87 (tw166 H) Via.refl f2 e3 (Or.inl (tw167 H)) (tw159 H) (by decide) rfl rfl safe0 (Or.inl (List.mem_of_getElem? (i := 0) rfl)) rfl
  clear W1
  have z4 : h1.size ≤ h4.size := Nat.le_of_eq w4.size.symm
  have f4 := f2.same w4
  have e5 := (e3.wr w4)
  have f6 := (f1.other w4 (Or.inr (sn17 H)))
  have f7 := ((F_x0_value.other w1 (Or.inr (sn21 H))).other w4 (Or.inr (sn16 H)))
  exact W4.vret d2101_21_90 rfl (by decide) (by decide) (fun V' cv => ⟨rfl, e5, f6, f4, f7⟩)
theorem m123_divideOneWord (H : Cx Z a0 gA gK) (x0 x1 x2 x3 : Addr) (kp0 kp1 : ClassId) (u0 u1 u2 u3 u4 u5 u6 u7 : Int32) (s0 s1 : Int64) (s2 s3 s4 s5 s6 : Int32) (s7 s8 s9 s10 s11 s12 s13 : Int64) (s14 : Int32) (s15 s16 s17 : Int64) (s18 : Int32) (s19 s20 : Int64) (s21 : Int32) (h0 : Heap) (hO : Old Z n0 h0) (E_x0 : Exa Z h0 x0 "java/math/MutableBigInteger") (F_x0_intLen : Fld Z h0 x0 "java/math/MutableBigInteger" "intLen" "I" (.int u1)) (F_x0_offset : Fld Z h0 x0 "java/math/MutableBigInteger" "offset" "I" (.int u2)) (F_x0_value : Fld Z h0 x0 "java/math/MutableBigInteger" "value" "[I" (.ref x2)) (E_x1 : Exa Z h0 x1 "java/math/MutableBigInteger") (F_x1_intLen : Fld Z h0 x1 "java/math/MutableBigInteger" "intLen" "I" (.int u3)) (F_x1_offset : Fld Z h0 x1 "java/math/MutableBigInteger" "offset" "I" (.int u4)) (F_x1_value : Fld Z h0 x1 "java/math/MutableBigInteger" "value" "[I" (.ref x3)) (E_x2 : Exa Z h0 x2 "[I") (V_x2 : Arv Z h0 x2 kp0 .int (2 : Int32) [(.int u5), (.int u6)] (.int (0 : Int32))) (V_x3 : Arv Z h0 x3 kp1 .int (1 : Int32) [(.int u7)] (.int (0 : Int32))) (N_x0_x1 : x0 ≠ x1) (p0 : (u0.toInt64) = s0) (p1 : (s0 &&& (4294967295 : Int64)) = s1) (p2 : ¬ (u1 = (1 : Int32))) (p3 : (1 : Int32) < u1) (p4 : u1 = (2 : Int32)) (p5 : (Jvm.Free.XT.ushr u0 (16 : Int32)) = s2) (p6 : (Jvm.Free.XT.ushr s2 (8 : Int32)) = s3) (p7 : (Jvm.Free.XT.ushr s3 (4 : Int32)) = s4) (p8 : (Jvm.Free.XT.ushr s4 (1 : Int32)) = s5) (p9 : ((3 : Int32) - s5) = s6) (p10 : (0 : Int32) < u0) (p11 : ¬ (u0 < (65536 : Int32))) (p12 : ¬ (s2 < (256 : Int32))) (p13 : ¬ (s3 < (16 : Int32))) (p14 : s4 < (4 : Int32)) (p15 : u2 = (0 : Int32)) (p16 : (u5.toInt64) = s7) (p17 : (s7 &&& (4294967295 : Int64)) = s8) (p18 : (Jvm.Free.XT.cmpL s8 s1) = (-1 : Int32)) (p19 : (s8 <<< ((32 : Int32).toInt64 &&& 63)) = s9) (p20 : (u6.toInt64) = s10) (p21 : (s10 &&& (4294967295 : Int64)) = s11) (p22 : (s9 ||| s11) = s12) (p23 : (Jvm.Free.XT.cmpL s12 (0 : Int64)) = (1 : Int32)) (p24 : s1 = (1000000000 : Int64)) (p25 : (s12 / (1000000000 : Int64)) = s13) (p26 : (s13.toInt32) = s14) (p27 : (s14.toInt64) = s15) (p28 : (s15 * (1000000000 : Int64)) = s16) (p29 : (s12 - s16) = s17) (p30 : (s17.toInt32) = s18) (p31 : (s18.toInt64) = s19) (p32 : (s19 &&& (4294967295 : Int64)) = s20) (p33 : ¬ (s14 = (0 : Int32))) (p34 : (0 : Int32) < s6) (p35 : u0 = (1000000000 : Int32)) (p36 : (s18 - (s18 / (1000000000 : Int32)) * (1000000000 : Int32)) = s21) (g_x1 : n0 ≤ x1) : Con l Z [] n0 N55 jdk_2101_method_53_code 15 (some .int) (Rm 1 1 2 15) #[(.ref x0), (.int u0), (.ref x1)] h0 [x1] (fun v h V' => ∃ (r0 : Addr) (kr0 : ClassId), v = some (.int s21) ∧ Exa Z h x1 "java/math/MutableBigInteger" ∧ Fld Z h x1 "java/math/MutableBigInteger" "intLen" "I" (.int (1 : Int32)) ∧ Fld Z h x1 "java/math/MutableBigInteger" "offset" "I" (.int (1 : Int32)) ∧ Fld Z h x1 "java/math/MutableBigInteger" "value" "[I" (.ref r0) ∧ Exa Z h r0 "[I" ∧ Arv Z h r0 kr0 .int (2 : Int32) [(.int (0 : Int32)), (.int s14)] (.int (0 : Int32)) ∧ h0.size ≤ r0) [] := by
  refine Con.of (a0 := a0) (L0 := #[.val (.ref x0), .val (.int u0), .val (.ref x1), .unset, .unset, .unset, .unset, .unset, .unset, .unset, .unset, .unset, .unset, .unset, .unset]) pf55 (fun _ => rfl) (allS g_x1 all0) hO EW.nil ?_
  intro p e s m below meth c S0 hnm hsf W
  replace W := W.iloadN d2101_53_0 rfl rfl
  replace W := W.i2l (v := s0) d2101_53_1 p0 rfl
  replace W := W.ldc2 d2101_53_2 (tw304 H) rfl
  replace W := W.land (v := s1) d2101_53_5 p1 rfl
  replace W := W.lstoreN (L' := #[.val (.ref x0), .val (.int u0), .val (.ref x1), .val (.long s1), .second, .unset, .unset, .unset, .unset, .unset, .unset, .unset, .unset, .unset, .unset]) d2101_53_6 rfl rfl
  replace W := W.aloadN d2101_53_7 rfl rfl rfl
  replace W := W.getf d2101_53_8 (tw170 H) Via.refl F_x0_intLen rfl
  replace W := W.iconst (v := (1 : Int32)) d2101_53_11 rfl rfl
  replace W := W.icmpT (pc' := 79) d2101_53_12 (feq p2).2 (by decide) (by decide)
  replace W := W.aloadN d2101_53_79 rfl rfl rfl
  replace W := W.getf d2101_53_80 (tw168 H) Via.refl F_x1_value rfl
  replace W := W.alen d2101_53_83 V_x3 rfl
  replace W := W.aloadN d2101_53_84 rfl rfl rfl
  replace W := W.getf d2101_53_85 (tw170 H) Via.refl F_x0_intLen rfl
  replace W := W.icmpF (pc' := 91) d2101_53_88 (tlt p3).2.1 rfl
  replace W := W.aloadN d2101_53_91 rfl rfl rfl
  replace W := W.aloadN d2101_53_92 rfl rfl rfl
  replace W := W.getf d2101_53_93 (tw170 H) Via.refl F_x0_intLen rfl
  subst p4
  obtain ⟨h1, a1, W1, E1, g1, ⟨⟨k1, A1⟩, B1⟩, sf1, SF1⟩ := W.newarrE (pc' := 98) (ad := "[I") (cap := 2) (cells' := 1) (slots' := 2) d2101_53_96 (tw143 H) (by decide) (by decide) (by decide) (by decide) rfl rfl rfl (by decide) (by decide)
  clear W
  rw [← g1] at A1 B1
  have z1 : h0.size ≤ h1.size := E1.1
  have v1 : Arv Z h1 a1 k1 .int (2 : Int32) [(.int (0 : Int32)), (.int (0 : Int32))] (.int (0 : Int32)) := A1.pad (pad_rep [] (.int (0 : Int32)) 2)
  have f2 := (F_x1_value.ext E1)
  have e3 := (E_x1.ext E1)
  obtain ⟨h4, W4, w4, SF4⟩ := W1.putf (pc' := 101) (ty := (.array .int)) d2101_53_98 (tw168 H) Via.refl f2 e3 (Or.inl (tw169 H)) (tw159 H) (by decide) rfl rfl safe0 (Or.inl (List.mem_of_getElem? (i := 0) rfl)) rfl
  clear W1
  have z4 : h1.size ≤ h4.size := Nat.le_of_eq w4.size.symm
  have f4 := f2.same w4
  replace W4 := W4.aloadN d2101_53_101 rfl rfl rfl
  replace W4 := W4.iconst (v := (0 : Int32)) d2101_53_102 rfl rfl
  have f5 := ((F_x1_offset.ext E1).other w4 (Or.inr (sn19 H)))
  have e6 := (e3.wr w4)
  obtain ⟨h7, W7, w7, SF7⟩ := W4.putf (pc' := 106) (ty := .int) d2101_53_103 (tw166 H) Via.refl f5 e6 (Or.inl (tw167 H)) (tw159 H) (by decide) rfl rfl safe0 (Or.inl (List.mem_of_getElem? (i := 0) rfl)) rfl
  clear W4
  have z7 : h4.size ≤ h7.size := Nat.le_of_eq w7.size.symm
  have f7 := f5.same w7
  replace W7 := W7.aloadN d2101_53_106 rfl rfl rfl
  replace W7 := W7.aloadN d2101_53_107 rfl rfl rfl
  have f8 := (((F_x0_intLen.ext E1).other w4 (Or.inl N_x0_x1)).other w7 (Or.inl N_x0_x1))
  replace W7 := W7.getf d2101_53_108 (tw170 H) Via.refl f8 rfl
  have f9 := (((F_x1_intLen.ext E1).other w4 (Or.inr (sn18 H))).other w7 (Or.inr (sn17 H)))
  have e10 := (e6.wr w7)
  obtain ⟨h11, W11, w11, SF11⟩ := W7.putf (pc' := 114) (ty := .int) d2101_53_111 (tw170 H) Via.refl f9 e10 (Or.inl (tw171 H)) (tw159 H) (by decide) rfl rfl safe0 (Or.inl (List.mem_of_getElem? (i := 0) rfl)) rfl
  clear W7
  have z11 : h7.size ≤ h11.size := Nat.le_of_eq w11.size.symm
  have f11 := f9.same w11
  replace W11 := W11.iloadN d2101_53_114 rfl rfl
  obtain ⟨V12, h12, r12, W12, K12, hQ12, SF12⟩ := W11.callS (pc' := 118) (argsL := [(.int u0)]) (rest := []) (Wd := 0) (cells' := 1) (slots' := 2) (y := N33) d2101_53_115 (m124_numberOfLeadingZeros H u0 s2 s3 s4 s5 s6 h11 W11.old p10 p11 p5 p12 p6 p13 p7 p14 p8 p9) (tw305 H) (tw220 H) (tw221 H) (tw222 H) (by decide) (lenOf pd26 rfl) rfl rfl (by decide) (by decide) rfl sf0 all0
  clear W11
  obtain ⟨_, rfl, hs12⟩ := hQ12
  subst hs12
  replace W12 := W12.cast (st' := [(.int s6)]) rfl
  replace W12 := W12.istore (L' := #[.val (.ref x0), .val (.int u0), .val (.ref x1), .val (.long s1), .second, .val (.int s6), .unset, .unset, .unset, .unset, .unset, .unset, .unset, .unset, .unset]) d2101_53_118 rfl rfl
  replace W12 := W12.aloadN d2101_53_120 rfl rfl rfl
  have f13 := ((((F_x0_value.ext E1).other w4 (Or.inl N_x0_x1)).other w7 (Or.inl N_x0_x1)).other w11 (Or.inl N_x0_x1))
  replace W12 := W12.getf d2101_53_121 (tw168 H) Via.refl f13 rfl
  replace W12 := W12.aloadN d2101_53_124 rfl rfl rfl
  have f14 := ((((F_x0_offset.ext E1).other w4 (Or.inl N_x0_x1)).other w7 (Or.inl N_x0_x1)).other w11 (Or.inl N_x0_x1))
  replace W12 := W12.getf d2101_53_125 (tw166 H) Via.refl f14 rfl
  subst p15
  have v15 := ((((V_x2.ext E1).other w4 (Exa.ne (((E_x2.ext E1).wr w4).wr w7) e10 (by decide))).other w7 (Exa.ne (((E_x2.ext E1).wr w4).wr w7) e10 (by decide))).other w11 (Exa.ne (((E_x2.ext E1).wr w4).wr w7) e10 (by decide)))
  replace W12 := W12.iaload (w := (.int u5)) d2101_53_128 v15 ⟨by decide, by decide⟩ rfl rfl
  replace W12 := W12.istore (L' := #[.val (.ref x0), .val (.int u0), .val (.ref x1), .val (.long s1), .second, .val (.int s6), .val (.int u5), .unset, .unset, .unset, .unset, .unset, .unset, .unset, .unset]) d2101_53_129 rfl rfl
  replace W12 := W12.iload d2101_53_131 rfl rfl
  replace W12 := W12.i2l (v := s7) d2101_53_133 p16 rfl
  replace W12 := W12.ldc2 d2101_53_134 (tw304 H) rfl
  replace W12 := W12.land (v := s8) d2101_53_137 p17 rfl
  replace W12 := W12.lstore (L' := #[.val (.ref x0), .val (.int u0), .val (.ref x1), .val (.long s1), .second, .val (.int s6), .val (.int u5), .val (.long s8), .second, .unset, .unset, .unset, .unset, .unset, .unset]) d2101_53_138 rfl rfl
  replace W12 := W12.lload d2101_53_140 rfl rfl
  replace W12 := W12.lloadN d2101_53_142 rfl rfl
  replace W12 := W12.lcmp (v := (-1 : Int32)) d2101_53_143 p18 rfl
  replace W12 := W12.ifF (pc' := 147) d2101_53_144 (tlt (by decide : (-1 : Int32) < (0 : Int32))).2.1 rfl
  replace W12 := W12.aloadN d2101_53_147 rfl rfl rfl
  have f16 := ((f4.other w7 (Or.inr (sn16 H))).other w11 (Or.inr (sn21 H)))
  replace W12 := W12.getf d2101_53_148 (tw168 H) Via.refl f16 rfl
  replace W12 := W12.iconst (v := (0 : Int32)) d2101_53_151 rfl rfl
  replace W12 := W12.iconst (v := (0 : Int32)) d2101_53_152 rfl rfl
  have v17 := (((v1.other w4 (Nat.ne_of_gt (Nat.lt_of_lt_of_le E_x1.lt (Nat.le_of_eq g1.symm)))).other w7 (Nat.ne_of_gt (Nat.lt_of_lt_of_le E_x1.lt (Nat.le_of_eq g1.symm)))).other w11 (Nat.ne_of_gt (Nat.lt_of_lt_of_le E_x1.lt (Nat.le_of_eq g1.symm))))
  obtain ⟨h18, W18, w18, A18, SF18⟩ := W12.iastore (pc' := 154) (i := 0) (x' := (0 : Int32)) d2101_53_153 v17 ⟨by decide, by decide⟩ rfl (by show 0 < 2; decide) rfl safe0 (Or.inr (Nat.le_of_eq g1.symm)) rfl
  clear W12
  have z18 : h11.size ≤ h18.size := Nat.le_of_eq w18.size.symm
  have v18 : Arv Z h18 a1 k1 .int (2 : Int32) [(.int (0 : Int32)), (.int (0 : Int32))] (.int (0 : Int32)) := A18
  replace W18 := W18.goto (pc' := 192) d2101_53_154 (by decide) (by decide)
  replace W18 := W18.aloadN d2101_53_192 rfl rfl rfl
  have f19 := ((f8.other w11 (Or.inl N_x0_x1)).other w18 (Or.inl (Nat.ne_of_lt (Nat.lt_of_lt_of_le E_x0.lt (Nat.le_of_eq g1.symm)))))
  replace W18 := W18.getf d2101_53_193 (tw170 H) Via.refl f19 rfl
  replace W18 := W18.istore (L' := #[.val (.ref x0), .val (.int u0), .val (.ref x1), .val (.long s1), .second, .val (.int s6), .val (.int u5), .val (.long s8), .second, .val (.int (2 : Int32)), .unset, .unset, .unset, .unset, .unset]) d2101_53_196 rfl rfl
  replace W18 := W18.iinc (v := (1 : Int32)) (L' := #[.val (.ref x0), .val (.int u0), .val (.ref x1), .val (.long s1), .second, .val (.int s6), .val (.int u5), .val (.long s8), .second, .val (.int (1 : Int32)), .unset, .unset, .unset, .unset, .unset]) d2101_53_198 rfl (by decide) rfl rfl
  replace W18 := W18.iload d2101_53_201 rfl rfl
  replace W18 := W18.ifF (pc' := 206) d2101_53_203 (tlt (by decide : (0 : Int32) < (1 : Int32))).2.2.2 rfl
  replace W18 := W18.lload d2101_53_206 rfl rfl
  replace W18 := W18.bipush (v := (32 : Int32)) d2101_53_208 rfl rfl
  replace W18 := W18.lshl (v := s9) d2101_53_210 p19 rfl
  replace W18 := W18.aloadN d2101_53_211 rfl rfl rfl
  have f20 := (f13.other w18 (Or.inl (Nat.ne_of_lt (Nat.lt_of_lt_of_le E_x0.lt (Nat.le_of_eq g1.symm)))))
  replace W18 := W18.getf d2101_53_212 (tw168 H) Via.refl f20 rfl
  replace W18 := W18.aloadN d2101_53_215 rfl rfl rfl
  have f21 := (f14.other w18 (Or.inl (Nat.ne_of_lt (Nat.lt_of_lt_of_le E_x0.lt (Nat.le_of_eq g1.symm)))))
  replace W18 := W18.getf d2101_53_216 (tw166 H) Via.refl f21 rfl
  replace W18 := W18.aloadN d2101_53_219 rfl rfl rfl
  replace W18 := W18.getf d2101_53_220 (tw170 H) Via.refl f19 rfl
  replace W18 := W18.iadd (v := (2 : Int32)) d2101_53_223 (by decide) rfl
  replace W18 := W18.iload d2101_53_224 rfl rfl
  replace W18 := W18.isub (v := (1 : Int32)) d2101_53_226 (by decide) rfl
  have v22 := (v15.other w18 (Nat.ne_of_lt (Nat.lt_of_lt_of_le E_x2.lt (Nat.le_of_eq g1.symm))))
  replace W18 := W18.iaload (w := (.int u6)) d2101_53_227 v22 ⟨by decide, by decide⟩ rfl rfl
  replace W18 := W18.i2l (v := s10) d2101_53_228 p20 rfl
  replace W18 := W18.ldc2 d2101_53_229 (tw304 H) rfl
  replace W18 := W18.land (v := s11) d2101_53_232 p21 rfl
  replace W18 := W18.lor (v := s12) d2101_53_233 p22 rfl
  replace W18 := W18.lstore (L' := #[.val (.ref x0), .val (.int u0), .val (.ref x1), .val (.long s1), .second, .val (.int s6), .val (.int u5), .val (.long s8), .second, .val (.int (1 : Int32)), .val (.long s12), .second, .unset, .unset, .unset]) d2101_53_234 rfl rfl
  replace W18 := W18.lload d2101_53_236 rfl rfl
  replace W18 := W18.lconst (v := (0 : Int64)) d2101_53_238 rfl rfl
  replace W18 := W18.lcmp (v := (1 : Int32)) d2101_53_239 p23 rfl
  replace W18 := W18.ifF (pc' := 243) d2101_53_240 (flt (by decide : ¬ ((1 : Int32) < (0 : Int32)))).1 rfl
  replace W18 := W18.lload d2101_53_243 rfl rfl
  replace W18 := W18.lloadN d2101_53_245 rfl rfl
  subst p24
  replace W18 := W18.ldiv (v := s13) d2101_53_246 (by decide) p25 rfl
  replace W18 := W18.l2i (v := s14) d2101_53_247 p26 rfl
  replace W18 := W18.istore (L' := #[.val (.ref x0), .val (.int u0), .val (.ref x1), .val (.long (1000000000 : Int64)), .second, .val (.int s6), .val (.int u5), .val (.long s8), .second, .val (.int (1 : Int32)), .val (.long s12), .second, .val (.int s14), .unset, .unset]) d2101_53_248 rfl rfl
  replace W18 := W18.lload d2101_53_250 rfl rfl
  replace W18 := W18.iload d2101_53_252 rfl rfl
  replace W18 := W18.i2l (v := s15) d2101_53_254 p27 rfl
  replace W18 := W18.lloadN d2101_53_255 rfl rfl
  replace W18 := W18.lmul (v := s16) d2101_53_256 p28 rfl
  replace W18 := W18.lsub (v := s17) d2101_53_257 p29 rfl
  replace W18 := W18.l2i (v := s18) d2101_53_258 p30 rfl
  replace W18 := W18.istore (L' := #[.val (.ref x0), .val (.int u0), .val (.ref x1), .val (.long (1000000000 : Int64)), .second, .val (.int s6), .val (.int s18), .val (.long s8), .second, .val (.int (1 : Int32)), .val (.long s12), .second, .val (.int s14), .unset, .unset]) d2101_53_259 rfl rfl
  replace W18 := W18.goto (pc' := 289) d2101_53_261 (by decide) (by decide)
  replace W18 := W18.aloadN d2101_53_289 rfl rfl rfl
  have f23 := (f16.other w18 (Or.inl (Nat.ne_of_lt (Nat.lt_of_lt_of_le E_x1.lt (Nat.le_of_eq g1.symm)))))
  replace W18 := W18.getf d2101_53_290 (tw168 H) Via.refl f23 rfl
  replace W18 := W18.aloadN d2101_53_293 rfl rfl rfl
  replace W18 := W18.getf d2101_53_294 (tw170 H) Via.refl f19 rfl
  replace W18 := W18.iload d2101_53_297 rfl rfl
  replace W18 := W18.isub (v := (1 : Int32)) d2101_53_299 (by decide) rfl
  replace W18 := W18.iload d2101_53_300 rfl rfl
  obtain ⟨h24, W24, w24, A24, SF24⟩ := W18.iastore (pc' := 303) (i := 1) (x' := s14) d2101_53_302 v18 ⟨by decide, by decide⟩ rfl (by show 1 < 2; decide) rfl safe0 (Or.inr (Nat.le_of_eq g1.symm)) rfl
  clear W18
  have z24 : h18.size ≤ h24.size := Nat.le_of_eq w24.size.symm
  have v24 : Arv Z h24 a1 k1 .int (2 : Int32) [(.int (0 : Int32)), (.int s14)] (.int (0 : Int32)) := A24
  replace W24 := W24.iload d2101_53_303 rfl rfl
  replace W24 := W24.i2l (v := s19) d2101_53_305 p31 rfl
  replace W24 := W24.ldc2 d2101_53_306 (tw304 H) rfl
  replace W24 := W24.land (v := s20) d2101_53_309 p32 rfl
  replace W24 := W24.lstore (L' := #[.val (.ref x0), .val (.int u0), .val (.ref x1), .val (.long (1000000000 : Int64)), .second, .val (.int s6), .val (.int s18), .val (.long s20), .second, .val (.int (1 : Int32)), .val (.long s12), .second, .val (.int s14), .unset, .unset]) d2101_53_310 rfl rfl
  replace W24 := W24.goto (pc' := 198) d2101_53_312 (by decide) (by decide)
  replace W24 := W24.iinc (v := (0 : Int32)) (L' := #[.val (.ref x0), .val (.int u0), .val (.ref x1), .val (.long (1000000000 : Int64)), .second, .val (.int s6), .val (.int s18), .val (.long s20), .second, .val (.int (0 : Int32)), .val (.long s12), .second, .val (.int s14), .unset, .unset]) d2101_53_198 rfl (by decide) rfl rfl
  replace W24 := W24.iload d2101_53_201 rfl rfl
  replace W24 := W24.ifT (pc' := 315) d2101_53_203 (flt (by decide : ¬ ((0 : Int32) < (0 : Int32)))).2.2.2 (by decide) (by decide)
  replace W24 := W24.aloadN d2101_53_315 rfl rfl rfl
  have e25 := (((e10.wr w11).wr w18).wr w24)
  have f26 := ((f11.other w18 (Or.inl (Nat.ne_of_lt (Nat.lt_of_lt_of_le E_x1.lt (Nat.le_of_eq g1.symm))))).other w24 (Or.inl (Nat.ne_of_lt (Nat.lt_of_lt_of_le E_x1.lt (Nat.le_of_eq g1.symm)))))
  have f27 := (((f7.other w11 (Or.inr (sn20 H))).other w18 (Or.inl (Nat.ne_of_lt (Nat.lt_of_lt_of_le E_x1.lt (Nat.le_of_eq g1.symm))))).other w24 (Or.inl (Nat.ne_of_lt (Nat.lt_of_lt_of_le E_x1.lt (Nat.le_of_eq g1.symm)))))
  have f28 := (f23.other w24 (Or.inl (Nat.ne_of_lt (Nat.lt_of_lt_of_le E_x1.lt (Nat.le_of_eq g1.symm)))))
  obtain ⟨V29, h29, r29, W29, K29, hQ29, SF29⟩ := W24.callV (pc' := 319) (argsL := []) (rest := []) (Wd := 0) (cells' := 1) (slots' := 2) (a := x1) (C := "java/math/MutableBigInteger") (y := N56) (z := N56) d2101_53_316 (m125_normalize H x1 a1 k1 (2 : Int32) (0 : Int32) (0 : Int32) s14 (2 : Int32) (1 : Int32) h24 W24.old e25 f26 f27 f28 v24 (by decide) (by decide) (by decide) (by decide) (by decide) p33 (by decide) (by decide) g_x1) e25 (tw306 H) (tw307 H) (Or.inl (tw309 H)) (tw309 H) (tw308 H) (tw160 H) (tw310 H) (by decide) (lenOf pd0 rfl) rfl rfl (by decide) (by decide) rfl (sfS safe0 sf0) (allS (Or.inl (List.mem_of_getElem? (i := 0) rfl)) all0)
  clear W24
  obtain ⟨_, rfl, q29_1, q29_2, q29_3, q29_4⟩ := hQ29
  have z29 : h24.size ≤ h29.size := K29.1
  replace W29 := W29.cast (st' := []) rfl
  replace W29 := W29.iload d2101_53_319 rfl rfl
  replace W29 := W29.ifF (pc' := 324) d2101_53_321 (tlt p34).2.2.2 rfl
  replace W29 := W29.iload d2101_53_324 rfl rfl
  replace W29 := W29.iloadN d2101_53_326 rfl rfl
  subst p35
  replace W29 := W29.irem (v := s21) d2101_53_327 (by decide) p36 rfl
  have e30 := ((((((B1.wr w4).wr w7).wr w11).wr w18).wr w24).keep K29)
  have v31 := (v24.keep K29 (ninS (Nat.ne_of_gt (Nat.lt_of_lt_of_le E_x1.lt (Nat.le_of_eq g1.symm))) nin0))
  exact W29.iret (t := .int) d2101_53_328 rfl (by simp) rfl (by decide) (by decide) (fun V' cv => ⟨a1, k1, rfl, q29_1, q29_2, q29_3, q29_4, e30, v31, (Nat.le_of_eq g1.symm)⟩)
theorem m121_divideKnuth (H : Cx Z a0 gA gK) (x0 x1 x2 x3 x4 : Addr) (kp0 kp1 : ClassId) (u0 u1 u2 u3 u4 u5 u6 u7 u8 u9 : Int32) (s0 s1 s2 s3 s4 s5 s6 : Int64) (s7 : Int32) (s8 s9 s10 : Int64) (s11 : Int32) (s12 s13 : Int64) (s14 : Int32) (h0 : Heap) (hO : Old Z n0 h0) (E_x0 : Exa Z h0 x0 "java/math/MutableBigInteger") (F_x0_intLen : Fld Z h0 x0 "java/math/MutableBigInteger" "intLen" "I" (.int u1)) (F_x0_offset : Fld Z h0 x0 "java/math/MutableBigInteger" "offset" "I" (.int u2)) (F_x0_value : Fld Z h0 x0 "java/math/MutableBigInteger" "value" "[I" (.ref x3)) (E_x1 : Exa Z h0 x1 "java/math/MutableBigInteger") (F_x1_intLen : Fld Z h0 x1 "java/math/MutableBigInteger" "intLen" "I" (.int u3)) (F_x1_offset : Fld Z h0 x1 "java/math/MutableBigInteger" "offset" "I" (.int u4)) (F_x1_value : Fld Z h0 x1 "java/math/MutableBigInteger" "value" "[I" (.ref (gA 3))) (E_x2 : Exa Z h0 x2 "java/math/MutableBigInteger") (F_x2_intLen : Fld Z h0 x2 "java/math/MutableBigInteger" "intLen" "I" (.int u5)) (F_x2_offset : Fld Z h0 x2 "java/math/MutableBigInteger" "offset" "I" (.int u6)) (F_x2_value : Fld Z h0 x2 "java/math/MutableBigInteger" "value" "[I" (.ref x4)) (E_x3 : Exa Z h0 x3 "[I") (V_x3 : Arv Z h0 x3 kp0 .int (2 : Int32) [(.int u7), (.int u8)] (.int (0 : Int32))) (E_x4 : Exa Z h0 x4 "[I") (V_x4 : Arv Z h0 x4 kp1 .int (1 : Int32) [(.int u9)] (.int (0 : Int32))) (N_x0_x2 : x0 ≠ x2) (N_x1_x2 : x1 ≠ x2) (N_x3_x4 : x3 ≠ x4) (p0 : ¬ (u3 = (0 : Int32))) (p1 : ¬ (u1 = (0 : Int32))) (p2 : ¬ (u1 < u3)) (p3 : u3 < u1) (p4 : u3 = (1 : Int32)) (p5 : u4 = (0 : Int32)) (p6 : (u7.toInt64) = s0) (p7 : (s0 &&& (4294967295 : Int64)) = s1) (p8 : (s1 <<< ((32 : Int32).toInt64 &&& 63)) = s2) (p9 : (u8.toInt64) = s3) (p10 : (s3 &&& (4294967295 : Int64)) = s4) (p11 : (s2 ||| s4) = s5) (p12 : (s5 / (1000000000 : Int64)) = s6) (p13 : (s6.toInt32) = s7) (p14 : (s7.toInt64) = s8) (p15 : (s8 * (1000000000 : Int64)) = s9) (p16 : (s5 - s9) = s10) (p17 : (s10.toInt32) = s11) (p18 : (s11.toInt64) = s12) (p19 : (s12 &&& (4294967295 : Int64)) = s13) (p20 : (s11 - (s11 / (1000000000 : Int32)) * (1000000000 : Int32)) = s14) (p21 : ¬ (u1 = (1 : Int32))) (p22 : (1 : Int32) < u1) (p23 : u1 = (2 : Int32)) (p24 : u2 = (0 : Int32)) (p25 : (Jvm.Free.XT.cmpL s1 (1000000000 : Int64)) = (-1 : Int32)) (p26 : (Jvm.Free.XT.cmpL s5 (0 : Int64)) = (1 : Int32)) (p27 : ¬ (s7 = (0 : Int32))) (p28 : ¬ (u0 = (0 : Int32))) (p29 : s14 = (0 : Int32)) (g_x2 : n0 ≤ x2) (g_x4 : n0 ≤ x4) : Con l Z [] n0 N26 jdk_2101_method_57_code 8 (some (.object "java/math/MutableBigInteger")) (Rm 2 3 6 41) #[(.ref x0), (.ref x1), (.ref x2), (.int u0)] h0 [x2, x4] (fun v h V' => ∃ (r0 : Addr) (r1 : Addr) (r2 : Addr) (kr0 : ClassId) (kr1 : ClassId), v = some (.ref r0) ∧ Exa Z h r0 "java/math/MutableBigInteger" ∧ Fld Z h r0 "java/math/MutableBigInteger" "intLen" "I" (.int (0 : Int32)) ∧ Fld Z h r0 "java/math/MutableBigInteger" "offset" "I" (.int (0 : Int32)) ∧ Fld Z h r0 "java/math/MutableBigInteger" "value" "[I" (.ref r1) ∧ h0.size ≤ r0 ∧ Exa Z h x2 "java/math/MutableBigInteger" ∧ Fld Z h x2 "java/math/MutableBigInteger" "intLen" "I" (.int (1 : Int32)) ∧ Fld Z h x2 "java/math/MutableBigInteger" "offset" "I" (.int (1 : Int32)) ∧ Fld Z h x2 "java/math/MutableBigInteger" "value" "[I" (.ref r2) ∧ Exa Z h x4 "[I" ∧ Arv Z h x4 kp1 .int (1 : Int32) [(.int (0 : Int32))] (.int (0 : Int32)) ∧ Exa Z h r1 "[I" ∧ Arv Z h r1 kr0 .int (1 : Int32) [(.int (0 : Int32))] (.int (0 : Int32)) ∧ h0.size ≤ r1 ∧ Exa Z h r2 "[I" ∧ Arv Z h r2 kr1 .int (2 : Int32) [(.int (0 : Int32)), (.int s7)] (.int (0 : Int32)) ∧ h0.size ≤ r2 ∧ r1 ≠ r2) [] := by
  refine Con.of (a0 := a0) (L0 := #[.val (.ref x0), .val (.ref x1), .val (.ref x2), .val (.int u0), .unset, .unset, .unset, .unset]) pf26 (fun _ => rfl) (allS g_x2 (allS g_x4 all0)) hO EW.nil ?_
  intro p e s m below meth c S0 hnm hsf W
  replace W := W.aloadN d2101_57_0 rfl rfl rfl
  replace W := W.getf d2101_57_1 (tw170 H) Via.refl F_x1_intLen rfl
  replace W := W.ifT (pc' := 17) d2101_57_4 (feq p0).2 (by decide) (by decide)
  replace W := W.aloadN d2101_57_17 rfl rfl rfl
  replace W := W.getf d2101_57_18 (tw170 H) Via.refl F_x0_intLen rfl
  replace W := W.ifT (pc' := 50) d2101_57_21 (feq p1).2 (by decide) (by decide)
  replace W := W.aloadN d2101_57_50 rfl rfl rfl
  replace W := W.aloadN d2101_57_51 rfl rfl rfl
  obtain ⟨V1, h1, r1, W1, K1, hQ1, SF1⟩ := W.callV (pc' := 55) (argsL := [(.ref x1)]) (rest := []) (Wd := 0) (cells' := 0) (slots' := 0) (a := x0) (C := "java/math/MutableBigInteger") (y := N25) (z := N25) d2101_57_52 (m122_compare H x0 x1 u1 u3 h0 W.old F_x0_intLen F_x1_intLen p2 p3) E_x0 (tw185 H) (tw186 H) (Or.inl (tw188 H)) (tw188 H) (tw187 H) (tw160 H) (tw189 H) (by decide) (lenOf pd19 rfl) rfl rfl (by decide) (by decide) rfl sf0 all0
  clear W
  obtain ⟨_, rfl, hs1⟩ := hQ1
  subst hs1
  replace W1 := W1.cast (st' := [(.int (1 : Int32))]) rfl
  replace W1 := W1.istore (L' := #[.val (.ref x0), .val (.ref x1), .val (.ref x2), .val (.int u0), .val (.int (1 : Int32)), .unset, .unset, .unset]) d2101_57_55 rfl rfl
  replace W1 := W1.iload d2101_57_57 rfl rfl
  replace W1 := W1.ifT (pc' := 89) d2101_57_59 (flt (by decide : ¬ ((1 : Int32) < (0 : Int32)))).2.1 (by decide) (by decide)
  replace W1 := W1.iload d2101_57_89 rfl rfl
  replace W1 := W1.ifT (pc' := 127) d2101_57_91 (feq (by decide : ¬ ((1 : Int32) = (0 : Int32)))).2 (by decide) (by decide)
  replace W1 := W1.aloadN d2101_57_127 rfl rfl rfl
  obtain ⟨V2, h2, r2, W2, K2, hQ2, SF2⟩ := W1.callV (pc' := 131) (argsL := []) (rest := []) (Wd := 0) (cells' := 0) (slots' := 0) (a := x2) (C := "java/math/MutableBigInteger") (y := N54) (z := N54) d2101_57_128 (m88_clear H x2 x4 kp1 u5 u6 u9 h0 W1.old E_x2 F_x2_intLen F_x2_offset F_x2_value E_x4 V_x4 g_x2 g_x4) E_x2 (tw294 H) (tw295 H) (Or.inl (tw297 H)) (tw297 H) (tw296 H) (tw160 H) (tw298 H) (by decide) (lenOf pd0 rfl) rfl rfl (by decide) (by decide) rfl (sfS safe0 (sfS safe0 sf0)) (allS (Or.inl (List.mem_of_getElem? (i := 0) rfl)) (allS (Or.inl (List.mem_of_getElem? (i := 1) rfl)) all0))
  clear W1
  obtain ⟨_, rfl, q2_1, q2_2, q2_3, q2_4, q2_5, q2_6⟩ := hQ2
  have z2 : h0.size ≤ h2.size := K2.1
  replace W2 := W2.cast (st' := []) rfl
  replace W2 := W2.aloadN d2101_57_131 rfl rfl rfl
  have f3 := (F_x1_intLen.keep K2 (ninS N_x1_x2 (ninS (Exa.ne (E_x1.keep K2) q2_5 (by decide)) nin0)))
  replace W2 := W2.getf d2101_57_132 (tw170 H) Via.refl f3 rfl
  replace W2 := W2.iconst (v := (1 : Int32)) d2101_57_135 rfl rfl
  replace W2 := W2.icmpF (pc' := 139) d2101_57_136 (teq p4).2 rfl
  replace W2 := W2.aloadN d2101_57_139 rfl rfl rfl
  replace W2 := W2.aloadN d2101_57_140 rfl rfl rfl
  have f4 := (F_x1_value.keep K2 (ninS N_x1_x2 (ninS (Exa.ne (E_x1.keep K2) q2_5 (by decide)) nin0)))
  replace W2 := W2.getf d2101_57_141 (tw168 H) Via.refl f4 rfl
  replace W2 := W2.aloadN d2101_57_144 rfl rfl rfl
  have f5 := (F_x1_offset.keep K2 (ninS N_x1_x2 (ninS (Exa.ne (E_x1.keep K2) q2_5 (by decide)) nin0)))
  replace W2 := W2.getf d2101_57_145 (tw166 H) Via.refl f5 rfl
  subst p5
  have v6 := (gf36 H).ext W2.old.2
  replace W2 := W2.iaload (w := (.int (1000000000 : Int32))) d2101_57_148 v6 ⟨by decide, by decide⟩ rfl rfl
  replace W2 := W2.aloadN d2101_57_149 rfl rfl rfl
  have e7 := (E_x0.keep K2)
  have f8 := (F_x0_intLen.keep K2 (ninS N_x0_x2 (ninS (Exa.ne e7 q2_5 (by decide)) nin0)))
  have f9 := (F_x0_offset.keep K2 (ninS N_x0_x2 (ninS (Exa.ne e7 q2_5 (by decide)) nin0)))
  have f10 := (F_x0_value.keep K2 (ninS N_x0_x2 (ninS (Exa.ne e7 q2_5 (by decide)) nin0)))
  have e11 := (E_x3.keep K2)
  have v12 := (V_x3.keep K2 (ninS (Exa.ne e11 q2_1 (by decide)) (ninS N_x3_x4 nin0)))
  obtain ⟨V13, h13, r13, W13, K13, hQ13, SF13⟩ := W2.callV (pc' := 153) (argsL := [(.int (1000000000 : Int32)), (.ref x2)]) (rest := []) (Wd := 0) (cells' := 1) (slots' := 2) (a := x0) (C := "java/math/MutableBigInteger") (y := N55) (z := N55) d2101_57_150 (m123_divideOneWord H x0 x2 x3 x4 kp0 kp1 (1000000000 : Int32) u1 u2 (0 : Int32) (0 : Int32) u7 u8 (0 : Int32) (1000000000 : Int64) (1000000000 : Int64) (15258 : Int32) (59 : Int32) (3 : Int32) (1 : Int32) (2 : Int32) s0 s1 s2 s3 s4 s5 s6 s7 s8 s9 s10 s11 s12 s13 s14 h2 W2.old e7 f8 f9 f10 q2_1 q2_2 q2_3 q2_4 e11 v12 q2_6 N_x0_x2 (by decide) (by decide) p21 p22 p23 (by decide) (by decide) (by decide) (by decide) (by decide) (by decide) (by decide) (by decide) (by decide) (by decide) p24 p6 p7 p25 p8 p9 p10 p11 p26 (by decide) p12 p13 p14 p15 p16 p17 p18 p19 p27 (by decide) (by decide) p20 g_x2) e7 (tw299 H) (tw300 H) (Or.inl (tw302 H)) (tw302 H) (tw301 H) (tw160 H) (tw303 H) (by decide) (lenOf pd36 rfl) rfl rfl (by decide) (by decide) rfl (sfS safe0 sf0) (allS (Or.inl (List.mem_of_getElem? (i := 0) rfl)) all0)
  clear W2
  obtain ⟨_, r013, kr013, rfl, q13_1, q13_2, q13_3, q13_4, q13_5, q13_6, q13_7⟩ := hQ13
  have z13 : h2.size ≤ h13.size := K13.1
  replace W13 := W13.cast (st' := [(.int s14)]) rfl
  replace W13 := W13.istore (L' := #[.val (.ref x0), .val (.ref x1), .val (.ref x2), .val (.int u0), .val (.int (1 : Int32)), .val (.int s14), .unset, .unset]) d2101_57_153 rfl rfl
  replace W13 := W13.iloadN d2101_57_155 rfl rfl
  replace W13 := W13.ifF (pc' := 159) d2101_57_156 (feq p28).1 rfl
  replace W13 := W13.iload d2101_57_159 rfl rfl
  replace W13 := W13.ifF (pc' := 164) d2101_57_161 (teq p29).2 rfl
  obtain ⟨h14, a14, W14, E14, g14, ⟨A14, D14, U14⟩, sf14, SF14⟩ := W13.new (pc' := 167) (cells' := 2) (slots' := 5) d2101_57_164 (tw191 H) (tw159 H) (tw160 H) rfl rfl rfl (by decide) (by decide)
  clear W13
  rw [← g14] at A14 D14 U14
  have z14 : h13.size ≤ h14.size := E14.1
  replace W14 := W14.dup d2101_57_167 rfl rfl
  obtain ⟨V15, h15, r15, W15, K15, hQ15, SF15⟩ := W14.callI (pc' := 171) (argsL := []) (rest := [(.ref a14)]) (Wd := 1) (cells' := 3) (slots' := 6) (a := a14) (y := N23) d2101_57_168 (m35_init H a14 (0 : Int32) (0 : Int32) h14 W14.old A14 (D14 (Or.inl (tw171 H)) (ty := .int) (by decide) : Fld Z h14 a14 "java/math/MutableBigInteger" "intLen" "I" (.int (0 : Int32))) (D14 (Or.inl (tw167 H)) (ty := .int) (by decide) : Fld Z h14 a14 "java/math/MutableBigInteger" "offset" "I" (.int (0 : Int32))) (D14 (Or.inl (tw169 H)) (ty := (.array .int)) (by decide) : Fld Z h14 a14 "java/math/MutableBigInteger" "value" "[I" .null) (Nat.le_trans W14.1.2.2.2.2.2.2.2.1 (Nat.le_trans (Nat.le_trans z2 z13) (Nat.le_of_eq g14.symm)))) rfl (tw192 H) (tw162 H) (tw160 H) (tw164 H) (by decide) (lenOf pd0 rfl) rfl rfl (by decide) (by decide) rfl (sfS safe0 sf0) (allS (Or.inr (Nat.le_trans (Nat.le_trans z2 z13) (Nat.le_of_eq g14.symm))) all0)
  clear W14
  obtain ⟨_, r015, kr015, rfl, q15_1, q15_2, q15_3, q15_4, q15_5, q15_6, q15_7⟩ := hQ15
  have z15 : h14.size ≤ h15.size := K15.1
  replace W15 := W15.cast (st' := [(.ref a14)]) rfl
  have e16 := ((q13_1.ext E14).keep K15)
  have f17 := ((q13_2.ext E14).keep K15 (ninS (Nat.ne_of_lt (Nat.lt_of_lt_of_le E_x2.lt (Nat.le_trans (Nat.le_trans z2 z13) (Nat.le_of_eq g14.symm)))) nin0))
  have f18 := ((q13_3.ext E14).keep K15 (ninS (Nat.ne_of_lt (Nat.lt_of_lt_of_le E_x2.lt (Nat.le_trans (Nat.le_trans z2 z13) (Nat.le_of_eq g14.symm)))) nin0))
  have f19 := ((q13_4.ext E14).keep K15 (ninS (Nat.ne_of_lt (Nat.lt_of_lt_of_le E_x2.lt (Nat.le_trans (Nat.le_trans z2 z13) (Nat.le_of_eq g14.symm)))) nin0))
  have e20 := (((q2_5.keep K13).ext E14).keep K15)
  have v21 := (((q2_6.keep K13 (ninS (Exa.ne e20 e16 (by decide)) nin0)).ext E14).keep K15 (ninS (Nat.ne_of_lt (Nat.lt_of_lt_of_le E_x4.lt (Nat.le_trans (Nat.le_trans z2 z13) (Nat.le_of_eq g14.symm)))) nin0))
  have e22 := ((q13_5.ext E14).keep K15)
  have v23 := ((q13_6.ext E14).keep K15 (ninS (Nat.ne_of_lt (Nat.lt_of_lt_of_le q13_5.lt (Nat.le_of_eq g14.symm))) nin0))
  exact W15.aret (t := (.object "java/math/MutableBigInteger")) d2101_57_171 rfl rfl rfl rfl (by decide) (by decide) (fun V' cv => ⟨a14, r015, r013, kr015, kr013, rfl, q15_1, q15_2, q15_3, q15_4, (Nat.le_trans (Nat.le_trans z2 z13) (Nat.le_of_eq g14.symm)), e16, f17, f18, f19, e20, v21, q15_5, q15_6, (Nat.le_trans (Nat.le_trans (Nat.le_trans z2 z13) z14) q15_7), e22, v23, (Nat.le_trans z2 q13_7), (Nat.ne_of_gt (Nat.lt_of_lt_of_le q13_5.lt (Nat.le_trans z14 q15_7)))⟩)
theorem m120_divideKnuth (H : Cx Z a0 gA gK) (x0 x1 x2 x3 x4 : Addr) (kp0 kp1 : ClassId) (u0 u1 u2 u3 u4 u5 u6 u7 u8 : Int32) (s0 s1 s2 s3 s4 s5 s6 : Int64) (s7 : Int32) (s8 s9 s10 : Int64) (s11 : Int32) (s12 s13 : Int64) (s14 : Int32) (h0 : Heap) (hO : Old Z n0 h0) (E_x0 : Exa Z h0 x0 "java/math/MutableBigInteger") (F_x0_intLen : Fld Z h0 x0 "java/math/MutableBigInteger" "intLen" "I" (.int u0)) (F_x0_offset : Fld Z h0 x0 "java/math/MutableBigInteger" "offset" "I" (.int u1)) (F_x0_value : Fld Z h0 x0 "java/math/MutableBigInteger" "value" "[I" (.ref x3)) (E_x1 : Exa Z h0 x1 "java/math/MutableBigInteger") (F_x1_intLen : Fld Z h0 x1 "java/math/MutableBigInteger" "intLen" "I" (.int u2)) (F_x1_offset : Fld Z h0 x1 "java/math/MutableBigInteger" "offset" "I" (.int u3)) (F_x1_value : Fld Z h0 x1 "java/math/MutableBigInteger" "value" "[I" (.ref (gA 3))) (E_x2 : Exa Z h0 x2 "java/math/MutableBigInteger") (F_x2_intLen : Fld Z h0 x2 "java/math/MutableBigInteger" "intLen" "I" (.int u4)) (F_x2_offset : Fld Z h0 x2 "java/math/MutableBigInteger" "offset" "I" (.int u5)) (F_x2_value : Fld Z h0 x2 "java/math/MutableBigInteger" "value" "[I" (.ref x4)) (E_x3 : Exa Z h0 x3 "[I") (V_x3 : Arv Z h0 x3 kp0 .int (2 : Int32) [(.int u6), (.int u7)] (.int (0 : Int32))) (E_x4 : Exa Z h0 x4 "[I") (V_x4 : Arv Z h0 x4 kp1 .int (1 : Int32) [(.int u8)] (.int (0 : Int32))) (N_x0_x2 : x0 ≠ x2) (N_x1_x2 : x1 ≠ x2) (N_x3_x4 : x3 ≠ x4) (p0 : (u6.toInt64) = s0) (p1 : (s0 &&& (4294967295 : Int64)) = s1) (p2 : (s1 <<< ((32 : Int32).toInt64 &&& 63)) = s2) (p3 : (u7.toInt64) = s3) (p4 : (s3 &&& (4294967295 : Int64)) = s4) (p5 : (s2 ||| s4) = s5) (p6 : (s5 / (1000000000 : Int64)) = s6) (p7 : (s6.toInt32) = s7) (p8 : (s7.toInt64) = s8) (p9 : (s8 * (1000000000 : Int64)) = s9) (p10 : (s5 - s9) = s10) (p11 : (s10.toInt32) = s11) (p12 : (s11.toInt64) = s12) (p13 : (s12 &&& (4294967295 : Int64)) = s13) (p14 : (s11 - (s11 / (1000000000 : Int32)) * (1000000000 : Int32)) = s14) (p15 : ¬ (u2 = (0 : Int32))) (p16 : ¬ (u0 = (0 : Int32))) (p17 : ¬ (u0 < u2)) (p18 : u2 < u0) (p19 : u2 = (1 : Int32)) (p20 : u3 = (0 : Int32)) (p21 : ¬ (u0 = (1 : Int32))) (p22 : (1 : Int32) < u0) (p23 : u0 = (2 : Int32)) (p24 : u1 = (0 : Int32)) (p25 : (Jvm.Free.XT.cmpL s1 (1000000000 : Int64)) = (-1 : Int32)) (p26 : (Jvm.Free.XT.cmpL s5 (0 : Int64)) = (1 : Int32)) (p27 : ¬ (s7 = (0 : Int32))) (p28 : s14 = (0 : Int32)) (g_x2 : n0 ≤ x2) (g_x4 : n0 ≤ x4) : Con l Z [] n0 N27 jdk_2101_method_56_code 3 (some (.object "java/math/MutableBigInteger")) (Rm 3 3 6 60) #[(.ref x0), (.ref x1), (.ref x2)] h0 [x2, x4] (fun v h V' => ∃ (r0 : Addr) (r1 : Addr) (r2 : Addr) (kr0 : ClassId) (kr1 : ClassId), v = some (.ref r0) ∧ Exa Z h r0 "java/math/MutableBigInteger" ∧ Fld Z h r0 "java/math/MutableBigInteger" "intLen" "I" (.int (0 : Int32)) ∧ Fld Z h r0 "java/math/MutableBigInteger" "offset" "I" (.int (0 : Int32)) ∧ Fld Z h r0 "java/math/MutableBigInteger" "value" "[I" (.ref r1) ∧ h0.size ≤ r0 ∧ Exa Z h x2 "java/math/MutableBigInteger" ∧ Fld Z h x2 "java/math/MutableBigInteger" "intLen" "I" (.int (1 : Int32)) ∧ Fld Z h x2 "java/math/MutableBigInteger" "offset" "I" (.int (1 : Int32)) ∧ Fld Z h x2 "java/math/MutableBigInteger" "value" "[I" (.ref r2) ∧ Exa Z h x4 "[I" ∧ Arv Z h x4 kp1 .int (1 : Int32) [(.int (0 : Int32))] (.int (0 : Int32)) ∧ Exa Z h r1 "[I" ∧ Arv Z h r1 kr0 .int (1 : Int32) [(.int (0 : Int32))] (.int (0 : Int32)) ∧ h0.size ≤ r1 ∧ Exa Z h r2 "[I" ∧ Arv Z h r2 kr1 .int (2 : Int32) [(.int (0 : Int32)), (.int s7)] (.int (0 : Int32)) ∧ h0.size ≤ r2 ∧ r1 ≠ r2) [] := by
  refine Con.of (a0 := a0) (L0 := #[.val (.ref x0), .val (.ref x1), .val (.ref x2)]) pf27 (fun _ => rfl) (allS g_x2 (allS g_x4 all0)) hO EW.nil ?_
  intro p e s m below meth c S0 hnm hsf W
  replace W := W.aloadN d2101_56_0 rfl rfl rfl
  replace W := W.aloadN d2101_56_1 rfl rfl rfl
  replace W := W.aloadN d2101_56_2 rfl rfl rfl
  replace W := W.iconst (v := (1 : Int32)) d2101_56_3 rfl rfl
  obtain ⟨V1, h1, r1, W1, K1, hQ1, SF1⟩ := W.callV (pc' := 7) (argsL := [(.ref x1), (.ref x2), (.int (1 : Int32))]) (rest := []) (Wd := 0) (cells' := 3) (slots' := 6) (a := x0) (C := "java/math/MutableBigInteger") (y := N26) (z := N26) d2101_56_4 (m121_divideKnuth H x0 x1 x2 x3 x4 kp0 kp1 (1 : Int32) u0 u1 u2 u3 u4 u5 u6 u7 u8 s0 s1 s2 s3 s4 s5 s6 s7 s8 s9 s10 s11 s12 s13 s14 h0 W.old E_x0 F_x0_intLen F_x0_offset F_x0_value E_x1 F_x1_intLen F_x1_offset F_x1_value E_x2 F_x2_intLen F_x2_offset F_x2_value E_x3 V_x3 E_x4 V_x4 N_x0_x2 N_x1_x2 N_x3_x4 p15 p16 p17 p18 p19 p20 p0 p1 p2 p3 p4 p5 p6 p7 p8 p9 p10 p11 p12 p13 p14 p21 p22 p23 p24 p25 p26 p27 (by decide) p28 g_x2 g_x4) E_x0 (tw180 H) (tw181 H) (Or.inl (tw183 H)) (tw183 H) (tw182 H) (tw160 H) (tw184 H) (by decide) (lenOf pd20 rfl) rfl rfl (by decide) (by decide) rfl (sfS safe0 (sfS safe0 sf0)) (allS (Or.inl (List.mem_of_getElem? (i := 0) rfl)) (allS (Or.inl (List.mem_of_getElem? (i := 1) rfl)) all0))
  clear W
  obtain ⟨_, r01, r11, r21, kr01, kr11, rfl, q1_1, q1_2, q1_3, q1_4, q1_5, q1_6, q1_7, q1_8, q1_9, q1_10, q1_11, q1_12, q1_13, q1_14, q1_15, q1_16, q1_17, q1_18⟩ := hQ1
  have z1 : h0.size ≤ h1.size := K1.1
  replace W1 := W1.cast (st' := [(.ref r01)]) rfl
  exact W1.aret (t := (.object "java/math/MutableBigInteger")) d2101_56_7 rfl rfl rfl rfl (by decide) (by decide) (fun V' cv => ⟨r01, r11, r21, kr01, kr11, rfl, q1_1, q1_2, q1_3, q1_4, q1_5, q1_6, q1_7, q1_8, q1_9, q1_10, q1_11, q1_12, q1_13, q1_14, q1_15, q1_16, q1_17, q1_18⟩)
theorem m130_checkLength (H : Cx Z a0 gA gK) (u0 u1 : Int32) (h0 : Heap) (hO : Old Z n0 h0) (p0 : ¬ (u1 < u0)) : Con l Z [] n0 N57 jdk_65_method_131_code 2 none (Rm 0 0 0 0) #[(.int u0), (.int u1)] h0 [] (fun v h V' => v = none ∧ h0 = h) [] := by
  refine Con.of (a0 := a0) (L0 := #[.val (.int u0), .val (.int u1)]) pf57 (fun _ => rfl) all0 hO EW.nil ?_
  intro p e s m below meth c S0 hnm hsf W
  replace W := W.iloadN d65_131_0 rfl rfl
  replace W := W.iloadN d65_131_1 rfl rfl
  replace W := W.icmpT (pc' := 37) d65_131_2 (flt p0).2.1 (by decide) (by decide)
  exact W.vret d65_131_37 rfl (by decide) (by decide) (fun V' cv => ⟨rfl, rfl⟩)
theorem m131_min (H : Cx Z a0 gA gK) (u0 u1 : Int32) (h0 : Heap) (hO : Old Z n0 h0) (p0 : ¬ (u1 < u0)) : Con l Z [] n0 N58 jdk_29_method_69_code 2 (some .int) (Rm 0 0 0 0) #[(.int u0), (.int u1)] h0 [] (fun v h V' => v = some (.int u0) ∧ h0 = h) [] := by
  refine Con.of (a0 := a0) (L0 := #[.val (.int u0), .val (.int u1)]) pf58 (fun _ => rfl) all0 hO EW.nil ?_
  intro p e s m below meth c S0 hnm hsf W
  replace W := W.iloadN d29_69_0 rfl rfl
  replace W := W.iloadN d29_69_1 rfl rfl
  replace W := W.icmpF (pc' := 5) d29_69_2 (flt p0).2.2.1 rfl
  replace W := W.iloadN d29_69_5 rfl rfl
  replace W := W.goto (pc' := 10) d29_69_6 (by decide) (by decide)
  exact W.iret (t := .int) d29_69_10 rfl (by simp) rfl (by decide) (by decide) (fun V' cv => ⟨rfl, rfl⟩)
theorem m132_copyOfRangeInt (H : Cx Z a0 gA gK) (x0 : Addr) (kp0 : ClassId) (u0 u1 u2 u3 s0 s1 : Int32) (h0 : Heap) (hO : Old Z n0 h0) (V_x0 : Arv Z h0 x0 kp0 .int (2 : Int32) [(.int u2), (.int u3)] (.int (0 : Int32))) (p0 : ¬ (u1 < u0)) (p1 : (u1 - u0) = s0) (p2 : s0 = (1 : Int32)) (p3 : ((2 : Int32) - u0) = s1) (p4 : ¬ ((1 : Int32) < s1)) (p5 : u0 = (1 : Int32)) (p6 : s1 = (1 : Int32)) : Con l Z [] n0 N59 jdk_65_method_137_code 5 (some (.array .int)) (Rm 1 1 1 18) #[(.ref x0), (.int u0), (.int u1)] h0 [] (fun v h V' => ∃ (r0 : Addr) (kr0 : ClassId), v = some (.ref r0) ∧ Exa Z h r0 "[I" ∧ Arv Z h r0 kr0 .int (1 : Int32) [(.int u3)] (.int (0 : Int32)) ∧ h0.size ≤ r0) [] := by
  refine Con.of (a0 := a0) (L0 := #[.val (.ref x0), .val (.int u0), .val (.int u1), .unset, .unset]) pf59 (fun _ => rfl) all0 hO EW.nil ?_
  intro p e s m below meth c S0 hnm hsf W
  replace W := W.iloadN d65_137_0 rfl rfl
  replace W := W.iloadN d65_137_1 rfl rfl
  obtain ⟨V1, h1, r1, W1, K1, hQ1, SF1⟩ := W.callS (pc' := 5) (argsL := [(.int u0), (.int u1)]) (rest := []) (Wd := 0) (cells' := 0) (slots' := 0) (y := N57) d65_137_2 (m130_checkLength H u0 u1 h0 W.old p0) (tw318 H) (tw319 H) (tw313 H) (tw320 H) (by decide) (lenOf pd37 rfl) rfl rfl (by decide) (by decide) rfl sf0 all0
  clear W
  obtain ⟨_, rfl, hs1⟩ := hQ1
  subst hs1
  replace W1 := W1.cast (st' := []) rfl
  replace W1 := W1.iloadN d65_137_5 rfl rfl
  replace W1 := W1.iloadN d65_137_6 rfl rfl
  replace W1 := W1.isub (v := s0) d65_137_7 p1 rfl
  replace W1 := W1.istoreN (L' := #[.val (.ref x0), .val (.int u0), .val (.int u1), .val (.int s0), .unset]) d65_137_8 rfl rfl
  replace W1 := W1.iloadN d65_137_9 rfl rfl
  subst p2
  obtain ⟨h2, a2, W2, E2, g2, ⟨⟨k2, A2⟩, B2⟩, sf2, SF2⟩ := W1.newarrE (pc' := 12) (ad := "[I") (cap := 1) (cells' := 1) (slots' := 1) d65_137_10 (tw143 H) (by decide) (by decide) (by decide) (by decide) rfl rfl rfl (by decide) (by decide)
  clear W1
  rw [← g2] at A2 B2
  have z2 : h0.size ≤ h2.size := E2.1
  have v2 : Arv Z h2 a2 k2 .int (1 : Int32) [(.int (0 : Int32))] (.int (0 : Int32)) := A2.pad (pad_rep [] (.int (0 : Int32)) 1)
  replace W2 := W2.astore (L' := #[.val (.ref x0), .val (.int u0), .val (.int u1), .val (.int (1 : Int32)), .val (.ref a2)]) d65_137_12 rfl rfl rfl
  replace W2 := W2.aloadN d65_137_14 rfl rfl rfl
  replace W2 := W2.iloadN d65_137_15 rfl rfl
  replace W2 := W2.aload d65_137_16 rfl rfl rfl
  replace W2 := W2.iconst (v := (0 : Int32)) d65_137_18 rfl rfl
  replace W2 := W2.aloadN d65_137_19 rfl rfl rfl
  have v3 := (V_x0.ext E2)
  replace W2 := W2.alen d65_137_20 v3 rfl
  replace W2 := W2.iloadN d65_137_21 rfl rfl
  replace W2 := W2.isub (v := s1) d65_137_22 p3 rfl
  replace W2 := W2.iloadN d65_137_23 rfl rfl
  obtain ⟨V4, h4, r4, W4, K4, hQ4, SF4⟩ := W2.callS (pc' := 27) (argsL := [(.int s1), (.int (1 : Int32))]) (rest := [(.int (0 : Int32)), (.ref a2), (.int u0), (.ref x0)]) (Wd := 4) (cells' := 1) (slots' := 1) (y := N58) d65_137_24 (m131_min H s1 (1 : Int32) h2 W2.old p4) (tw321 H) (tw322 H) (tw103 H) (tw323 H) (by decide) (lenOf pd38 rfl) rfl rfl (by decide) (by decide) rfl sf0 all0
  clear W2
  obtain ⟨_, rfl, hs4⟩ := hQ4
  subst hs4
  replace W4 := W4.cast (st' := [(.int s1), (.int (0 : Int32)), (.ref a2), (.int u0), (.ref x0)]) rfl
  subst p5
  subst p6
  obtain ⟨h5, W5, w5, A5, SF5⟩ := W4.acopy1 (pc' := 30) (i := 0) (x := u3) (Wd := 0) d65_137_27 (tw324 H) (tw327 H) (tw325 H) (tw326 H) v3 v2 ⟨by decide, by decide⟩ ⟨by decide, by decide⟩ rfl rfl (by show 0 < 1; decide) rfl rfl (by decide) (by decide) safe0 (Or.inr (Nat.le_of_eq g2.symm)) rfl
  clear W4
  have z5 : h2.size ≤ h5.size := Nat.le_of_eq w5.size.symm
  have v5 : Arv Z h5 a2 k2 .int (1 : Int32) [(.int u3)] (.int (0 : Int32)) := A5
  replace W5 := W5.aload d65_137_30 rfl rfl rfl
  have e6 := (B2.wr w5)
  exact W5.aret (t := (.array .int)) d65_137_32 rfl rfl rfl rfl (by decide) (by decide) (fun V' cv => ⟨a2, k2, rfl, e6, v5, (Nat.le_of_eq g2.symm)⟩)
theorem m128_copyOfRange (H : Cx Z a0 gA gK) (x0 : Addr) (kp0 : ClassId) (u0 u1 u2 u3 s0 s1 : Int32) (h0 : Heap) (hO : Old Z n0 h0) (V_x0 : Arv Z h0 x0 kp0 .int (2 : Int32) [(.int u2), (.int u3)] (.int (0 : Int32))) (p0 : ¬ (u0 = (0 : Int32))) (p1 : (u1 - u0) = s0) (p2 : ((2 : Int32) - u0) = s1) (p3 : ¬ (u1 < u0)) (p4 : s0 = (1 : Int32)) (p5 : ¬ ((1 : Int32) < s1)) (p6 : u0 = (1 : Int32)) (p7 : s1 = (1 : Int32)) : Con l Z [] n0 N60 jdk_65_method_136_code 3 (some (.array .int)) (Rm 2 1 1 34) #[(.ref x0), (.int u0), (.int u1)] h0 [] (fun v h V' => ∃ (r0 : Addr) (kr0 : ClassId), v = some (.ref r0) ∧ Exa Z h r0 "[I" ∧ Arv Z h r0 kr0 .int (1 : Int32) [(.int u3)] (.int (0 : Int32)) ∧ h0.size ≤ r0) [] := by
  refine Con.of (a0 := a0) (L0 := #[.val (.ref x0), .val (.int u0), .val (.int u1)]) pf60 (fun _ => rfl) all0 hO EW.nil ?_
  intro p e s m below meth c S0 hnm hsf W
  replace W := W.iloadN d65_136_0 rfl rfl
  replace W := W.ifT (pc' := 10) d65_136_1 (feq p0).2 (by decide) (by decide)
  replace W := W.aloadN d65_136_10 rfl rfl rfl
  replace W := W.iloadN d65_136_11 rfl rfl
  replace W := W.iloadN d65_136_12 rfl rfl
  obtain ⟨V1, h1, r1, W1, K1, hQ1, SF1⟩ := W.callS (pc' := 16) (argsL := [(.ref x0), (.int u0), (.int u1)]) (rest := []) (Wd := 0) (cells' := 1) (slots' := 1) (y := N59) d65_136_13 (m132_copyOfRangeInt H x0 kp0 u0 u1 u2 u3 s0 s1 h0 W.old V_x0 p3 p1 p4 p2 p5 p6 p7) (tw315 H) (tw316 H) (tw313 H) (tw317 H) (by decide) (lenOf pd39 rfl) rfl rfl (by decide) (by decide) rfl sf0 all0
  clear W
  obtain ⟨_, r01, kr01, rfl, q1_1, q1_2, q1_3⟩ := hQ1
  have z1 : h0.size ≤ h1.size := K1.1
  replace W1 := W1.cast (st' := [(.ref r01)]) rfl
  exact W1.aret (t := (.array .int)) d65_136_16 rfl rfl rfl rfl (by decide) (by decide) (fun V' cv => ⟨r01, kr01, rfl, q1_1, q1_2, q1_3⟩)
theorem m133_fill (H : Cx Z a0 gA gK) (x0 : Addr) (kp0 : ClassId) (u0 u1 u2 : Int32) (h0 : Heap) (hO : Old Z n0 h0) (E_x0 : Exa Z h0 x0 "[I") (V_x0 : Arv Z h0 x0 kp0 .int (2 : Int32) [(.int u1), (.int u2)] (.int (0 : Int32))) (g_x0 : n0 ≤ x0) : Con l Z [] n0 N61 jdk_65_method_103_code 4 none (Rm 0 0 0 0) #[(.ref x0), (.int u0)] h0 [x0] (fun v h V' => v = none ∧ Exa Z h x0 "[I" ∧ Arv Z h x0 kp0 .int (2 : Int32) [(.int u0), (.int u0)] (.int (0 : Int32))) [] := by
  refine Con.of (a0 := a0) (L0 := #[.val (.ref x0), .val (.int u0), .unset, .unset]) pf61 (fun _ => rfl) (allS g_x0 all0) hO EW.nil ?_
  intro p e s m below meth c S0 hnm hsf W
  replace W := W.iconst (v := (0 : Int32)) d65_103_0 rfl rfl
  replace W := W.istoreN (L' := #[.val (.ref x0), .val (.int u0), .val (.int (0 : Int32)), .unset]) d65_103_1 rfl rfl
  replace W := W.aloadN d65_103_2 rfl rfl rfl
  replace W := W.alen d65_103_3 V_x0 rfl
  replace W := W.istoreN (L' := #[.val (.ref x0), .val (.int u0), .val (.int (0 : Int32)), .val (.int (2 : Int32))]) d65_103_4 rfl rfl
  replace W := W.iloadN d65_103_5 rfl rfl
  replace W := W.iloadN d65_103_6 rfl rfl
  replace W := W.icmpF (pc' := 10) d65_103_7 (tlt (by decide : (0 : Int32) < (2 : Int32))).2.1 rfl
  replace W := W.aloadN d65_103_10 rfl rfl rfl
  replace W := W.iloadN d65_103_11 rfl rfl
  replace W := W.iloadN d65_103_12 rfl rfl
  obtain ⟨h1, W1, w1, A1, SF1⟩ := W.iastore (pc' := 14) (i := 0) (x' := u0) d65_103_13 V_x0 ⟨by decide, by decide⟩ rfl (by show 0 < 2; decide) rfl safe0 (Or.inl (List.mem_of_getElem? (i := 0) rfl)) rfl
  clear W
  have z1 : h0.size ≤ h1.size := Nat.le_of_eq w1.size.symm
  have v1 : Arv Z h1 x0 kp0 .int (2 : Int32) [(.int u0), (.int u2)] (.int (0 : Int32)) := A1
  replace W1 := W1.iinc (v := (1 : Int32)) (L' := #[.val (.ref x0), .val (.int u0), .val (.int (1 : Int32)), .val (.int (2 : Int32))]) d65_103_14 rfl (by decide) rfl rfl
  replace W1 := W1.goto (pc' := 5) d65_103_17 (by decide) (by decide)
  replace W1 := W1.iloadN d65_103_5 rfl rfl
  replace W1 := W1.iloadN d65_103_6 rfl rfl
  replace W1 := W1.icmpF (pc' := 10) d65_103_7 (tlt (by decide : (1 : Int32) < (2 : Int32))).2.1 rfl
  replace W1 := W1.aloadN d65_103_10 rfl rfl rfl
  replace W1 := W1.iloadN d65_103_11 rfl rfl
  replace W1 := W1.iloadN d65_103_12 rfl rfl
  obtain ⟨h2, W2, w2, A2, SF2⟩ := W1.iastore (pc' := 14) (i := 1) (x' := u0) d65_103_13 v1 ⟨by decide, by decide⟩ rfl (by show 1 < 2; decide) rfl safe0 (Or.inl (List.mem_of_getElem? (i := 0) rfl)) rfl
  clear W1
  have z2 : h1.size ≤ h2.size := Nat.le_of_eq w2.size.symm
  have v2 : Arv Z h2 x0 kp0 .int (2 : Int32) [(.int u0), (.int u0)] (.int (0 : Int32)) := A2
  replace W2 := W2.iinc (v := (2 : Int32)) (L' := #[.val (.ref x0), .val (.int u0), .val (.int (2 : Int32)), .val (.int (2 : Int32))]) d65_103_14 rfl (by decide) rfl rfl
  replace W2 := W2.goto (pc' := 5) d65_103_17 (by decide) (by decide)
  replace W2 := W2.iloadN d65_103_5 rfl rfl
  replace W2 := W2.iloadN d65_103_6 rfl rfl
  replace W2 := W2.icmpT (pc' := 20) d65_103_7 (flt (by decide : ¬ ((2 : Int32) < (2 : Int32)))).2.1 (by decide) (by decide)
  have e3 := ((E_x0.wr w1).wr w2)
  exact W2.vret d65_103_20 rfl (by decide) (by decide) (fun V' cv => ⟨rfl, e3, v2⟩)
theorem m127_getMagnitudeArray (H : Cx Z a0 gA gK) (x0 x1 : Addr) (kp0 : ClassId) (u0 u1 u2 u3 s0 s1 s2 : Int32) (h0 : Heap) (hO : Old Z n0 h0) (E_x0 : Exa Z h0 x0 "java/math/MutableBigInteger") (F_x0_intLen : Fld Z h0 x0 "java/math/MutableBigInteger" "intLen" "I" (.int u0)) (F_x0_offset : Fld Z h0 x0 "java/math/MutableBigInteger" "offset" "I" (.int u1)) (F_x0_value : Fld Z h0 x0 "java/math/MutableBigInteger" "value" "[I" (.ref x1)) (E_x1 : Exa Z h0 x1 "[I") (V_x1 : Arv Z h0 x1 kp0 .int (2 : Int32) [(.int u2), (.int u3)] (.int (0 : Int32))) (p0 : (0 : Int32) < u1) (p1 : (u1 + u0) = s0) (p2 : (s0 - u1) = s1) (p3 : ((2 : Int32) - u1) = s2) (p4 : ¬ (u1 = (0 : Int32))) (p5 : ¬ (s0 < u1)) (p6 : s1 = (1 : Int32)) (p7 : ¬ ((1 : Int32) < s2)) (p8 : u1 = (1 : Int32)) (p9 : s2 = (1 : Int32)) (g_x1 : n0 ≤ x1) (g_x0 : n0 ≤ x0) : Con l Z [] n0 N28 jdk_2101_method_7_code 2 (some (.array .int)) (Rm 3 1 1 48) #[(.ref x0)] h0 [x1, x0] (fun v h V' => ∃ (r0 : Addr) (kr0 : ClassId), v = some (.ref r0) ∧ Exa Z h r0 "[I" ∧ Arv Z h r0 kr0 .int (1 : Int32) [(.int u3)] (.int (0 : Int32)) ∧ h0.size ≤ r0 ∧ Exa Z h x1 "[I" ∧ Arv Z h x1 kp0 .int (2 : Int32) [(.int (0 : Int32)), (.int (0 : Int32))] (.int (0 : Int32)) ∧ Exa Z h x0 "java/math/MutableBigInteger" ∧ Fld Z h x0 "java/math/MutableBigInteger" "intLen" "I" (.int (1 : Int32)) ∧ Fld Z h x0 "java/math/MutableBigInteger" "offset" "I" (.int (0 : Int32)) ∧ Fld Z h x0 "java/math/MutableBigInteger" "value" "[I" (.ref r0)) [] := by
  refine Con.of (a0 := a0) (L0 := #[.val (.ref x0), .unset]) pf28 (fun _ => rfl) (allS g_x1 (allS g_x0 all0)) hO EW.nil ?_
  intro p e s m below meth c S0 hnm hsf W
  replace W := W.aloadN d2101_7_0 rfl rfl rfl
  replace W := W.getf d2101_7_1 (tw166 H) Via.refl F_x0_offset rfl
  replace W := W.ifT (pc' := 19) d2101_7_4 (tlt p0).2.2.1 (by decide) (by decide)
  replace W := W.aloadN d2101_7_19 rfl rfl rfl
  replace W := W.getf d2101_7_20 (tw168 H) Via.refl F_x0_value rfl
  replace W := W.aloadN d2101_7_23 rfl rfl rfl
  replace W := W.getf d2101_7_24 (tw166 H) Via.refl F_x0_offset rfl
  replace W := W.aloadN d2101_7_27 rfl rfl rfl
  replace W := W.getf d2101_7_28 (tw166 H) Via.refl F_x0_offset rfl
  replace W := W.aloadN d2101_7_31 rfl rfl rfl
  replace W := W.getf d2101_7_32 (tw170 H) Via.refl F_x0_intLen rfl
  replace W := W.iadd (v := s0) d2101_7_35 p1 rfl
  obtain ⟨V1, h1, r1, W1, K1, hQ1, SF1⟩ := W.callS (pc' := 39) (argsL := [(.ref x1), (.int u1), (.int s0)]) (rest := []) (Wd := 0) (cells' := 1) (slots' := 1) (y := N60) d2101_7_36 (m128_copyOfRange H x1 kp0 u1 s0 u2 u3 s1 s2 h0 W.old V_x1 p4 p2 p3 p5 p6 p7 p8 p9) (tw311 H) (tw312 H) (tw313 H) (tw314 H) (by decide) (lenOf pd39 rfl) rfl rfl (by decide) (by decide) rfl sf0 all0
  clear W
  obtain ⟨_, r01, kr01, rfl, q1_1, q1_2, q1_3⟩ := hQ1
  have z1 : h0.size ≤ h1.size := K1.1
  replace W1 := W1.cast (st' := [(.ref r01)]) rfl
  replace W1 := W1.astoreN (L' := #[.val (.ref x0), .val (.ref r01)]) d2101_7_39 rfl rfl rfl
  replace W1 := W1.aloadN d2101_7_40 rfl rfl rfl
  have f2 := (F_x0_value.keep K1 nin0)
  replace W1 := W1.getf d2101_7_41 (tw168 H) Via.refl f2 rfl
  replace W1 := W1.iconst (v := (0 : Int32)) d2101_7_44 rfl rfl
  have e3 := (E_x1.keep K1)
  have v4 := (V_x1.keep K1 nin0)
  obtain ⟨V5, h5, r5, W5, K5, hQ5, SF5⟩ := W1.callS (pc' := 48) (argsL := [(.ref x1), (.int (0 : Int32))]) (rest := []) (Wd := 0) (cells' := 1) (slots' := 1) (y := N61) d2101_7_45 (m133_fill H x1 kp0 (0 : Int32) u2 u3 h1 W1.old e3 v4 g_x1) (tw328 H) (tw329 H) (tw313 H) (tw330 H) (by decide) (lenOf pd23 rfl) rfl rfl (by decide) (by decide) rfl (sfS safe0 sf0) (allS (Or.inl (List.mem_of_getElem? (i := 0) rfl)) all0)
  clear W1
  obtain ⟨_, rfl, q5_1, q5_2⟩ := hQ5
  have z5 : h1.size ≤ h5.size := K5.1
  replace W5 := W5.cast (st' := []) rfl
  replace W5 := W5.aloadN d2101_7_48 rfl rfl rfl
  replace W5 := W5.iconst (v := (0 : Int32)) d2101_7_49 rfl rfl
  have f6 := ((F_x0_offset.keep K1 nin0).keep K5 (ninS (Exa.ne ((E_x0.keep K1).keep K5) q5_1 (by decide)) nin0))
  have e7 := ((E_x0.keep K1).keep K5)
  obtain ⟨h8, W8, w8, SF8⟩ := W5.putf (pc' := 53) (ty := .int) d2101_7_50 (tw166 H) Via.refl f6 e7 (Or.inl (tw167 H)) (tw159 H) (by decide) rfl rfl safe0 (Or.inl (List.mem_of_getElem? (i := 1) rfl)) rfl
  clear W5
  have z8 : h5.size ≤ h8.size := Nat.le_of_eq w8.size.symm
  have f8 := f6.same w8
  replace W8 := W8.aloadN d2101_7_53 rfl rfl rfl
  replace W8 := W8.aloadN d2101_7_54 rfl rfl rfl
  have v9 := ((q1_2.keep K5 (ninS (Nat.ne_of_gt (Nat.lt_of_lt_of_le E_x1.lt q1_3)) nin0)).other w8 (Nat.ne_of_gt (Nat.lt_of_lt_of_le E_x0.lt q1_3)))
  replace W8 := W8.alen d2101_7_55 v9 rfl
  have f10 := (((F_x0_intLen.keep K1 nin0).keep K5 (ninS (Exa.ne e7 q5_1 (by decide)) nin0)).other w8 (Or.inr (sn17 H)))
  have e11 := (e7.wr w8)
  obtain ⟨h12, W12, w12, SF12⟩ := W8.putf (pc' := 59) (ty := .int) d2101_7_56 (tw170 H) Via.refl f10 e11 (Or.inl (tw171 H)) (tw159 H) (by decide) rfl rfl safe0 (Or.inl (List.mem_of_getElem? (i := 1) rfl)) rfl
  clear W8
  have z12 : h8.size ≤ h12.size := Nat.le_of_eq w12.size.symm
  have f12 := f10.same w12
  replace W12 := W12.aloadN d2101_7_59 rfl rfl rfl
  replace W12 := W12.aloadN d2101_7_60 rfl rfl rfl
  have f13 := (((f2.keep K5 (ninS (Exa.ne e11 (q5_1.wr w8) (by decide)) nin0)).other w8 (Or.inr (sn16 H))).other w12 (Or.inr (sn21 H)))
  have e14 := (e11.wr w12)
  obtain ⟨h15, W15, w15, SF15⟩ := W12.putf (pc' := 64) (ty := (.array .int)) d2101_7_61 (tw168 H) Via.refl f13 e14 (Or.inl (tw169 H)) (tw159 H) (by decide) rfl rfl safe0 (Or.inl (List.mem_of_getElem? (i := 1) rfl)) rfl
  clear W12
  have z15 : h12.size ≤ h15.size := Nat.le_of_eq w15.size.symm
  have f15 := f13.same w15
  replace W15 := W15.aloadN d2101_7_64 rfl rfl rfl
  replace W15 := W15.getf d2101_7_65 (tw168 H) Via.refl f15 rfl
  have e16 := ((((q1_1.keep K5).wr w8).wr w12).wr w15)
  have v17 := ((v9.other w12 (Nat.ne_of_gt (Nat.lt_of_lt_of_le E_x0.lt q1_3))).other w15 (Nat.ne_of_gt (Nat.lt_of_lt_of_le E_x0.lt q1_3)))
  have e18 := (((q5_1.wr w8).wr w12).wr w15)
  have v19 := (((q5_2.other w8 (Exa.ne e18 (e14.wr w15) (by decide))).other w12 (Exa.ne e18 (e14.wr w15) (by decide))).other w15 (Exa.ne e18 (e14.wr w15) (by decide)))
  have e20 := (e14.wr w15)
  have f21 := (f12.other w15 (Or.inr (sn18 H)))
  have f22 := ((f8.other w12 (Or.inr (sn20 H))).other w15 (Or.inr (sn19 H)))
  exact W15.aret (t := (.array .int)) d2101_7_68 rfl rfl rfl rfl (by decide) (by decide) (fun V' cv => ⟨r01, kr01, rfl, e16, v17, q1_3, e18, v19, e20, f21, f22, f15⟩)
theorem m126_toBigInteger (H : Cx Z a0 gA gK) (x0 x1 : Addr) (kp0 : ClassId) (u0 u1 u2 u3 u4 s0 s1 s2 : Int32) (h0 : Heap) (hO : Old Z n0 h0) (E_x0 : Exa Z h0 x0 "java/math/MutableBigInteger") (F_x0_intLen : Fld Z h0 x0 "java/math/MutableBigInteger" "intLen" "I" (.int u1)) (F_x0_offset : Fld Z h0 x0 "java/math/MutableBigInteger" "offset" "I" (.int u2)) (F_x0_value : Fld Z h0 x0 "java/math/MutableBigInteger" "value" "[I" (.ref x1)) (E_x1 : Exa Z h0 x1 "[I") (V_x1 : Arv Z h0 x1 kp0 .int (2 : Int32) [(.int u3), (.int u4)] (.int (0 : Int32))) (p0 : ¬ (u1 = (0 : Int32))) (p1 : ¬ (u0 = (0 : Int32))) (p2 : (u2 + u1) = s0) (p3 : (s0 - u2) = s1) (p4 : ((2 : Int32) - u2) = s2) (p5 : (0 : Int32) < u2) (p6 : ¬ (u2 = (0 : Int32))) (p7 : ¬ (s0 < u2)) (p8 : s1 = (1 : Int32)) (p9 : ¬ ((1 : Int32) < s2)) (p10 : u2 = (1 : Int32)) (p11 : s2 = (1 : Int32)) (g_x1 : n0 ≤ x1) (g_x0 : n0 ≤ x0) : Con l Z [] n0 N30 jdk_2101_method_9_code 2 (some (.object "java/math/BigInteger")) (Rm 4 2 7 63) #[(.ref x0), (.int u0)] h0 [x1, x0] (fun v h V' => ∃ (r0 : Addr) (r1 : Addr) (kr0 : ClassId), v = some (.ref r0) ∧ Exa Z h r0 "java/math/BigInteger" ∧ Fld Z h r0 "java/math/BigInteger" "bitLengthPlusOne" "I" (.int (0 : Int32)) ∧ Fld Z h r0 "java/math/BigInteger" "mag" "[I" (.ref r1) ∧ Fld Z h r0 "java/math/BigInteger" "signum" "I" (.int u0) ∧ h0.size ≤ r0 ∧ Exa Z h x1 "[I" ∧ Arv Z h x1 kp0 .int (2 : Int32) [(.int (0 : Int32)), (.int (0 : Int32))] (.int (0 : Int32)) ∧ Exa Z h x0 "java/math/MutableBigInteger" ∧ Fld Z h x0 "java/math/MutableBigInteger" "intLen" "I" (.int (1 : Int32)) ∧ Fld Z h x0 "java/math/MutableBigInteger" "offset" "I" (.int (0 : Int32)) ∧ Fld Z h x0 "java/math/MutableBigInteger" "value" "[I" (.ref r1) ∧ Exa Z h r1 "[I" ∧ Arv Z h r1 kr0 .int (1 : Int32) [(.int u4)] (.int (0 : Int32)) ∧ h0.size ≤ r1) [] := by
  refine Con.of (a0 := a0) (L0 := #[.val (.ref x0), .val (.int u0)]) pf30 (fun _ => rfl) (allS g_x1 (allS g_x0 all0)) hO EW.nil ?_
  intro p e s m below meth c S0 hnm hsf W
  replace W := W.aloadN d2101_9_0 rfl rfl rfl
  replace W := W.getf d2101_9_1 (tw170 H) Via.refl F_x0_intLen rfl
  replace W := W.ifF (pc' := 7) d2101_9_4 (feq p0).1 rfl
  replace W := W.iloadN d2101_9_7 rfl rfl
  replace W := W.ifT (pc' := 15) d2101_9_8 (feq p1).2 (by decide) (by decide)
  obtain ⟨h1, a1, W1, E1, g1, ⟨A1, D1, U1⟩, sf1, SF1⟩ := W.new (pc' := 18) (cells' := 1) (slots' := 6) d2101_9_15 (tw198 H) (tw134 H) (tw130 H) rfl rfl rfl (by decide) (by decide)
  clear W
  rw [← g1] at A1 D1 U1
  have z1 : h0.size ≤ h1.size := E1.1
  replace W1 := W1.dup d2101_9_18 rfl rfl
  replace W1 := W1.aloadN d2101_9_19 rfl rfl rfl
  have e2 := (E_x0.ext E1)
  have f3 := (F_x0_intLen.ext E1)
  have f4 := (F_x0_offset.ext E1)
  have f5 := (F_x0_value.ext E1)
  have e6 := (E_x1.ext E1)
  have v7 := (V_x1.ext E1)
  obtain ⟨V8, h8, r8, W8, K8, hQ8, SF8⟩ := W1.callP (pc' := 23) (argsL := []) (rest := [(.ref a1), (.ref a1)]) (Wd := 2) (cells' := 2) (slots' := 7) (a := x0) (C := "java/math/MutableBigInteger") (y := N28) d2101_9_20 (m127_getMagnitudeArray H x0 x1 kp0 u1 u2 u3 u4 s0 s1 s2 h1 W1.old e2 f3 f4 f5 e6 v7 p5 p2 p3 p4 p6 p7 p8 p9 p10 p11 g_x1 g_x0) e2 (tw199 H) (tw200 H) (tw202 H) (tw201 H) (tw160 H) (tw203 H) (by decide) (lenOf pd22 rfl) rfl rfl (by decide) (by decide) rfl (sfS safe0 (sfS safe0 sf0)) (allS (Or.inl (List.mem_of_getElem? (i := 0) rfl)) (allS (Or.inl (List.mem_of_getElem? (i := 1) rfl)) all0))
  clear W1
  obtain ⟨_, r08, kr08, rfl, q8_1, q8_2, q8_3, q8_4, q8_5, q8_6, q8_7, q8_8, q8_9⟩ := hQ8
  have z8 : h1.size ≤ h8.size := K8.1
  replace W8 := W8.cast (st' := [(.ref r08), (.ref a1), (.ref a1)]) rfl
  replace W8 := W8.iloadN d2101_9_23 rfl rfl
  have e9 := (A1.keep K8)
  have f10 := ((D1 (Or.inl (tw215 H)) (ty := .int) (by decide) : Fld Z h1 a1 "java/math/BigInteger" "bitLengthPlusOne" "I" (.int (0 : Int32))).keep K8 (ninS (Nat.ne_of_gt (Nat.lt_of_lt_of_le E_x1.lt (Nat.le_of_eq g1.symm))) (ninS (Nat.ne_of_gt (Nat.lt_of_lt_of_le E_x0.lt (Nat.le_of_eq g1.symm))) nin0)))
  have f11 := ((D1 (Or.inr (tw145 H)) (ty := (.array .int)) (by decide) : Fld Z h1 a1 "java/math/BigInteger" "mag" "[I" .null).keep K8 (ninS (Nat.ne_of_gt (Nat.lt_of_lt_of_le E_x1.lt (Nat.le_of_eq g1.symm))) (ninS (Nat.ne_of_gt (Nat.lt_of_lt_of_le E_x0.lt (Nat.le_of_eq g1.symm))) nin0)))
  have f12 := ((D1 (Or.inr (tw142 H)) (ty := .int) (by decide) : Fld Z h1 a1 "java/math/BigInteger" "signum" "I" (.int (0 : Int32))).keep K8 (ninS (Nat.ne_of_gt (Nat.lt_of_lt_of_le E_x1.lt (Nat.le_of_eq g1.symm))) (ninS (Nat.ne_of_gt (Nat.lt_of_lt_of_le E_x0.lt (Nat.le_of_eq g1.symm))) nin0)))
  obtain ⟨V13, h13, r13, W13, K13, hQ13, SF13⟩ := W8.callI (pc' := 27) (argsL := [(.ref r08), (.int u0)]) (rest := [(.ref a1)]) (Wd := 1) (cells' := 2) (slots' := 7) (a := a1) (y := N29) d2101_9_24 (m45_init H a1 r08 kr08 u0 (0 : Int32) (0 : Int32) u4 h8 W8.old e9 f10 f11 f12 q8_1 q8_2 (Nat.le_trans W8.1.2.2.2.2.2.2.2.1 (Nat.le_of_eq g1.symm))) rfl (tw204 H) (tw205 H) (tw130 H) (tw206 H) (by decide) (lenOf pd23 rfl) rfl rfl (by decide) (by decide) rfl (sfS safe0 sf0) (allS (Or.inr (Nat.le_of_eq g1.symm)) all0)
  clear W8
  obtain ⟨_, rfl, q13_1, q13_2, q13_3, q13_4⟩ := hQ13
  have z13 : h8.size ≤ h13.size := K13.1
  replace W13 := W13.cast (st' := [(.ref a1)]) rfl
  have e14 := (q8_4.keep K13)
  have v15 := (q8_5.keep K13 (ninS (Nat.ne_of_lt (Nat.lt_of_lt_of_le E_x1.lt (Nat.le_of_eq g1.symm))) nin0))
  have e16 := (q8_6.keep K13)
  have f17 := (q8_7.keep K13 (ninS (Nat.ne_of_lt (Nat.lt_of_lt_of_le E_x0.lt (Nat.le_of_eq g1.symm))) nin0))
  have f18 := (q8_8.keep K13 (ninS (Nat.ne_of_lt (Nat.lt_of_lt_of_le E_x0.lt (Nat.le_of_eq g1.symm))) nin0))
  have f19 := (q8_9.keep K13 (ninS (Nat.ne_of_lt (Nat.lt_of_lt_of_le E_x0.lt (Nat.le_of_eq g1.symm))) nin0))
  have e20 := (q8_1.keep K13)
  have v21 := (q8_2.keep K13 (ninS (Nat.ne_of_gt (Nat.lt_of_lt_of_le A1.lt q8_3)) nin0))
  exact W13.aret (t := (.object "java/math/BigInteger")) d2101_9_27 rfl rfl rfl rfl (by decide) (by decide) (fun V' cv => ⟨a1, r08, kr08, rfl, q13_1, q13_2, q13_3, q13_4, (Nat.le_of_eq g1.symm), e14, v15, e16, f17, f18, f19, e20, v21, (Nat.le_trans z1 q8_3)⟩)
theorem m134_divideAndRemainderKnuth (H : Cx Z a0 gA gK) (x0 x1 : Addr) (kp0 : ClassId) (u0 u1 u2 : Int32) (s0 s1 s2 s3 s4 s5 s6 : Int64) (s7 : Int32) (s8 s9 s10 : Int64) (s11 : Int32) (s12 s13 : Int64) (s14 : Int32) (h0 : Heap) (hO : Old Z n0 h0) (E_x0 : Exa Z h0 x0 "java/math/BigInteger") (F_x0_mag : Fld Z h0 x0 "java/math/BigInteger" "mag" "[I" (.ref x1)) (F_x0_signum : Fld Z h0 x0 "java/math/BigInteger" "signum" "I" (.int u0)) (E_x1 : Exa Z h0 x1 "[I") (V_x1 : Arv Z h0 x1 kp0 .int (2 : Int32) [(.int u1), (.int u2)] (.int (0 : Int32))) (p0 : (u1.toInt64) = s0) (p1 : (s0 &&& (4294967295 : Int64)) = s1) (p2 : (s1 <<< ((32 : Int32).toInt64 &&& 63)) = s2) (p3 : (u2.toInt64) = s3) (p4 : (s3 &&& (4294967295 : Int64)) = s4) (p5 : (s2 ||| s4) = s5) (p6 : (s5 / (1000000000 : Int64)) = s6) (p7 : (s6.toInt32) = s7) (p8 : (s7.toInt64) = s8) (p9 : (s8 * (1000000000 : Int64)) = s9) (p10 : (s5 - s9) = s10) (p11 : (s10.toInt32) = s11) (p12 : (s11.toInt64) = s12) (p13 : (s12 &&& (4294967295 : Int64)) = s13) (p14 : (s11 - (s11 / (1000000000 : Int32)) * (1000000000 : Int32)) = s14) (p15 : (Jvm.Free.XT.cmpL s1 (1000000000 : Int64)) = (-1 : Int32)) (p16 : (Jvm.Free.XT.cmpL s5 (0 : Int64)) = (1 : Int32)) (p17 : ¬ (s7 = (0 : Int32))) (p18 : s14 = (0 : Int32)) (p19 : u0 = (1 : Int32)) : Con l Z [] n0 N31 jdk_2097_method_64_code 7 (some (.array (.object "java/math/BigInteger"))) (Rm 5 10 25 78) #[(.ref x0), (.ref (gA 2))] h0 [] (fun v h V' => ∃ (r0 : Addr) (r1 : Addr) (r2 : Addr) (kr0 : ClassId) (kr1 : ClassId), v = some (.ref r0) ∧ Exa Z h r0 "[Ljava/math/BigInteger;" ∧ Arv Z h r0 kr0 (.object "java/math/BigInteger") (2 : Int32) [(.ref r1), (.ref (gA 4))] .null ∧ h0.size ≤ r0 ∧ Exa Z h r1 "java/math/BigInteger" ∧ Fld Z h r1 "java/math/BigInteger" "bitLengthPlusOne" "I" (.int (0 : Int32)) ∧ Fld Z h r1 "java/math/BigInteger" "mag" "[I" (.ref r2) ∧ Fld Z h r1 "java/math/BigInteger" "signum" "I" (.int (1 : Int32)) ∧ h0.size ≤ r1 ∧ Exa Z h r2 "[I" ∧ Arv Z h r2 kr1 .int (1 : Int32) [(.int s7)] (.int (0 : Int32)) ∧ h0.size ≤ r2) [] := by
  refine Con.of (a0 := a0) (L0 := #[.val (.ref x0), .val (.ref (gA 2)), .unset, .unset, .unset, .unset, .unset]) pf31 (fun _ => rfl) all0 hO EW.nil ?_
  intro p e s m below meth c S0 hnm hsf W
  replace W := W.iconst (v := (2 : Int32)) d2097_64_0 rfl rfl
  obtain ⟨h1, a1, W1, E1, g1, ⟨⟨k1, A1, O1⟩, B1⟩, sf1, SF1⟩ := W.anewarr (pc' := 4) (C := "java/math/BigInteger") (ad := "[Ljava/math/BigInteger;") (cap := 2) (cells' := 1) (slots' := 2) d2097_64_1 (tw133 H) (tw157 H) (by decide) (by decide) (by decide) (by decide) rfl rfl rfl (by decide) (by decide)
  clear W
  rw [← g1] at A1 B1
  have z1 : h0.size ≤ h1.size := E1.1
  have v1 : Arv Z h1 a1 k1 (.object "java/math/BigInteger") (2 : Int32) [.null, .null] .null := A1.pad (pad_rep [] .null 2)
  replace W1 := W1.astoreN (L' := #[.val (.ref x0), .val (.ref (gA 2)), .val (.ref a1), .unset, .unset, .unset, .unset]) d2097_64_4 rfl rfl rfl
  obtain ⟨h2, a2, W2, E2, g2, ⟨A2, D2, U2⟩, sf2, SF2⟩ := W1.new (pc' := 8) (cells' := 2) (slots' := 5) d2097_64_5 (tw158 H) (tw159 H) (tw160 H) rfl rfl rfl (by decide) (by decide)
  clear W1
  rw [← g2] at A2 D2 U2
  have z2 : h1.size ≤ h2.size := E2.1
  replace W2 := W2.dup d2097_64_8 rfl rfl
  obtain ⟨V3, h3, r3, W3, K3, hQ3, SF3⟩ := W2.callI (pc' := 12) (argsL := []) (rest := [(.ref a2)]) (Wd := 1) (cells' := 3) (slots' := 6) (a := a2) (y := N23) d2097_64_9 (m35_init H a2 (0 : Int32) (0 : Int32) h2 W2.old A2 (D2 (Or.inl (tw171 H)) (ty := .int) (by decide) : Fld Z h2 a2 "java/math/MutableBigInteger" "intLen" "I" (.int (0 : Int32))) (D2 (Or.inl (tw167 H)) (ty := .int) (by decide) : Fld Z h2 a2 "java/math/MutableBigInteger" "offset" "I" (.int (0 : Int32))) (D2 (Or.inl (tw169 H)) (ty := (.array .int)) (by decide) : Fld Z h2 a2 "java/math/MutableBigInteger" "value" "[I" .null) (Nat.le_trans W2.1.2.2.2.2.2.2.2.1 (Nat.le_trans z1 (Nat.le_of_eq g2.symm)))) rfl (tw161 H) (tw162 H) (tw160 H) (tw164 H) (by decide) (lenOf pd0 rfl) rfl rfl (by decide) (by decide) rfl (sfS safe0 sf0) (allS (Or.inr (Nat.le_trans z1 (Nat.le_of_eq g2.symm))) all0)
  clear W2
  obtain ⟨_, r03, kr03, rfl, q3_1, q3_2, q3_3, q3_4, q3_5, q3_6, q3_7⟩ := hQ3
  have z3 : h2.size ≤ h3.size := K3.1
  replace W3 := W3.cast (st' := [(.ref a2)]) rfl
  replace W3 := W3.astoreN (L' := #[.val (.ref x0), .val (.ref (gA 2)), .val (.ref a1), .val (.ref a2), .unset, .unset, .unset]) d2097_64_12 rfl rfl rfl
  obtain ⟨h4, a4, W4, E4, g4, ⟨A4, D4, U4⟩, sf4, SF4⟩ := W3.new (pc' := 16) (cells' := 4) (slots' := 9) d2097_64_13 (tw158 H) (tw159 H) (tw160 H) rfl rfl rfl (by decide) (by decide)
  clear W3
  rw [← g4] at A4 D4 U4
  have z4 : h3.size ≤ h4.size := E4.1
  replace W4 := W4.dup d2097_64_16 rfl rfl
  replace W4 := W4.aloadN d2097_64_17 rfl rfl rfl
  have f5 := ((((F_x0_mag.ext E1).ext E2).keep K3 (ninS (Nat.ne_of_lt (Nat.lt_of_lt_of_le E_x0.lt (Nat.le_trans z1 (Nat.le_of_eq g2.symm)))) nin0)).ext E4)
  replace W4 := W4.getf d2097_64_18 (tw144 H) Via.refl f5 rfl
  have e6 := ((((E_x1.ext E1).ext E2).keep K3).ext E4)
  have v7 := ((((V_x1.ext E1).ext E2).keep K3 (ninS (Nat.ne_of_lt (Nat.lt_of_lt_of_le E_x1.lt (Nat.le_trans z1 (Nat.le_of_eq g2.symm)))) nin0)).ext E4)
  obtain ⟨V8, h8, r8, W8, K8, hQ8, SF8⟩ := W4.callI (pc' := 24) (argsL := [(.ref x1)]) (rest := [(.ref a4)]) (Wd := 1) (cells' := 4) (slots' := 9) (a := a4) (y := N24) d2097_64_21 (m119_init H a4 x1 kp0 (0 : Int32) (0 : Int32) u1 u2 h4 W4.old A4 (D4 (Or.inl (tw171 H)) (ty := .int) (by decide) : Fld Z h4 a4 "java/math/MutableBigInteger" "intLen" "I" (.int (0 : Int32))) (D4 (Or.inl (tw167 H)) (ty := .int) (by decide) : Fld Z h4 a4 "java/math/MutableBigInteger" "offset" "I" (.int (0 : Int32))) (D4 (Or.inl (tw169 H)) (ty := (.array .int)) (by decide) : Fld Z h4 a4 "java/math/MutableBigInteger" "value" "[I" .null) e6 v7 (Nat.le_trans W4.1.2.2.2.2.2.2.2.1 (Nat.le_trans (Nat.le_trans (Nat.le_trans z1 z2) z3) (Nat.le_of_eq g4.symm)))) rfl (tw172 H) (tw173 H) (tw160 H) (tw174 H) (by decide) (lenOf pd18 rfl) rfl rfl (by decide) (by decide) rfl (sfS safe0 sf0) (allS (Or.inr (Nat.le_trans (Nat.le_trans (Nat.le_trans z1 z2) z3) (Nat.le_of_eq g4.symm))) all0)
  clear W4
  obtain ⟨_, rfl, q8_1, q8_2, q8_3, q8_4⟩ := hQ8
  have z8 : h4.size ≤ h8.size := K8.1
  replace W8 := W8.cast (st' := [(.ref a4)]) rfl
  replace W8 := W8.astore (L' := #[.val (.ref x0), .val (.ref (gA 2)), .val (.ref a1), .val (.ref a2), .val (.ref a4), .unset, .unset]) d2097_64_24 rfl rfl rfl
  obtain ⟨h9, a9, W9, E9, g9, ⟨A9, D9, U9⟩, sf9, SF9⟩ := W8.new (pc' := 29) (cells' := 5) (slots' := 12) d2097_64_26 (tw158 H) (tw159 H) (tw160 H) rfl rfl rfl (by decide) (by decide)
  clear W8
  rw [← g9] at A9 D9 U9
  have z9 : h8.size ≤ h9.size := E9.1
  replace W9 := W9.dup d2097_64_29 rfl rfl
  replace W9 := W9.aloadN d2097_64_30 rfl rfl rfl
  have f10 := (gf22 H).ext W9.old.2
  replace W9 := W9.getf d2097_64_31 (tw144 H) Via.refl f10 rfl
  obtain ⟨V11, h11, r11, W11, K11, hQ11, SF11⟩ := W9.callI (pc' := 37) (argsL := [(.ref (gA 3))]) (rest := [(.ref a9)]) (Wd := 1) (cells' := 5) (slots' := 12) (a := a9) (y := N24) d2097_64_34 (m37_init H a9 (0 : Int32) (0 : Int32) h9 W9.old A9 (D9 (Or.inl (tw171 H)) (ty := .int) (by decide) : Fld Z h9 a9 "java/math/MutableBigInteger" "intLen" "I" (.int (0 : Int32))) (D9 (Or.inl (tw167 H)) (ty := .int) (by decide) : Fld Z h9 a9 "java/math/MutableBigInteger" "offset" "I" (.int (0 : Int32))) (D9 (Or.inl (tw169 H)) (ty := (.array .int)) (by decide) : Fld Z h9 a9 "java/math/MutableBigInteger" "value" "[I" .null) (Nat.le_trans W9.1.2.2.2.2.2.2.2.1 (Nat.le_trans (Nat.le_trans (Nat.le_trans (Nat.le_trans (Nat.le_trans z1 z2) z3) z4) z8) (Nat.le_of_eq g9.symm)))) rfl (tw172 H) (tw173 H) (tw160 H) (tw174 H) (by decide) (lenOf pd18 rfl) rfl rfl (by decide) (by decide) rfl (sfS safe0 sf0) (allS (Or.inr (Nat.le_trans (Nat.le_trans (Nat.le_trans (Nat.le_trans (Nat.le_trans z1 z2) z3) z4) z8) (Nat.le_of_eq g9.symm))) all0)
  clear W9
  obtain ⟨_, rfl, q11_1, q11_2, q11_3, q11_4⟩ := hQ11
  have z11 : h9.size ≤ h11.size := K11.1
  replace W11 := W11.cast (st' := [(.ref a9)]) rfl
  replace W11 := W11.astore (L' := #[.val (.ref x0), .val (.ref (gA 2)), .val (.ref a1), .val (.ref a2), .val (.ref a4), .val (.ref a9), .unset]) d2097_64_37 rfl rfl rfl
  replace W11 := W11.aload d2097_64_39 rfl rfl rfl
  replace W11 := W11.aload d2097_64_41 rfl rfl rfl
  replace W11 := W11.aloadN d2097_64_43 rfl rfl rfl
  have e12 := ((q8_1.ext E9).keep K11)
  have f13 := ((q8_2.ext E9).keep K11 (ninS (Nat.ne_of_lt (Nat.lt_of_lt_of_le A4.lt (Nat.le_trans z8 (Nat.le_of_eq g9.symm)))) nin0))
  have f14 := ((q8_3.ext E9).keep K11 (ninS (Nat.ne_of_lt (Nat.lt_of_lt_of_le A4.lt (Nat.le_trans z8 (Nat.le_of_eq g9.symm)))) nin0))
  have f15 := ((q8_4.ext E9).keep K11 (ninS (Nat.ne_of_lt (Nat.lt_of_lt_of_le A4.lt (Nat.le_trans z8 (Nat.le_of_eq g9.symm)))) nin0))
  have e16 := ((((q3_1.ext E4).keep K8).ext E9).keep K11)
  have f17 := ((((q3_2.ext E4).keep K8 (ninS (Nat.ne_of_lt (Nat.lt_of_lt_of_le A2.lt (Nat.le_trans z3 (Nat.le_of_eq g4.symm)))) nin0)).ext E9).keep K11 (ninS (Nat.ne_of_lt (Nat.lt_of_lt_of_le A2.lt (Nat.le_trans (Nat.le_trans (Nat.le_trans z3 z4) z8) (Nat.le_of_eq g9.symm)))) nin0))
  have f18 := ((((q3_3.ext E4).keep K8 (ninS (Nat.ne_of_lt (Nat.lt_of_lt_of_le A2.lt (Nat.le_trans z3 (Nat.le_of_eq g4.symm)))) nin0)).ext E9).keep K11 (ninS (Nat.ne_of_lt (Nat.lt_of_lt_of_le A2.lt (Nat.le_trans (Nat.le_trans (Nat.le_trans z3 z4) z8) (Nat.le_of_eq g9.symm)))) nin0))
  have f19 := ((((q3_4.ext E4).keep K8 (ninS (Nat.ne_of_lt (Nat.lt_of_lt_of_le A2.lt (Nat.le_trans z3 (Nat.le_of_eq g4.symm)))) nin0)).ext E9).keep K11 (ninS (Nat.ne_of_lt (Nat.lt_of_lt_of_le A2.lt (Nat.le_trans (Nat.le_trans (Nat.le_trans z3 z4) z8) (Nat.le_of_eq g9.symm)))) nin0))
  have e20 := (((e6.keep K8).ext E9).keep K11)
  have v21 := (((v7.keep K8 (ninS (Nat.ne_of_lt (Nat.lt_of_lt_of_le E_x1.lt (Nat.le_trans (Nat.le_trans (Nat.le_trans z1 z2) z3) (Nat.le_of_eq g4.symm)))) nin0)).ext E9).keep K11 (ninS (Nat.ne_of_lt (Nat.lt_of_lt_of_le E_x1.lt (Nat.le_trans (Nat.le_trans (Nat.le_trans (Nat.le_trans (Nat.le_trans z1 z2) z3) z4) z8) (Nat.le_of_eq g9.symm)))) nin0))
  have e22 := ((((q3_5.ext E4).keep K8).ext E9).keep K11)
  have v23 := ((((q3_6.ext E4).keep K8 (ninS (Nat.ne_of_lt (Nat.lt_of_lt_of_le q3_5.lt (Nat.le_of_eq g4.symm))) nin0)).ext E9).keep K11 (ninS (Nat.ne_of_lt (Nat.lt_of_lt_of_le q3_5.lt (Nat.le_trans (Nat.le_trans z4 z8) (Nat.le_of_eq g9.symm)))) nin0))
  obtain ⟨V24, h24, r24, W24, K24, hQ24, SF24⟩ := W11.callV (pc' := 47) (argsL := [(.ref a9), (.ref a2)]) (rest := []) (Wd := 0) (cells' := 8) (slots' := 18) (a := a4) (C := "java/math/MutableBigInteger") (y := N27) (z := N27) d2097_64_44 (m120_divideKnuth H a4 a9 a2 x1 r03 kp0 kr03 (2 : Int32) (0 : Int32) (1 : Int32) (0 : Int32) (0 : Int32) (0 : Int32) u1 u2 (0 : Int32) s0 s1 s2 s3 s4 s5 s6 s7 s8 s9 s10 s11 s12 s13 s14 h11 W11.old e12 f13 f14 f15 q11_1 q11_2 q11_3 q11_4 e16 f17 f18 f19 e20 v21 e22 v23 (Nat.ne_of_gt (Nat.lt_of_lt_of_le A2.lt (Nat.le_trans z3 (Nat.le_of_eq g4.symm)))) (Nat.ne_of_gt (Nat.lt_of_lt_of_le A2.lt (Nat.le_trans (Nat.le_trans (Nat.le_trans z3 z4) z8) (Nat.le_of_eq g9.symm)))) (Nat.ne_of_lt (Nat.lt_of_lt_of_le E_x1.lt (Nat.le_trans (Nat.le_trans z1 z2) q3_7))) p0 p1 p2 p3 p4 p5 p6 p7 p8 p9 p10 p11 p12 p13 p14 (by decide) (by decide) (by decide) (by decide) (by decide) (by decide) (by decide) (by decide) (by decide) (by decide) p15 p16 p17 p18 (Nat.le_trans W11.1.2.2.2.2.2.2.2.1 (Nat.le_trans z1 (Nat.le_of_eq g2.symm))) (Nat.le_trans W11.1.2.2.2.2.2.2.2.1 (Nat.le_trans (Nat.le_trans z1 z2) q3_7))) e12 (tw175 H) (tw176 H) (Or.inl (tw178 H)) (tw178 H) (tw177 H) (tw160 H) (tw179 H) (by decide) (lenOf pd21 rfl) rfl rfl (by decide) (by decide) rfl (sfS safe0 (sfS safe0 sf0)) (allS (Or.inr (Nat.le_trans z1 (Nat.le_of_eq g2.symm))) (allS (Or.inr (Nat.le_trans (Nat.le_trans z1 z2) q3_7)) all0))
  clear W11
  obtain ⟨_, r024, r124, r224, kr024, kr124, rfl, q24_1, q24_2, q24_3, q24_4, q24_5, q24_6, q24_7, q24_8, q24_9, q24_10, q24_11, q24_12, q24_13, q24_14, q24_15, q24_16, q24_17, q24_18⟩ := hQ24
  have z24 : h11.size ≤ h24.size := K24.1
  replace W24 := W24.cast (st' := [(.ref r024)]) rfl
  replace W24 := W24.astore (L' := #[.val (.ref x0), .val (.ref (gA 2)), .val (.ref a1), .val (.ref a2), .val (.ref a4), .val (.ref a9), .val (.ref r024)]) d2097_64_47 rfl rfl rfl
  replace W24 := W24.aloadN d2097_64_49 rfl rfl rfl
  replace W24 := W24.iconst (v := (0 : Int32)) d2097_64_50 rfl rfl
  replace W24 := W24.aloadN d2097_64_51 rfl rfl rfl
  replace W24 := W24.aloadN d2097_64_52 rfl rfl rfl
  have f25 := ((((((((F_x0_signum.ext E1).ext E2).keep K3 (ninS (Nat.ne_of_lt (Nat.lt_of_lt_of_le E_x0.lt (Nat.le_trans z1 (Nat.le_of_eq g2.symm)))) nin0)).ext E4).keep K8 (ninS (Nat.ne_of_lt (Nat.lt_of_lt_of_le E_x0.lt (Nat.le_trans (Nat.le_trans (Nat.le_trans z1 z2) z3) (Nat.le_of_eq g4.symm)))) nin0)).ext E9).keep K11 (ninS (Nat.ne_of_lt (Nat.lt_of_lt_of_le E_x0.lt (Nat.le_trans (Nat.le_trans (Nat.le_trans (Nat.le_trans (Nat.le_trans z1 z2) z3) z4) z8) (Nat.le_of_eq g9.symm)))) nin0)).keep K24 (ninS (Nat.ne_of_lt (Nat.lt_of_lt_of_le E_x0.lt (Nat.le_trans z1 (Nat.le_of_eq g2.symm)))) (ninS (Nat.ne_of_lt (Nat.lt_of_lt_of_le E_x0.lt (Nat.le_trans (Nat.le_trans z1 z2) q3_7))) nin0)))
  replace W24 := W24.getf d2097_64_53 (tw141 H) Via.refl f25 rfl
  replace W24 := W24.aloadN d2097_64_56 rfl rfl rfl
  have f26 := (gf23 H).ext W24.old.2
  replace W24 := W24.getf d2097_64_57 (tw141 H) Via.refl f26 rfl
  replace W24 := W24.icmpF (pc' := 63) d2097_64_60 (teq p19).2 rfl
  replace W24 := W24.iconst (v := (1 : Int32)) d2097_64_63 rfl rfl
  replace W24 := W24.goto (pc' := 68) d2097_64_64 (by decide) (by decide)
  obtain ⟨V27, h27, r27, W27, K27, hQ27, SF27⟩ := W24.callV (pc' := 71) (argsL := [(.int (1 : Int32))]) (rest := [(.int (0 : Int32)), (.ref a1)]) (Wd := 2) (cells' := 10) (slots' := 25) (a := a2) (C := "java/math/MutableBigInteger") (y := N30) (z := N30) d2097_64_68 (m126_toBigInteger H a2 r224 kr124 (1 : Int32) (1 : Int32) (1 : Int32) (0 : Int32) s7 (2 : Int32) (1 : Int32) (1 : Int32) h24 W24.old q24_6 q24_7 q24_8 q24_9 q24_15 q24_16 (by decide) (by decide) (by decide) (by decide) (by decide) (by decide) (by decide) (by decide) (by decide) (by decide) (by decide) (by decide) (Nat.le_trans W24.1.2.2.2.2.2.2.2.1 (Nat.le_trans (Nat.le_trans (Nat.le_trans (Nat.le_trans (Nat.le_trans (Nat.le_trans (Nat.le_trans z1 z2) z3) z4) z8) z9) z11) q24_17)) (Nat.le_trans W24.1.2.2.2.2.2.2.2.1 (Nat.le_trans z1 (Nat.le_of_eq g2.symm)))) q24_6 (tw193 H) (tw194 H) (Or.inl (tw196 H)) (tw196 H) (tw195 H) (tw160 H) (tw197 H) (by decide) (lenOf pd24 rfl) rfl rfl (by decide) (by decide) rfl (sfS safe0 (sfS safe0 sf0)) (allS (Or.inr (Nat.le_trans (Nat.le_trans (Nat.le_trans (Nat.le_trans (Nat.le_trans (Nat.le_trans (Nat.le_trans z1 z2) z3) z4) z8) z9) z11) q24_17)) (allS (Or.inr (Nat.le_trans z1 (Nat.le_of_eq g2.symm))) all0))
  clear W24
  obtain ⟨_, r027, r127, kr027, rfl, q27_1, q27_2, q27_3, q27_4, q27_5, q27_6, q27_7, q27_8, q27_9, q27_10, q27_11, q27_12, q27_13, q27_14⟩ := hQ27
  have z27 : h24.size ≤ h27.size := K27.1
  replace W27 := W27.cast (st' := [(.ref r027), (.int (0 : Int32)), (.ref a1)]) rfl
  have v28 := ((((((((v1.ext E2).keep K3 (ninS (Nat.ne_of_lt (Nat.lt_of_lt_of_le v1.lt (Nat.le_of_eq g2.symm))) nin0)).ext E4).keep K8 (ninS (Nat.ne_of_lt (Nat.lt_of_lt_of_le v1.lt (Nat.le_trans (Nat.le_trans z2 z3) (Nat.le_of_eq g4.symm)))) nin0)).ext E9).keep K11 (ninS (Nat.ne_of_lt (Nat.lt_of_lt_of_le v1.lt (Nat.le_trans (Nat.le_trans (Nat.le_trans (Nat.le_trans z2 z3) z4) z8) (Nat.le_of_eq g9.symm)))) nin0)).keep K24 (ninS (Nat.ne_of_lt (Nat.lt_of_lt_of_le v1.lt (Nat.le_of_eq g2.symm))) (ninS (Nat.ne_of_lt (Nat.lt_of_lt_of_le v1.lt (Nat.le_trans z2 q3_7))) nin0))).keep K27 (ninS (Nat.ne_of_lt (Nat.lt_of_lt_of_le v1.lt (Nat.le_trans (Nat.le_trans (Nat.le_trans (Nat.le_trans (Nat.le_trans (Nat.le_trans z2 z3) z4) z8) z9) z11) q24_17))) (ninS (Nat.ne_of_lt (Nat.lt_of_lt_of_le v1.lt (Nat.le_of_eq g2.symm))) nin0)))
  obtain ⟨h29, W29, w29, A29, SF29⟩ := W27.aastore (pc' := 72) (i := 0) d2097_64_71 v28 rfl O1 (Ins.self q27_1) ⟨by decide, by decide⟩ rfl (by show 0 < 2; decide) rfl safe0 (Or.inr (Nat.le_of_eq g1.symm)) rfl
  clear W27
  have z29 : h27.size ≤ h29.size := Nat.le_of_eq w29.size.symm
  have v29 : Arv Z h29 a1 k1 (.object "java/math/BigInteger") (2 : Int32) [(.ref r027), .null] .null := A29
  replace W29 := W29.aloadN d2097_64_72 rfl rfl rfl
  replace W29 := W29.iconst (v := (1 : Int32)) d2097_64_73 rfl rfl
  replace W29 := W29.aload d2097_64_74 rfl rfl rfl
  replace W29 := W29.aloadN d2097_64_76 rfl rfl rfl
  have f30 := ((f25.keep K27 (ninS (Nat.ne_of_lt (Nat.lt_of_lt_of_le E_x0.lt (Nat.le_trans (Nat.le_trans (Nat.le_trans (Nat.le_trans (Nat.le_trans (Nat.le_trans (Nat.le_trans z1 z2) z3) z4) z8) z9) z11) q24_17))) (ninS (Nat.ne_of_lt (Nat.lt_of_lt_of_le E_x0.lt (Nat.le_trans z1 (Nat.le_of_eq g2.symm)))) nin0))).other w29 (Or.inl (Nat.ne_of_lt (Nat.lt_of_lt_of_le E_x0.lt (Nat.le_of_eq g1.symm)))))
  replace W29 := W29.getf d2097_64_77 (tw141 H) Via.refl f30 rfl
  have f31 := ((q24_2.keep K27 (ninS (Exa.ne (q24_1.keep K27) q27_6 (by decide)) (ninS (Nat.ne_of_gt (Nat.lt_of_lt_of_le A2.lt (Nat.le_trans (Nat.le_trans (Nat.le_trans (Nat.le_trans (Nat.le_trans z3 z4) z8) z9) z11) q24_5))) nin0))).other w29 (Or.inl (Nat.ne_of_gt (Nat.lt_of_lt_of_le v1.lt (Nat.le_trans (Nat.le_trans (Nat.le_trans (Nat.le_trans (Nat.le_trans (Nat.le_trans z2 z3) z4) z8) z9) z11) q24_5)))))
  have e33 := ((q24_1.keep K27).wr w29)
  obtain ⟨V32, h32, r32, W32, K32, hQ32, SF32⟩ := W29.callV (pc' := 83) (argsL := [(.int u0)]) (rest := [(.int (1 : Int32)), (.ref a1)]) (Wd := 2) (cells' := 10) (slots' := 25) (a := r024) (C := "java/math/MutableBigInteger") (y := N30) (z := N30) d2097_64_80 (m46_toBigInteger H r024 u0 (0 : Int32) h29 W29.old f31 (by decide)) e33 (tw193 H) (tw194 H) (Or.inl (tw196 H)) (tw196 H) (tw195 H) (tw160 H) (tw197 H) (by decide) (lenOf pd24 rfl) rfl rfl (by decide) (by decide) rfl sf0 all0
  clear W29
  obtain ⟨_, rfl, hs32⟩ := hQ32
  subst hs32
  replace W32 := W32.cast (st' := [(.ref (gA 4)), (.int (1 : Int32)), (.ref a1)]) rfl
  have e34 := (gf7 H).ext W32.old.2
  obtain ⟨h35, W35, w35, A35, SF35⟩ := W32.aastore (pc' := 84) (i := 1) d2097_64_83 v29 rfl O1 (Ins.self e34) ⟨by decide, by decide⟩ rfl (by show 1 < 2; decide) rfl safe0 (Or.inr (Nat.le_of_eq g1.symm)) rfl
  clear W32
  have z35 : h29.size ≤ h35.size := Nat.le_of_eq w35.size.symm
  have v35 : Arv Z h35 a1 k1 (.object "java/math/BigInteger") (2 : Int32) [(.ref r027), (.ref (gA 4))] .null := A35
  replace W35 := W35.aloadN d2097_64_84 rfl rfl rfl
  have e36 := ((((((((((B1.ext E2).keep K3).ext E4).keep K8).ext E9).keep K11).keep K24).keep K27).wr w29).wr w35)
  have e37 := ((q27_1.wr w29).wr w35)
  have f38 := ((q27_2.other w29 (Or.inl (Nat.ne_of_gt (Nat.lt_of_lt_of_le v1.lt (Nat.le_trans (Nat.le_trans (Nat.le_trans (Nat.le_trans (Nat.le_trans (Nat.le_trans (Nat.le_trans z2 z3) z4) z8) z9) z11) z24) q27_5))))).other w35 (Or.inl (Nat.ne_of_gt (Nat.lt_of_lt_of_le v1.lt (Nat.le_trans (Nat.le_trans (Nat.le_trans (Nat.le_trans (Nat.le_trans (Nat.le_trans (Nat.le_trans z2 z3) z4) z8) z9) z11) z24) q27_5)))))
  have f39 := ((q27_3.other w29 (Or.inl (Nat.ne_of_gt (Nat.lt_of_lt_of_le v1.lt (Nat.le_trans (Nat.le_trans (Nat.le_trans (Nat.le_trans (Nat.le_trans (Nat.le_trans (Nat.le_trans z2 z3) z4) z8) z9) z11) z24) q27_5))))).other w35 (Or.inl (Nat.ne_of_gt (Nat.lt_of_lt_of_le v1.lt (Nat.le_trans (Nat.le_trans (Nat.le_trans (Nat.le_trans (Nat.le_trans (Nat.le_trans (Nat.le_trans z2 z3) z4) z8) z9) z11) z24) q27_5)))))
  have f40 := ((q27_4.other w29 (Or.inl (Nat.ne_of_gt (Nat.lt_of_lt_of_le v1.lt (Nat.le_trans (Nat.le_trans (Nat.le_trans (Nat.le_trans (Nat.le_trans (Nat.le_trans (Nat.le_trans z2 z3) z4) z8) z9) z11) z24) q27_5))))).other w35 (Or.inl (Nat.ne_of_gt (Nat.lt_of_lt_of_le v1.lt (Nat.le_trans (Nat.le_trans (Nat.le_trans (Nat.le_trans (Nat.le_trans (Nat.le_trans (Nat.le_trans z2 z3) z4) z8) z9) z11) z24) q27_5)))))
  have e41 := ((q27_12.wr w29).wr w35)
  have v42 := ((q27_13.other w29 (Nat.ne_of_gt (Nat.lt_of_lt_of_le v1.lt (Nat.le_trans (Nat.le_trans (Nat.le_trans (Nat.le_trans (Nat.le_trans (Nat.le_trans (Nat.le_trans z2 z3) z4) z8) z9) z11) z24) q27_14)))).other w35 (Nat.ne_of_gt (Nat.lt_of_lt_of_le v1.lt (Nat.le_trans (Nat.le_trans (Nat.le_trans (Nat.le_trans (Nat.le_trans (Nat.le_trans (Nat.le_trans z2 z3) z4) z8) z9) z11) z24) q27_14))))
  exact W35.aret (t := (.array (.object "java/math/BigInteger"))) d2097_64_85 rfl rfl rfl rfl (by decide) (by decide) (fun V' cv => ⟨a1, r027, r127, k1, kr027, rfl, e36, v35, (Nat.le_of_eq g1.symm), e37, f38, f39, f40, (Nat.le_trans (Nat.le_trans (Nat.le_trans (Nat.le_trans (Nat.le_trans (Nat.le_trans (Nat.le_trans (Nat.le_trans z1 z2) z3) z4) z8) z9) z11) z24) q27_5), e41, v42, (Nat.le_trans (Nat.le_trans (Nat.le_trans (Nat.le_trans (Nat.le_trans (Nat.le_trans (Nat.le_trans (Nat.le_trans z1 z2) z3) z4) z8) z9) z11) z24) q27_14)⟩)
theorem m117_divideAndRemainder (H : Cx Z a0 gA gK) (x0 x1 : Addr) (kp0 : ClassId) (u1 u2 u3 : Int32) (s0 s1 s2 s3 s4 s5 s6 : Int64) (s7 : Int32) (s8 s9 s10 : Int64) (s11 : Int32) (s12 s13 : Int64) (s14 : Int32) (h0 : Heap) (hO : Old Z n0 h0) (E_x0 : Exa Z h0 x0 "java/math/BigInteger") (F_x0_mag : Fld Z h0 x0 "java/math/BigInteger" "mag" "[I" (.ref x1)) (F_x0_signum : Fld Z h0 x0 "java/math/BigInteger" "signum" "I" (.int u1)) (E_x1 : Exa Z h0 x1 "[I") (V_x1 : Arv Z h0 x1 kp0 .int (2 : Int32) [(.int u2), (.int u3)] (.int (0 : Int32))) (p0 : (u2.toInt64) = s0) (p1 : (s0 &&& (4294967295 : Int64)) = s1) (p2 : (s1 <<< ((32 : Int32).toInt64 &&& 63)) = s2) (p3 : (u3.toInt64) = s3) (p4 : (s3 &&& (4294967295 : Int64)) = s4) (p5 : (s2 ||| s4) = s5) (p6 : (s5 / (1000000000 : Int64)) = s6) (p7 : (s6.toInt32) = s7) (p8 : (s7.toInt64) = s8) (p9 : (s8 * (1000000000 : Int64)) = s9) (p10 : (s5 - s9) = s10) (p11 : (s10.toInt32) = s11) (p12 : (s11.toInt64) = s12) (p13 : (s12 &&& (4294967295 : Int64)) = s13) (p14 : (s11 - (s11 / (1000000000 : Int32)) * (1000000000 : Int32)) = s14) (p15 : (Jvm.Free.XT.cmpL s1 (1000000000 : Int64)) = (-1 : Int32)) (p16 : (Jvm.Free.XT.cmpL s5 (0 : Int64)) = (1 : Int32)) (p17 : ¬ (s7 = (0 : Int32))) (p18 : s14 = (0 : Int32)) (p19 : u1 = (1 : Int32)) : Con l Z [] n0 N32 jdk_2097_method_63_code 2 (some (.array (.object "java/math/BigInteger"))) (Rm 6 10 25 96) #[(.ref x0), (.ref (gA 2))] h0 [] (fun v h V' => ∃ (r0 : Addr) (r1 : Addr) (r2 : Addr) (kr0 : ClassId) (kr1 : ClassId), v = some (.ref r0) ∧ Exa Z h r0 "[Ljava/math/BigInteger;" ∧ Arv Z h r0 kr0 (.object "java/math/BigInteger") (2 : Int32) [(.ref r1), (.ref (gA 4))] .null ∧ h0.size ≤ r0 ∧ Exa Z h r1 "java/math/BigInteger" ∧ Fld Z h r1 "java/math/BigInteger" "bitLengthPlusOne" "I" (.int (0 : Int32)) ∧ Fld Z h r1 "java/math/BigInteger" "mag" "[I" (.ref r2) ∧ Fld Z h r1 "java/math/BigInteger" "signum" "I" (.int (1 : Int32)) ∧ h0.size ≤ r1 ∧ Exa Z h r2 "[I" ∧ Arv Z h r2 kr1 .int (1 : Int32) [(.int s7)] (.int (0 : Int32)) ∧ h0.size ≤ r2) [] := by
  refine Con.of (a0 := a0) (L0 := #[.val (.ref x0), .val (.ref (gA 2))]) pf32 (fun _ => rfl) all0 hO EW.nil ?_
  intro p e s m below meth c S0 hnm hsf W
  replace W := W.aloadN d2097_63_0 rfl rfl rfl
  have f1 := (gf22 H).ext W.old.2
  replace W := W.getf d2097_63_1 (tw144 H) Via.refl f1 rfl
  have v2 := (gf36 H).ext W.old.2
  replace W := W.alen d2097_63_4 v2 rfl
  replace W := W.bipush (v := (80 : Int32)) d2097_63_5 rfl rfl
  replace W := W.icmpT (pc' := 26) d2097_63_7 (tlt (by decide : (1 : Int32) < (80 : Int32))).1 (by decide) (by decide)
  replace W := W.aloadN d2097_63_26 rfl rfl rfl
  replace W := W.aloadN d2097_63_27 rfl rfl rfl
  obtain ⟨V3, h3, r3, W3, K3, hQ3, SF3⟩ := W.callP (pc' := 31) (argsL := [(.ref (gA 2))]) (rest := []) (Wd := 0) (cells' := 10) (slots' := 25) (a := x0) (C := "java/math/BigInteger") (y := N31) d2097_63_28 (m134_divideAndRemainderKnuth H x0 x1 kp0 u1 u2 u3 s0 s1 s2 s3 s4 s5 s6 s7 s8 s9 s10 s11 s12 s13 s14 h0 W.old E_x0 F_x0_mag F_x0_signum E_x1 V_x1 p0 p1 p2 p3 p4 p5 p6 p7 p8 p9 p10 p11 p12 p13 p14 p15 p16 p17 p18 p19) E_x0 (tw152 H) (tw153 H) (tw155 H) (tw154 H) (tw130 H) (tw156 H) (by decide) (lenOf pd25 rfl) rfl rfl (by decide) (by decide) rfl sf0 all0
  clear W
  obtain ⟨_, r03, r13, r23, kr03, kr13, rfl, q3_1, q3_2, q3_3, q3_4, q3_5, q3_6, q3_7, q3_8, q3_9, q3_10, q3_11⟩ := hQ3
  have z3 : h0.size ≤ h3.size := K3.1
  replace W3 := W3.cast (st' := [(.ref r03)]) rfl
  exact W3.aret (t := (.array (.object "java/math/BigInteger"))) d2097_63_31 rfl rfl rfl rfl (by decide) (by decide) (fun V' cv => ⟨r03, r13, r23, kr03, kr13, rfl, q3_1, q3_2, q3_3, q3_4, q3_5, q3_6, q3_7, q3_8, q3_9, q3_10, q3_11⟩)
theorem m111_create (H : Cx Z a0 gA gK) (x0 : Addr) (u0 : Int64) (u2 : Int32) (s0 s1 : Int64) (s2 : Int32) (s3 s4 : Int64) (s5 s6 : Int32) (s7 s8 s9 s10 s11 s12 s13 : Int64) (s14 : Int32) (s15 s16 s17 : Int64) (s18 : Int32) (s19 s20 : Int64) (s21 s22 s23 s24 s25 s26 s27 : Int32) (s28 s29 s30 s31 s32 s33 s34 : Int64) (h0 : Heap) (hO : Old Z n0 h0) (E_x0 : Exa Z h0 x0 "java/math/BigDecimal") (F_x0_intCompact : Fld Z h0 x0 "java/math/BigDecimal" "intCompact" "J" (.long u0)) (F_x0_intVal : Fld Z h0 x0 "java/math/BigDecimal" "intVal" "Ljava/math/BigInteger;" .null) (F_x0_scale : Fld Z h0 x0 "java/math/BigDecimal" "scale" "I" (.int u2)) (p0 : (u2.toInt64) = s0) (p1 : (s0 - (9 : Int64)) = s1) (p2 : (s1.toInt32) = s2) (p3 : (s2.toInt64) = s3) (p4 : (Jvm.Free.XT.cmpL s3 s1) = (0 : Int32)) (p5 : ¬ (s2 < (0 : Int32))) (p6 : (Jvm.Free.XT.ushrL u0 (32 : Int32)) = s4) (p7 : (s4.toInt32) = s5) (p8 : (u0.toInt32) = s6) (p9 : (0 : Int32) = s2) (p10 : (Jvm.Free.XT.cmpL u0 (0 : Int64)) = (1 : Int32)) (p11 : (Jvm.Free.XT.cmpL u0 (16 : Int64)) = (1 : Int32)) (p12 : ¬ (s5 = (0 : Int32))) (p13 : (s5.toInt64) = s7) (p14 : (s7 &&& (4294967295 : Int64)) = s8) (p15 : (s8 <<< ((32 : Int32).toInt64 &&& 63)) = s9) (p16 : (s6.toInt64) = s10) (p17 : (s10 &&& (4294967295 : Int64)) = s11) (p18 : (s9 ||| s11) = s12) (p19 : (s12 / (1000000000 : Int64)) = s13) (p20 : (s13.toInt32) = s14) (p21 : (s14.toInt64) = s15) (p22 : (s15 * (1000000000 : Int64)) = s16) (p23 : (s12 - s16) = s17) (p24 : (s17.toInt32) = s18) (p25 : (s18.toInt64) = s19) (p26 : (s19 &&& (4294967295 : Int64)) = s20) (p27 : (s18 - (s18 / (1000000000 : Int32)) * (1000000000 : Int32)) = s21) (p28 : (Jvm.Free.XT.cmpL s8 (1000000000 : Int64)) = (-1 : Int32)) (p29 : (Jvm.Free.XT.cmpL s12 (0 : Int64)) = (1 : Int32)) (p30 : ¬ (s14 = (0 : Int32))) (p31 : s21 = (0 : Int32)) (p32 : (Jvm.Free.XT.ushr s14 (2 : Int32)) = s22) (p33 : (Jvm.Free.XT.ushr s22 (1 : Int32)) = s23) (p34 : ((29 : Int32) - s23) = s24) (p35 : ((32 : Int32) - s24) = s25) (p36 : ((0 : Int32) + s25) = s26) (p37 : (s26 + (1 : Int32)) = s27) (p38 : (0 : Int32) < s14) (p39 : s14 < (65536 : Int32)) (p40 : s14 < (256 : Int32)) (p41 : s14 < (16 : Int32)) (p42 : ¬ (s14 < (4 : Int32))) (p43 : ¬ ((63 : Int32) < s26)) (p44 : (s15 &&& (4294967295 : Int64)) = s28) (p45 : ((0 : Int64) + s28) = s29) (p46 : (s29 + (0 : Int64)) = s30) (p47 : (s29 ^^^ s30) = s31) (p48 : ((0 : Int64) ^^^ s30) = s32) (p49 : (s31 &&& s32) = s33) (p50 : (s30 ||| (0 : Int64)) = s34) (p51 : (Jvm.Free.XT.cmpL s33 (0 : Int64)) = (0 : Int32)) (p52 : (Jvm.Free.XT.cmpL s34 (0 : Int64)) = (1 : Int32)) : Con l Z [] n0 N46 jdk_2316_method_48_code 3 (some (.object "java/time/Duration")) (Rm 7 14 40 109) #[(.ref x0)] h0 [] (fun v h V' => ∃ (r0 : Addr), v = some (.ref r0) ∧ Exa Z h r0 "java/time/Duration" ∧ Fld Z h r0 "java/time/Duration" "nanos" "I" (.int (0 : Int32)) ∧ Fld Z h r0 "java/time/Duration" "seconds" "J" (.long s30) ∧ h0.size ≤ r0) [] := by
  refine Con.of (a0 := a0) (L0 := #[.val (.ref x0), .unset, .unset]) pf46 (fun _ => rfl) all0 hO EW.nil ?_
  intro p e s m below meth c S0 hnm hsf W
  replace W := W.aloadN d2316_48_0 rfl rfl rfl
  replace W := W.bipush (v := (9 : Int32)) d2316_48_1 rfl rfl
  obtain ⟨V1, h1, r1, W1, K1, hQ1, SF1⟩ := W.callV (pc' := 6) (argsL := [(.int (9 : Int32))]) (rest := []) (Wd := 0) (cells' := 1) (slots' := 5) (a := x0) (C := "java/math/BigDecimal") (y := N17) (z := N17) d2316_48_3 (m67_movePointRight H x0 (9 : Int32) u0 u2 s0 (9 : Int64) s1 s2 s3 h0 W.old E_x0 F_x0_intCompact F_x0_intVal F_x0_scale (by decide) p0 (by decide) p1 p2 p3 p4 p5) E_x0 (tw108 H) (tw109 H) (Or.inl (tw111 H)) (tw111 H) (tw110 H) (tw34 H) (tw112 H) (by decide) (lenOf pd13 rfl) rfl rfl (by decide) (by decide) rfl sf0 all0
  clear W
  obtain ⟨_, r01, rfl, q1_1, q1_2, q1_3, q1_4, q1_5, q1_6⟩ := hQ1
  have z1 : h0.size ≤ h1.size := K1.1
  replace W1 := W1.cast (st' := [(.ref r01)]) rfl
  obtain ⟨V2, h2, r2, W2, K2, hQ2, SF2⟩ := W1.callV (pc' := 9) (argsL := []) (rest := []) (Wd := 0) (cells' := 3) (slots' := 13) (a := r01) (C := "java/math/BigDecimal") (y := N22) (z := N22) d2316_48_6 (m112_toBigIntegerExact H r01 u0 s2 s4 s5 s6 h1 W1.old q1_1 q1_2 q1_3 q1_5 p9 p6 p7 p8 p10 p11 p12) q1_1 (tw113 H) (tw114 H) (Or.inl (tw116 H)) (tw116 H) (tw115 H) (tw34 H) (tw117 H) (by decide) (lenOf pd17 rfl) rfl rfl (by decide) (by decide) rfl sf0 all0
  clear W1
  obtain ⟨_, r02, r12, kr02, rfl, q2_1, q2_2, q2_3, q2_4, q2_5, q2_6, q2_7, q2_8⟩ := hQ2
  have z2 : h1.size ≤ h2.size := K2.1
  replace W2 := W2.cast (st' := [(.ref r02)]) rfl
  replace W2 := W2.astoreN (L' := #[.val (.ref x0), .val (.ref r02), .unset]) d2316_48_9 rfl rfl rfl
  replace W2 := W2.aloadN d2316_48_10 rfl rfl rfl
  replace W2 := W2.gets d2316_48_11 (tw146 H) (gf35 H) rfl
  obtain ⟨V3, h3, r3, W3, K3, hQ3, SF3⟩ := W2.callV (pc' := 17) (argsL := [(.ref (gA 2))]) (rest := []) (Wd := 0) (cells' := 13) (slots' := 38) (a := r02) (C := "java/math/BigInteger") (y := N32) (z := N32) d2316_48_14 (m117_divideAndRemainder H r02 r12 kr02 (1 : Int32) s5 s6 s7 s8 s9 s10 s11 s12 s13 s14 s15 s16 s17 s18 s19 s20 s21 h2 W2.old q2_1 q2_3 q2_4 q2_6 q2_7 p13 p14 p15 p16 p17 p18 p19 p20 p21 p22 p23 p24 p25 p26 p27 p28 p29 p30 p31 (by decide)) q2_1 (tw147 H) (tw148 H) (Or.inl (tw150 H)) (tw150 H) (tw149 H) (tw130 H) (tw151 H) (by decide) (lenOf pd25 rfl) rfl rfl (by decide) (by decide) rfl sf0 all0
  clear W2
  obtain ⟨_, r03, r13, r23, kr03, kr13, rfl, q3_1, q3_2, q3_3, q3_4, q3_5, q3_6, q3_7, q3_8, q3_9, q3_10, q3_11⟩ := hQ3
  have z3 : h2.size ≤ h3.size := K3.1
  replace W3 := W3.cast (st' := [(.ref r03)]) rfl
  replace W3 := W3.astoreN (L' := #[.val (.ref x0), .val (.ref r02), .val (.ref r03)]) d2316_48_17 rfl rfl rfl
  replace W3 := W3.aloadN d2316_48_18 rfl rfl rfl
  replace W3 := W3.iconst (v := (0 : Int32)) d2316_48_19 rfl rfl
  replace W3 := W3.aaload (w := (.ref r13)) d2316_48_20 q3_2 rfl ⟨by decide, by decide⟩ rfl rfl
  obtain ⟨V4, h4, r4, W4, K4, hQ4, SF4⟩ := W3.callV (pc' := 24) (argsL := []) (rest := []) (Wd := 0) (cells' := 13) (slots' := 38) (a := r13) (C := "java/math/BigInteger") (y := N35) (z := N35) d2316_48_21 (m100_bitLength H r13 r23 kr13 (0 : Int32) (1 : Int32) s14 (-1 : Int32) s22 s23 s24 s25 s26 s27 h3 W3.old q3_4 q3_5 q3_6 q3_7 q3_10 (by decide) (by decide) p32 p33 p34 p35 p38 p39 p40 p41 p42 p36 (by decide) p37 (Nat.le_trans W3.1.2.2.2.2.2.2.2.1 (Nat.le_trans (Nat.le_trans z1 z2) q3_8))) q3_4 (tw209 H) (tw210 H) (Or.inl (tw212 H)) (tw212 H) (tw211 H) (tw130 H) (tw213 H) (by decide) (lenOf pd27 rfl) rfl rfl (by decide) (by decide) rfl (sfS safe0 sf0) (allS (Or.inr (Nat.le_trans (Nat.le_trans z1 z2) q3_8)) all0)
  clear W3
  obtain ⟨_, rfl, q4_1, q4_2, q4_3, q4_4⟩ := hQ4
  have z4 : h3.size ≤ h4.size := K4.1
  replace W4 := W4.cast (st' := [(.int s26)]) rfl
  replace W4 := W4.bipush (v := (63 : Int32)) d2316_48_24 rfl rfl
  replace W4 := W4.icmpT (pc' := 57) d2316_48_26 (flt p43).2.2.2 (by decide) (by decide)
  replace W4 := W4.aloadN d2316_48_57 rfl rfl rfl
  replace W4 := W4.iconst (v := (0 : Int32)) d2316_48_58 rfl rfl
  have v5 := (q3_2.keep K4 (ninS (Exa.ne (q3_1.keep K4) q4_1 (by decide)) nin0))
  replace W4 := W4.aaload (w := (.ref r13)) d2316_48_59 v5 rfl ⟨by decide, by decide⟩ rfl rfl
  have v6 := (q3_10.keep K4 (ninS (Exa.ne (q3_9.keep K4) q4_1 (by decide)) nin0))
  obtain ⟨V7, h7, r7, W7, K7, hQ7, SF7⟩ := W4.callV (pc' := 63) (argsL := []) (rest := []) (Wd := 0) (cells' := 13) (slots' := 38) (a := r13) (C := "java/math/BigInteger") (y := N38) (z := N38) d2316_48_60 (m51_longValue H r13 r23 kr13 (1 : Int32) s14 s15 s28 s29 h4 W4.old q4_1 q4_3 q4_4 v6 (by decide) p21 p44 p45) q4_1 (tw224 H) (tw225 H) (Or.inl (tw227 H)) (tw227 H) (tw226 H) (tw130 H) (tw228 H) (by decide) (lenOf pd28 rfl) rfl rfl (by decide) (by decide) rfl sf0 all0
  clear W4
  obtain ⟨_, rfl, hs7⟩ := hQ7
  subst hs7
  replace W7 := W7.cast (st' := [(.long s29)]) rfl
  replace W7 := W7.aloadN d2316_48_63 rfl rfl rfl
  replace W7 := W7.iconst (v := (1 : Int32)) d2316_48_64 rfl rfl
  replace W7 := W7.aaload (w := (.ref (gA 4))) d2316_48_65 v5 rfl ⟨by decide, by decide⟩ rfl rfl
  have e8 := (gf7 H).ext W7.old.2
  obtain ⟨V9, h9, r9, W9, K9, hQ9, SF9⟩ := W7.callV (pc' := 69) (argsL := []) (rest := [(.long s29)]) (Wd := 2) (cells' := 13) (slots' := 38) (a := (gA 4)) (C := "java/math/BigInteger") (y := N39) (z := N39) d2316_48_66 (m58_intValue H h4 W7.old) e8 (tw240 H) (tw241 H) (Or.inl (tw243 H)) (tw243 H) (tw242 H) (tw130 H) (tw244 H) (by decide) (lenOf pd27 rfl) rfl rfl (by decide) (by decide) rfl sf0 all0
  clear W7
  obtain ⟨_, rfl, hs9⟩ := hQ9
  subst hs9
  replace W9 := W9.cast (st' := [(.int (0 : Int32)), (.long s29)]) rfl
  replace W9 := W9.i2l (v := (0 : Int64)) d2316_48_69 (by decide) rfl
  obtain ⟨V10, h10, r10, W10, K10, hQ10, SF10⟩ := W9.callS (pc' := 73) (argsL := [(.long s29), (.long (0 : Int64))]) (rest := []) (Wd := 0) (cells' := 14) (slots' := 40) (y := N45) d2316_48_70 (m61_ofSeconds H s29 (0 : Int64) (0 : Int64) (1000000000 : Int64) s30 s31 s32 s33 (0 : Int64) (0 : Int32) (0 : Int64) s34 h4 W9.old (by decide) (by decide) (by decide) p46 p47 p48 p49 p51 (by decide) (by decide) (by decide) p50 p52) (tw245 H) (tw246 H) (tw23 H) (tw247 H) (by decide) (lenOf pd31 rfl) rfl rfl (by decide) (by decide) rfl sf0 all0
  clear W9
  obtain ⟨_, r010, rfl, q10_1, q10_2, q10_3, q10_4⟩ := hQ10
  have z10 : h4.size ≤ h10.size := K10.1
  replace W10 := W10.cast (st' := [(.ref r010)]) rfl
  exact W10.aret (t := (.object "java/time/Duration")) d2316_48_73 rfl rfl rfl rfl (by decide) (by decide) (fun V' cv => ⟨r010, rfl, q10_1, q10_2, q10_3, (Nat.le_trans (Nat.le_trans (Nat.le_trans (Nat.le_trans z1 z2) z3) z4) q10_4)⟩)
theorem m104_multipliedBy (H : Cx Z a0 gA gK) (x0 : Addr) (u0 : Int64) (u1 : Int32) (u2 : Int64) (s0 : Int32) (s1 : Int64) (s2 : Int32) (h0 : Heap) (hO : Old Z n0 h0) (E_x0 : Exa Z h0 x0 "java/time/Duration") (F_x0_nanos : Fld Z h0 x0 "java/time/Duration" "nanos" "I" (.int u1)) (F_x0_seconds : Fld Z h0 x0 "java/time/Duration" "seconds" "J" (.long u2)) (p0 : (Jvm.Free.XT.cmpL u0 (0 : Int64)) = (1 : Int32)) (p1 : (Jvm.Free.XT.cmpL u0 (1 : Int64)) = (1 : Int32)) (p2 : (u2.toInt32) = s0) (p3 : (u1.toInt64) = s1) (p4 : (Jvm.Free.XT.cmpL u2 (0 : Int64)) = (1 : Int32)) (p5 : (Jvm.Free.XT.cmpL u2 (11 : Int64)) = (-1 : Int32)) (p6 : s0 = (4 : Int32)) (p7 : (Jvm.Free.XT.cmpL s1 (0 : Int64)) = (0 : Int32)) (p8 : (u0.toInt32) = s2) (p9 : (Jvm.Free.XT.cmpL u0 (11 : Int64)) = (-1 : Int32)) (p10 : s2 = (2 : Int32)) : Con l Z [] n0 N47 jdk_2316_method_44_code 3 (some (.object "java/time/Duration")) (Rm 8 16 50 123) #[(.ref x0), (.long u0)] h0 [] (fun v h V' => ∃ (r0 : Addr), v = some (.ref r0) ∧ Exa Z h r0 "java/time/Duration" ∧ Fld Z h r0 "java/time/Duration" "nanos" "I" (.int (0 : Int32)) ∧ Fld Z h r0 "java/time/Duration" "seconds" "J" (.long (8 : Int64)) ∧ h0.size ≤ r0) [] := by
  refine Con.of (a0 := a0) (L0 := #[.val (.ref x0), .val (.long u0), .second]) pf47 (fun _ => rfl) all0 hO EW.nil ?_
  intro p e s m below meth c S0 hnm hsf W
  replace W := W.lloadN d2316_44_0 rfl rfl
  replace W := W.lconst (v := (0 : Int64)) d2316_44_1 rfl rfl
  replace W := W.lcmp (v := (1 : Int32)) d2316_44_2 p0 rfl
  replace W := W.ifT (pc' := 10) d2316_44_3 (feq (by decide : ¬ ((1 : Int32) = (0 : Int32)))).2 (by decide) (by decide)
  replace W := W.lloadN d2316_44_10 rfl rfl
  replace W := W.lconst (v := (1 : Int64)) d2316_44_11 rfl rfl
  replace W := W.lcmp (v := (1 : Int32)) d2316_44_12 p1 rfl
  replace W := W.ifT (pc' := 18) d2316_44_13 (feq (by decide : ¬ ((1 : Int32) = (0 : Int32)))).2 (by decide) (by decide)
  replace W := W.aloadN d2316_44_18 rfl rfl rfl
  obtain ⟨V1, h1, r1, W1, K1, hQ1, SF1⟩ := W.callP (pc' := 22) (argsL := []) (rest := []) (Wd := 0) (cells' := 1) (slots' := 5) (a := x0) (C := "java/time/Duration") (y := N11) d2316_44_19 (m105_toBigDecimalSeconds H x0 u1 u2 s0 s1 h0 W.old F_x0_nanos F_x0_seconds p2 p4 p5 p6 p3 p7) E_x0 (tw25 H) (tw26 H) (tw28 H) (tw27 H) (tw23 H) (tw29 H) (by decide) (lenOf pd10 rfl) rfl rfl (by decide) (by decide) rfl sf0 all0
  clear W
  obtain ⟨_, r01, rfl, q1_1, q1_2, q1_3, q1_4, q1_5, q1_6⟩ := hQ1
  have z1 : h0.size ≤ h1.size := K1.1
  replace W1 := W1.cast (st' := [(.ref r01)]) rfl
  replace W1 := W1.lloadN d2316_44_22 rfl rfl
  obtain ⟨V2, h2, r2, W2, K2, hQ2, SF2⟩ := W1.callS (pc' := 26) (argsL := [(.long u0)]) (rest := [(.ref r01)]) (Wd := 1) (cells' := 1) (slots' := 5) (y := N1) d2316_44_23 (m15_valueOf H u0 s2 h1 W1.old p0 p9 p8 p10) (tw32 H) (tw33 H) (tw34 H) (tw35 H) (by decide) (lenOf pd1 rfl) rfl rfl (by decide) (by decide) rfl sf0 all0
  clear W1
  obtain ⟨_, rfl, hs2⟩ := hQ2
  subst hs2
  replace W2 := W2.cast (st' := [(.ref (gA 12)), (.ref r01)]) rfl
  obtain ⟨V3, h3, r3, W3, K3, hQ3, SF3⟩ := W2.callV (pc' := 29) (argsL := [(.ref (gA 12))]) (rest := []) (Wd := 0) (cells' := 2) (slots' := 10) (a := r01) (C := "java/math/BigDecimal") (y := N16) (z := N16) d2316_44_26 (m108_multiply H r01 (4000000000 : Int64) (9 : Int32) (9 : Int64) (9 : Int64) (9 : Int32) (9 : Int64) (8000000000 : Int64) (4000000002 : Int64) (1 : Int64) (4000000000 : Int64) h1 W2.old q1_1 q1_2 q1_5 (by decide) (by decide) (by decide) (by decide) (by decide) (by decide) (by decide) (by decide) (by decide) (by decide) (by decide) (by decide) (by decide) (by decide) (by decide) (by decide)) q1_1 (tw85 H) (tw86 H) (Or.inl (tw88 H)) (tw88 H) (tw87 H) (tw34 H) (tw89 H) (by decide) (lenOf pd9 rfl) rfl rfl (by decide) (by decide) rfl sf0 all0
  clear W2
  obtain ⟨_, r03, rfl, q3_1, q3_2, q3_3, q3_4, q3_5, q3_6⟩ := hQ3
  have z3 : h1.size ≤ h3.size := K3.1
  replace W3 := W3.cast (st' := [(.ref r03)]) rfl
  obtain ⟨V4, h4, r4, W4, K4, hQ4, SF4⟩ := W3.callS (pc' := 32) (argsL := [(.ref r03)]) (rest := []) (Wd := 0) (cells' := 16) (slots' := 50) (y := N46) d2316_44_29 (m111_create H r03 (8000000000 : Int64) (9 : Int32) (9 : Int64) (0 : Int64) (0 : Int32) (0 : Int64) (1 : Int64) (1 : Int32) (-589934592 : Int32) (1 : Int64) (1 : Int64) (4294967296 : Int64) (-589934592 : Int64) (3705032704 : Int64) (8000000000 : Int64) (8 : Int64) (8 : Int32) (8 : Int64) (8000000000 : Int64) (0 : Int64) (0 : Int32) (0 : Int64) (0 : Int64) (0 : Int32) (2 : Int32) (1 : Int32) (28 : Int32) (4 : Int32) (4 : Int32) (5 : Int32) (8 : Int64) (8 : Int64) (8 : Int64) (0 : Int64) (8 : Int64) (0 : Int64) (8 : Int64) h3 W3.old q3_1 q3_2 q3_3 q3_5 (by decide) (by decide) (by decide) (by decide) (by decide) (by decide) (by decide) (by decide) (by decide) (by decide) (by decide) (by decide) (by decide) (by decide) (by decide) (by decide) (by decide) (by decide) (by decide) (by decide) (by decide) (by decide) (by decide) (by decide) (by decide) (by decide) (by decide) (by decide) (by decide) (by decide) (by decide) (by decide) (by decide) (by decide) (by decide) (by decide) (by decide) (by decide) (by decide) (by decide) (by decide) (by decide) (by decide) (by decide) (by decide) (by decide) (by decide) (by decide) (by decide) (by decide) (by decide) (by decide) (by decide)) (tw105 H) (tw106 H) (tw23 H) (tw107 H) (by decide) (lenOf pd32 rfl) rfl rfl (by decide) (by decide) rfl sf0 all0
  clear W3
  obtain ⟨_, r04, rfl, q4_1, q4_2, q4_3, q4_4⟩ := hQ4
  have z4 : h3.size ≤ h4.size := K4.1
  replace W4 := W4.cast (st' := [(.ref r04)]) rfl
  exact W4.aret (t := (.object "java/time/Duration")) d2316_44_32 rfl rfl rfl rfl (by decide) (by decide) (fun V' cv => ⟨r04, rfl, q4_1, q4_2, q4_3, (Nat.le_trans (Nat.le_trans z1 z3) q4_4)⟩)
theorem m136_compare (H : Cx Z a0 gA gK) (u0 u1 : Int64) (h0 : Heap) (hO : Old Z n0 h0) (p0 : (Jvm.Free.XT.cmpL u0 u1) = (0 : Int32)) : Con l Z [] n0 N48 jdk_35_method_42_code 4 (some .int) (Rm 0 0 0 0) #[(.long u0), (.long u1)] h0 [] (fun v h V' => v = some (.int (0 : Int32)) ∧ h0 = h) [] := by
  refine Con.of (a0 := a0) (L0 := #[.val (.long u0), .second, .val (.long u1), .second]) pf48 (fun _ => rfl) all0 hO EW.nil ?_
  intro p e s m below meth c S0 hnm hsf W
  replace W := W.lloadN d35_42_0 rfl rfl
  replace W := W.lloadN d35_42_1 rfl rfl
  replace W := W.lcmp (v := (0 : Int32)) d35_42_2 p0 rfl
  replace W := W.ifT (pc' := 10) d35_42_3 (flt (by decide : ¬ ((0 : Int32) < (0 : Int32)))).2.1 (by decide) (by decide)
  replace W := W.lloadN d35_42_10 rfl rfl
  replace W := W.lloadN d35_42_11 rfl rfl
  replace W := W.lcmp (v := (0 : Int32)) d35_42_12 p0 rfl
  replace W := W.ifF (pc' := 16) d35_42_13 (teq (by decide : (0 : Int32) = (0 : Int32))).2 rfl
  replace W := W.iconst (v := (0 : Int32)) d35_42_16 rfl rfl
  replace W := W.goto (pc' := 21) d35_42_17 (by decide) (by decide)
  exact W.iret (t := .int) d35_42_21 rfl (by simp) rfl (by decide) (by decide) (fun V' cv => ⟨rfl, rfl⟩)
theorem m135_compareTo (H : Cx Z a0 gA gK) (x0 : Addr) (u0 : Int32) (u1 : Int64) (s0 : Int32) (h0 : Heap) (hO : Old Z n0 h0) (F_x0_nanos : Fld Z h0 x0 "java/time/Duration" "nanos" "I" (.int u0)) (F_x0_seconds : Fld Z h0 x0 "java/time/Duration" "seconds" "J" (.long u1)) (p0 : (Jvm.Free.XT.cmpL u1 (8 : Int64)) = (0 : Int32)) (p1 : (u0 - (0 : Int32)) = s0) : Con l Z [] n0 N49 jdk_2316_method_66_code 3 (some .int) (Rm 1 0 0 15) #[(.ref x0), (.ref (gA 1))] h0 [] (fun v h V' => v = some (.int s0) ∧ h0 = h) [] := by
  refine Con.of (a0 := a0) (L0 := #[.val (.ref x0), .val (.ref (gA 1)), .unset]) pf49 (fun _ => rfl) all0 hO EW.nil ?_
  intro p e s m below meth c S0 hnm hsf W
  replace W := W.aloadN d2316_66_0 rfl rfl rfl
  replace W := W.getf d2316_66_1 (tw30 H) Via.refl F_x0_seconds rfl
  replace W := W.aloadN d2316_66_4 rfl rfl rfl
  have f1 := (gf11 H).ext W.old.2
  replace W := W.getf d2316_66_5 (tw30 H) Via.refl f1 rfl
  obtain ⟨V2, h2, r2, W2, K2, hQ2, SF2⟩ := W.callS (pc' := 11) (argsL := [(.long u1), (.long (8 : Int64))]) (rest := []) (Wd := 0) (cells' := 0) (slots' := 0) (y := N48) d2316_66_8 (m136_compare H u1 (8 : Int64) h0 W.old p0) (tw275 H) (tw276 H) (tw277 H) (tw278 H) (by decide) (lenOf pd4 rfl) rfl rfl (by decide) (by decide) rfl sf0 all0
  clear W
  obtain ⟨_, rfl, hs2⟩ := hQ2
  subst hs2
  replace W2 := W2.cast (st' := [(.int (0 : Int32))]) rfl
  replace W2 := W2.istoreN (L' := #[.val (.ref x0), .val (.ref (gA 1)), .val (.int (0 : Int32))]) d2316_66_11 rfl rfl
  replace W2 := W2.iloadN d2316_66_12 rfl rfl
  replace W2 := W2.ifT (pc' := 18) d2316_66_13 (teq (by decide : (0 : Int32) = (0 : Int32))).1 (by decide) (by decide)
  replace W2 := W2.aloadN d2316_66_18 rfl rfl rfl
  replace W2 := W2.getf d2316_66_19 (tw37 H) Via.refl F_x0_nanos rfl
  replace W2 := W2.aloadN d2316_66_22 rfl rfl rfl
  have f3 := (gf10 H).ext W2.old.2
  replace W2 := W2.getf d2316_66_23 (tw37 H) Via.refl f3 rfl
  replace W2 := W2.isub (v := s0) d2316_66_26 p1 rfl
  exact W2.iret (t := .int) d2316_66_27 rfl (by simp) rfl (by decide) (by decide) (fun V' cv => ⟨rfl, rfl⟩)
theorem m103_next (H : Cx Z a0 gA gK) (x0 x1 : Addr) (u0 : Int32) (u1 : Int64) (s0 : Int32) (s1 : Int64) (h0 : Heap) (hO : Old Z n0 h0) (E_x0 : Exa Z h0 x0 "com/example/letters_between_tasks/lettersbetweentasks/service/Backoff") (F_x0_next : Fld Z h0 x0 "com/example/letters_between_tasks/lettersbetweentasks/service/Backoff" "next" "Ljava/time/Duration;" (.ref x1)) (E_x1 : Exa Z h0 x1 "java/time/Duration") (F_x1_nanos : Fld Z h0 x1 "java/time/Duration" "nanos" "I" (.int u0)) (F_x1_seconds : Fld Z h0 x1 "java/time/Duration" "seconds" "J" (.long u1)) (p0 : (u1.toInt32) = s0) (p1 : (u0.toInt64) = s1) (p2 : (Jvm.Free.XT.cmpL u1 (0 : Int64)) = (1 : Int32)) (p3 : (Jvm.Free.XT.cmpL u1 (11 : Int64)) = (-1 : Int32)) (p4 : s0 = (4 : Int32)) (p5 : (Jvm.Free.XT.cmpL s1 (0 : Int64)) = (0 : Int32)) (g_x0 : n0 ≤ x0) : Con l Z [] n0 N50 prog_13_method_2_code 3 (some (.object "java/time/Duration")) (Rm 9 16 50 137) #[(.ref x0)] h0 [x0] (fun v h V' => v = some (.ref x1) ∧ Exa Z h x0 "com/example/letters_between_tasks/lettersbetweentasks/service/Backoff" ∧ Fld Z h x0 "com/example/letters_between_tasks/lettersbetweentasks/service/Backoff" "next" "Ljava/time/Duration;" (.ref (gA 1))) [] := by
  refine Con.of (a0 := a0) (L0 := #[.val (.ref x0), .unset, .unset]) pf50 (fun _ => rfl) (allS g_x0 all0) hO EW.nil ?_
  intro p e s m below meth c S0 hnm hsf W
  replace W := W.aloadN e13_2_0 rfl rfl rfl
  replace W := W.getf e13_2_1 (tw11 H) Via.refl F_x0_next rfl
  replace W := W.astoreN (L' := #[.val (.ref x0), .val (.ref x1), .unset]) e13_2_4 rfl rfl rfl
  replace W := W.aloadN e13_2_5 rfl rfl rfl
  replace W := W.getf e13_2_6 (tw11 H) Via.refl F_x0_next rfl
  replace W := W.ldc2 e13_2_9 (tw18 H) rfl
  obtain ⟨V1, h1, r1, W1, K1, hQ1, SF1⟩ := W.callV (pc' := 15) (argsL := [(.long (2 : Int64))]) (rest := []) (Wd := 0) (cells' := 16) (slots' := 50) (a := x1) (C := "java/time/Duration") (y := N47) (z := N47) e13_2_12 (m104_multipliedBy H x1 (2 : Int64) u0 u1 s0 s1 (2 : Int32) h0 W.old E_x1 F_x1_nanos F_x1_seconds (by decide) (by decide) p0 p1 p2 p3 p4 p5 (by decide) (by decide) (by decide)) E_x1 (tw19 H) (tw20 H) (Or.inl (tw22 H)) (tw22 H) (tw21 H) (tw23 H) (tw24 H) (by decide) (lenOf pd33 rfl) rfl rfl (by decide) (by decide) rfl sf0 all0
  clear W
  obtain ⟨_, r01, rfl, q1_1, q1_2, q1_3, q1_4⟩ := hQ1
  have z1 : h0.size ≤ h1.size := K1.1
  replace W1 := W1.cast (st' := [(.ref r01)]) rfl
  replace W1 := W1.astoreN (L' := #[.val (.ref x0), .val (.ref x1), .val (.ref r01)]) e13_2_15 rfl rfl rfl
  replace W1 := W1.aloadN e13_2_16 rfl rfl rfl
  replace W1 := W1.aloadN e13_2_17 rfl rfl rfl
  replace W1 := W1.gets e13_2_18 (tw268 H) (gf29 H) rfl
  obtain ⟨V2, h2, r2, W2, K2, hQ2, SF2⟩ := W1.callV (pc' := 24) (argsL := [(.ref (gA 1))]) (rest := [(.ref x0)]) (Wd := 1) (cells' := 16) (slots' := 50) (a := r01) (C := "java/time/Duration") (y := N49) (z := N49) e13_2_21 (m135_compareTo H r01 (0 : Int32) (8 : Int64) (0 : Int32) h1 W1.old q1_2 q1_3 (by decide) (by decide)) q1_1 (tw270 H) (tw271 H) (Or.inl (tw273 H)) (tw273 H) (tw272 H) (tw23 H) (tw274 H) (by decide) (lenOf pd34 rfl) rfl rfl (by decide) (by decide) rfl sf0 all0
  clear W1
  obtain ⟨_, rfl, hs2⟩ := hQ2
  subst hs2
  replace W2 := W2.cast (st' := [(.int (0 : Int32)), (.ref x0)]) rfl
  replace W2 := W2.ifT (pc' := 31) e13_2_24 (flt (by decide : ¬ ((0 : Int32) < (0 : Int32)))).2.1 (by decide) (by decide)
  replace W2 := W2.gets e13_2_31 (tw268 H) (gf29 H) rfl
  have f3 := (F_x0_next.keep K1 nin0)
  have e4 := (E_x0.keep K1)
  obtain ⟨h5, W5, w5, SF5⟩ := W2.putf (pc' := 37) (ty := (.object "java/time/Duration")) e13_2_34 (tw11 H) Via.refl f3 e4 (Or.inl (tw12 H)) (tw1 H) (by decide) rfl rfl safe0 (Or.inl (List.mem_of_getElem? (i := 0) rfl)) rfl
  clear W2
  have z5 : h1.size ≤ h5.size := Nat.le_of_eq w5.size.symm
  have f5 := f3.same w5
  replace W5 := W5.aloadN e13_2_37 rfl rfl rfl
  have e6 := (e4.wr w5)
  exact W5.aret (t := (.object "java/time/Duration")) e13_2_38 rfl rfl rfl rfl (by decide) (by decide) (fun V' cv => ⟨rfl, e6, f5⟩)
theorem m140_valueOf (H : Cx Z a0 gA gK) (u0 : Int64) (s0 : Int32) (h0 : Heap) (hO : Old Z n0 h0) (p0 : (Jvm.Free.XT.cmpL u0 (0 : Int64)) = (1 : Int32)) (p1 : (Jvm.Free.XT.cmpL u0 (11 : Int64)) = (-1 : Int32)) (p2 : (u0.toInt32) = s0) (p3 : s0 = (8 : Int32)) : Con l Z [] n0 N1 jdk_17_method_21_code 2 (some (.object "java/math/BigDecimal")) (Rm 0 0 0 0) #[(.long u0)] h0 [] (fun v h V' => v = some (.ref (gA 18)) ∧ h0 = h) [] := by
  refine Con.of (a0 := a0) (L0 := #[.val (.long u0), .second]) pf1 (fun _ => rfl) all0 hO EW.nil ?_
  intro p e s m below meth c S0 hnm hsf W
  replace W := W.lloadN d17_21_0 rfl rfl
  replace W := W.lconst (v := (0 : Int64)) d17_21_1 rfl rfl
  replace W := W.lcmp (v := (1 : Int32)) d17_21_2 p0 rfl
  replace W := W.ifF (pc' := 6) d17_21_3 (flt (by decide : ¬ ((1 : Int32) < (0 : Int32)))).1 rfl
  replace W := W.lloadN d17_21_6 rfl rfl
  replace W := W.gets d17_21_7 (tw36 H) (gf33 H) rfl
  have v1 := (gf38 H).ext W.old.2
  replace W := W.alen d17_21_10 v1 rfl
  replace W := W.i2l (v := (11 : Int64)) d17_21_11 (by decide) rfl
  replace W := W.lcmp (v := (-1 : Int32)) d17_21_12 p1 rfl
  replace W := W.ifF (pc' := 16) d17_21_13 (tlt (by decide : (-1 : Int32) < (0 : Int32))).2.1 rfl
  replace W := W.gets d17_21_16 (tw36 H) (gf33 H) rfl
  replace W := W.lloadN d17_21_19 rfl rfl
  replace W := W.l2i (v := s0) d17_21_20 p2 rfl
  subst p3
  replace W := W.aaload (w := (.ref (gA 18))) d17_21_21 v1 rfl ⟨by decide, by decide⟩ rfl rfl
  exact W.aret (t := (.object "java/math/BigDecimal")) d17_21_22 rfl rfl rfl rfl (by decide) (by decide) (fun V' cv => ⟨rfl, rfl⟩)
theorem m141_add (H : Cx Z a0 gA gK)  (h0 : Heap) (hO : Old Z n0 h0)  : Con l Z [] n0 N10 jdk_17_method_26_code 2 (some (.object "java/math/BigDecimal")) (Rm 6 1 5 97) #[(.ref (gA 18)), (.ref (gA 30))] h0 [] (fun v h V' => ∃ (r0 : Addr), v = some (.ref r0) ∧ Exa Z h r0 "java/math/BigDecimal" ∧ Fld Z h r0 "java/math/BigDecimal" "intCompact" "J" (.long (8000000000 : Int64)) ∧ Fld Z h r0 "java/math/BigDecimal" "intVal" "Ljava/math/BigInteger;" .null ∧ Fld Z h r0 "java/math/BigDecimal" "precision" "I" (.int (0 : Int32)) ∧ Fld Z h r0 "java/math/BigDecimal" "scale" "I" (.int (9 : Int32)) ∧ h0.size ≤ r0) [] := by
  refine Con.of (a0 := a0) (L0 := #[.val (.ref (gA 18)), .val (.ref (gA 30))]) pf10 (fun _ => rfl) all0 hO EW.nil ?_
  intro p e s m below meth c S0 hnm hsf W
  replace W := W.aloadN d17_26_0 rfl rfl rfl
  have f1 := (gf20 H).ext W.old.2
  replace W := W.getf d17_26_1 (tw60 H) Via.refl f1 rfl
  replace W := W.ldc2 d17_26_4 (tw44 H) rfl
  replace W := W.lcmp (v := (1 : Int32)) d17_26_7 (by decide) rfl
  replace W := W.ifF (pc' := 11) d17_26_8 (feq (by decide : ¬ ((1 : Int32) = (0 : Int32)))).1 rfl
  replace W := W.aloadN d17_26_11 rfl rfl rfl
  have f2 := (gf24 H).ext W.old.2
  replace W := W.getf d17_26_12 (tw60 H) Via.refl f2 rfl
  replace W := W.ldc2 d17_26_15 (tw44 H) rfl
  replace W := W.lcmp (v := (1 : Int32)) d17_26_18 (by decide) rfl
  replace W := W.ifF (pc' := 22) d17_26_19 (feq (by decide : ¬ ((1 : Int32) = (0 : Int32)))).1 rfl
  replace W := W.aloadN d17_26_22 rfl rfl rfl
  replace W := W.getf d17_26_23 (tw60 H) Via.refl f1 rfl
  replace W := W.aloadN d17_26_26 rfl rfl rfl
  have f3 := (gf21 H).ext W.old.2
  replace W := W.getf d17_26_27 (tw56 H) Via.refl f3 rfl
  replace W := W.aloadN d17_26_30 rfl rfl rfl
  replace W := W.getf d17_26_31 (tw60 H) Via.refl f2 rfl
  replace W := W.aloadN d17_26_34 rfl rfl rfl
  have f4 := (gf25 H).ext W.old.2
  replace W := W.getf d17_26_35 (tw56 H) Via.refl f4 rfl
  obtain ⟨V5, h5, r5, W5, K5, hQ5, SF5⟩ := W.callS (pc' := 41) (argsL := [(.long (8 : Int64)), (.int (0 : Int32)), (.long (0 : Int64)), (.int (9 : Int32))]) (rest := []) (Wd := 0) (cells' := 1) (slots' := 5) (y := N9) d17_26_38 (m97_add H (8 : Int64) (0 : Int32) (0 : Int64) (9 : Int32) (0 : Int64) (9 : Int64) (-9 : Int64) (9 : Int64) (9 : Int32) (9 : Int64) (8000000000 : Int64) (8000000000 : Int64) (0 : Int64) (8000000000 : Int64) (0 : Int64) h0 W.old (by decide) (by decide) (by decide) (by decide) (by decide) (by decide) (by decide) (by decide) (by decide) (by decide) (by decide) (by decide) (by decide) (by decide) (by decide) (by decide) (by decide) (by decide) (by decide) (by decide) (by decide) (by decide) (by decide) (by decide)) (tw69 H) (tw70 H) (tw34 H) (tw71 H) (by decide) (lenOf pd8 rfl) rfl rfl (by decide) (by decide) rfl sf0 all0
  clear W
  obtain ⟨_, r05, rfl, q5_1, q5_2, q5_3, q5_4, q5_5, q5_6⟩ := hQ5
  have z5 : h0.size ≤ h5.size := K5.1
  replace W5 := W5.cast (st' := [(.ref r05)]) rfl
  exact W5.aret (t := (.object "java/math/BigDecimal")) d17_26_41 rfl rfl rfl rfl (by decide) (by decide) (fun V' cv => ⟨r05, rfl, q5_1, q5_2, q5_3, q5_4, q5_5, q5_6⟩)
theorem m139_toBigDecimalSeconds (H : Cx Z a0 gA gK)  (h0 : Heap) (hO : Old Z n0 h0)  : Con l Z [] n0 N11 jdk_2316_method_47_code 1 (some (.object "java/math/BigDecimal")) (Rm 7 1 5 110) #[(.ref (gA 1))] h0 [] (fun v h V' => ∃ (r0 : Addr), v = some (.ref r0) ∧ Exa Z h r0 "java/math/BigDecimal" ∧ Fld Z h r0 "java/math/BigDecimal" "intCompact" "J" (.long (8000000000 : Int64)) ∧ Fld Z h r0 "java/math/BigDecimal" "intVal" "Ljava/math/BigInteger;" .null ∧ Fld Z h r0 "java/math/BigDecimal" "precision" "I" (.int (0 : Int32)) ∧ Fld Z h r0 "java/math/BigDecimal" "scale" "I" (.int (9 : Int32)) ∧ h0.size ≤ r0) [] := by
  refine Con.of (a0 := a0) (L0 := #[.val (.ref (gA 1))]) pf11 (fun _ => rfl) all0 hO EW.nil ?_
  intro p e s m below meth c S0 hnm hsf W
  replace W := W.aloadN d2316_47_0 rfl rfl rfl
  have f1 := (gf11 H).ext W.old.2
  replace W := W.getf d2316_47_1 (tw30 H) Via.refl f1 rfl
  obtain ⟨V2, h2, r2, W2, K2, hQ2, SF2⟩ := W.callS (pc' := 7) (argsL := [(.long (8 : Int64))]) (rest := []) (Wd := 0) (cells' := 0) (slots' := 0) (y := N1) d2316_47_4 (m140_valueOf H (8 : Int64) (8 : Int32) h0 W.old (by decide) (by decide) (by decide) (by decide)) (tw32 H) (tw33 H) (tw34 H) (tw35 H) (by decide) (lenOf pd1 rfl) rfl rfl (by decide) (by decide) rfl sf0 all0
  clear W
  obtain ⟨_, rfl, hs2⟩ := hQ2
  subst hs2
  replace W2 := W2.cast (st' := [(.ref (gA 18))]) rfl
  replace W2 := W2.aloadN d2316_47_7 rfl rfl rfl
  have f3 := (gf10 H).ext W2.old.2
  replace W2 := W2.getf d2316_47_8 (tw37 H) Via.refl f3 rfl
  replace W2 := W2.i2l (v := (0 : Int64)) d2316_47_11 (by decide) rfl
  replace W2 := W2.bipush (v := (9 : Int32)) d2316_47_12 rfl rfl
  obtain ⟨V4, h4, r4, W4, K4, hQ4, SF4⟩ := W2.callS (pc' := 17) (argsL := [(.long (0 : Int64)), (.int (9 : Int32))]) (rest := [(.ref (gA 18))]) (Wd := 1) (cells' := 0) (slots' := 0) (y := N4) d2316_47_14 (m77_valueOf H (0 : Int64) (9 : Int32) h0 W2.old (by decide) (by decide) (by decide) (by decide) (by decide)) (tw39 H) (tw40 H) (tw34 H) (tw41 H) (by decide) (lenOf pd3 rfl) rfl rfl (by decide) (by decide) rfl sf0 all0
  clear W2
  obtain ⟨_, rfl, hs4⟩ := hQ4
  subst hs4
  replace W4 := W4.cast (st' := [(.ref (gA 30)), (.ref (gA 18))]) rfl
  have e5 := (gf6 H).ext W4.old.2
  obtain ⟨V6, h6, r6, W6, K6, hQ6, SF6⟩ := W4.callV (pc' := 20) (argsL := [(.ref (gA 30))]) (rest := []) (Wd := 0) (cells' := 1) (slots' := 5) (a := (gA 18)) (C := "java/math/BigDecimal") (y := N10) (z := N10) d2316_47_17 (m141_add H h0 W4.old) e5 (tw64 H) (tw65 H) (Or.inl (tw67 H)) (tw67 H) (tw66 H) (tw34 H) (tw68 H) (by decide) (lenOf pd9 rfl) rfl rfl (by decide) (by decide) rfl sf0 all0
  clear W4
  obtain ⟨_, r06, rfl, q6_1, q6_2, q6_3, q6_4, q6_5, q6_6⟩ := hQ6
  have z6 : h0.size ≤ h6.size := K6.1
  replace W6 := W6.cast (st' := [(.ref r06)]) rfl
  exact W6.aret (t := (.object "java/math/BigDecimal")) d2316_47_20 rfl rfl rfl rfl (by decide) (by decide) (fun V' cv => ⟨r06, rfl, q6_1, q6_2, q6_3, q6_4, q6_5, q6_6⟩)
theorem m145_numberOfLeadingZeros (H : Cx Z a0 gA gK) (u0 s0 s1 s2 : Int32) (h0 : Heap) (hO : Old Z n0 h0) (p0 : (0 : Int32) < u0) (p1 : u0 < (65536 : Int32)) (p2 : u0 < (256 : Int32)) (p3 : ¬ (u0 < (16 : Int32))) (p4 : (Jvm.Free.XT.ushr u0 (4 : Int32)) = s0) (p5 : s0 < (4 : Int32)) (p6 : (Jvm.Free.XT.ushr s0 (1 : Int32)) = s1) (p7 : ((27 : Int32) - s1) = s2) : Con l Z [] n0 N33 jdk_33_method_47_code 2 (some .int) (Rm 0 0 0 0) #[(.int u0)] h0 [] (fun v h V' => v = some (.int s2) ∧ h0 = h) [] := by
  refine Con.of (a0 := a0) (L0 := #[.val (.int u0), .unset]) pf33 (fun _ => rfl) all0 hO EW.nil ?_
  intro p e s m below meth c S0 hnm hsf W
  replace W := W.iloadN d33_47_0 rfl rfl
  replace W := W.ifT (pc' := 15) d33_47_1 (tlt p0).2.2.1 (by decide) (by decide)
  replace W := W.bipush (v := (31 : Int32)) d33_47_15 rfl rfl
  replace W := W.istoreN (L' := #[.val (.int u0), .val (.int (31 : Int32))]) d33_47_17 rfl rfl
  replace W := W.iloadN d33_47_18 rfl rfl
  replace W := W.ldcW d33_47_19 (tw223 H) rfl
  replace W := W.icmpT (pc' := 33) d33_47_22 (tlt p1).1 (by decide) (by decide)
  replace W := W.iloadN d33_47_33 rfl rfl
  replace W := W.sipush (v := (256 : Int32)) d33_47_34 rfl rfl
  replace W := W.icmpT (pc' := 48) d33_47_37 (tlt p2).1 (by decide) (by decide)
  replace W := W.iloadN d33_47_48 rfl rfl
  replace W := W.bipush (v := (16 : Int32)) d33_47_49 rfl rfl
  replace W := W.icmpF (pc' := 54) d33_47_51 (flt p3).1 rfl
  replace W := W.iinc (v := (27 : Int32)) (L' := #[.val (.int u0), .val (.int (27 : Int32))]) d33_47_54 rfl (by decide) rfl rfl
  replace W := W.iloadN d33_47_57 rfl rfl
  replace W := W.iconst (v := (4 : Int32)) d33_47_58 rfl rfl
  replace W := W.iushr (v := s0) d33_47_59 p4 rfl
  replace W := W.istoreN (L' := #[.val (.int s0), .val (.int (27 : Int32))]) d33_47_60 rfl rfl
  replace W := W.iloadN d33_47_61 rfl rfl
  replace W := W.iconst (v := (4 : Int32)) d33_47_62 rfl rfl
  replace W := W.icmpT (pc' := 73) d33_47_63 (tlt p5).1 (by decide) (by decide)
  replace W := W.iloadN d33_47_73 rfl rfl
  replace W := W.iloadN d33_47_74 rfl rfl
  replace W := W.iconst (v := (1 : Int32)) d33_47_75 rfl rfl
  replace W := W.iushr (v := s1) d33_47_76 p6 rfl
  replace W := W.isub (v := s2) d33_47_77 p7 rfl
  exact W.iret (t := .int) d33_47_78 rfl (by simp) rfl (by decide) (by decide) (fun V' cv => ⟨rfl, rfl⟩)
theorem m144_bitLengthForInt (H : Cx Z a0 gA gK) (u0 s0 s1 s2 s3 : Int32) (h0 : Heap) (hO : Old Z n0 h0) (p0 : (Jvm.Free.XT.ushr u0 (4 : Int32)) = s0) (p1 : (Jvm.Free.XT.ushr s0 (1 : Int32)) = s1) (p2 : ((27 : Int32) - s1) = s2) (p3 : (0 : Int32) < u0) (p4 : u0 < (65536 : Int32)) (p5 : u0 < (256 : Int32)) (p6 : ¬ (u0 < (16 : Int32))) (p7 : s0 < (4 : Int32)) (p8 : ((32 : Int32) - s2) = s3) : Con l Z [] n0 N34 jdk_2097_method_74_code 1 (some .int) (Rm 1 0 0 14) #[(.int u0)] h0 [] (fun v h V' => v = some (.int s3) ∧ h0 = h) [] := by
  refine Con.of (a0 := a0) (L0 := #[.val (.int u0)]) pf34 (fun _ => rfl) all0 hO EW.nil ?_
  intro p e s m below meth c S0 hnm hsf W
  replace W := W.bipush (v := (32 : Int32)) d2097_74_0 rfl rfl
  replace W := W.iloadN d2097_74_2 rfl rfl
  obtain ⟨V1, h1, r1, W1, K1, hQ1, SF1⟩ := W.callS (pc' := 6) (argsL := [(.int u0)]) (rest := [(.int (32 : Int32))]) (Wd := 1) (cells' := 0) (slots' := 0) (y := N33) d2097_74_3 (m145_numberOfLeadingZeros H u0 s0 s1 s2 h0 W.old p3 p4 p5 p6 p0 p7 p1 p2) (tw219 H) (tw220 H) (tw221 H) (tw222 H) (by decide) (lenOf pd26 rfl) rfl rfl (by decide) (by decide) rfl sf0 all0
  clear W
  obtain ⟨_, rfl, hs1⟩ := hQ1
  subst hs1
  replace W1 := W1.cast (st' := [(.int s2), (.int (32 : Int32))]) rfl
  replace W1 := W1.isub (v := s3) d2097_74_6 p8 rfl
  exact W1.iret (t := .int) d2097_74_7 rfl (by simp) rfl (by decide) (by decide) (fun V' cv => ⟨rfl, rfl⟩)
theorem m143_bitLength (H : Cx Z a0 gA gK) (x0 x1 : Addr) (kp0 : ClassId) (u0 u1 u2 s0 s1 s2 s3 s4 s5 s6 : Int32) (h0 : Heap) (hO : Old Z n0 h0) (E_x0 : Exa Z h0 x0 "java/math/BigInteger") (F_x0_bitLengthPlusOne : Fld Z h0 x0 "java/math/BigInteger" "bitLengthPlusOne" "I" (.int u0)) (F_x0_mag : Fld Z h0 x0 "java/math/BigInteger" "mag" "[I" (.ref x1)) (F_x0_signum : Fld Z h0 x0 "java/math/BigInteger" "signum" "I" (.int u1)) (V_x1 : Arv Z h0 x1 kp0 .int (1 : Int32) [(.int u2)] (.int (0 : Int32))) (p0 : (u0 - (1 : Int32)) = s0) (p1 : s0 = (-1 : Int32)) (p2 : (Jvm.Free.XT.ushr u2 (4 : Int32)) = s1) (p3 : (Jvm.Free.XT.ushr s1 (1 : Int32)) = s2) (p4 : ((27 : Int32) - s2) = s3) (p5 : ((32 : Int32) - s3) = s4) (p6 : (0 : Int32) < u2) (p7 : u2 < (65536 : Int32)) (p8 : u2 < (256 : Int32)) (p9 : ¬ (u2 < (16 : Int32))) (p10 : s1 < (4 : Int32)) (p11 : ((0 : Int32) + s4) = s5) (p12 : ¬ (u1 < (0 : Int32))) (p13 : (s5 + (1 : Int32)) = s6) (g_x0 : n0 ≤ x0) : Con l Z [] n0 N35 jdk_2097_method_118_code 7 (some .int) (Rm 2 0 0 27) #[(.ref x0)] h0 [x0] (fun v h V' => v = some (.int s5) ∧ Exa Z h x0 "java/math/BigInteger" ∧ Fld Z h x0 "java/math/BigInteger" "bitLengthPlusOne" "I" (.int s6) ∧ Fld Z h x0 "java/math/BigInteger" "mag" "[I" (.ref x1) ∧ Fld Z h x0 "java/math/BigInteger" "signum" "I" (.int u1)) [] := by
  refine Con.of (a0 := a0) (L0 := #[.val (.ref x0), .unset, .unset, .unset, .unset, .unset, .unset]) pf35 (fun _ => rfl) (allS g_x0 all0) hO EW.nil ?_
  intro p e s m below meth c S0 hnm hsf W
  replace W := W.aloadN d2097_118_0 rfl rfl rfl
  replace W := W.getf d2097_118_1 (tw214 H) Via.refl F_x0_bitLengthPlusOne rfl
  replace W := W.iconst (v := (1 : Int32)) d2097_118_4 rfl rfl
  replace W := W.isub (v := s0) d2097_118_5 p0 rfl
  replace W := W.istoreN (L' := #[.val (.ref x0), .val (.int s0), .unset, .unset, .unset, .unset, .unset]) d2097_118_6 rfl rfl
  replace W := W.iloadN d2097_118_7 rfl rfl
  replace W := W.iconst (v := (-1 : Int32)) d2097_118_8 rfl rfl
  replace W := W.icmpF (pc' := 12) d2097_118_9 (teq p1).2 rfl
  replace W := W.aloadN d2097_118_12 rfl rfl rfl
  replace W := W.getf d2097_118_13 (tw144 H) Via.refl F_x0_mag rfl
  replace W := W.astoreN (L' := #[.val (.ref x0), .val (.int s0), .val (.ref x1), .unset, .unset, .unset, .unset]) d2097_118_16 rfl rfl rfl
  replace W := W.aloadN d2097_118_17 rfl rfl rfl
  replace W := W.alen d2097_118_18 V_x1 rfl
  replace W := W.istoreN (L' := #[.val (.ref x0), .val (.int s0), .val (.ref x1), .val (.int (1 : Int32)), .unset, .unset, .unset]) d2097_118_19 rfl rfl
  replace W := W.iloadN d2097_118_20 rfl rfl
  replace W := W.ifT (pc' := 29) d2097_118_21 (feq (by decide : ¬ ((1 : Int32) = (0 : Int32)))).2 (by decide) (by decide)
  replace W := W.iloadN d2097_118_29 rfl rfl
  replace W := W.iconst (v := (1 : Int32)) d2097_118_30 rfl rfl
  replace W := W.isub (v := (0 : Int32)) d2097_118_31 (by decide) rfl
  replace W := W.iconst (v := (5 : Int32)) d2097_118_32 rfl rfl
  replace W := W.ishl (v := (0 : Int32)) d2097_118_33 (by decide) rfl
  replace W := W.aloadN d2097_118_34 rfl rfl rfl
  replace W := W.getf d2097_118_35 (tw144 H) Via.refl F_x0_mag rfl
  replace W := W.iconst (v := (0 : Int32)) d2097_118_38 rfl rfl
  replace W := W.iaload (w := (.int u2)) d2097_118_39 V_x1 ⟨by decide, by decide⟩ rfl rfl
  obtain ⟨V1, h1, r1, W1, K1, hQ1, SF1⟩ := W.callS (pc' := 43) (argsL := [(.int u2)]) (rest := [(.int (0 : Int32))]) (Wd := 1) (cells' := 0) (slots' := 0) (y := N34) d2097_118_40 (m144_bitLengthForInt H u2 s1 s2 s3 s4 h0 W.old p2 p3 p4 p6 p7 p8 p9 p10 p5) (tw216 H) (tw217 H) (tw130 H) (tw218 H) (by decide) (lenOf pd26 rfl) rfl rfl (by decide) (by decide) rfl sf0 all0
  clear W
  obtain ⟨_, rfl, hs1⟩ := hQ1
  subst hs1
  replace W1 := W1.cast (st' := [(.int s4), (.int (0 : Int32))]) rfl
  replace W1 := W1.iadd (v := s5) d2097_118_43 p11 rfl
  replace W1 := W1.istore (L' := #[.val (.ref x0), .val (.int s0), .val (.ref x1), .val (.int (1 : Int32)), .val (.int s5), .unset, .unset]) d2097_118_44 rfl rfl
  replace W1 := W1.aloadN d2097_118_46 rfl rfl rfl
  replace W1 := W1.getf d2097_118_47 (tw141 H) Via.refl F_x0_signum rfl
  replace W1 := W1.ifT (pc' := 128) d2097_118_50 (flt p12).2.1 (by decide) (by decide)
  replace W1 := W1.iload d2097_118_128 rfl rfl
  replace W1 := W1.istoreN (L' := #[.val (.ref x0), .val (.int s5), .val (.ref x1), .val (.int (1 : Int32)), .val (.int s5), .unset, .unset]) d2097_118_130 rfl rfl
  replace W1 := W1.aloadN d2097_118_131 rfl rfl rfl
  replace W1 := W1.iloadN d2097_118_132 rfl rfl
  replace W1 := W1.iconst (v := (1 : Int32)) d2097_118_133 rfl rfl
  replace W1 := W1.iadd (v := s6) d2097_118_134 p13 rfl
  obtain ⟨h2, W2, w2, SF2⟩ := W1.putf (pc' := 138) (ty := .int) d2097_118_135 (tw214 H) Via.refl F_x0_bitLengthPlusOne E_x0 (Or.inl (tw215 H)) (tw134 H) (by decide) rfl rfl safe0 (Or.inl (List.mem_of_getElem? (i := 0) rfl)) rfl
  clear W1
  have z2 : h0.size ≤ h2.size := Nat.le_of_eq w2.size.symm
  have f2 := F_x0_bitLengthPlusOne.same w2
  replace W2 := W2.iloadN d2097_118_138 rfl rfl
  have e3 := (E_x0.wr w2)
  have f4 := (F_x0_mag.other w2 (Or.inr (sn22 H)))
  have f5 := (F_x0_signum.other w2 (Or.inr (sn23 H)))
  exact W2.iret (t := .int) d2097_118_139 rfl (by simp) rfl (by decide) (by decide) (fun V' cv => ⟨rfl, e3, f2, f4, f5⟩)
theorem m142_create (H : Cx Z a0 gA gK) (x0 : Addr) (u0 : Int64) (u2 : Int32) (s0 s1 : Int64) (s2 : Int32) (s3 s4 : Int64) (s5 s6 : Int32) (s7 s8 s9 s10 s11 s12 s13 : Int64) (s14 : Int32) (s15 s16 s17 : Int64) (s18 : Int32) (s19 s20 : Int64) (s21 s22 s23 s24 s25 s26 s27 : Int32) (s28 s29 s30 s31 s32 s33 s34 : Int64) (h0 : Heap) (hO : Old Z n0 h0) (E_x0 : Exa Z h0 x0 "java/math/BigDecimal") (F_x0_intCompact : Fld Z h0 x0 "java/math/BigDecimal" "intCompact" "J" (.long u0)) (F_x0_intVal : Fld Z h0 x0 "java/math/BigDecimal" "intVal" "Ljava/math/BigInteger;" .null) (F_x0_scale : Fld Z h0 x0 "java/math/BigDecimal" "scale" "I" (.int u2)) (p0 : (u2.toInt64) = s0) (p1 : (s0 - (9 : Int64)) = s1) (p2 : (s1.toInt32) = s2) (p3 : (s2.toInt64) = s3) (p4 : (Jvm.Free.XT.cmpL s3 s1) = (0 : Int32)) (p5 : ¬ (s2 < (0 : Int32))) (p6 : (Jvm.Free.XT.ushrL u0 (32 : Int32)) = s4) (p7 : (s4.toInt32) = s5) (p8 : (u0.toInt32) = s6) (p9 : (0 : Int32) = s2) (p10 : (Jvm.Free.XT.cmpL u0 (0 : Int64)) = (1 : Int32)) (p11 : (Jvm.Free.XT.cmpL u0 (16 : Int64)) = (1 : Int32)) (p12 : ¬ (s5 = (0 : Int32))) (p13 : (s5.toInt64) = s7) (p14 : (s7 &&& (4294967295 : Int64)) = s8) (p15 : (s8 <<< ((32 : Int32).toInt64 &&& 63)) = s9) (p16 : (s6.toInt64) = s10) (p17 : (s10 &&& (4294967295 : Int64)) = s11) (p18 : (s9 ||| s11) = s12) (p19 : (s12 / (1000000000 : Int64)) = s13) (p20 : (s13.toInt32) = s14) (p21 : (s14.toInt64) = s15) (p22 : (s15 * (1000000000 : Int64)) = s16) (p23 : (s12 - s16) = s17) (p24 : (s17.toInt32) = s18) (p25 : (s18.toInt64) = s19) (p26 : (s19 &&& (4294967295 : Int64)) = s20) (p27 : (s18 - (s18 / (1000000000 : Int32)) * (1000000000 : Int32)) = s21) (p28 : (Jvm.Free.XT.cmpL s8 (1000000000 : Int64)) = (-1 : Int32)) (p29 : (Jvm.Free.XT.cmpL s12 (0 : Int64)) = (1 : Int32)) (p30 : ¬ (s14 = (0 : Int32))) (p31 : s21 = (0 : Int32)) (p32 : (Jvm.Free.XT.ushr s14 (4 : Int32)) = s22) (p33 : (Jvm.Free.XT.ushr s22 (1 : Int32)) = s23) (p34 : ((27 : Int32) - s23) = s24) (p35 : ((32 : Int32) - s24) = s25) (p36 : ((0 : Int32) + s25) = s26) (p37 : (s26 + (1 : Int32)) = s27) (p38 : (0 : Int32) < s14) (p39 : s14 < (65536 : Int32)) (p40 : s14 < (256 : Int32)) (p41 : ¬ (s14 < (16 : Int32))) (p42 : s22 < (4 : Int32)) (p43 : ¬ ((63 : Int32) < s26)) (p44 : (s15 &&& (4294967295 : Int64)) = s28) (p45 : ((0 : Int64) + s28) = s29) (p46 : (s29 + (0 : Int64)) = s30) (p47 : (s29 ^^^ s30) = s31) (p48 : ((0 : Int64) ^^^ s30) = s32) (p49 : (s31 &&& s32) = s33) (p50 : (s30 ||| (0 : Int64)) = s34) (p51 : (Jvm.Free.XT.cmpL s33 (0 : Int64)) = (0 : Int32)) (p52 : (Jvm.Free.XT.cmpL s34 (0 : Int64)) = (1 : Int32)) : Con l Z [] n0 N46 jdk_2316_method_48_code 3 (some (.object "java/time/Duration")) (Rm 7 14 40 109) #[(.ref x0)] h0 [] (fun v h V' => ∃ (r0 : Addr), v = some (.ref r0) ∧ Exa Z h r0 "java/time/Duration" ∧ Fld Z h r0 "java/time/Duration" "nanos" "I" (.int (0 : Int32)) ∧ Fld Z h r0 "java/time/Duration" "seconds" "J" (.long s30) ∧ h0.size ≤ r0) [] := by
  refine Con.of (a0 := a0) (L0 := #[.val (.ref x0), .unset, .unset]) pf46 (fun _ => rfl) all0 hO EW.nil ?_
  intro p e s m below meth c S0 hnm hsf W
  replace W := W.aloadN d2316_48_0 rfl rfl rfl
  replace W := W.bipush (v := (9 : Int32)) d2316_48_1 rfl rfl
  obtain ⟨V1, h1, r1, W1, K1, hQ1, SF1⟩ := W.callV (pc' := 6) (argsL := [(.int (9 : Int32))]) (rest := []) (Wd := 0) (cells' := 1) (slots' := 5) (a := x0) (C := "java/math/BigDecimal") (y := N17) (z := N17) d2316_48_3 (m67_movePointRight H x0 (9 : Int32) u0 u2 s0 (9 : Int64) s1 s2 s3 h0 W.old E_x0 F_x0_intCompact F_x0_intVal F_x0_scale (by decide) p0 (by decide) p1 p2 p3 p4 p5) E_x0 (tw108 H) (tw109 H) (Or.inl (tw111 H)) (tw111 H) (tw110 H) (tw34 H) (tw112 H) (by decide) (lenOf pd13 rfl) rfl rfl (by decide) (by decide) rfl sf0 all0
  clear W
  obtain ⟨_, r01, rfl, q1_1, q1_2, q1_3, q1_4, q1_5, q1_6⟩ := hQ1
  have z1 : h0.size ≤ h1.size := K1.1
  replace W1 := W1.cast (st' := [(.ref r01)]) rfl
  obtain ⟨V2, h2, r2, W2, K2, hQ2, SF2⟩ := W1.callV (pc' := 9) (argsL := []) (rest := []) (Wd := 0) (cells' := 3) (slots' := 13) (a := r01) (C := "java/math/BigDecimal") (y := N22) (z := N22) d2316_48_6 (m112_toBigIntegerExact H r01 u0 s2 s4 s5 s6 h1 W1.old q1_1 q1_2 q1_3 q1_5 p9 p6 p7 p8 p10 p11 p12) q1_1 (tw113 H) (tw114 H) (Or.inl (tw116 H)) (tw116 H) (tw115 H) (tw34 H) (tw117 H) (by decide) (lenOf pd17 rfl) rfl rfl (by decide) (by decide) rfl sf0 all0
  clear W1
  obtain ⟨_, r02, r12, kr02, rfl, q2_1, q2_2, q2_3, q2_4, q2_5, q2_6, q2_7, q2_8⟩ := hQ2
  have z2 : h1.size ≤ h2.size := K2.1
  replace W2 := W2.cast (st' := [(.ref r02)]) rfl
  replace W2 := W2.astoreN (L' := #[.val (.ref x0), .val (.ref r02), .unset]) d2316_48_9 rfl rfl rfl
  replace W2 := W2.aloadN d2316_48_10 rfl rfl rfl
  replace W2 := W2.gets d2316_48_11 (tw146 H) (gf35 H) rfl
  obtain ⟨V3, h3, r3, W3, K3, hQ3, SF3⟩ := W2.callV (pc' := 17) (argsL := [(.ref (gA 2))]) (rest := []) (Wd := 0) (cells' := 13) (slots' := 38) (a := r02) (C := "java/math/BigInteger") (y := N32) (z := N32) d2316_48_14 (m117_divideAndRemainder H r02 r12 kr02 (1 : Int32) s5 s6 s7 s8 s9 s10 s11 s12 s13 s14 s15 s16 s17 s18 s19 s20 s21 h2 W2.old q2_1 q2_3 q2_4 q2_6 q2_7 p13 p14 p15 p16 p17 p18 p19 p20 p21 p22 p23 p24 p25 p26 p27 p28 p29 p30 p31 (by decide)) q2_1 (tw147 H) (tw148 H) (Or.inl (tw150 H)) (tw150 H) (tw149 H) (tw130 H) (tw151 H) (by decide) (lenOf pd25 rfl) rfl rfl (by decide) (by decide) rfl sf0 all0
  clear W2
  obtain ⟨_, r03, r13, r23, kr03, kr13, rfl, q3_1, q3_2, q3_3, q3_4, q3_5, q3_6, q3_7, q3_8, q3_9, q3_10, q3_11⟩ := hQ3
  have z3 : h2.size ≤ h3.size := K3.1
  replace W3 := W3.cast (st' := [(.ref r03)]) rfl
  replace W3 := W3.astoreN (L' := #[.val (.ref x0), .val (.ref r02), .val (.ref r03)]) d2316_48_17 rfl rfl rfl
  replace W3 := W3.aloadN d2316_48_18 rfl rfl rfl
  replace W3 := W3.iconst (v := (0 : Int32)) d2316_48_19 rfl rfl
  replace W3 := W3.aaload (w := (.ref r13)) d2316_48_20 q3_2 rfl ⟨by decide, by decide⟩ rfl rfl
  obtain ⟨V4, h4, r4, W4, K4, hQ4, SF4⟩ := W3.callV (pc' := 24) (argsL := []) (rest := []) (Wd := 0) (cells' := 13) (slots' := 38) (a := r13) (C := "java/math/BigInteger") (y := N35) (z := N35) d2316_48_21 (m143_bitLength H r13 r23 kr13 (0 : Int32) (1 : Int32) s14 (-1 : Int32) s22 s23 s24 s25 s26 s27 h3 W3.old q3_4 q3_5 q3_6 q3_7 q3_10 (by decide) (by decide) p32 p33 p34 p35 p38 p39 p40 p41 p42 p36 (by decide) p37 (Nat.le_trans W3.1.2.2.2.2.2.2.2.1 (Nat.le_trans (Nat.le_trans z1 z2) q3_8))) q3_4 (tw209 H) (tw210 H) (Or.inl (tw212 H)) (tw212 H) (tw211 H) (tw130 H) (tw213 H) (by decide) (lenOf pd27 rfl) rfl rfl (by decide) (by decide) rfl (sfS safe0 sf0) (allS (Or.inr (Nat.le_trans (Nat.le_trans z1 z2) q3_8)) all0)
  clear W3
  obtain ⟨_, rfl, q4_1, q4_2, q4_3, q4_4⟩ := hQ4
  have z4 : h3.size ≤ h4.size := K4.1
  replace W4 := W4.cast (st' := [(.int s26)]) rfl
  replace W4 := W4.bipush (v := (63 : Int32)) d2316_48_24 rfl rfl
  replace W4 := W4.icmpT (pc' := 57) d2316_48_26 (flt p43).2.2.2 (by decide) (by decide)
  replace W4 := W4.aloadN d2316_48_57 rfl rfl rfl
  replace W4 := W4.iconst (v := (0 : Int32)) d2316_48_58 rfl rfl
  have v5 := (q3_2.keep K4 (ninS (Exa.ne (q3_1.keep K4) q4_1 (by decide)) nin0))
  replace W4 := W4.aaload (w := (.ref r13)) d2316_48_59 v5 rfl ⟨by decide, by decide⟩ rfl rfl
  have v6 := (q3_10.keep K4 (ninS (Exa.ne (q3_9.keep K4) q4_1 (by decide)) nin0))
  obtain ⟨V7, h7, r7, W7, K7, hQ7, SF7⟩ := W4.callV (pc' := 63) (argsL := []) (rest := []) (Wd := 0) (cells' := 13) (slots' := 38) (a := r13) (C := "java/math/BigInteger") (y := N38) (z := N38) d2316_48_60 (m51_longValue H r13 r23 kr13 (1 : Int32) s14 s15 s28 s29 h4 W4.old q4_1 q4_3 q4_4 v6 (by decide) p21 p44 p45) q4_1 (tw224 H) (tw225 H) (Or.inl (tw227 H)) (tw227 H) (tw226 H) (tw130 H) (tw228 H) (by decide) (lenOf pd28 rfl) rfl rfl (by decide) (by decide) rfl sf0 all0
  clear W4
  obtain ⟨_, rfl, hs7⟩ := hQ7
  subst hs7
  replace W7 := W7.cast (st' := [(.long s29)]) rfl
  replace W7 := W7.aloadN d2316_48_63 rfl rfl rfl
  replace W7 := W7.iconst (v := (1 : Int32)) d2316_48_64 rfl rfl
  replace W7 := W7.aaload (w := (.ref (gA 4))) d2316_48_65 v5 rfl ⟨by decide, by decide⟩ rfl rfl
  have e8 := (gf7 H).ext W7.old.2
  obtain ⟨V9, h9, r9, W9, K9, hQ9, SF9⟩ := W7.callV (pc' := 69) (argsL := []) (rest := [(.long s29)]) (Wd := 2) (cells' := 13) (slots' := 38) (a := (gA 4)) (C := "java/math/BigInteger") (y := N39) (z := N39) d2316_48_66 (m58_intValue H h4 W7.old) e8 (tw240 H) (tw241 H) (Or.inl (tw243 H)) (tw243 H) (tw242 H) (tw130 H) (tw244 H) (by decide) (lenOf pd27 rfl) rfl rfl (by decide) (by decide) rfl sf0 all0
  clear W7
  obtain ⟨_, rfl, hs9⟩ := hQ9
  subst hs9
  replace W9 := W9.cast (st' := [(.int (0 : Int32)), (.long s29)]) rfl
  replace W9 := W9.i2l (v := (0 : Int64)) d2316_48_69 (by decide) rfl
  obtain ⟨V10, h10, r10, W10, K10, hQ10, SF10⟩ := W9.callS (pc' := 73) (argsL := [(.long s29), (.long (0 : Int64))]) (rest := []) (Wd := 0) (cells' := 14) (slots' := 40) (y := N45) d2316_48_70 (m61_ofSeconds H s29 (0 : Int64) (0 : Int64) (1000000000 : Int64) s30 s31 s32 s33 (0 : Int64) (0 : Int32) (0 : Int64) s34 h4 W9.old (by decide) (by decide) (by decide) p46 p47 p48 p49 p51 (by decide) (by decide) (by decide) p50 p52) (tw245 H) (tw246 H) (tw23 H) (tw247 H) (by decide) (lenOf pd31 rfl) rfl rfl (by decide) (by decide) rfl sf0 all0
  clear W9
  obtain ⟨_, r010, rfl, q10_1, q10_2, q10_3, q10_4⟩ := hQ10
  have z10 : h4.size ≤ h10.size := K10.1
  replace W10 := W10.cast (st' := [(.ref r010)]) rfl
  exact W10.aret (t := (.object "java/time/Duration")) d2316_48_73 rfl rfl rfl rfl (by decide) (by decide) (fun V' cv => ⟨r010, rfl, q10_1, q10_2, q10_3, (Nat.le_trans (Nat.le_trans (Nat.le_trans (Nat.le_trans z1 z2) z3) z4) q10_4)⟩)
theorem m138_multipliedBy (H : Cx Z a0 gA gK) (u0 : Int64) (s0 : Int32) (h0 : Heap) (hO : Old Z n0 h0) (p0 : (Jvm.Free.XT.cmpL u0 (0 : Int64)) = (1 : Int32)) (p1 : (Jvm.Free.XT.cmpL u0 (1 : Int64)) = (1 : Int32)) (p2 : (u0.toInt32) = s0) (p3 : (Jvm.Free.XT.cmpL u0 (11 : Int64)) = (-1 : Int32)) (p4 : s0 = (2 : Int32)) : Con l Z [] n0 N47 jdk_2316_method_44_code 3 (some (.object "java/time/Duration")) (Rm 8 16 50 123) #[(.ref (gA 1)), (.long u0)] h0 [] (fun v h V' => ∃ (r0 : Addr), v = some (.ref r0) ∧ Exa Z h r0 "java/time/Duration" ∧ Fld Z h r0 "java/time/Duration" "nanos" "I" (.int (0 : Int32)) ∧ Fld Z h r0 "java/time/Duration" "seconds" "J" (.long (16 : Int64)) ∧ h0.size ≤ r0) [] := by
  refine Con.of (a0 := a0) (L0 := #[.val (.ref (gA 1)), .val (.long u0), .second]) pf47 (fun _ => rfl) all0 hO EW.nil ?_
  intro p e s m below meth c S0 hnm hsf W
  replace W := W.lloadN d2316_44_0 rfl rfl
  replace W := W.lconst (v := (0 : Int64)) d2316_44_1 rfl rfl
  replace W := W.lcmp (v := (1 : Int32)) d2316_44_2 p0 rfl
  replace W := W.ifT (pc' := 10) d2316_44_3 (feq (by decide : ¬ ((1 : Int32) = (0 : Int32)))).2 (by decide) (by decide)
  replace W := W.lloadN d2316_44_10 rfl rfl
  replace W := W.lconst (v := (1 : Int64)) d2316_44_11 rfl rfl
  replace W := W.lcmp (v := (1 : Int32)) d2316_44_12 p1 rfl
  replace W := W.ifT (pc' := 18) d2316_44_13 (feq (by decide : ¬ ((1 : Int32) = (0 : Int32)))).2 (by decide) (by decide)
  replace W := W.aloadN d2316_44_18 rfl rfl rfl
  have e1 := (gf1 H).ext W.old.2
  obtain ⟨V2, h2, r2, W2, K2, hQ2, SF2⟩ := W.callP (pc' := 22) (argsL := []) (rest := []) (Wd := 0) (cells' := 1) (slots' := 5) (a := (gA 1)) (C := "java/time/Duration") (y := N11) d2316_44_19 (m139_toBigDecimalSeconds H h0 W.old) e1 (tw25 H) (tw26 H) (tw28 H) (tw27 H) (tw23 H) (tw29 H) (by decide) (lenOf pd10 rfl) rfl rfl (by decide) (by decide) rfl sf0 all0
  clear W
  obtain ⟨_, r02, rfl, q2_1, q2_2, q2_3, q2_4, q2_5, q2_6⟩ := hQ2
  have z2 : h0.size ≤ h2.size := K2.1
  replace W2 := W2.cast (st' := [(.ref r02)]) rfl
  replace W2 := W2.lloadN d2316_44_22 rfl rfl
  obtain ⟨V3, h3, r3, W3, K3, hQ3, SF3⟩ := W2.callS (pc' := 26) (argsL := [(.long u0)]) (rest := [(.ref r02)]) (Wd := 1) (cells' := 1) (slots' := 5) (y := N1) d2316_44_23 (m15_valueOf H u0 s0 h2 W2.old p0 p3 p2 p4) (tw32 H) (tw33 H) (tw34 H) (tw35 H) (by decide) (lenOf pd1 rfl) rfl rfl (by decide) (by decide) rfl sf0 all0
  clear W2
  obtain ⟨_, rfl, hs3⟩ := hQ3
  subst hs3
  replace W3 := W3.cast (st' := [(.ref (gA 12)), (.ref r02)]) rfl
  obtain ⟨V4, h4, r4, W4, K4, hQ4, SF4⟩ := W3.callV (pc' := 29) (argsL := [(.ref (gA 12))]) (rest := []) (Wd := 0) (cells' := 2) (slots' := 10) (a := r02) (C := "java/math/BigDecimal") (y := N16) (z := N16) d2316_44_26 (m108_multiply H r02 (8000000000 : Int64) (9 : Int32) (9 : Int64) (9 : Int64) (9 : Int32) (9 : Int64) (16000000000 : Int64) (8000000002 : Int64) (3 : Int64) (8000000000 : Int64) h2 W3.old q2_1 q2_2 q2_5 (by decide) (by decide) (by decide) (by decide) (by decide) (by decide) (by decide) (by decide) (by decide) (by decide) (by decide) (by decide) (by decide) (by decide) (by decide) (by decide)) q2_1 (tw85 H) (tw86 H) (Or.inl (tw88 H)) (tw88 H) (tw87 H) (tw34 H) (tw89 H) (by decide) (lenOf pd9 rfl) rfl rfl (by decide) (by decide) rfl sf0 all0
  clear W3
  obtain ⟨_, r04, rfl, q4_1, q4_2, q4_3, q4_4, q4_5, q4_6⟩ := hQ4
  have z4 : h2.size ≤ h4.size := K4.1
  replace W4 := W4.cast (st' := [(.ref r04)]) rfl
  obtain ⟨V5, h5, r5, W5, K5, hQ5, SF5⟩ := W4.callS (pc' := 32) (argsL := [(.ref r04)]) (rest := []) (Wd := 0) (cells' := 16) (slots' := 50) (y := N46) d2316_44_29 (m142_create H r04 (16000000000 : Int64) (9 : Int32) (9 : Int64) (0 : Int64) (0 : Int32) (0 : Int64) (3 : Int64) (3 : Int32) (-1179869184 : Int32) (3 : Int64) (3 : Int64) (12884901888 : Int64) (-1179869184 : Int64) (3115098112 : Int64) (16000000000 : Int64) (16 : Int64) (16 : Int32) (16 : Int64) (16000000000 : Int64) (0 : Int64) (0 : Int32) (0 : Int64) (0 : Int64) (0 : Int32) (1 : Int32) (0 : Int32) (27 : Int32) (5 : Int32) (5 : Int32) (6 : Int32) (16 : Int64) (16 : Int64) (16 : Int64) (0 : Int64) (16 : Int64) (0 : Int64) (16 : Int64) h4 W4.old q4_1 q4_2 q4_3 q4_5 (by decide) (by decide) (by decide) (by decide) (by decide) (by decide) (by decide) (by decide) (by decide) (by decide) (by decide) (by decide) (by decide) (by decide) (by decide) (by decide) (by decide) (by decide) (by decide) (by decide) (by decide) (by decide) (by decide) (by decide) (by decide) (by decide) (by decide) (by decide) (by decide) (by decide) (by decide) (by decide) (by decide) (by decide) (by decide) (by decide) (by decide) (by decide) (by decide) (by decide) (by decide) (by decide) (by decide) (by decide) (by decide) (by decide) (by decide) (by decide) (by decide) (by decide) (by decide) (by decide) (by decide)) (tw105 H) (tw106 H) (tw23 H) (tw107 H) (by decide) (lenOf pd32 rfl) rfl rfl (by decide) (by decide) rfl sf0 all0
  clear W4
  obtain ⟨_, r05, rfl, q5_1, q5_2, q5_3, q5_4⟩ := hQ5
  have z5 : h4.size ≤ h5.size := K5.1
  replace W5 := W5.cast (st' := [(.ref r05)]) rfl
  exact W5.aret (t := (.object "java/time/Duration")) d2316_44_32 rfl rfl rfl rfl (by decide) (by decide) (fun V' cv => ⟨r05, rfl, q5_1, q5_2, q5_3, (Nat.le_trans (Nat.le_trans z2 z4) q5_4)⟩)
theorem m147_compare (H : Cx Z a0 gA gK) (u0 u1 : Int64) (h0 : Heap) (hO : Old Z n0 h0) (p0 : (Jvm.Free.XT.cmpL u0 u1) = (1 : Int32)) : Con l Z [] n0 N48 jdk_35_method_42_code 4 (some .int) (Rm 0 0 0 0) #[(.long u0), (.long u1)] h0 [] (fun v h V' => v = some (.int (1 : Int32)) ∧ h0 = h) [] := by
  refine Con.of (a0 := a0) (L0 := #[.val (.long u0), .second, .val (.long u1), .second]) pf48 (fun _ => rfl) all0 hO EW.nil ?_
  intro p e s m below meth c S0 hnm hsf W
  replace W := W.lloadN d35_42_0 rfl rfl
  replace W := W.lloadN d35_42_1 rfl rfl
  replace W := W.lcmp (v := (1 : Int32)) d35_42_2 p0 rfl
  replace W := W.ifT (pc' := 10) d35_42_3 (flt (by decide : ¬ ((1 : Int32) < (0 : Int32)))).2.1 (by decide) (by decide)
  replace W := W.lloadN d35_42_10 rfl rfl
  replace W := W.lloadN d35_42_11 rfl rfl
  replace W := W.lcmp (v := (1 : Int32)) d35_42_12 p0 rfl
  replace W := W.ifT (pc' := 20) d35_42_13 (feq (by decide : ¬ ((1 : Int32) = (0 : Int32)))).2 (by decide) (by decide)
  replace W := W.iconst (v := (1 : Int32)) d35_42_20 rfl rfl
  exact W.iret (t := .int) d35_42_21 rfl (by simp) rfl (by decide) (by decide) (fun V' cv => ⟨rfl, rfl⟩)
theorem m146_compareTo (H : Cx Z a0 gA gK) (x0 : Addr) (u1 : Int64) (h0 : Heap) (hO : Old Z n0 h0) (F_x0_seconds : Fld Z h0 x0 "java/time/Duration" "seconds" "J" (.long u1)) (p0 : (Jvm.Free.XT.cmpL u1 (8 : Int64)) = (1 : Int32)) : Con l Z [] n0 N49 jdk_2316_method_66_code 3 (some .int) (Rm 1 0 0 15) #[(.ref x0), (.ref (gA 1))] h0 [] (fun v h V' => v = some (.int (1 : Int32)) ∧ h0 = h) [] := by
  refine Con.of (a0 := a0) (L0 := #[.val (.ref x0), .val (.ref (gA 1)), .unset]) pf49 (fun _ => rfl) all0 hO EW.nil ?_
  intro p e s m below meth c S0 hnm hsf W
  replace W := W.aloadN d2316_66_0 rfl rfl rfl
  replace W := W.getf d2316_66_1 (tw30 H) Via.refl F_x0_seconds rfl
  replace W := W.aloadN d2316_66_4 rfl rfl rfl
  have f1 := (gf11 H).ext W.old.2
  replace W := W.getf d2316_66_5 (tw30 H) Via.refl f1 rfl
  obtain ⟨V2, h2, r2, W2, K2, hQ2, SF2⟩ := W.callS (pc' := 11) (argsL := [(.long u1), (.long (8 : Int64))]) (rest := []) (Wd := 0) (cells' := 0) (slots' := 0) (y := N48) d2316_66_8 (m147_compare H u1 (8 : Int64) h0 W.old p0) (tw275 H) (tw276 H) (tw277 H) (tw278 H) (by decide) (lenOf pd4 rfl) rfl rfl (by decide) (by decide) rfl sf0 all0
  clear W
  obtain ⟨_, rfl, hs2⟩ := hQ2
  subst hs2
  replace W2 := W2.cast (st' := [(.int (1 : Int32))]) rfl
  replace W2 := W2.istoreN (L' := #[.val (.ref x0), .val (.ref (gA 1)), .val (.int (1 : Int32))]) d2316_66_11 rfl rfl
  replace W2 := W2.iloadN d2316_66_12 rfl rfl
  replace W2 := W2.ifF (pc' := 16) d2316_66_13 (feq (by decide : ¬ ((1 : Int32) = (0 : Int32)))).1 rfl
  replace W2 := W2.iloadN d2316_66_16 rfl rfl
  exact W2.iret (t := .int) d2316_66_17 rfl (by simp) rfl (by decide) (by decide) (fun V' cv => ⟨rfl, rfl⟩)
theorem m137_next (H : Cx Z a0 gA gK) (x0 : Addr) (h0 : Heap) (hO : Old Z n0 h0) (E_x0 : Exa Z h0 x0 "com/example/letters_between_tasks/lettersbetweentasks/service/Backoff") (F_x0_next : Fld Z h0 x0 "com/example/letters_between_tasks/lettersbetweentasks/service/Backoff" "next" "Ljava/time/Duration;" (.ref (gA 1))) (g_x0 : n0 ≤ x0) : Con l Z [] n0 N50 prog_13_method_2_code 3 (some (.object "java/time/Duration")) (Rm 9 16 50 137) #[(.ref x0)] h0 [x0] (fun v h V' => v = some (.ref (gA 1)) ∧ Exa Z h x0 "com/example/letters_between_tasks/lettersbetweentasks/service/Backoff" ∧ Fld Z h x0 "com/example/letters_between_tasks/lettersbetweentasks/service/Backoff" "next" "Ljava/time/Duration;" (.ref (gA 1))) [] := by
  refine Con.of (a0 := a0) (L0 := #[.val (.ref x0), .unset, .unset]) pf50 (fun _ => rfl) (allS g_x0 all0) hO EW.nil ?_
  intro p e s m below meth c S0 hnm hsf W
  replace W := W.aloadN e13_2_0 rfl rfl rfl
  replace W := W.getf e13_2_1 (tw11 H) Via.refl F_x0_next rfl
  replace W := W.astoreN (L' := #[.val (.ref x0), .val (.ref (gA 1)), .unset]) e13_2_4 rfl rfl rfl
  replace W := W.aloadN e13_2_5 rfl rfl rfl
  replace W := W.getf e13_2_6 (tw11 H) Via.refl F_x0_next rfl
  replace W := W.ldc2 e13_2_9 (tw18 H) rfl
  have e1 := (gf1 H).ext W.old.2
  obtain ⟨V2, h2, r2, W2, K2, hQ2, SF2⟩ := W.callV (pc' := 15) (argsL := [(.long (2 : Int64))]) (rest := []) (Wd := 0) (cells' := 16) (slots' := 50) (a := (gA 1)) (C := "java/time/Duration") (y := N47) (z := N47) e13_2_12 (m138_multipliedBy H (2 : Int64) (2 : Int32) h0 W.old (by decide) (by decide) (by decide) (by decide) (by decide)) e1 (tw19 H) (tw20 H) (Or.inl (tw22 H)) (tw22 H) (tw21 H) (tw23 H) (tw24 H) (by decide) (lenOf pd33 rfl) rfl rfl (by decide) (by decide) rfl sf0 all0
  clear W
  obtain ⟨_, r02, rfl, q2_1, q2_2, q2_3, q2_4⟩ := hQ2
  have z2 : h0.size ≤ h2.size := K2.1
  replace W2 := W2.cast (st' := [(.ref r02)]) rfl
  replace W2 := W2.astoreN (L' := #[.val (.ref x0), .val (.ref (gA 1)), .val (.ref r02)]) e13_2_15 rfl rfl rfl
  replace W2 := W2.aloadN e13_2_16 rfl rfl rfl
  replace W2 := W2.aloadN e13_2_17 rfl rfl rfl
  replace W2 := W2.gets e13_2_18 (tw268 H) (gf29 H) rfl
  obtain ⟨V3, h3, r3, W3, K3, hQ3, SF3⟩ := W2.callV (pc' := 24) (argsL := [(.ref (gA 1))]) (rest := [(.ref x0)]) (Wd := 1) (cells' := 16) (slots' := 50) (a := r02) (C := "java/time/Duration") (y := N49) (z := N49) e13_2_21 (m146_compareTo H r02 (16 : Int64) h2 W2.old q2_3 (by decide)) q2_1 (tw270 H) (tw271 H) (Or.inl (tw273 H)) (tw273 H) (tw272 H) (tw23 H) (tw274 H) (by decide) (lenOf pd34 rfl) rfl rfl (by decide) (by decide) rfl sf0 all0
  clear W2
  obtain ⟨_, rfl, hs3⟩ := hQ3
  subst hs3
  replace W3 := W3.cast (st' := [(.int (1 : Int32)), (.ref x0)]) rfl
  replace W3 := W3.ifT (pc' := 31) e13_2_24 (flt (by decide : ¬ ((1 : Int32) < (0 : Int32)))).2.1 (by decide) (by decide)
  replace W3 := W3.gets e13_2_31 (tw268 H) (gf29 H) rfl
  have f4 := (F_x0_next.keep K2 nin0)
  have e5 := (E_x0.keep K2)
  obtain ⟨h6, W6, w6, SF6⟩ := W3.putf (pc' := 37) (ty := (.object "java/time/Duration")) e13_2_34 (tw11 H) Via.refl f4 e5 (Or.inl (tw12 H)) (tw1 H) (by decide) rfl rfl safe0 (Or.inl (List.mem_of_getElem? (i := 0) rfl)) rfl
  clear W3
  have z6 : h2.size ≤ h6.size := Nat.le_of_eq w6.size.symm
  have f6 := f4.same w6
  replace W6 := W6.aloadN e13_2_37 rfl rfl rfl
  have e7 := (e5.wr w6)
  exact W6.aret (t := (.object "java/time/Duration")) e13_2_38 rfl rfl rfl rfl (by decide) (by decide) (fun V' cv => ⟨rfl, e7, f6⟩)
theorem m148_toNanos (H : Cx Z a0 gA gK)  (h0 : Heap) (hO : Old Z n0 h0)  : Con l Z [] n0 N52 jdk_2316_method_58_code 7 (some .long) (Rm 2 0 0 34) #[(.ref (gA 1))] h0 [] (fun v h V' => v = some (.long (8000000000 : Int64)) ∧ h0 = h) [] := by
  refine Con.of (a0 := a0) (L0 := #[.val (.ref (gA 1)), .unset, .unset, .unset, .unset, .unset, .unset]) pf52 (fun _ => rfl) all0 hO EW.nil ?_
  intro p e s m below meth c S0 hnm hsf W
  replace W := W.aloadN d2316_58_0 rfl rfl rfl
  have f1 := (gf11 H).ext W.old.2
  replace W := W.getf d2316_58_1 (tw30 H) Via.refl f1 rfl
  replace W := W.lstoreN (L' := #[.val (.ref (gA 1)), .val (.long (8 : Int64)), .second, .unset, .unset, .unset, .unset]) d2316_58_4 rfl rfl
  replace W := W.aloadN d2316_58_5 rfl rfl rfl
  have f2 := (gf10 H).ext W.old.2
  replace W := W.getf d2316_58_6 (tw37 H) Via.refl f2 rfl
  replace W := W.i2l (v := (0 : Int64)) d2316_58_9 (by decide) rfl
  replace W := W.lstoreN (L' := #[.val (.ref (gA 1)), .val (.long (8 : Int64)), .second, .val (.long (0 : Int64)), .second, .unset, .unset]) d2316_58_10 rfl rfl
  replace W := W.lloadN d2316_58_11 rfl rfl
  replace W := W.lconst (v := (0 : Int64)) d2316_58_12 rfl rfl
  replace W := W.lcmp (v := (1 : Int32)) d2316_58_13 (by decide) rfl
  replace W := W.ifT (pc' := 27) d2316_58_14 (flt (by decide : ¬ ((1 : Int32) < (0 : Int32)))).2.1 (by decide) (by decide)
  replace W := W.lloadN d2316_58_27 rfl rfl
  replace W := W.ldc2 d2316_58_28 (tw248 H) rfl
  obtain ⟨V3, h3, r3, W3, K3, hQ3, SF3⟩ := W.callS (pc' := 34) (argsL := [(.long (8 : Int64)), (.long (1000000000 : Int64))]) (rest := []) (Wd := 0) (cells' := 0) (slots' := 0) (y := N51) d2316_58_31 (m92_multiplyExact H (8 : Int64) (1000000000 : Int64) (8000000000 : Int64) (1000000008 : Int64) (0 : Int64) h0 W.old (by decide) (by decide) (by decide) (by decide) (by decide) (by decide)) (tw284 H) (tw285 H) (tw103 H) (tw286 H) (by decide) (lenOf pd6 rfl) rfl rfl (by decide) (by decide) rfl sf0 all0
  clear W
  obtain ⟨_, rfl, hs3⟩ := hQ3
  subst hs3
  replace W3 := W3.cast (st' := [(.long (8000000000 : Int64))]) rfl
  replace W3 := W3.lstore (L' := #[.val (.ref (gA 1)), .val (.long (8 : Int64)), .second, .val (.long (0 : Int64)), .second, .val (.long (8000000000 : Int64)), .second]) d2316_58_34 rfl rfl
  replace W3 := W3.lload d2316_58_36 rfl rfl
  replace W3 := W3.lloadN d2316_58_38 rfl rfl
  obtain ⟨V4, h4, r4, W4, K4, hQ4, SF4⟩ := W3.callS (pc' := 42) (argsL := [(.long (8000000000 : Int64)), (.long (0 : Int64))]) (rest := []) (Wd := 0) (cells' := 0) (slots' := 0) (y := N41) d2316_58_39 (m63_addExact H (8000000000 : Int64) (0 : Int64) (8000000000 : Int64) (0 : Int64) (8000000000 : Int64) (0 : Int64) h0 W3.old (by decide) (by decide) (by decide) (by decide) (by decide)) (tw252 H) (tw253 H) (tw103 H) (tw254 H) (by decide) (lenOf pd6 rfl) rfl rfl (by decide) (by decide) rfl sf0 all0
  clear W3
  obtain ⟨_, rfl, hs4⟩ := hQ4
  subst hs4
  replace W4 := W4.cast (st' := [(.long (8000000000 : Int64))]) rfl
  replace W4 := W4.lstore (L' := #[.val (.ref (gA 1)), .val (.long (8 : Int64)), .second, .val (.long (0 : Int64)), .second, .val (.long (8000000000 : Int64)), .second]) d2316_58_42 rfl rfl
  replace W4 := W4.lload d2316_58_44 rfl rfl
  exact W4.lret d2316_58_46 rfl (by decide) (by decide) (fun V' cv => ⟨rfl, rfl⟩)
theorem law_c (H : Cx Z a0 gA gK)  (h0 : Heap) (hO : Old Z n0 h0)  (wds : List Jvm.Cond) : Con l Z [] n0 x code maxLocals ret room_1 #[] h0 [] (fun v h V' => v = some (.int (1 : Int32))) wds := by
  refine Con.of (a0 := a0) (L0 := #[.unset, .unset, .unset, .unset, .unset, .unset, .unset, .unset, .unset, .unset, .unset, .unset, .unset, .unset, .unset, .unset, .unset, .unset, .unset]) pf62 (fun m => by first | rfl | (simp [entryFrame, mkF, argsToLocals, Value.category, maxLocals]; done)) all0 hO EW.nil ?_
  intro p e s m below meth c S0 hnm hsf W
  obtain ⟨h1, a1, W1, E1, g1, ⟨A1, D1, U1⟩, sf1, SF1⟩ := W.new (pc' := 3) (cells' := 1) (slots' := 1) at_0 (tw0 H) (tw1 H) (tw2 H) rfl rfl rfl (by decide) (by decide)
  clear W
  rw [← g1] at A1 D1 U1
  have z1 : h0.size ≤ h1.size := E1.1
  replace W1 := W1.dup at_3 rfl rfl
  obtain ⟨V2, h2, r2, W2, K2, hQ2, SF2⟩ := W1.callI (pc' := 7) (argsL := []) (rest := [(.ref a1)]) (Wd := 1) (cells' := 1) (slots' := 1) (a := a1) (y := N0) at_4 (m1_init H a1 h1 W1.old A1 (D1 (Or.inl (tw12 H)) (ty := (.object "java/time/Duration")) (by decide) : Fld Z h1 a1 "com/example/letters_between_tasks/lettersbetweentasks/service/Backoff" "next" "Ljava/time/Duration;" .null) (Nat.le_trans W1.1.2.2.2.2.2.2.2.1 (Nat.le_of_eq g1.symm))) rfl (tw3 H) (tw4 H) (tw2 H) (tw5 H) (by decide) (lenOf pd0 rfl) rfl rfl (by decide) (by decide) rfl (sfS safe0 sf0) (allS (Or.inr (Nat.le_of_eq g1.symm)) all0)
  clear W1
  obtain ⟨_, rfl, q2_1, q2_2⟩ := hQ2
  have z2 : h1.size ≤ h2.size := K2.1
  replace W2 := W2.cast (st' := [(.ref a1)]) rfl
  replace W2 := W2.astoreN (L' := #[.val (.ref a1), .unset, .unset, .unset, .unset, .unset, .unset, .unset, .unset, .unset, .unset, .unset, .unset, .unset, .unset, .unset, .unset, .unset, .unset]) at_7 rfl rfl rfl
  replace W2 := W2.aloadN at_8 rfl rfl rfl
  obtain ⟨V3, h3, r3, W3, K3, hQ3, SF3⟩ := W2.callV (pc' := 12) (argsL := []) (rest := []) (Wd := 0) (cells' := 16) (slots' := 52) (a := a1) (C := "com/example/letters_between_tasks/lettersbetweentasks/service/Backoff") (y := N50) (z := N50) at_9 (m2_next H a1 h2 W2.old q2_1 q2_2 (Nat.le_trans W2.1.2.2.2.2.2.2.2.1 (Nat.le_of_eq g1.symm))) q2_1 (tw13 H) (tw14 H) (Or.inl (tw16 H)) (tw16 H) (tw15 H) (tw2 H) (tw17 H) (by decide) (lenOf pd35 rfl) rfl rfl (by decide) (by decide) rfl (sfS safe0 sf0) (allS (Or.inr (Nat.le_of_eq g1.symm)) all0)
  clear W2
  obtain ⟨_, r03, rfl, q3_1, q3_2, q3_3, q3_4, q3_5, q3_6⟩ := hQ3
  have z3 : h2.size ≤ h3.size := K3.1
  replace W3 := W3.cast (st' := [(.ref (gA 0))]) rfl
  have e4 := (gf0 H).ext W3.old.2
  obtain ⟨V5, h5, r5, W5, K5, hQ5, SF5⟩ := W3.callV (pc' := 15) (argsL := []) (rest := []) (Wd := 0) (cells' := 16) (slots' := 52) (a := (gA 0)) (C := "java/time/Duration") (y := N52) (z := N52) at_12 (m70_toNanos H h3 W3.old) e4 (tw279 H) (tw280 H) (Or.inl (tw282 H)) (tw282 H) (tw281 H) (tw23 H) (tw283 H) (by decide) (lenOf pd28 rfl) rfl rfl (by decide) (by decide) rfl sf0 all0
  clear W3
  obtain ⟨_, rfl, hs5⟩ := hQ5
  subst hs5
  replace W5 := W5.cast (st' := [(.long (500000000 : Int64))]) rfl
  replace W5 := W5.lstoreN (L' := #[.val (.ref a1), .val (.long (500000000 : Int64)), .second, .unset, .unset, .unset, .unset, .unset, .unset, .unset, .unset, .unset, .unset, .unset, .unset, .unset, .unset, .unset, .unset]) at_15 rfl rfl
  replace W5 := W5.aloadN at_16 rfl rfl rfl
  obtain ⟨V6, h6, r6, W6, K6, hQ6, SF6⟩ := W5.callV (pc' := 20) (argsL := []) (rest := []) (Wd := 0) (cells' := 30) (slots' := 98) (a := a1) (C := "com/example/letters_between_tasks/lettersbetweentasks/service/Backoff") (y := N50) (z := N50) at_17 (m73_next H a1 r03 (0 : Int32) (1 : Int64) (1 : Int32) (0 : Int64) h3 W5.old q3_1 q3_2 q3_3 q3_4 q3_5 (by decide) (by decide) (by decide) (by decide) (by decide) (by decide) (Nat.le_trans W5.1.2.2.2.2.2.2.2.1 (Nat.le_of_eq g1.symm))) q3_1 (tw13 H) (tw14 H) (Or.inl (tw16 H)) (tw16 H) (tw15 H) (tw2 H) (tw17 H) (by decide) (lenOf pd35 rfl) rfl rfl (by decide) (by decide) rfl (sfS safe0 sf0) (allS (Or.inr (Nat.le_of_eq g1.symm)) all0)
  clear W5
  obtain ⟨_, r06, rfl, q6_1, q6_2, q6_3, q6_4, q6_5, q6_6⟩ := hQ6
  have z6 : h3.size ≤ h6.size := K6.1
  replace W6 := W6.cast (st' := [(.ref r03)]) rfl
  have f7 := (q3_4.keep K6 (ninS (Nat.ne_of_gt (Nat.lt_of_lt_of_le A1.lt (Nat.le_trans z2 q3_6))) nin0))
  have f8 := (q3_5.keep K6 (ninS (Nat.ne_of_gt (Nat.lt_of_lt_of_le A1.lt (Nat.le_trans z2 q3_6))) nin0))
  have e10 := (q3_3.keep K6)
  obtain ⟨V9, h9, r9, W9, K9, hQ9, SF9⟩ := W6.callV (pc' := 23) (argsL := []) (rest := []) (Wd := 0) (cells' := 30) (slots' := 98) (a := r03) (C := "java/time/Duration") (y := N52) (z := N52) at_20 (m91_toNanos H r03 (0 : Int32) (1 : Int64) (0 : Int64) (1000000000 : Int64) (1000000001 : Int64) (0 : Int64) (1000000000 : Int64) (0 : Int64) (1000000000 : Int64) (0 : Int64) h6 W6.old f7 f8 (by decide) (by decide) (by decide) (by decide) (by decide) (by decide) (by decide) (by decide) (by decide) (by decide) (by decide)) e10 (tw279 H) (tw280 H) (Or.inl (tw282 H)) (tw282 H) (tw281 H) (tw23 H) (tw283 H) (by decide) (lenOf pd28 rfl) rfl rfl (by decide) (by decide) rfl sf0 all0
  clear W6
  obtain ⟨_, rfl, hs9⟩ := hQ9
  subst hs9
  replace W9 := W9.cast (st' := [(.long (1000000000 : Int64))]) rfl
  replace W9 := W9.lstoreN (L' := #[.val (.ref a1), .val (.long (500000000 : Int64)), .second, .val (.long (1000000000 : Int64)), .second, .unset, .unset, .unset, .unset, .unset, .unset, .unset, .unset, .unset, .unset, .unset, .unset, .unset, .unset]) at_23 rfl rfl
  replace W9 := W9.aloadN at_24 rfl rfl rfl
  obtain ⟨V11, h11, r11, W11, K11, hQ11, SF11⟩ := W9.callV (pc' := 28) (argsL := []) (rest := []) (Wd := 0) (cells' := 44) (slots' := 144) (a := a1) (C := "com/example/letters_between_tasks/lettersbetweentasks/service/Backoff") (y := N50) (z := N50) at_25 (m93_next H a1 r06 (0 : Int32) (2 : Int64) (2 : Int32) (0 : Int64) h6 W9.old q6_1 q6_2 q6_3 q6_4 q6_5 (by decide) (by decide) (by decide) (by decide) (by decide) (by decide) (Nat.le_trans W9.1.2.2.2.2.2.2.2.1 (Nat.le_of_eq g1.symm))) q6_1 (tw13 H) (tw14 H) (Or.inl (tw16 H)) (tw16 H) (tw15 H) (tw2 H) (tw17 H) (by decide) (lenOf pd35 rfl) rfl rfl (by decide) (by decide) rfl (sfS safe0 sf0) (allS (Or.inr (Nat.le_of_eq g1.symm)) all0)
  clear W9
  obtain ⟨_, r011, rfl, q11_1, q11_2, q11_3, q11_4, q11_5, q11_6⟩ := hQ11
  have z11 : h6.size ≤ h11.size := K11.1
  replace W11 := W11.cast (st' := [(.ref r06)]) rfl
  have f12 := (q6_4.keep K11 (ninS (Nat.ne_of_gt (Nat.lt_of_lt_of_le A1.lt (Nat.le_trans (Nat.le_trans z2 z3) q6_6))) nin0))
  have f13 := (q6_5.keep K11 (ninS (Nat.ne_of_gt (Nat.lt_of_lt_of_le A1.lt (Nat.le_trans (Nat.le_trans z2 z3) q6_6))) nin0))
  have e15 := (q6_3.keep K11)
  obtain ⟨V14, h14, r14, W14, K14, hQ14, SF14⟩ := W11.callV (pc' := 31) (argsL := []) (rest := []) (Wd := 0) (cells' := 44) (slots' := 144) (a := r06) (C := "java/time/Duration") (y := N52) (z := N52) at_28 (m91_toNanos H r06 (0 : Int32) (2 : Int64) (0 : Int64) (2000000000 : Int64) (1000000002 : Int64) (0 : Int64) (2000000000 : Int64) (0 : Int64) (2000000000 : Int64) (0 : Int64) h11 W11.old f12 f13 (by decide) (by decide) (by decide) (by decide) (by decide) (by decide) (by decide) (by decide) (by decide) (by decide) (by decide)) e15 (tw279 H) (tw280 H) (Or.inl (tw282 H)) (tw282 H) (tw281 H) (tw23 H) (tw283 H) (by decide) (lenOf pd28 rfl) rfl rfl (by decide) (by decide) rfl sf0 all0
  clear W11
  obtain ⟨_, rfl, hs14⟩ := hQ14
  subst hs14
  replace W14 := W14.cast (st' := [(.long (2000000000 : Int64))]) rfl
  replace W14 := W14.lstore (L' := #[.val (.ref a1), .val (.long (500000000 : Int64)), .second, .val (.long (1000000000 : Int64)), .second, .val (.long (2000000000 : Int64)), .second, .unset, .unset, .unset, .unset, .unset, .unset, .unset, .unset, .unset, .unset, .unset, .unset]) at_31 rfl rfl
  replace W14 := W14.aloadN at_33 rfl rfl rfl
  obtain ⟨V16, h16, r16, W16, K16, hQ16, SF16⟩ := W14.callV (pc' := 37) (argsL := []) (rest := []) (Wd := 0) (cells' := 60) (slots' := 194) (a := a1) (C := "com/example/letters_between_tasks/lettersbetweentasks/service/Backoff") (y := N50) (z := N50) at_34 (m103_next H a1 r011 (0 : Int32) (4 : Int64) (4 : Int32) (0 : Int64) h11 W14.old q11_1 q11_2 q11_3 q11_4 q11_5 (by decide) (by decide) (by decide) (by decide) (by decide) (by decide) (Nat.le_trans W14.1.2.2.2.2.2.2.2.1 (Nat.le_of_eq g1.symm))) q11_1 (tw13 H) (tw14 H) (Or.inl (tw16 H)) (tw16 H) (tw15 H) (tw2 H) (tw17 H) (by decide) (lenOf pd35 rfl) rfl rfl (by decide) (by decide) rfl (sfS safe0 sf0) (allS (Or.inr (Nat.le_of_eq g1.symm)) all0)
  clear W14
  obtain ⟨_, rfl, q16_1, q16_2⟩ := hQ16
  have z16 : h11.size ≤ h16.size := K16.1
  replace W16 := W16.cast (st' := [(.ref r011)]) rfl
  have f17 := (q11_4.keep K16 (ninS (Nat.ne_of_gt (Nat.lt_of_lt_of_le A1.lt (Nat.le_trans (Nat.le_trans (Nat.le_trans z2 z3) z6) q11_6))) nin0))
  have f18 := (q11_5.keep K16 (ninS (Nat.ne_of_gt (Nat.lt_of_lt_of_le A1.lt (Nat.le_trans (Nat.le_trans (Nat.le_trans z2 z3) z6) q11_6))) nin0))
  have e20 := (q11_3.keep K16)
  obtain ⟨V19, h19, r19, W19, K19, hQ19, SF19⟩ := W16.callV (pc' := 40) (argsL := []) (rest := []) (Wd := 0) (cells' := 60) (slots' := 194) (a := r011) (C := "java/time/Duration") (y := N52) (z := N52) at_37 (m91_toNanos H r011 (0 : Int32) (4 : Int64) (0 : Int64) (4000000000 : Int64) (1000000004 : Int64) (0 : Int64) (4000000000 : Int64) (0 : Int64) (4000000000 : Int64) (0 : Int64) h16 W16.old f17 f18 (by decide) (by decide) (by decide) (by decide) (by decide) (by decide) (by decide) (by decide) (by decide) (by decide) (by decide)) e20 (tw279 H) (tw280 H) (Or.inl (tw282 H)) (tw282 H) (tw281 H) (tw23 H) (tw283 H) (by decide) (lenOf pd28 rfl) rfl rfl (by decide) (by decide) rfl sf0 all0
  clear W16
  obtain ⟨_, rfl, hs19⟩ := hQ19
  subst hs19
  replace W19 := W19.cast (st' := [(.long (4000000000 : Int64))]) rfl
  replace W19 := W19.lstore (L' := #[.val (.ref a1), .val (.long (500000000 : Int64)), .second, .val (.long (1000000000 : Int64)), .second, .val (.long (2000000000 : Int64)), .second, .val (.long (4000000000 : Int64)), .second, .unset, .unset, .unset, .unset, .unset, .unset, .unset, .unset, .unset, .unset]) at_40 rfl rfl
  replace W19 := W19.aloadN at_42 rfl rfl rfl
  obtain ⟨V21, h21, r21, W21, K21, hQ21, SF21⟩ := W19.callV (pc' := 46) (argsL := []) (rest := []) (Wd := 0) (cells' := 76) (slots' := 244) (a := a1) (C := "com/example/letters_between_tasks/lettersbetweentasks/service/Backoff") (y := N50) (z := N50) at_43 (m137_next H a1 h16 W19.old q16_1 q16_2 (Nat.le_trans W19.1.2.2.2.2.2.2.2.1 (Nat.le_of_eq g1.symm))) q16_1 (tw13 H) (tw14 H) (Or.inl (tw16 H)) (tw16 H) (tw15 H) (tw2 H) (tw17 H) (by decide) (lenOf pd35 rfl) rfl rfl (by decide) (by decide) rfl (sfS safe0 sf0) (allS (Or.inr (Nat.le_of_eq g1.symm)) all0)
  clear W19
  obtain ⟨_, rfl, q21_1, q21_2⟩ := hQ21
  have z21 : h16.size ≤ h21.size := K21.1
  replace W21 := W21.cast (st' := [(.ref (gA 1))]) rfl
  have e22 := (gf1 H).ext W21.old.2
  obtain ⟨V23, h23, r23, W23, K23, hQ23, SF23⟩ := W21.callV (pc' := 49) (argsL := []) (rest := []) (Wd := 0) (cells' := 76) (slots' := 244) (a := (gA 1)) (C := "java/time/Duration") (y := N52) (z := N52) at_46 (m148_toNanos H h21 W21.old) e22 (tw279 H) (tw280 H) (Or.inl (tw282 H)) (tw282 H) (tw281 H) (tw23 H) (tw283 H) (by decide) (lenOf pd28 rfl) rfl rfl (by decide) (by decide) rfl sf0 all0
  clear W21
  obtain ⟨_, rfl, hs23⟩ := hQ23
  subst hs23
  replace W23 := W23.cast (st' := [(.long (8000000000 : Int64))]) rfl
  replace W23 := W23.lstore (L' := #[.val (.ref a1), .val (.long (500000000 : Int64)), .second, .val (.long (1000000000 : Int64)), .second, .val (.long (2000000000 : Int64)), .second, .val (.long (4000000000 : Int64)), .second, .val (.long (8000000000 : Int64)), .second, .unset, .unset, .unset, .unset, .unset, .unset, .unset, .unset]) at_49 rfl rfl
  replace W23 := W23.aloadN at_51 rfl rfl rfl
  obtain ⟨V24, h24, r24, W24, K24, hQ24, SF24⟩ := W23.callV (pc' := 55) (argsL := []) (rest := []) (Wd := 0) (cells' := 92) (slots' := 294) (a := a1) (C := "com/example/letters_between_tasks/lettersbetweentasks/service/Backoff") (y := N50) (z := N50) at_52 (m137_next H a1 h21 W23.old q21_1 q21_2 (Nat.le_trans W23.1.2.2.2.2.2.2.2.1 (Nat.le_of_eq g1.symm))) q21_1 (tw13 H) (tw14 H) (Or.inl (tw16 H)) (tw16 H) (tw15 H) (tw2 H) (tw17 H) (by decide) (lenOf pd35 rfl) rfl rfl (by decide) (by decide) rfl (sfS safe0 sf0) (allS (Or.inr (Nat.le_of_eq g1.symm)) all0)
  clear W23
  obtain ⟨_, rfl, q24_1, q24_2⟩ := hQ24
  have z24 : h21.size ≤ h24.size := K24.1
  replace W24 := W24.cast (st' := [(.ref (gA 1))]) rfl
  have e26 := (e22.keep K24)
  obtain ⟨V25, h25, r25, W25, K25, hQ25, SF25⟩ := W24.callV (pc' := 58) (argsL := []) (rest := []) (Wd := 0) (cells' := 92) (slots' := 294) (a := (gA 1)) (C := "java/time/Duration") (y := N52) (z := N52) at_55 (m148_toNanos H h24 W24.old) e26 (tw279 H) (tw280 H) (Or.inl (tw282 H)) (tw282 H) (tw281 H) (tw23 H) (tw283 H) (by decide) (lenOf pd28 rfl) rfl rfl (by decide) (by decide) rfl sf0 all0
  clear W24
  obtain ⟨_, rfl, hs25⟩ := hQ25
  subst hs25
  replace W25 := W25.cast (st' := [(.long (8000000000 : Int64))]) rfl
  replace W25 := W25.lstore (L' := #[.val (.ref a1), .val (.long (500000000 : Int64)), .second, .val (.long (1000000000 : Int64)), .second, .val (.long (2000000000 : Int64)), .second, .val (.long (4000000000 : Int64)), .second, .val (.long (8000000000 : Int64)), .second, .val (.long (8000000000 : Int64)), .second, .unset, .unset, .unset, .unset, .unset, .unset]) at_58 rfl rfl
  replace W25 := W25.aloadN at_60 rfl rfl rfl
  obtain ⟨V27, h27, r27, W27, K27, hQ27, SF27⟩ := W25.callV (pc' := 64) (argsL := []) (rest := []) (Wd := 0) (cells' := 108) (slots' := 344) (a := a1) (C := "com/example/letters_between_tasks/lettersbetweentasks/service/Backoff") (y := N50) (z := N50) at_61 (m137_next H a1 h24 W25.old q24_1 q24_2 (Nat.le_trans W25.1.2.2.2.2.2.2.2.1 (Nat.le_of_eq g1.symm))) q24_1 (tw13 H) (tw14 H) (Or.inl (tw16 H)) (tw16 H) (tw15 H) (tw2 H) (tw17 H) (by decide) (lenOf pd35 rfl) rfl rfl (by decide) (by decide) rfl (sfS safe0 sf0) (allS (Or.inr (Nat.le_of_eq g1.symm)) all0)
  clear W25
  obtain ⟨_, rfl, q27_1, q27_2⟩ := hQ27
  have z27 : h24.size ≤ h27.size := K27.1
  replace W27 := W27.cast (st' := [(.ref (gA 1))]) rfl
  have e29 := (e26.keep K27)
  obtain ⟨V28, h28, r28, W28, K28, hQ28, SF28⟩ := W27.callV (pc' := 67) (argsL := []) (rest := []) (Wd := 0) (cells' := 108) (slots' := 344) (a := (gA 1)) (C := "java/time/Duration") (y := N52) (z := N52) at_64 (m148_toNanos H h27 W27.old) e29 (tw279 H) (tw280 H) (Or.inl (tw282 H)) (tw282 H) (tw281 H) (tw23 H) (tw283 H) (by decide) (lenOf pd28 rfl) rfl rfl (by decide) (by decide) rfl sf0 all0
  clear W27
  obtain ⟨_, rfl, hs28⟩ := hQ28
  subst hs28
  replace W28 := W28.cast (st' := [(.long (8000000000 : Int64))]) rfl
  replace W28 := W28.lstore (L' := #[.val (.ref a1), .val (.long (500000000 : Int64)), .second, .val (.long (1000000000 : Int64)), .second, .val (.long (2000000000 : Int64)), .second, .val (.long (4000000000 : Int64)), .second, .val (.long (8000000000 : Int64)), .second, .val (.long (8000000000 : Int64)), .second, .val (.long (8000000000 : Int64)), .second, .unset, .unset, .unset, .unset]) at_67 rfl rfl
  replace W28 := W28.aloadN at_69 rfl rfl rfl
  obtain ⟨V30, h30, r30, W30, K30, hQ30, SF30⟩ := W28.callV (pc' := 73) (argsL := []) (rest := []) (Wd := 0) (cells' := 124) (slots' := 394) (a := a1) (C := "com/example/letters_between_tasks/lettersbetweentasks/service/Backoff") (y := N50) (z := N50) at_70 (m137_next H a1 h27 W28.old q27_1 q27_2 (Nat.le_trans W28.1.2.2.2.2.2.2.2.1 (Nat.le_of_eq g1.symm))) q27_1 (tw13 H) (tw14 H) (Or.inl (tw16 H)) (tw16 H) (tw15 H) (tw2 H) (tw17 H) (by decide) (lenOf pd35 rfl) rfl rfl (by decide) (by decide) rfl (sfS safe0 sf0) (allS (Or.inr (Nat.le_of_eq g1.symm)) all0)
  clear W28
  obtain ⟨_, rfl, q30_1, q30_2⟩ := hQ30
  have z30 : h27.size ≤ h30.size := K30.1
  replace W30 := W30.cast (st' := [(.ref (gA 1))]) rfl
  have e32 := (e29.keep K30)
  obtain ⟨V31, h31, r31, W31, K31, hQ31, SF31⟩ := W30.callV (pc' := 76) (argsL := []) (rest := []) (Wd := 0) (cells' := 124) (slots' := 394) (a := (gA 1)) (C := "java/time/Duration") (y := N52) (z := N52) at_73 (m148_toNanos H h30 W30.old) e32 (tw279 H) (tw280 H) (Or.inl (tw282 H)) (tw282 H) (tw281 H) (tw23 H) (tw283 H) (by decide) (lenOf pd28 rfl) rfl rfl (by decide) (by decide) rfl sf0 all0
  clear W30
  obtain ⟨_, rfl, hs31⟩ := hQ31
  subst hs31
  replace W31 := W31.cast (st' := [(.long (8000000000 : Int64))]) rfl
  replace W31 := W31.lstore (L' := #[.val (.ref a1), .val (.long (500000000 : Int64)), .second, .val (.long (1000000000 : Int64)), .second, .val (.long (2000000000 : Int64)), .second, .val (.long (4000000000 : Int64)), .second, .val (.long (8000000000 : Int64)), .second, .val (.long (8000000000 : Int64)), .second, .val (.long (8000000000 : Int64)), .second, .val (.long (8000000000 : Int64)), .second, .unset, .unset]) at_76 rfl rfl
  replace W31 := W31.ldc2 at_78 (tw331 H) rfl
  replace W31 := W31.lstore (L' := #[.val (.ref a1), .val (.long (500000000 : Int64)), .second, .val (.long (1000000000 : Int64)), .second, .val (.long (2000000000 : Int64)), .second, .val (.long (4000000000 : Int64)), .second, .val (.long (8000000000 : Int64)), .second, .val (.long (8000000000 : Int64)), .second, .val (.long (8000000000 : Int64)), .second, .val (.long (8000000000 : Int64)), .second, .val (.long (8000000000 : Int64)), .second]) at_81 rfl rfl
  replace W31 := W31.lloadN at_83 rfl rfl
  replace W31 := W31.ldc2 at_84 (tw332 H) rfl
  replace W31 := W31.lcmp (v := (0 : Int32)) at_87 (by decide) rfl
  replace W31 := W31.ifF (pc' := 91) at_88 (teq (by decide : (0 : Int32) = (0 : Int32))).2 rfl
  replace W31 := W31.lloadN at_91 rfl rfl
  replace W31 := W31.ldc2 at_92 (tw333 H) rfl
  replace W31 := W31.lcmp (v := (0 : Int32)) at_95 (by decide) rfl
  replace W31 := W31.ifF (pc' := 99) at_96 (teq (by decide : (0 : Int32) = (0 : Int32))).2 rfl
  replace W31 := W31.lload at_99 rfl rfl
  replace W31 := W31.ldc2 at_101 (tw334 H) rfl
  replace W31 := W31.lcmp (v := (0 : Int32)) at_104 (by decide) rfl
  replace W31 := W31.ifF (pc' := 108) at_105 (teq (by decide : (0 : Int32) = (0 : Int32))).2 rfl
  replace W31 := W31.lload at_108 rfl rfl
  replace W31 := W31.ldc2 at_110 (tw335 H) rfl
  replace W31 := W31.lcmp (v := (0 : Int32)) at_113 (by decide) rfl
  replace W31 := W31.ifF (pc' := 117) at_114 (teq (by decide : (0 : Int32) = (0 : Int32))).2 rfl
  replace W31 := W31.lload at_117 rfl rfl
  replace W31 := W31.lload at_119 rfl rfl
  replace W31 := W31.lcmp (v := (0 : Int32)) at_121 (by decide) rfl
  replace W31 := W31.ifF (pc' := 125) at_122 (teq (by decide : (0 : Int32) = (0 : Int32))).2 rfl
  replace W31 := W31.lload at_125 rfl rfl
  replace W31 := W31.lload at_127 rfl rfl
  replace W31 := W31.lcmp (v := (0 : Int32)) at_129 (by decide) rfl
  replace W31 := W31.ifF (pc' := 133) at_130 (teq (by decide : (0 : Int32) = (0 : Int32))).2 rfl
  replace W31 := W31.lload at_133 rfl rfl
  replace W31 := W31.lload at_135 rfl rfl
  replace W31 := W31.lcmp (v := (0 : Int32)) at_137 (by decide) rfl
  replace W31 := W31.ifF (pc' := 141) at_138 (teq (by decide : (0 : Int32) = (0 : Int32))).2 rfl
  replace W31 := W31.lload at_141 rfl rfl
  replace W31 := W31.lload at_143 rfl rfl
  replace W31 := W31.lcmp (v := (0 : Int32)) at_145 (by decide) rfl
  replace W31 := W31.ifF (pc' := 149) at_146 (teq (by decide : (0 : Int32) = (0 : Int32))).2 rfl
  replace W31 := W31.gets at_149 (tw336 H) (gf29 H) rfl
  obtain ⟨V33, h33, r33, W33, K33, hQ33, SF33⟩ := W31.callV (pc' := 155) (argsL := []) (rest := []) (Wd := 0) (cells' := 124) (slots' := 394) (a := (gA 1)) (C := "java/time/Duration") (y := N52) (z := N52) at_152 (m148_toNanos H h30 W31.old) e32 (tw279 H) (tw280 H) (Or.inl (tw282 H)) (tw282 H) (tw281 H) (tw23 H) (tw283 H) (by decide) (lenOf pd28 rfl) rfl rfl (by decide) (by decide) rfl sf0 all0
  clear W31
  obtain ⟨_, rfl, hs33⟩ := hQ33
  subst hs33
  replace W33 := W33.cast (st' := [(.long (8000000000 : Int64))]) rfl
  replace W33 := W33.lload at_155 rfl rfl
  replace W33 := W33.lcmp (v := (0 : Int32)) at_157 (by decide) rfl
  replace W33 := W33.ifF (pc' := 161) at_158 (teq (by decide : (0 : Int32) = (0 : Int32))).2 rfl
  replace W33 := W33.iconst (v := (1 : Int32)) at_161 rfl rfl
  replace W33 := W33.goto (pc' := 166) at_162 (by decide) (by decide)
  exact W33.iret (t := .boolean) at_166 rfl (by simp) (by decide) (by decide) (by decide) (fun V' cv => rfl)
set_option maxRecDepth 65536 in
set_option maxHeartbeats 40000000 in
theorem comes_1 {Post : Tables → Env → Array Value → State → Outcome → State → Prop} (hpost : ∀ tb e args s v u, (limb_1_1.after args s (.returned v) u = true ∧ limb_1_2.after args s (.returned v) u = true ∧ True) → Framed s (.returned v) u (Jvm.fieldLocs frame_1_writes args s ++ Jvm.arrayLocs frame_1_arrays args s ++ Jvm.staticLocs frame_1_statics s) 256 896 → Post tb e args s (.returned v) u) :
    ArmFor flags0 classFile x code maxLocals ret World_1 tables_1 room_1 Calls_1 rest_1 Pre_1 Post := by
  intro l hfl _ _ p e ha hc hk s m args below hf hA hF happ hP
  obtain ⟨hcalls, hrest, hpre⟩ := hP
  obtain ⟨-, -, -, hnamed, -, -, -, hat⟩ := (Spec.applies_iff hf).mp happ
  obtain ⟨hg, hn⟩ := and_e (Cond.before_iff.mp (show (Jvm.Cond.and given_1 narrow_1).before args s = true from hpre))
  obtain rfl : args = #[] := by
    have hs : args.size = 0 := by simpa [Cond.value, given_1] using hg
    exact Array.eq_empty_of_size_eq_zero hs
  have hw := fun d (hd : d ∈ tables_1) => atoms_spec (ws := Jvm.Cond.code x code maxLocals ret :: tables_1) hat d (List.mem_cons_of_mem _ hd)
  obtain ⟨hsets, hown0⟩ := atoms_of _ (rest_1_c_eq ▸ (show rest_1_c.before _ s = true from hrest))
  have hfit : Fit s := fun {y c} hc i hi => by
    obtain ⟨ha, rfl⟩ := Array.getElem?_eq_some_iff.mp hc
    have q := List.all_eq_true.mp ((Array.all_eq_true_iff_forall_mem.mp hF) _ (Array.getElem_mem ha)) i (List.mem_range.mpr hi)
    simpa [Array.getElem?_eq_getElem hi] using q
  obtain ⟨bn, e_bn, E_bn⟩ := own_ex (hsets _ (List.mem_of_getElem? (i := 119) rfl))
  have S_bn := Sta.start e_bn (Or.inl (hsets _ (List.mem_of_getElem? (i := 118) rfl)))
  have F_bn_signum := own_fI e_bn (hsets _ (List.mem_of_getElem? (i := 120) rfl))
  obtain ⟨mn, e_mn, E_mn⟩ := own_ex (hsets _ (List.mem_of_getElem? (i := 122) rfl))
  have F_bn_mag := own_fR e_bn e_mn
  obtain ⟨k_mn, V_mn⟩ := own_arv (vs := [.int (1000000000 : Int32)]) (dv := .int (0 : Int32)) hfit e_mn (hsets _ (List.mem_of_getElem? (i := 121) rfl)) (hsets _ (List.mem_of_getElem? (i := 123) rfl)) (by decide) rfl (fun c hc => ⟨own_el rfl e_mn (own_evI (hsets _ (List.mem_of_getElem? (i := 124) rfl))) hc, trivial⟩)
  obtain ⟨b0, e_b0, E_b0⟩ := own_ex (hsets _ (List.mem_of_getElem? (i := 127) rfl))
  have S_b0 := Sta.start e_b0 (Or.inl (hsets _ (List.mem_of_getElem? (i := 137) rfl)))
  have F_b0_signum := own_fI e_b0 (hsets _ (List.mem_of_getElem? (i := 128) rfl))
  obtain ⟨m0, e_m0, E_m0⟩ := own_ex (hsets _ (List.mem_of_getElem? (i := 130) rfl))
  have F_b0_mag := own_fR e_b0 e_m0
  obtain ⟨k_m0, V_m0⟩ := own_arv (vs := []) (dv := .int (0 : Int32)) hfit e_m0 (hsets _ (List.mem_of_getElem? (i := 129) rfl)) (hsets _ (List.mem_of_getElem? (i := 131) rfl)) (by decide) rfl (fun c hc => trivial)
  obtain ⟨zt, e_zt, E_zt⟩ := own_ex (hsets _ (List.mem_of_getElem? (i := 19) rfl))
  have S_zt := Sta.start e_zt (Or.inl (hsets _ (List.mem_of_getElem? (i := 1) rfl)))
  obtain ⟨z0, e_z0, E_z0⟩ := own_ex (hsets _ (List.mem_of_getElem? (i := 22) rfl))
  have F_z0_scale := own_fI e_z0 (hsets _ (List.mem_of_getElem? (i := 23) rfl))
  have F_z0_intCompact := own_fL e_z0 (hsets _ (List.mem_of_getElem? (i := 24) rfl))
  obtain ⟨z1, e_z1, E_z1⟩ := own_ex (hsets _ (List.mem_of_getElem? (i := 32) rfl))
  have F_z1_scale := own_fI e_z1 (hsets _ (List.mem_of_getElem? (i := 33) rfl))
  have F_z1_intCompact := own_fL e_z1 (hsets _ (List.mem_of_getElem? (i := 34) rfl))
  obtain ⟨z2, e_z2, E_z2⟩ := own_ex (hsets _ (List.mem_of_getElem? (i := 42) rfl))
  have F_z2_scale := own_fI e_z2 (hsets _ (List.mem_of_getElem? (i := 43) rfl))
  have F_z2_intCompact := own_fL e_z2 (hsets _ (List.mem_of_getElem? (i := 44) rfl))
  obtain ⟨z3, e_z3, E_z3⟩ := own_ex (hsets _ (List.mem_of_getElem? (i := 51) rfl))
  obtain ⟨z4, e_z4, E_z4⟩ := own_ex (hsets _ (List.mem_of_getElem? (i := 59) rfl))
  have F_z4_scale := own_fI e_z4 (hsets _ (List.mem_of_getElem? (i := 60) rfl))
  have F_z4_intCompact := own_fL e_z4 (hsets _ (List.mem_of_getElem? (i := 61) rfl))
  obtain ⟨z5, e_z5, E_z5⟩ := own_ex (hsets _ (List.mem_of_getElem? (i := 67) rfl))
  obtain ⟨z6, e_z6, E_z6⟩ := own_ex (hsets _ (List.mem_of_getElem? (i := 75) rfl))
  obtain ⟨z7, e_z7, E_z7⟩ := own_ex (hsets _ (List.mem_of_getElem? (i := 83) rfl))
  obtain ⟨z8, e_z8, E_z8⟩ := own_ex (hsets _ (List.mem_of_getElem? (i := 91) rfl))
  have F_z8_scale := own_fI e_z8 (hsets _ (List.mem_of_getElem? (i := 92) rfl))
  have F_z8_intCompact := own_fL e_z8 (hsets _ (List.mem_of_getElem? (i := 93) rfl))
  obtain ⟨z9, e_z9, E_z9⟩ := own_ex (hsets _ (List.mem_of_getElem? (i := 99) rfl))
  obtain ⟨z10, e_z10, E_z10⟩ := own_ex (hsets _ (List.mem_of_getElem? (i := 108) rfl))
  obtain ⟨k_zt, V_zt⟩ := own_arv (vs := [.ref z0, .ref z1, .ref z2, .ref z3, .ref z4, .ref z5, .ref z6, .ref z7, .ref z8, .ref z9, .ref z10]) (dv := .null) hfit e_zt (hsets _ (List.mem_of_getElem? (i := 18) rfl)) (hsets _ (List.mem_of_getElem? (i := 20) rfl)) (by decide) rfl (fun c hc => ⟨own_el rfl e_zt e_z0 hc, own_el rfl e_zt e_z1 hc, own_el rfl e_zt e_z2 hc, own_el rfl e_zt e_z3 hc, own_el rfl e_zt e_z4 hc, own_el rfl e_zt e_z5 hc, own_el rfl e_zt e_z6 hc, own_el rfl e_zt e_z7 hc, own_el rfl e_zt e_z8 hc, own_el rfl e_zt e_z9 hc, own_el rfl e_zt e_z10 hc, trivial⟩)
  obtain ⟨zs, e_zs, E_zs⟩ := own_ex (hsets _ (List.mem_of_getElem? (i := 139) rfl))
  have S_zs := Sta.start e_zs (Or.inl (hsets _ (List.mem_of_getElem? (i := 133) rfl)))
  obtain ⟨s0, e_s0, E_s0⟩ := own_ex (hsets _ (List.mem_of_getElem? (i := 142) rfl))
  obtain ⟨s1, e_s1, E_s1⟩ := own_ex (hsets _ (List.mem_of_getElem? (i := 151) rfl))
  obtain ⟨s2, e_s2, E_s2⟩ := own_ex (hsets _ (List.mem_of_getElem? (i := 160) rfl))
  obtain ⟨s3, e_s3, E_s3⟩ := own_ex (hsets _ (List.mem_of_getElem? (i := 169) rfl))
  obtain ⟨s4, e_s4, E_s4⟩ := own_ex (hsets _ (List.mem_of_getElem? (i := 178) rfl))
  obtain ⟨s5, e_s5, E_s5⟩ := own_ex (hsets _ (List.mem_of_getElem? (i := 187) rfl))
  obtain ⟨s6, e_s6, E_s6⟩ := own_ex (hsets _ (List.mem_of_getElem? (i := 196) rfl))
  obtain ⟨s7, e_s7, E_s7⟩ := own_ex (hsets _ (List.mem_of_getElem? (i := 205) rfl))
  obtain ⟨s8, e_s8, E_s8⟩ := own_ex (hsets _ (List.mem_of_getElem? (i := 214) rfl))
  obtain ⟨s9, e_s9, E_s9⟩ := own_ex (hsets _ (List.mem_of_getElem? (i := 223) rfl))
  have F_s9_scale := own_fI e_s9 (hsets _ (List.mem_of_getElem? (i := 224) rfl))
  have F_s9_intCompact := own_fL e_s9 (hsets _ (List.mem_of_getElem? (i := 225) rfl))
  obtain ⟨s10, e_s10, E_s10⟩ := own_ex (hsets _ (List.mem_of_getElem? (i := 232) rfl))
  obtain ⟨s11, e_s11, E_s11⟩ := own_ex (hsets _ (List.mem_of_getElem? (i := 241) rfl))
  obtain ⟨s12, e_s12, E_s12⟩ := own_ex (hsets _ (List.mem_of_getElem? (i := 250) rfl))
  obtain ⟨s13, e_s13, E_s13⟩ := own_ex (hsets _ (List.mem_of_getElem? (i := 259) rfl))
  obtain ⟨s14, e_s14, E_s14⟩ := own_ex (hsets _ (List.mem_of_getElem? (i := 268) rfl))
  obtain ⟨s15, e_s15, E_s15⟩ := own_ex (hsets _ (List.mem_of_getElem? (i := 277) rfl))
  obtain ⟨k_zs, V_zs⟩ := own_arv (vs := [.ref s0, .ref s1, .ref s2, .ref s3, .ref s4, .ref s5, .ref s6, .ref s7, .ref s8, .ref s9, .ref s10, .ref s11, .ref s12, .ref s13, .ref s14, .ref s15]) (dv := .null) hfit e_zs (hsets _ (List.mem_of_getElem? (i := 138) rfl)) (hsets _ (List.mem_of_getElem? (i := 140) rfl)) (by decide) rfl (fun c hc => ⟨own_el rfl e_zs e_s0 hc, own_el rfl e_zs e_s1 hc, own_el rfl e_zs e_s2 hc, own_el rfl e_zs e_s3 hc, own_el rfl e_zs e_s4 hc, own_el rfl e_zs e_s5 hc, own_el rfl e_zs e_s6 hc, own_el rfl e_zs e_s7 hc, own_el rfl e_zs e_s8 hc, own_el rfl e_zs e_s9 hc, own_el rfl e_zs e_s10 hc, own_el rfl e_zs e_s11 hc, own_el rfl e_zs e_s12 hc, own_el rfl e_zs e_s13 hc, own_el rfl e_zs e_s14 hc, own_el rfl e_zs e_s15 hc, trivial⟩)
  obtain ⟨tp, e_tp, E_tp⟩ := own_ex (hsets _ (List.mem_of_getElem? (i := 289) rfl))
  have S_tp := Sta.start e_tp (Or.inl (hsets _ (List.mem_of_getElem? (i := 287) rfl)))
  obtain ⟨k_tp, V_tp⟩ := own_arv (vs := [.long (1 : Int64), .long (10 : Int64), .long (100 : Int64), .long (1000 : Int64), .long (10000 : Int64), .long (100000 : Int64), .long (1000000 : Int64), .long (10000000 : Int64), .long (100000000 : Int64), .long (1000000000 : Int64), .long (10000000000 : Int64), .long (100000000000 : Int64), .long (1000000000000 : Int64), .long (10000000000000 : Int64), .long (100000000000000 : Int64), .long (1000000000000000 : Int64), .long (10000000000000000 : Int64), .long (100000000000000000 : Int64), .long (1000000000000000000 : Int64)]) (dv := .long (0 : Int64)) hfit e_tp (hsets _ (List.mem_of_getElem? (i := 288) rfl)) (hsets _ (List.mem_of_getElem? (i := 290) rfl)) (by decide) rfl (fun c hc => ⟨own_el rfl e_tp (own_evL (hsets _ (List.mem_of_getElem? (i := 291) rfl))) hc, own_el rfl e_tp (own_evL (hsets _ (List.mem_of_getElem? (i := 292) rfl))) hc, own_el rfl e_tp (own_evL (hsets _ (List.mem_of_getElem? (i := 293) rfl))) hc, own_el rfl e_tp (own_evL (hsets _ (List.mem_of_getElem? (i := 294) rfl))) hc, own_el rfl e_tp (own_evL (hsets _ (List.mem_of_getElem? (i := 295) rfl))) hc, own_el rfl e_tp (own_evL (hsets _ (List.mem_of_getElem? (i := 296) rfl))) hc, own_el rfl e_tp (own_evL (hsets _ (List.mem_of_getElem? (i := 297) rfl))) hc, own_el rfl e_tp (own_evL (hsets _ (List.mem_of_getElem? (i := 298) rfl))) hc, own_el rfl e_tp (own_evL (hsets _ (List.mem_of_getElem? (i := 299) rfl))) hc, own_el rfl e_tp (own_evL (hsets _ (List.mem_of_getElem? (i := 300) rfl))) hc, own_el rfl e_tp (own_evL (hsets _ (List.mem_of_getElem? (i := 301) rfl))) hc, own_el rfl e_tp (own_evL (hsets _ (List.mem_of_getElem? (i := 302) rfl))) hc, own_el rfl e_tp (own_evL (hsets _ (List.mem_of_getElem? (i := 303) rfl))) hc, own_el rfl e_tp (own_evL (hsets _ (List.mem_of_getElem? (i := 304) rfl))) hc, own_el rfl e_tp (own_evL (hsets _ (List.mem_of_getElem? (i := 305) rfl))) hc, own_el rfl e_tp (own_evL (hsets _ (List.mem_of_getElem? (i := 306) rfl))) hc, own_el rfl e_tp (own_evL (hsets _ (List.mem_of_getElem? (i := 307) rfl))) hc, own_el rfl e_tp (own_evL (hsets _ (List.mem_of_getElem? (i := 308) rfl))) hc, own_el rfl e_tp (own_evL (hsets _ (List.mem_of_getElem? (i := 309) rfl))) hc, trivial⟩)
  obtain ⟨th, e_th, E_th⟩ := own_ex (hsets _ (List.mem_of_getElem? (i := 313) rfl))
  have S_th := Sta.start e_th (Or.inl (hsets _ (List.mem_of_getElem? (i := 311) rfl)))
  obtain ⟨k_th, V_th⟩ := own_arv (vs := [.long (9223372036854775807 : Int64), .long (922337203685477580 : Int64), .long (92233720368547758 : Int64), .long (9223372036854775 : Int64), .long (922337203685477 : Int64), .long (92233720368547 : Int64), .long (9223372036854 : Int64), .long (922337203685 : Int64), .long (92233720368 : Int64), .long (9223372036 : Int64), .long (922337203 : Int64), .long (92233720 : Int64), .long (9223372 : Int64), .long (922337 : Int64), .long (92233 : Int64), .long (9223 : Int64), .long (922 : Int64), .long (92 : Int64), .long (9 : Int64)]) (dv := .long (0 : Int64)) hfit e_th (hsets _ (List.mem_of_getElem? (i := 312) rfl)) (hsets _ (List.mem_of_getElem? (i := 314) rfl)) (by decide) rfl (fun c hc => ⟨own_el rfl e_th (own_evL (hsets _ (List.mem_of_getElem? (i := 315) rfl))) hc, own_el rfl e_th (own_evL (hsets _ (List.mem_of_getElem? (i := 316) rfl))) hc, own_el rfl e_th (own_evL (hsets _ (List.mem_of_getElem? (i := 317) rfl))) hc, own_el rfl e_th (own_evL (hsets _ (List.mem_of_getElem? (i := 318) rfl))) hc, own_el rfl e_th (own_evL (hsets _ (List.mem_of_getElem? (i := 319) rfl))) hc, own_el rfl e_th (own_evL (hsets _ (List.mem_of_getElem? (i := 320) rfl))) hc, own_el rfl e_th (own_evL (hsets _ (List.mem_of_getElem? (i := 321) rfl))) hc, own_el rfl e_th (own_evL (hsets _ (List.mem_of_getElem? (i := 322) rfl))) hc, own_el rfl e_th (own_evL (hsets _ (List.mem_of_getElem? (i := 323) rfl))) hc, own_el rfl e_th (own_evL (hsets _ (List.mem_of_getElem? (i := 324) rfl))) hc, own_el rfl e_th (own_evL (hsets _ (List.mem_of_getElem? (i := 325) rfl))) hc, own_el rfl e_th (own_evL (hsets _ (List.mem_of_getElem? (i := 326) rfl))) hc, own_el rfl e_th (own_evL (hsets _ (List.mem_of_getElem? (i := 327) rfl))) hc, own_el rfl e_th (own_evL (hsets _ (List.mem_of_getElem? (i := 328) rfl))) hc, own_el rfl e_th (own_evL (hsets _ (List.mem_of_getElem? (i := 329) rfl))) hc, own_el rfl e_th (own_evL (hsets _ (List.mem_of_getElem? (i := 330) rfl))) hc, own_el rfl e_th (own_evL (hsets _ (List.mem_of_getElem? (i := 331) rfl))) hc, own_el rfl e_th (own_evL (hsets _ (List.mem_of_getElem? (i := 332) rfl))) hc, own_el rfl e_th (own_evL (hsets _ (List.mem_of_getElem? (i := 333) rfl))) hc, trivial⟩)
  obtain ⟨n1, hn1⟩ := and_e hn
  obtain ⟨n2, hn2⟩ := and_e hn1
  obtain ⟨n3, hn3⟩ := and_e hn2
  obtain ⟨n4, hn4⟩ := and_e hn3
  obtain ⟨n5, n6⟩ := and_e hn4
  obtain ⟨dF, e_dF, E_dF⟩ := own_ex (Cond.before_iff.mpr n1)
  have S_dF := Sta.start e_dF (Or.inr ⟨(hw _ (List.mem_of_getElem? (i := 2) rfl)), (hw _ (List.mem_of_getElem? (i := 10) rfl))⟩)
  have F_dF_seconds := own_fL e_dF (Cond.before_iff.mpr n2)
  have F_dF_nanos := own_fI e_dF (Cond.before_iff.mpr n3)
  obtain ⟨dL, e_dL, E_dL⟩ := own_ex (Cond.before_iff.mpr n4)
  have S_dL := Sta.start e_dL (Or.inr ⟨(hw _ (List.mem_of_getElem? (i := 2) rfl)), (hw _ (List.mem_of_getElem? (i := 269) rfl))⟩)
  have F_dL_seconds := own_fL e_dL (Cond.before_iff.mpr n5)
  have F_dL_nanos := own_fI e_dL (Cond.before_iff.mpr n6)
  have HC : Cx s #[] (fun i => [dF, dL, bn, mn, b0, m0, zt, zs, tp, th, z0, z1, z2, z3, z4, z5, z6, z7, z8, z9, z10, s0, s1, s2, s3, s4, s5, s6, s7, s8, s9, s10, s11, s12, s13, s14, s15].getD i 0) (fun i => [k_mn, k_m0, k_zt, k_zs, k_tp, k_th].getD i k_mn) := ⟨hw, E_dF, E_dL, E_z0, E_z1, E_z2, E_z4, E_z8, E_b0, F_dF_nanos, F_dF_seconds, F_dL_nanos, F_dL_seconds, F_z0_intCompact, F_z0_scale, F_z1_intCompact, F_z1_scale, F_z2_intCompact, F_z2_scale, F_z4_intCompact, F_z4_scale, F_z8_intCompact, F_z8_scale, F_bn_mag, F_bn_signum, F_s9_intCompact, F_s9_scale, F_b0_mag, F_b0_signum, S_dF, S_dL, S_tp, S_th, S_zs, S_zt, S_b0, S_bn, V_mn, V_m0, V_zt, V_zs, V_tp, V_th, trivial⟩
  have hCH : CHv s [] s.vm s.heap := fun _ hp => by cases hp
  obtain ⟨n, o, h1, h2, h3, v, L, rfl, ⟨N, -, rfl⟩, -, r1, r2, r4⟩ := law_c (l := l) (n0 := s.heap.size) HC s.heap (Old.start s) tables_1 p e ha hc hk s m _ below hf ((Spec.applies_iff_loose hf).mp happ).1 ⟨rfl, State.Warmed39.refl s, rfl, hCH, sf0⟩ trivial
  exact ⟨n, _, h1, h2, h3, hpost _ _ _ _ _ _ ⟨Cond.after_iff.mpr rfl, Cond.after_iff.mpr (eq_i res_at (Term.int_eval (1)) rfl), trivial⟩ ⟨r1, r2, (r4.sift fun y hy => Or.inr (N y hy)).mono (by decide) (by decide)⟩⟩
theorem main_1_1 : Claimed_1_1 := comes_1 fun _ _ _ _ _ _ h hF => ⟨h.1, hF⟩
theorem main_1_2 : Claimed_1_2 := comes_1 fun _ _ _ _ _ _ h hF => ⟨h.2.1, hF⟩
end Jvm.Pilot.@@N@@
namespace Jvm.Pilot.@@N@@
open Jvm Jvm.ClassFile Sem Op Lib Jvm.Free Jvm.Stand Jvm.Pilot.@@N@@.Jvm.D
/-! MADE BY PROGRAM (witnessworld.py) out of the Statement's table words and the real class files: 27 classes; the members and pool entries that the words name. The judged class is class 1, her method 1. -/
namespace start1
open Jvm.ClassFile
def u (s : String) : CpInfo := .utf8 (stringToUtf16 s)
/-- a pool by its gaps: so many unusable entries, then the entry; so many at the end -/
def gap : Nat → List CpInfo → List CpInfo
  | 0, r => r
  | n + 1, r => .unusable :: gap n r
def poolList (es : List (Nat × CpInfo)) (last : Nat) : List CpInfo := es.foldr (fun e r => gap e.1 (e.2 :: r)) (gap last [])
def pool (es : List (Nat × CpInfo)) (last : Nat) : Array CpInfo := ⟨poolList es last⟩
def fileOf (pool : Array CpInfo) (this : Nat) (attrs : Array Attribute := #[]) (ms : Array MethodInfo := #[]) (fl : Nat := 33) (sup : Nat := 0) (ifs : Array Nat := #[]) (fds : Array FieldInfo := #[]) : ClassFile where
  minorVersion := 0
  majorVersion := 65
  constantPool := pool
  accessFlags := fl
  thisClass := this
  superClass := sup
  interfaces := ifs
  fields := fds
  methods := ms
  attributes := attrs
def plain (name : String) (sup : Option ClassId) : Class where
  name := name
  kind := .ordinary
  loader := none
  accessFlags := 33
  super := sup
  interfaces := #[]
  cf := none
  fields := #[]
  methods := #[]
  instanceTypes := #[]
  staticTypes := #[]
  resolved := #[]
  callSites := []
  init := .initialized
  statics := none
  mirror := none

def pool0 : Array CpInfo := pool [(5, u "<init>"), (0, u "()V"), (1, .class_ 10), (1, u "java/lang/Object")] 113

def k0c0 : Code := { maxStack := 0, maxLocals := 1, code := object_method_1_code, exceptionTable := #[], attributes := #[] }
def k0m0 : Method := { name := "<init>", desc := "()V", sig := { parameters := [], returnType := none }, accessFlags := 1, code := some k0c0 }
/-- java/lang/Object -/
def k0 : Class := { plain "java/lang/Object" none with
  accessFlags := 33
  interfaces := #[]
  cf := some (fileOf pool0 8 #[] #[{ accessFlags := 1, nameIndex := 5, descriptorIndex := 6, attributes := #[] }] 33 0 #[] #[])
  fields := #[]
  methods := #[k0m0]
  instanceTypes := #[]
  staticTypes := #[]
  resolved := Array.replicate 124 none
  statics := none }

def pool1 : Array CpInfo := pool [(2, .class_ 4), (0, .nameAndType 5 6), (0, u "java/lang/Object"), (0, u "<init>"), (0, u "()V"), (0, .class_ 8), (0, u "com/example/letters_between_tasks/lettersbetweentasks/service/Backoff"), (0, .methodref 7 3), (0, .methodref 7 11), (0, .nameAndType 12 13), (0, u "next"), (0, u "()Ljava/time/Duration;"), (0, .methodref 15 16), (0, .class_ 17), (0, .nameAndType 18 19), (0, u "java/time/Duration"), (0, u "toNanos"), (0, u "()J"), (0, .long 8000000000), (1, .long 500000000), (1, .long 1000000000), (1, .long 2000000000), (1, .long 4000000000), (1, .fieldref 7 31), (0, .nameAndType 32 33), (0, u "LONGEST"), (0, u "Ljava/time/Duration;"), (0, .class_ 35), (0, u "com/example/letters_between_tasks/lettersbetweentasks/service/BackoffNextPinLaw"), (2, u "law"), (0, u "()Z")] 3

def k1m0 : Method := { name := "<init>", desc := "()V", sig := { parameters := [], returnType := none }, accessFlags := 2, code := none }
def k1c1 : Code := { maxStack := 4, maxLocals := 19, code := code, exceptionTable := #[], attributes := #[] }
def k1m1 : Method := { name := "law", desc := "()Z", sig := { parameters := [], returnType := some .boolean }, accessFlags := 9, code := some k1c1 }
/-- com/example/letters_between_tasks/lettersbetweentasks/service/BackoffNextPinLaw -/
def k1 : Class := { plain "com/example/letters_between_tasks/lettersbetweentasks/service/BackoffNextPinLaw" (some 0) with
  accessFlags := 49
  interfaces := #[]
  cf := some (fileOf pool1 34 #[] #[{ accessFlags := 2, nameIndex := 5, descriptorIndex := 6, attributes := #[] }, { accessFlags := 9, nameIndex := 38, descriptorIndex := 39, attributes := #[] }] 49 2 #[] #[])
  fields := #[]
  methods := #[k1m0, k1m1]
  instanceTypes := #[]
  staticTypes := #[]
  resolved := Array.replicate 43 none
  statics := none }

def pool2 : Array CpInfo := pool [(1, .methodref 2 3), (0, .class_ 4), (0, .nameAndType 5 6), (0, u "java/lang/Object"), (0, u "<init>"), (0, u "()V"), (0, .fieldref 8 9), (0, .class_ 10), (0, .nameAndType 11 12), (0, u "com/example/letters_between_tasks/lettersbetweentasks/service/Backoff"), (0, u "FIRST"), (0, u "Ljava/time/Duration;"), (0, .fieldref 8 14), (0, .nameAndType 15 12), (0, u "next"), (0, .long 2), (1, .methodref 19 20), (0, .class_ 21), (0, .nameAndType 22 23), (0, u "java/time/Duration"), (0, u "multipliedBy"), (0, u "(J)Ljava/time/Duration;"), (0, .fieldref 8 25), (0, .nameAndType 26 12), (0, u "LONGEST"), (0, .methodref 19 28), (0, .nameAndType 29 30), (0, u "compareTo"), (0, u "(Ljava/time/Duration;)I"), (12, u "()Ljava/time/Duration;")] 4

def k2c0 : Code := { maxStack := 2, maxLocals := 1, code := prog_13_method_1_code, exceptionTable := #[], attributes := #[] }
def k2m0 : Method := { name := "<init>", desc := "()V", sig := { parameters := [], returnType := none }, accessFlags := 0, code := some k2c0 }
def k2c1 : Code := { maxStack := 3, maxLocals := 3, code := prog_13_method_2_code, exceptionTable := #[], attributes := #[] }
def k2m1 : Method := { name := "next", desc := "()Ljava/time/Duration;", sig := { parameters := [], returnType := some (.object "java/time/Duration") }, accessFlags := 0, code := some k2c1 }
/-- com/example/letters_between_tasks/lettersbetweentasks/service/Backoff -/
def k2 : Class := { plain "com/example/letters_between_tasks/lettersbetweentasks/service/Backoff" (some 0) with
  accessFlags := 48
  interfaces := #[]
  cf := some (fileOf pool2 8 #[] #[{ accessFlags := 0, nameIndex := 5, descriptorIndex := 6, attributes := #[] }, { accessFlags := 0, nameIndex := 15, descriptorIndex := 43, attributes := #[] }] 48 2 #[] #[{ accessFlags := 24, nameIndex := 26, descriptorIndex := 12, attributes := #[] }, { accessFlags := 26, nameIndex := 11, descriptorIndex := 12, attributes := #[] }, { accessFlags := 2, nameIndex := 15, descriptorIndex := 12, attributes := #[] }])
  fields := #[{ name := "LONGEST", type := (.object "java/time/Duration"), accessFlags := 24, slot := 0, constantValue := 0 }, { name := "FIRST", type := (.object "java/time/Duration"), accessFlags := 26, slot := 1, constantValue := 0 }, { name := "next", type := (.object "java/time/Duration"), accessFlags := 2, slot := 0, constantValue := 0 }]
  methods := #[k2m0, k2m1]
  instanceTypes := #[(.object "java/time/Duration")]
  staticTypes := #[(.object "java/time/Duration"), (.object "java/time/Duration")]
  resolved := Array.replicate 48 none
  statics := some 0 }

def pool3 : Array CpInfo := pool [(1, .class_ 2), (0, u "java/time/temporal/TemporalAmount"), (0, .class_ 4), (0, u "java/lang/Object")] 11

/-- java/time/temporal/TemporalAmount -/
def k3 : Class := { plain "java/time/temporal/TemporalAmount" (some 0) with
  accessFlags := 1537
  interfaces := #[]
  cf := some (fileOf pool3 1 #[] #[] 1537 3 #[] #[])
  fields := #[]
  methods := #[]
  instanceTypes := #[]
  staticTypes := #[]
  resolved := Array.replicate 16 none
  statics := none }

def pool4 : Array CpInfo := pool [(1, .class_ 2), (0, u "java/lang/Comparable"), (0, .class_ 4), (0, u "java/lang/Object")] 7

/-- java/lang/Comparable -/
def k4 : Class := { plain "java/lang/Comparable" (some 0) with
  accessFlags := 1537
  interfaces := #[]
  cf := some (fileOf pool4 1 #[] #[] 1537 3 #[] #[])
  fields := #[]
  methods := #[]
  instanceTypes := #[]
  staticTypes := #[]
  resolved := Array.replicate 12 none
  statics := none }

def pool5 : Array CpInfo := pool [(1, .class_ 2), (0, u "java/io/Serializable"), (0, .class_ 4), (0, u "java/lang/Object")] 2

/-- java/io/Serializable -/
def k5 : Class := { plain "java/io/Serializable" (some 0) with
  accessFlags := 1537
  interfaces := #[]
  cf := some (fileOf pool5 1 #[] #[] 1537 3 #[] #[])
  fields := #[]
  methods := #[]
  instanceTypes := #[]
  staticTypes := #[]
  resolved := Array.replicate 7 none
  statics := none }

def pool6 : Array CpInfo := pool [(5, .class_ 7), (1, u "java/lang/Math"), (0, u "multiplyExact"), (1, .methodref 11 12), (0, .class_ 13), (0, .nameAndType 14 15), (0, u "java/time/Duration"), (0, u "create"), (0, u "(JI)Ljava/time/Duration;"), (0, .long 1000000000), (1, .methodref 5 19), (0, .nameAndType 20 21), (0, u "floorDiv"), (0, u "(JJ)J"), (0, .methodref 5 23), (0, .nameAndType 24 21), (0, u "addExact"), (0, .methodref 5 26), (0, .nameAndType 27 21), (0, u "floorMod"), (6, u "ZERO"), (0, u "Ljava/time/Duration;"), (13, .class_ 51), (1, u "java/time/temporal/TemporalAmount"), (27, .class_ 81), (1, u "java/time/Duration$Lazy"), (35, u "seconds"), (21, u "<init>"), (7, .class_ 149), (1, u "java/lang/Long"), (7, .nameAndType 139 158), (0, u "()V"), (17, .methodref 11 177), (0, .nameAndType 178 179), (0, u "ofSeconds"), (0, u "(JJ)Ljava/time/Duration;"), (19, u "(J)Ljava/time/Duration;"), (15, .methodref 11 216), (0, .nameAndType 139 217), (0, u "(JI)V"), (0, .methodref 219 157), (0, .class_ 220), (0, u "java/lang/Object"), (0, .fieldref 11 222), (0, .nameAndType 117 223), (0, u "J"), (0, .fieldref 11 225), (0, .nameAndType 226 227), (0, u "nanos"), (0, u "I"), (11, .class_ 241), (1, u "java/time/Duration$DurationUnits"), (9, u "()J"), (3, u "()I"), (13, .class_ 271), (1, u "java/time/Duration$1"), (17, .methodref 5 290), (0, .nameAndType 8 21), (2, u "multipliedBy"), (15, .methodref 11 310), (0, .nameAndType 311 312), (0, u "toBigDecimalSeconds"), (0, u "()Ljava/math/BigDecimal;"), (0, .methodref 314 315), (0, .class_ 316), (0, .nameAndType 317 318), (0, u "java/math/BigDecimal"), (0, u "valueOf"), (0, u "(J)Ljava/math/BigDecimal;"), (0, .methodref 314 320), (0, .nameAndType 321 322), (0, u "multiply"), (0, u "(Ljava/math/BigDecimal;)Ljava/math/BigDecimal;"), (0, .methodref 11 324), (0, .nameAndType 14 325), (0, u "(Ljava/math/BigDecimal;)Ljava/time/Duration;"), (21, .methodref 314 348), (0, .nameAndType 317 349), (0, u "(JI)Ljava/math/BigDecimal;"), (0, .methodref 314 351), (0, .nameAndType 352 322), (0, u "add"), (0, .methodref 314 354), (0, .nameAndType 355 356), (0, u "movePointRight"), (0, u "(I)Ljava/math/BigDecimal;"), (0, .methodref 314 358), (0, .nameAndType 359 360), (0, u "toBigIntegerExact"), (0, u "()Ljava/math/BigInteger;"), (0, .fieldref 11 362), (0, .nameAndType 363 364), (0, u "BI_NANOS_PER_SECOND"), (0, u "Ljava/math/BigInteger;"), (0, .methodref 366 367), (0, .class_ 368), (0, .nameAndType 369 370), (0, u "java/math/BigInteger"), (0, u "divideAndRemainder"), (0, u "(Ljava/math/BigInteger;)[Ljava/math/BigInteger;"), (0, .methodref 366 372), (0, .nameAndType 373 255), (0, u "bitLength"), (2, .methodref 366 377), (0, .nameAndType 378 251), (0, u "longValue"), (0, .methodref 366 380), (0, .nameAndType 381 255), (0, u "intValue"), (29, u "toNanos"), (4, .methodref 147 417), (0, .nameAndType 418 419), (0, u "compare"), (0, u "(JJ)I"), (60, u "compareTo"), (0, u "(Ljava/time/Duration;)I"), (3, .class_ 486), (0, u "java/lang/Comparable"), (0, .class_ 488), (0, u "java/io/Serializable"), (0, u "serialVersionUID")] 166

def k6c0 : Code := { maxStack := 6, maxLocals := 7, code := jdk_2316_method_5_code, exceptionTable := #[], attributes := #[] }
def k6m0 : Method := { name := "ofSeconds", desc := "(JJ)Ljava/time/Duration;", sig := { parameters := [.long, .long], returnType := some (.object "java/time/Duration") }, accessFlags := 9, code := some k6c0 }
def k6c1 : Code := { maxStack := 5, maxLocals := 3, code := jdk_2316_method_16_code, exceptionTable := #[], attributes := #[] }
def k6m1 : Method := { name := "create", desc := "(JI)Ljava/time/Duration;", sig := { parameters := [.long, .int], returnType := some (.object "java/time/Duration") }, accessFlags := 10, code := some k6c1 }
def k6c2 : Code := { maxStack := 3, maxLocals := 4, code := jdk_2316_method_17_code, exceptionTable := #[], attributes := #[] }
def k6m2 : Method := { name := "<init>", desc := "(JI)V", sig := { parameters := [.long, .int], returnType := none }, accessFlags := 2, code := some k6c2 }
def k6c3 : Code := { maxStack := 4, maxLocals := 3, code := jdk_2316_method_44_code, exceptionTable := #[], attributes := #[] }
def k6m3 : Method := { name := "multipliedBy", desc := "(J)Ljava/time/Duration;", sig := { parameters := [.long], returnType := some (.object "java/time/Duration") }, accessFlags := 1, code := some k6c3 }
def k6c4 : Code := { maxStack := 4, maxLocals := 1, code := jdk_2316_method_47_code, exceptionTable := #[], attributes := #[] }
def k6m4 : Method := { name := "toBigDecimalSeconds", desc := "()Ljava/math/BigDecimal;", sig := { parameters := [], returnType := some (.object "java/math/BigDecimal") }, accessFlags := 2, code := some k6c4 }
def k6c5 : Code := { maxStack := 4, maxLocals := 3, code := jdk_2316_method_48_code, exceptionTable := #[], attributes := #[] }
def k6m5 : Method := { name := "create", desc := "(Ljava/math/BigDecimal;)Ljava/time/Duration;", sig := { parameters := [(.object "java/math/BigDecimal")], returnType := some (.object "java/time/Duration") }, accessFlags := 10, code := some k6c5 }
def k6c6 : Code := { maxStack := 4, maxLocals := 7, code := jdk_2316_method_58_code, exceptionTable := #[], attributes := #[] }
def k6m6 : Method := { name := "toNanos", desc := "()J", sig := { parameters := [], returnType := some .long }, accessFlags := 1, code := some k6c6 }
def k6c7 : Code := { maxStack := 4, maxLocals := 3, code := jdk_2316_method_66_code, exceptionTable := #[], attributes := #[] }
def k6m7 : Method := { name := "compareTo", desc := "(Ljava/time/Duration;)I", sig := { parameters := [(.object "java/time/Duration")], returnType := some .int }, accessFlags := 1, code := some k6c7 }
/-- java/time/Duration -/
def k6 : Class := { plain "java/time/Duration" (some 0) with
  accessFlags := 49
  interfaces := #[3, 4, 5]
  cf := some (fileOf pool6 11 #[.nestMembers #[269, 239, 79]] #[{ accessFlags := 9, nameIndex := 178, descriptorIndex := 179, attributes := #[] }, { accessFlags := 10, nameIndex := 14, descriptorIndex := 15, attributes := #[] }, { accessFlags := 2, nameIndex := 139, descriptorIndex := 217, attributes := #[] }, { accessFlags := 1, nameIndex := 293, descriptorIndex := 199, attributes := #[] }, { accessFlags := 2, nameIndex := 311, descriptorIndex := 312, attributes := #[] }, { accessFlags := 10, nameIndex := 14, descriptorIndex := 325, attributes := #[] }, { accessFlags := 1, nameIndex := 411, descriptorIndex := 251, attributes := #[] }, { accessFlags := 1, nameIndex := 480, descriptorIndex := 481, attributes := #[] }] 49 219 #[49, 485, 487] #[{ accessFlags := 25, nameIndex := 34, descriptorIndex := 35, attributes := #[] }, { accessFlags := 26, nameIndex := 489, descriptorIndex := 223, attributes := #[] }, { accessFlags := 26, nameIndex := 363, descriptorIndex := 364, attributes := #[] }, { accessFlags := 18, nameIndex := 117, descriptorIndex := 223, attributes := #[] }, { accessFlags := 18, nameIndex := 226, descriptorIndex := 227, attributes := #[] }])
  fields := #[{ name := "ZERO", type := (.object "java/time/Duration"), accessFlags := 25, slot := 0, constantValue := 0 }, { name := "serialVersionUID", type := .long, accessFlags := 26, slot := 1, constantValue := 0 }, { name := "BI_NANOS_PER_SECOND", type := (.object "java/math/BigInteger"), accessFlags := 26, slot := 2, constantValue := 0 }, { name := "seconds", type := .long, accessFlags := 18, slot := 0, constantValue := 0 }, { name := "nanos", type := .int, accessFlags := 18, slot := 1, constantValue := 0 }]
  methods := #[k6m0, k6m1, k6m2, k6m3, k6m4, k6m5, k6m6, k6m7]
  instanceTypes := #[.long, .int]
  staticTypes := #[(.object "java/time/Duration"), .long, (.object "java/math/BigInteger")]
  resolved := Array.replicate 656 none
  statics := some 1 }

def pool7 : Array CpInfo := pool [(1, .methodref 2 3), (0, .class_ 4), (0, .nameAndType 5 6), (0, u "java/lang/Object"), (0, u "<init>"), (0, u "()V"), (1, .class_ 10), (1, u "java/lang/Number"), (2, .class_ 14), (0, u "java/io/Serializable"), (0, u "serialVersionUID"), (0, u "J")] 20

def k7c0 : Code := { maxStack := 1, maxLocals := 1, code := jdk_18_method_1_code, exceptionTable := #[], attributes := #[] }
def k7m0 : Method := { name := "<init>", desc := "()V", sig := { parameters := [], returnType := none }, accessFlags := 1, code := some k7c0 }
/-- java/lang/Number -/
def k7 : Class := { plain "java/lang/Number" (some 0) with
  accessFlags := 1057
  interfaces := #[5]
  cf := some (fileOf pool7 8 #[] #[{ accessFlags := 1, nameIndex := 5, descriptorIndex := 6, attributes := #[] }] 1057 2 #[13] #[{ accessFlags := 26, nameIndex := 15, descriptorIndex := 16, attributes := #[] }])
  fields := #[{ name := "serialVersionUID", type := .long, accessFlags := 26, slot := 0, constantValue := 0 }]
  methods := #[k7m0]
  instanceTypes := #[]
  staticTypes := #[.long]
  resolved := Array.replicate 37 none
  statics := none }

def pool8 : Array CpInfo := pool [(3, .class_ 4), (0, u "java/math/BigDecimal"), (4, .class_ 10), (0, u "java/math/BigInteger"), (0, .methodref 12 13), (0, .class_ 14), (0, .nameAndType 15 16), (0, u "java/lang/Number"), (0, u "<init>"), (0, u "()V"), (0, .fieldref 3 18), (0, .nameAndType 19 20), (0, u "scale"), (0, u "I"), (0, .fieldref 3 22), (0, .nameAndType 23 20), (0, u "precision"), (0, .fieldref 3 25), (0, .nameAndType 26 27), (0, u "intCompact"), (0, u "J"), (0, .fieldref 3 29), (0, .nameAndType 30 31), (0, u "intVal"), (0, u "Ljava/math/BigInteger;"), (63, .fieldref 3 96), (0, .nameAndType 97 98), (0, u "LONG_TEN_POWERS_TABLE"), (0, u "[J"), (16, u "(J)I"), (9, .long 9223372036854775808), (61, u "ZERO"), (2, u "INFLATED_BIGINT"), (2, .methodref 9 194), (0, .nameAndType 195 196), (0, u "valueOf"), (0, u "(J)Ljava/math/BigInteger;"), (6, u "multiply"), (2, u "TWO"), (31, u "(J)Ljava/math/BigDecimal;"), (0, .methodref 3 240), (0, .nameAndType 241 242), (0, u "zeroValueOf"), (0, u "(I)Ljava/math/BigDecimal;"), (0, .methodref 3 244), (0, .nameAndType 15 245), (0, u "(Ljava/math/BigInteger;JII)V"), (0, .fieldref 3 247), (0, .nameAndType 248 249), (0, u "ZERO_THROUGH_TEN"), (0, u "[Ljava/math/BigDecimal;"), (0, .fieldref 3 251), (0, .nameAndType 252 249), (0, u "ZERO_SCALED_BY"), (4, .methodref 3 258), (0, .nameAndType 259 260), (0, u "add"), (0, u "(JIJI)Ljava/math/BigDecimal;"), (8, u "(Ljava/math/BigDecimal;)Ljava/math/BigDecimal;"), (6, .class_ 278), (1, u "java/lang/Math"), (14, u "setScale"), (8, .methodref 3 303), (0, .nameAndType 304 305), (0, u "inflated"), (0, u "()Ljava/math/BigInteger;"), (7, u "$assertionsDisabled"), (0, u "Z"), (7, u "(JJ)J"), (2, .methodref 3 326), (0, .nameAndType 327 115), (0, u "checkScale"), (0, .methodref 3 329), (0, .nameAndType 195 330), (0, u "(JI)Ljava/math/BigDecimal;"), (11, .methodref 3 343), (0, .nameAndType 203 344), (0, u "(JJI)Ljava/math/BigDecimal;"), (74, .methodref 3 420), (0, .nameAndType 293 421), (0, u "(II)Ljava/math/BigDecimal;"), (18, .methodref 276 441), (0, .nameAndType 442 443), (0, u "abs"), (0, u "(J)J"), (34, u "ONE_TENTH"), (0, u "Ljava/math/BigDecimal;"), (5, u "TEN"), (14, .class_ 502), (1, u "java/math/BigDecimal$1"), (15, u "ONE_HALF"), (16, u "ONE"), (63, .methodref 3 600), (0, .nameAndType 601 602), (0, u "longMultiplyPowerTen"), (0, u "(JI)J"), (32, u "(JJ)I"), (7, u "stringCache"), (0, u "Ljava/lang/String;"), (52, .class_ 699), (1, u "java/math/BigDecimal$LongOverflow"), (8, u "FLOAT_10_POW"), (0, u "[F"), (39, u "DOUBLE_10_POW"), (0, u "[D"), (19, .class_ 772), (1, u "java/math/BigDecimal$StringBuilderHelper"), (35, u "BIG_TEN_POWERS_TABLE_MAX"), (2, u "BIG_TEN_POWERS_TABLE"), (0, u "[Ljava/math/BigInteger;"), (12, .fieldref 3 826), (0, .nameAndType 827 98), (0, u "THRESHOLDS_TABLE"), (23, .class_ 853), (1, u "java/math/BigDecimal$UnsafeHolder"), (140, .methodref 3 995), (0, .nameAndType 327 635), (0, .methodref 3 997), (0, .nameAndType 259 322), (2, .methodref 3 1001), (0, .nameAndType 259 344), (53, .methodref 3 1056), (0, .nameAndType 203 322), (11, u "LONGLONG_TEN_POWERS_TABLE"), (0, u "[[J"), (112, u "BIG_TEN_POWERS_TABLE_INITLEN"), (113, .class_ 1297), (0, u "java/lang/Comparable"), (0, u "L"), (0, u "D"), (1, u "P_F"), (1, u "Q_MIN_F"), (1, u "Q_MAX_F"), (1, u "P_D"), (1, u "Q_MIN_D"), (1, u "Q_MAX_D"), (1, u "INFLATED"), (0, u "MAX_COMPACT_DIGITS"), (1, u "serialVersionUID"), (2, u "HALF_LONG_MAX_VALUE"), (0, u "HALF_LONG_MIN_VALUE"), (0, u "ROUND_UP"), (6, u "ROUND_DOWN"), (1, u "ROUND_CEILING"), (1, u "ROUND_FLOOR"), (1, u "ROUND_HALF_UP"), (1, u "ROUND_HALF_DOWN"), (1, u "ROUND_HALF_EVEN"), (1, u "ROUND_UNNECESSARY"), (1, u "DIV_NUM_BASE"), (116, u "movePointRight"), (22, u "toBigIntegerExact")] 154

def k8c0 : Code := { maxStack := 3, maxLocals := 6, code := jdk_17_method_1_code, exceptionTable := #[], attributes := #[] }
def k8m0 : Method := { name := "<init>", desc := "(Ljava/math/BigInteger;JII)V", sig := { parameters := [(.object "java/math/BigInteger"), .long, .int, .int], returnType := none }, accessFlags := 0, code := some k8c0 }
def k8c1 : Code := { maxStack := 7, maxLocals := 3, code := jdk_17_method_20_code, exceptionTable := #[], attributes := #[] }
def k8m1 : Method := { name := "valueOf", desc := "(JI)Ljava/math/BigDecimal;", sig := { parameters := [.long, .int], returnType := some (.object "java/math/BigDecimal") }, accessFlags := 9, code := some k8c1 }
def k8c2 : Code := { maxStack := 7, maxLocals := 2, code := jdk_17_method_21_code, exceptionTable := #[], attributes := #[] }
def k8m2 : Method := { name := "valueOf", desc := "(J)Ljava/math/BigDecimal;", sig := { parameters := [.long], returnType := some (.object "java/math/BigDecimal") }, accessFlags := 9, code := some k8c2 }
def k8c3 : Code := { maxStack := 7, maxLocals := 1, code := jdk_17_method_24_code, exceptionTable := #[], attributes := #[] }
def k8m3 : Method := { name := "zeroValueOf", desc := "(I)Ljava/math/BigDecimal;", sig := { parameters := [.int], returnType := some (.object "java/math/BigDecimal") }, accessFlags := 8, code := some k8c3 }
def k8c4 : Code := { maxStack := 6, maxLocals := 2, code := jdk_17_method_26_code, exceptionTable := #[], attributes := #[] }
def k8m4 : Method := { name := "add", desc := "(Ljava/math/BigDecimal;)Ljava/math/BigDecimal;", sig := { parameters := [(.object "java/math/BigDecimal")], returnType := some (.object "java/math/BigDecimal") }, accessFlags := 1, code := some k8c4 }
def k8c5 : Code := { maxStack := 5, maxLocals := 3, code := jdk_17_method_31_code, exceptionTable := #[], attributes := #[] }
def k8m5 : Method := { name := "multiply", desc := "(Ljava/math/BigDecimal;)Ljava/math/BigDecimal;", sig := { parameters := [(.object "java/math/BigDecimal")], returnType := some (.object "java/math/BigDecimal") }, accessFlags := 1, code := some k8c5 }
def k8c6 : Code := { maxStack := 8, maxLocals := 8, code := jdk_17_method_64_code, exceptionTable := #[], attributes := #[] }
def k8m6 : Method := { name := "setScale", desc := "(II)Ljava/math/BigDecimal;", sig := { parameters := [.int, .int], returnType := some (.object "java/math/BigDecimal") }, accessFlags := 1, code := some k8c6 }
def k8c7 : Code := { maxStack := 7, maxLocals := 4, code := jdk_17_method_67_code, exceptionTable := #[], attributes := #[] }
def k8m7 : Method := { name := "movePointRight", desc := "(I)Ljava/math/BigDecimal;", sig := { parameters := [.int], returnType := some (.object "java/math/BigDecimal") }, accessFlags := 1, code := some k8c7 }
def k8c8 : Code := { maxStack := 3, maxLocals := 1, code := jdk_17_method_81_code, exceptionTable := #[], attributes := #[] }
def k8m8 : Method := { name := "toBigIntegerExact", desc := "()Ljava/math/BigInteger;", sig := { parameters := [], returnType := some (.object "java/math/BigInteger") }, accessFlags := 1, code := some k8c8 }
def k8c9 : Code := { maxStack := 4, maxLocals := 7, code := jdk_17_method_97_code, exceptionTable := #[], attributes := #[] }
def k8m9 : Method := { name := "longMultiplyPowerTen", desc := "(JI)J", sig := { parameters := [.long, .int], returnType := some .long }, accessFlags := 10, code := some k8c9 }
def k8c10 : Code := { maxStack := 2, maxLocals := 1, code := jdk_17_method_99_code, exceptionTable := #[], attributes := #[] }
def k8m10 : Method := { name := "inflated", desc := "()Ljava/math/BigInteger;", sig := { parameters := [], returnType := some (.object "java/math/BigInteger") }, accessFlags := 2, code := some k8c10 }
def k8c11 : Code := { maxStack := 4, maxLocals := 5, code := jdk_17_method_106_code, exceptionTable := #[], attributes := #[] }
def k8m11 : Method := { name := "checkScale", desc := "(J)I", sig := { parameters := [.long], returnType := some .int }, accessFlags := 2, code := some k8c11 }
def k8c12 : Code := { maxStack := 4, maxLocals := 5, code := jdk_17_method_113_code, exceptionTable := #[], attributes := #[] }
def k8m12 : Method := { name := "checkScale", desc := "(JJ)I", sig := { parameters := [.long, .long], returnType := some .int }, accessFlags := 10, code := some k8c12 }
def k8c13 : Code := { maxStack := 6, maxLocals := 6, code := jdk_17_method_132_code, exceptionTable := #[], attributes := #[] }
def k8m13 : Method := { name := "add", desc := "(JJ)J", sig := { parameters := [.long, .long], returnType := some .long }, accessFlags := 10, code := some k8c13 }
def k8c14 : Code := { maxStack := 5, maxLocals := 7, code := jdk_17_method_133_code, exceptionTable := #[], attributes := #[] }
def k8m14 : Method := { name := "add", desc := "(JJI)Ljava/math/BigDecimal;", sig := { parameters := [.long, .long, .int], returnType := some (.object "java/math/BigDecimal") }, accessFlags := 10, code := some k8c14 }
def k8c15 : Code := { maxStack := 7, maxLocals := 12, code := jdk_17_method_134_code, exceptionTable := #[], attributes := #[] }
def k8m15 : Method := { name := "add", desc := "(JIJI)Ljava/math/BigDecimal;", sig := { parameters := [.long, .int, .long, .int], returnType := some (.object "java/math/BigDecimal") }, accessFlags := 10, code := some k8c15 }
def k8c16 : Code := { maxStack := 4, maxLocals := 10, code := jdk_17_method_156_code, exceptionTable := #[], attributes := #[] }
def k8m16 : Method := { name := "multiply", desc := "(JJ)J", sig := { parameters := [.long, .long], returnType := some .long }, accessFlags := 10, code := some k8c16 }
def k8c17 : Code := { maxStack := 7, maxLocals := 7, code := jdk_17_method_157_code, exceptionTable := #[], attributes := #[] }
def k8m17 : Method := { name := "multiply", desc := "(JJI)Ljava/math/BigDecimal;", sig := { parameters := [.long, .long, .int], returnType := some (.object "java/math/BigDecimal") }, accessFlags := 10, code := some k8c17 }
/-- java/math/BigDecimal -/
def k8 : Class := { plain "java/math/BigDecimal" (some 7) with
  accessFlags := 33
  interfaces := #[4]
  cf := some (fileOf pool8 3 #[.nestMembers #[500, 851, 770, 697]] #[{ accessFlags := 0, nameIndex := 15, descriptorIndex := 245, attributes := #[] }, { accessFlags := 9, nameIndex := 195, descriptorIndex := 330, attributes := #[] }, { accessFlags := 9, nameIndex := 195, descriptorIndex := 238, attributes := #[] }, { accessFlags := 8, nameIndex := 241, descriptorIndex := 242, attributes := #[] }, { accessFlags := 1, nameIndex := 259, descriptorIndex := 269, attributes := #[] }, { accessFlags := 1, nameIndex := 203, descriptorIndex := 269, attributes := #[] }, { accessFlags := 1, nameIndex := 293, descriptorIndex := 421, attributes := #[] }, { accessFlags := 1, nameIndex := 1459, descriptorIndex := 242, attributes := #[] }, { accessFlags := 1, nameIndex := 1482, descriptorIndex := 305, attributes := #[] }, { accessFlags := 10, nameIndex := 601, descriptorIndex := 602, attributes := #[] }, { accessFlags := 2, nameIndex := 304, descriptorIndex := 305, attributes := #[] }, { accessFlags := 2, nameIndex := 327, descriptorIndex := 115, attributes := #[] }, { accessFlags := 10, nameIndex := 327, descriptorIndex := 635, attributes := #[] }, { accessFlags := 10, nameIndex := 259, descriptorIndex := 322, attributes := #[] }, { accessFlags := 10, nameIndex := 259, descriptorIndex := 344, attributes := #[] }, { accessFlags := 10, nameIndex := 259, descriptorIndex := 260, attributes := #[] }, { accessFlags := 10, nameIndex := 203, descriptorIndex := 322, attributes := #[] }, { accessFlags := 10, nameIndex := 203, descriptorIndex := 344, attributes := #[] }] 33 12 #[1296] #[{ accessFlags := 26, nameIndex := 1298, descriptorIndex := 1299, attributes := #[] }, { accessFlags := 26, nameIndex := 1301, descriptorIndex := 20, attributes := #[] }, { accessFlags := 26, nameIndex := 1303, descriptorIndex := 20, attributes := #[] }, { accessFlags := 26, nameIndex := 1305, descriptorIndex := 20, attributes := #[] }, { accessFlags := 26, nameIndex := 1307, descriptorIndex := 20, attributes := #[] }, { accessFlags := 26, nameIndex := 1309, descriptorIndex := 20, attributes := #[] }, { accessFlags := 26, nameIndex := 1311, descriptorIndex := 20, attributes := #[] }, { accessFlags := 18, nameIndex := 30, descriptorIndex := 31, attributes := #[] }, { accessFlags := 18, nameIndex := 19, descriptorIndex := 20, attributes := #[] }, { accessFlags := 130, nameIndex := 23, descriptorIndex := 20, attributes := #[] }, { accessFlags := 130, nameIndex := 643, descriptorIndex := 644, attributes := #[] }, { accessFlags := 24, nameIndex := 1313, descriptorIndex := 27, attributes := #[] }, { accessFlags := 26, nameIndex := 190, descriptorIndex := 31, attributes := #[] }, { accessFlags := 146, nameIndex := 26, descriptorIndex := 27, attributes := #[] }, { accessFlags := 26, nameIndex := 1314, descriptorIndex := 20, attributes := #[] }, { accessFlags := 26, nameIndex := 1316, descriptorIndex := 27, attributes := #[] }, { accessFlags := 26, nameIndex := 248, descriptorIndex := 249, attributes := #[] }, { accessFlags := 26, nameIndex := 252, descriptorIndex := 249, attributes := #[] }, { accessFlags := 26, nameIndex := 1319, descriptorIndex := 27, attributes := #[] }, { accessFlags := 26, nameIndex := 1320, descriptorIndex := 27, attributes := #[] }, { accessFlags := 25, nameIndex := 187, descriptorIndex := 479, attributes := #[] }, { accessFlags := 25, nameIndex := 535, descriptorIndex := 479, attributes := #[] }, { accessFlags := 25, nameIndex := 206, descriptorIndex := 479, attributes := #[] }, { accessFlags := 25, nameIndex := 485, descriptorIndex := 479, attributes := #[] }, { accessFlags := 26, nameIndex := 478, descriptorIndex := 479, attributes := #[] }, { accessFlags := 26, nameIndex := 518, descriptorIndex := 479, attributes := #[] }, { accessFlags := 25, nameIndex := 1321, descriptorIndex := 20, attributes := #[] }, { accessFlags := 25, nameIndex := 1328, descriptorIndex := 20, attributes := #[] }, { accessFlags := 25, nameIndex := 1330, descriptorIndex := 20, attributes := #[] }, { accessFlags := 25, nameIndex := 1332, descriptorIndex := 20, attributes := #[] }, { accessFlags := 25, nameIndex := 1334, descriptorIndex := 20, attributes := #[] }, { accessFlags := 25, nameIndex := 1336, descriptorIndex := 20, attributes := #[] }, { accessFlags := 25, nameIndex := 1338, descriptorIndex := 20, attributes := #[] }, { accessFlags := 25, nameIndex := 1340, descriptorIndex := 20, attributes := #[] }, { accessFlags := 26, nameIndex := 749, descriptorIndex := 750, attributes := #[] }, { accessFlags := 26, nameIndex := 708, descriptorIndex := 709, attributes := #[] }, { accessFlags := 26, nameIndex := 97, descriptorIndex := 98, attributes := #[] }, { accessFlags := 74, nameIndex := 811, descriptorIndex := 812, attributes := #[] }, { accessFlags := 26, nameIndex := 1182, descriptorIndex := 20, attributes := #[] }, { accessFlags := 26, nameIndex := 808, descriptorIndex := 20, attributes := #[] }, { accessFlags := 26, nameIndex := 827, descriptorIndex := 98, attributes := #[] }, { accessFlags := 26, nameIndex := 1342, descriptorIndex := 27, attributes := #[] }, { accessFlags := 26, nameIndex := 1068, descriptorIndex := 1069, attributes := #[] }, { accessFlags := 4120, nameIndex := 313, descriptorIndex := 314, attributes := #[] }])
  fields := #[{ name := "L", type := .double, accessFlags := 26, slot := 0, constantValue := 0 }, { name := "P_F", type := .int, accessFlags := 26, slot := 1, constantValue := 0 }, { name := "Q_MIN_F", type := .int, accessFlags := 26, slot := 2, constantValue := 0 }, { name := "Q_MAX_F", type := .int, accessFlags := 26, slot := 3, constantValue := 0 }, { name := "P_D", type := .int, accessFlags := 26, slot := 4, constantValue := 0 }, { name := "Q_MIN_D", type := .int, accessFlags := 26, slot := 5, constantValue := 0 }, { name := "Q_MAX_D", type := .int, accessFlags := 26, slot := 6, constantValue := 0 }, { name := "intVal", type := (.object "java/math/BigInteger"), accessFlags := 18, slot := 0, constantValue := 0 }, { name := "scale", type := .int, accessFlags := 18, slot := 1, constantValue := 0 }, { name := "precision", type := .int, accessFlags := 130, slot := 2, constantValue := 0 }, { name := "stringCache", type := (.object "java/lang/String"), accessFlags := 130, slot := 3, constantValue := 0 }, { name := "INFLATED", type := .long, accessFlags := 24, slot := 7, constantValue := 0 }, { name := "INFLATED_BIGINT", type := (.object "java/math/BigInteger"), accessFlags := 26, slot := 8, constantValue := 0 }, { name := "intCompact", type := .long, accessFlags := 146, slot := 4, constantValue := 0 }, { name := "MAX_COMPACT_DIGITS", type := .int, accessFlags := 26, slot := 9, constantValue := 0 }, { name := "serialVersionUID", type := .long, accessFlags := 26, slot := 10, constantValue := 0 }, { name := "ZERO_THROUGH_TEN", type := (.array (.object "java/math/BigDecimal")), accessFlags := 26, slot := 11, constantValue := 0 }, { name := "ZERO_SCALED_BY", type := (.array (.object "java/math/BigDecimal")), accessFlags := 26, slot := 12, constantValue := 0 }, { name := "HALF_LONG_MAX_VALUE", type := .long, accessFlags := 26, slot := 13, constantValue := 0 }, { name := "HALF_LONG_MIN_VALUE", type := .long, accessFlags := 26, slot := 14, constantValue := 0 }, { name := "ZERO", type := (.object "java/math/BigDecimal"), accessFlags := 25, slot := 15, constantValue := 0 }, { name := "ONE", type := (.object "java/math/BigDecimal"), accessFlags := 25, slot := 16, constantValue := 0 }, { name := "TWO", type := (.object "java/math/BigDecimal"), accessFlags := 25, slot := 17, constantValue := 0 }, { name := "TEN", type := (.object "java/math/BigDecimal"), accessFlags := 25, slot := 18, constantValue := 0 }, { name := "ONE_TENTH", type := (.object "java/math/BigDecimal"), accessFlags := 26, slot := 19, constantValue := 0 }, { name := "ONE_HALF", type := (.object "java/math/BigDecimal"), accessFlags := 26, slot := 20, constantValue := 0 }, { name := "ROUND_UP", type := .int, accessFlags := 25, slot := 21, constantValue := 0 }, { name := "ROUND_DOWN", type := .int, accessFlags := 25, slot := 22, constantValue := 0 }, { name := "ROUND_CEILING", type := .int, accessFlags := 25, slot := 23, constantValue := 0 }, { name := "ROUND_FLOOR", type := .int, accessFlags := 25, slot := 24, constantValue := 0 }, { name := "ROUND_HALF_UP", type := .int, accessFlags := 25, slot := 25, constantValue := 0 }, { name := "ROUND_HALF_DOWN", type := .int, accessFlags := 25, slot := 26, constantValue := 0 }, { name := "ROUND_HALF_EVEN", type := .int, accessFlags := 25, slot := 27, constantValue := 0 }, { name := "ROUND_UNNECESSARY", type := .int, accessFlags := 25, slot := 28, constantValue := 0 }, { name := "DOUBLE_10_POW", type := (.array .double), accessFlags := 26, slot := 29, constantValue := 0 }, { name := "FLOAT_10_POW", type := (.array .float), accessFlags := 26, slot := 30, constantValue := 0 }, { name := "LONG_TEN_POWERS_TABLE", type := (.array .long), accessFlags := 26, slot := 31, constantValue := 0 }, { name := "BIG_TEN_POWERS_TABLE", type := (.array (.object "java/math/BigInteger")), accessFlags := 74, slot := 32, constantValue := 0 }, { name := "BIG_TEN_POWERS_TABLE_INITLEN", type := .int, accessFlags := 26, slot := 33, constantValue := 0 }, { name := "BIG_TEN_POWERS_TABLE_MAX", type := .int, accessFlags := 26, slot := 34, constantValue := 0 }, { name := "THRESHOLDS_TABLE", type := (.array .long), accessFlags := 26, slot := 35, constantValue := 0 }, { name := "DIV_NUM_BASE", type := .long, accessFlags := 26, slot := 36, constantValue := 0 }, { name := "LONGLONG_TEN_POWERS_TABLE", type := (.array (.array .long)), accessFlags := 26, slot := 37, constantValue := 0 }, { name := "$assertionsDisabled", type := .boolean, accessFlags := 4120, slot := 38, constantValue := 0 }]
  methods := #[k8m0, k8m1, k8m2, k8m3, k8m4, k8m5, k8m6, k8m7, k8m8, k8m9, k8m10, k8m11, k8m12, k8m13, k8m14, k8m15, k8m16, k8m17]
  instanceTypes := #[(.object "java/math/BigInteger"), .int, .int, (.object "java/lang/String"), .long]
  staticTypes := #[.double, .int, .int, .int, .int, .int, .int, .long, (.object "java/math/BigInteger"), .int, .long, (.array (.object "java/math/BigDecimal")), (.array (.object "java/math/BigDecimal")), .long, .long, (.object "java/math/BigDecimal"), (.object "java/math/BigDecimal"), (.object "java/math/BigDecimal"), (.object "java/math/BigDecimal"), (.object "java/math/BigDecimal"), (.object "java/math/BigDecimal"), .int, .int, .int, .int, .int, .int, .int, .int, (.array .double), (.array .float), (.array .long), (.array (.object "java/math/BigInteger")), .int, .int, (.array .long), .long, (.array (.array .long)), .boolean]
  resolved := Array.replicate 1637 none
  statics := some 2 }

def pool9 : Array CpInfo := pool [(1, .class_ 2), (0, u "java/lang/Math"), (1, .class_ 6), (1, u "java/lang/Object"), (0, u "<init>"), (0, u "()V"), (89, .class_ 100), (1, u "java/lang/Math$RandomNumberGeneratorHolder"), (19, u "multiplyExact"), (0, u "(JJ)J"), (0, .methodref 1 123), (0, .nameAndType 124 125), (0, u "abs"), (0, u "(J)J"), (19, u "floorDiv"), (2, u "floorMod"), (23, u "negativeZeroFloatBits"), (0, u "J"), (2, u "negativeZeroDoubleBits"), (24, u "min"), (43, u "$assertionsDisabled"), (0, u "Z"), (88, u "(II)I"), (2, u "twoToTheDoubleScaleDown"), (0, u "D"), (4, u "twoToTheDoubleScaleUp"), (9, u "E"), (3, u "PI"), (2, u "TAU"), (2, u "DEGREES_TO_RADIANS"), (0, u "RADIANS_TO_DEGREES"), (27, u "addExact")] 66

def k9m0 : Method := { name := "<init>", desc := "()V", sig := { parameters := [], returnType := none }, accessFlags := 2, code := none }
def k9c1 : Code := { maxStack := 6, maxLocals := 6, code := jdk_29_method_25_code, exceptionTable := #[], attributes := #[] }
def k9m1 : Method := { name := "addExact", desc := "(JJ)J", sig := { parameters := [.long, .long], returnType := some .long }, accessFlags := 9, code := some k9c1 }
def k9c2 : Code := { maxStack := 4, maxLocals := 10, code := jdk_29_method_30_code, exceptionTable := #[], attributes := #[] }
def k9m2 : Method := { name := "multiplyExact", desc := "(JJ)J", sig := { parameters := [.long, .long], returnType := some .long }, accessFlags := 9, code := some k9c2 }
def k9c3 : Code := { maxStack := 4, maxLocals := 6, code := jdk_29_method_49_code, exceptionTable := #[], attributes := #[] }
def k9m3 : Method := { name := "floorDiv", desc := "(JJ)J", sig := { parameters := [.long, .long], returnType := some .long }, accessFlags := 9, code := some k9c3 }
def k9c4 : Code := { maxStack := 4, maxLocals := 6, code := jdk_29_method_52_code, exceptionTable := #[], attributes := #[] }
def k9m4 : Method := { name := "floorMod", desc := "(JJ)J", sig := { parameters := [.long, .long], returnType := some .long }, accessFlags := 9, code := some k9c4 }
def k9c5 : Code := { maxStack := 4, maxLocals := 2, code := jdk_29_method_61_code, exceptionTable := #[], attributes := #[] }
def k9m5 : Method := { name := "abs", desc := "(J)J", sig := { parameters := [.long], returnType := some .long }, accessFlags := 9, code := some k9c5 }
def k9c6 : Code := { maxStack := 2, maxLocals := 2, code := jdk_29_method_69_code, exceptionTable := #[], attributes := #[] }
def k9m6 : Method := { name := "min", desc := "(II)I", sig := { parameters := [.int, .int], returnType := some .int }, accessFlags := 9, code := some k9c6 }
/-- java/lang/Math -/
def k9 : Class := { plain "java/lang/Math" (some 0) with
  accessFlags := 49
  interfaces := #[]
  cf := some (fileOf pool9 1 #[.nestMembers #[98]] #[{ accessFlags := 2, nameIndex := 7, descriptorIndex := 8, attributes := #[] }, { accessFlags := 9, nameIndex := 393, descriptorIndex := 121, attributes := #[] }, { accessFlags := 9, nameIndex := 120, descriptorIndex := 121, attributes := #[] }, { accessFlags := 9, nameIndex := 145, descriptorIndex := 121, attributes := #[] }, { accessFlags := 9, nameIndex := 148, descriptorIndex := 121, attributes := #[] }, { accessFlags := 9, nameIndex := 124, descriptorIndex := 125, attributes := #[] }, { accessFlags := 9, nameIndex := 201, descriptorIndex := 335, attributes := #[] }] 49 4 #[] #[{ accessFlags := 25, nameIndex := 354, descriptorIndex := 339, attributes := #[] }, { accessFlags := 25, nameIndex := 358, descriptorIndex := 339, attributes := #[] }, { accessFlags := 25, nameIndex := 361, descriptorIndex := 339, attributes := #[] }, { accessFlags := 26, nameIndex := 364, descriptorIndex := 339, attributes := #[] }, { accessFlags := 26, nameIndex := 365, descriptorIndex := 339, attributes := #[] }, { accessFlags := 26, nameIndex := 172, descriptorIndex := 173, attributes := #[] }, { accessFlags := 26, nameIndex := 176, descriptorIndex := 173, attributes := #[] }, { accessFlags := 8, nameIndex := 344, descriptorIndex := 339, attributes := #[] }, { accessFlags := 8, nameIndex := 338, descriptorIndex := 339, attributes := #[] }, { accessFlags := 4120, nameIndex := 245, descriptorIndex := 246, attributes := #[] }])
  fields := #[{ name := "E", type := .double, accessFlags := 25, slot := 0, constantValue := 0 }, { name := "PI", type := .double, accessFlags := 25, slot := 1, constantValue := 0 }, { name := "TAU", type := .double, accessFlags := 25, slot := 2, constantValue := 0 }, { name := "DEGREES_TO_RADIANS", type := .double, accessFlags := 26, slot := 3, constantValue := 0 }, { name := "RADIANS_TO_DEGREES", type := .double, accessFlags := 26, slot := 4, constantValue := 0 }, { name := "negativeZeroFloatBits", type := .long, accessFlags := 26, slot := 5, constantValue := 0 }, { name := "negativeZeroDoubleBits", type := .long, accessFlags := 26, slot := 6, constantValue := 0 }, { name := "twoToTheDoubleScaleUp", type := .double, accessFlags := 8, slot := 7, constantValue := 0 }, { name := "twoToTheDoubleScaleDown", type := .double, accessFlags := 8, slot := 8, constantValue := 0 }, { name := "$assertionsDisabled", type := .boolean, accessFlags := 4120, slot := 9, constantValue := 0 }]
  methods := #[k9m0, k9m1, k9m2, k9m3, k9m4, k9m5, k9m6]
  instanceTypes := #[]
  staticTypes := #[.double, .double, .double, .double, .double, .long, .long, .double, .double, .boolean]
  resolved := Array.replicate 460 none
  statics := none }

def pool10 : Array CpInfo := pool [(1, .class_ 2), (0, u "java/lang/Integer"), (0, .methodref 4 5), (0, .class_ 6), (0, .nameAndType 7 8), (0, u "java/lang/Number"), (0, u "<init>"), (0, u "()V"), (14, .class_ 25), (1, u "java/math/BigInteger"), (0, u "ZERO"), (0, u "Ljava/math/BigInteger;"), (0, .fieldref 23 29), (0, .nameAndType 30 31), (0, u "mag"), (0, u "[I"), (0, .fieldref 23 33), (0, .nameAndType 34 35), (0, u "signum"), (0, u "I"), (7, .integer 67108864), (30, u "()I"), (7, u "(I)I"), (12, u "bitsPerDigit"), (0, u "[J"), (9, u "digitsPerInt"), (12, u "intRadix"), (10, .long 4294967295), (46, u "([II)V"), (2, u "SMALL_PRIME_PRODUCT"), (6, u "longValue"), (0, u "()J"), (30, u "(I)Ljava/math/BigInteger;"), (14, u "bitLength"), (2, u "valueOf"), (0, u "(J)Ljava/math/BigInteger;"), (21, u "ONE"), (6, u "TWO"), (40, u "intValue"), (2, u "$assertionsDisabled"), (0, u "Z"), (32, .long 16), (3, u "posConst"), (0, u "[Ljava/math/BigInteger;"), (4, u "negConst"), (0, .methodref 23 357), (0, .nameAndType 7 358), (0, u "(J)V"), (1, .nameAndType 7 361), (0, u "([I)V"), (110, .class_ 474), (1, u "java/math/BigInteger$RecursiveOp"), (62, u "divideKnuth"), (3, .class_ 542), (0, u "java/math/MutableBigInteger"), (0, .methodref 541 5), (0, .methodref 541 360), (3, .methodref 541 549), (0, .nameAndType 550 219), (0, u "toBigInteger"), (0, .methodref 23 552), (0, .nameAndType 553 554), (0, u "divideAndRemainderKnuth"), (0, u "(Ljava/math/BigInteger;)[Ljava/math/BigInteger;"), (3, .methodref 541 559), (0, .nameAndType 537 560), (0, u "(Ljava/math/MutableBigInteger;Ljava/math/MutableBigInteger;)Ljava/math/MutableBigInteger;"), (20, u "NEGATIVE_ONE"), (20, .methodref 1 603), (0, .nameAndType 604 82), (0, u "numberOfLeadingZeros"), (0, .methodref 23 606), (0, .nameAndType 607 82), (0, u "bitLengthForInt"), (65, u "bnExpModThreshTable"), (62, .methodref 23 737), (0, .nameAndType 738 82), (0, u "getInt"), (7, u "lowestSetBitPlusTwo"), (0, .fieldref 23 748), (0, .nameAndType 749 35), (0, u "bitLengthPlusOne"), (2, u "bitCountPlusOne"), (6, u "LOG_TWO"), (0, u "D"), (2, u "logCache"), (0, u "[D"), (13, u "NUM_ZEROS"), (2, u "ZEROS"), (0, u "Ljava/lang/String;"), (9, u "longRadix"), (5, u "digitsPerLong"), (19, u "divideAndRemainder"), (2, u "powerCache"), (0, u "[[Ljava/math/BigInteger;"), (37, .methodref 23 861), (0, .nameAndType 862 74), (0, u "signInt"), (5, u "firstNonzeroIntNumPlusTwo"), (38, .class_ 909), (1, u "java/math/BigInteger$UnsafeHolder"), (141, u "TEN"), (106, u "serialPersistentFields"), (0, u "[Ljava/io/ObjectStreamField;"), (0, .class_ 1161), (0, u "java/lang/Comparable"), (0, u "LONG_MASK"), (0, u "J"), (1, u "MAX_MAG_LENGTH"), (0, u "PRIME_SEARCH_BIT_LENGTH_LIMIT"), (1, u "KARATSUBA_THRESHOLD"), (1, u "TOOM_COOK_THRESHOLD"), (1, u "KARATSUBA_SQUARE_THRESHOLD"), (1, u "TOOM_COOK_SQUARE_THRESHOLD"), (1, u "BURNIKEL_ZIEGLER_THRESHOLD"), (0, u "BURNIKEL_ZIEGLER_OFFSET"), (1, u "SCHOENHAGE_BASE_CONVERSION_THRESHOLD"), (1, u "MULTIPLY_SQUARE_THRESHOLD"), (0, u "MONTGOMERY_INTRINSIC_THRESHOLD"), (1, u "SMALL_PRIME_THRESHOLD"), (1, u "DEFAULT_PRIME_CERTAINTY"), (1, u "MAX_CONSTANT"), (3, u "serialVersionUID"), (338, .class_ 1532), (0, u "java/math/BigInteger$RecursiveOp$RecursiveSquare"), (0, .class_ 1534), (0, u "java/math/BigInteger$RecursiveOp$RecursiveMultiply")] 7

def k10c0 : Code := { maxStack := 2, maxLocals := 3, code := jdk_2097_method_25_code, exceptionTable := #[], attributes := #[] }
def k10m0 : Method := { name := "<init>", desc := "([II)V", sig := { parameters := [(.array .int), .int], returnType := none }, accessFlags := 0, code := some k10c0 }
def k10c1 : Code := { maxStack := 4, maxLocals := 2, code := jdk_2097_method_29_code, exceptionTable := #[], attributes := #[] }
def k10m1 : Method := { name := "valueOf", desc := "(J)Ljava/math/BigInteger;", sig := { parameters := [.long], returnType := some (.object "java/math/BigInteger") }, accessFlags := 9, code := some k10c1 }
def k10c2 : Code := { maxStack := 4, maxLocals := 4, code := jdk_2097_method_30_code, exceptionTable := #[], attributes := #[] }
def k10m2 : Method := { name := "<init>", desc := "(J)V", sig := { parameters := [.long], returnType := none }, accessFlags := 2, code := some k10c2 }
def k10c3 : Code := { maxStack := 2, maxLocals := 2, code := jdk_2097_method_63_code, exceptionTable := #[], attributes := #[] }
def k10m3 : Method := { name := "divideAndRemainder", desc := "(Ljava/math/BigInteger;)[Ljava/math/BigInteger;", sig := { parameters := [(.object "java/math/BigInteger")], returnType := some (.array (.object "java/math/BigInteger")) }, accessFlags := 1, code := some k10c3 }
def k10c4 : Code := { maxStack := 5, maxLocals := 7, code := jdk_2097_method_64_code, exceptionTable := #[], attributes := #[] }
def k10m4 : Method := { name := "divideAndRemainderKnuth", desc := "(Ljava/math/BigInteger;)[Ljava/math/BigInteger;", sig := { parameters := [(.object "java/math/BigInteger")], returnType := some (.array (.object "java/math/BigInteger")) }, accessFlags := 2, code := some k10c4 }
def k10c5 : Code := { maxStack := 2, maxLocals := 1, code := jdk_2097_method_74_code, exceptionTable := #[], attributes := #[] }
def k10m5 : Method := { name := "bitLengthForInt", desc := "(I)I", sig := { parameters := [.int], returnType := some .int }, accessFlags := 8, code := some k10c5 }
def k10c6 : Code := { maxStack := 3, maxLocals := 7, code := jdk_2097_method_118_code, exceptionTable := #[], attributes := #[] }
def k10m6 : Method := { name := "bitLength", desc := "()I", sig := { parameters := [], returnType := some .int }, accessFlags := 1, code := some k10c6 }
def k10c7 : Code := { maxStack := 2, maxLocals := 2, code := jdk_2097_method_135_code, exceptionTable := #[], attributes := #[] }
def k10m7 : Method := { name := "intValue", desc := "()I", sig := { parameters := [], returnType := some .int }, accessFlags := 1, code := some k10c7 }
def k10c8 : Code := { maxStack := 6, maxLocals := 4, code := jdk_2097_method_136_code, exceptionTable := #[], attributes := #[] }
def k10m8 : Method := { name := "longValue", desc := "()J", sig := { parameters := [], returnType := some .long }, accessFlags := 1, code := some k10c8 }
def k10c9 : Code := { maxStack := 1, maxLocals := 1, code := jdk_2097_method_147_code, exceptionTable := #[], attributes := #[] }
def k10m9 : Method := { name := "signInt", desc := "()I", sig := { parameters := [], returnType := some .int }, accessFlags := 2, code := some k10c9 }
def k10c10 : Code := { maxStack := 3, maxLocals := 3, code := jdk_2097_method_148_code, exceptionTable := #[], attributes := #[] }
def k10m10 : Method := { name := "getInt", desc := "(I)I", sig := { parameters := [.int], returnType := some .int }, accessFlags := 2, code := some k10c10 }
/-- java/math/BigInteger -/
def k10 : Class := { plain "java/math/BigInteger" (some 7) with
  accessFlags := 33
  interfaces := #[4]
  cf := some (fileOf pool10 23 #[.nestMembers #[907, 472, 1531, 1533]] #[{ accessFlags := 0, nameIndex := 7, descriptorIndex := 177, attributes := #[] }, { accessFlags := 9, nameIndex := 237, descriptorIndex := 238, attributes := #[] }, { accessFlags := 2, nameIndex := 7, descriptorIndex := 358, attributes := #[] }, { accessFlags := 1, nameIndex := 818, descriptorIndex := 554, attributes := #[] }, { accessFlags := 2, nameIndex := 553, descriptorIndex := 554, attributes := #[] }, { accessFlags := 8, nameIndex := 607, descriptorIndex := 82, attributes := #[] }, { accessFlags := 1, nameIndex := 234, descriptorIndex := 74, attributes := #[] }, { accessFlags := 1, nameIndex := 308, descriptorIndex := 74, attributes := #[] }, { accessFlags := 1, nameIndex := 187, descriptorIndex := 188, attributes := #[] }, { accessFlags := 2, nameIndex := 862, descriptorIndex := 74, attributes := #[] }, { accessFlags := 2, nameIndex := 738, descriptorIndex := 82, attributes := #[] }] 33 4 #[1160] #[{ accessFlags := 16, nameIndex := 34, descriptorIndex := 35, attributes := #[] }, { accessFlags := 16, nameIndex := 30, descriptorIndex := 31, attributes := #[] }, { accessFlags := 2, nameIndex := 752, descriptorIndex := 35, attributes := #[] }, { accessFlags := 2, nameIndex := 749, descriptorIndex := 35, attributes := #[] }, { accessFlags := 2, nameIndex := 746, descriptorIndex := 35, attributes := #[] }, { accessFlags := 2, nameIndex := 868, descriptorIndex := 35, attributes := #[] }, { accessFlags := 24, nameIndex := 1162, descriptorIndex := 1163, attributes := #[] }, { accessFlags := 26, nameIndex := 1165, descriptorIndex := 35, attributes := #[] }, { accessFlags := 26, nameIndex := 1166, descriptorIndex := 35, attributes := #[] }, { accessFlags := 26, nameIndex := 1168, descriptorIndex := 35, attributes := #[] }, { accessFlags := 26, nameIndex := 1170, descriptorIndex := 35, attributes := #[] }, { accessFlags := 26, nameIndex := 1172, descriptorIndex := 35, attributes := #[] }, { accessFlags := 26, nameIndex := 1174, descriptorIndex := 35, attributes := #[] }, { accessFlags := 24, nameIndex := 1176, descriptorIndex := 35, attributes := #[] }, { accessFlags := 24, nameIndex := 1177, descriptorIndex := 35, attributes := #[] }, { accessFlags := 26, nameIndex := 1179, descriptorIndex := 35, attributes := #[] }, { accessFlags := 26, nameIndex := 1181, descriptorIndex := 35, attributes := #[] }, { accessFlags := 26, nameIndex := 1182, descriptorIndex := 35, attributes := #[] }, { accessFlags := 10, nameIndex := 95, descriptorIndex := 96, attributes := #[] }, { accessFlags := 26, nameIndex := 1184, descriptorIndex := 35, attributes := #[] }, { accessFlags := 26, nameIndex := 1186, descriptorIndex := 35, attributes := #[] }, { accessFlags := 26, nameIndex := 180, descriptorIndex := 27, attributes := #[] }, { accessFlags := 26, nameIndex := 1188, descriptorIndex := 35, attributes := #[] }, { accessFlags := 26, nameIndex := 349, descriptorIndex := 350, attributes := #[] }, { accessFlags := 26, nameIndex := 355, descriptorIndex := 350, attributes := #[] }, { accessFlags := 74, nameIndex := 821, descriptorIndex := 822, attributes := #[] }, { accessFlags := 26, nameIndex := 763, descriptorIndex := 764, attributes := #[] }, { accessFlags := 26, nameIndex := 759, descriptorIndex := 760, attributes := #[] }, { accessFlags := 25, nameIndex := 26, descriptorIndex := 27, attributes := #[] }, { accessFlags := 25, nameIndex := 260, descriptorIndex := 27, attributes := #[] }, { accessFlags := 25, nameIndex := 267, descriptorIndex := 27, attributes := #[] }, { accessFlags := 26, nameIndex := 581, descriptorIndex := 27, attributes := #[] }, { accessFlags := 25, nameIndex := 1051, descriptorIndex := 27, attributes := #[] }, { accessFlags := 8, nameIndex := 673, descriptorIndex := 31, attributes := #[] }, { accessFlags := 10, nameIndex := 778, descriptorIndex := 35, attributes := #[] }, { accessFlags := 26, nameIndex := 781, descriptorIndex := 782, attributes := #[] }, { accessFlags := 10, nameIndex := 798, descriptorIndex := 31, attributes := #[] }, { accessFlags := 10, nameIndex := 792, descriptorIndex := 350, attributes := #[] }, { accessFlags := 10, nameIndex := 106, descriptorIndex := 31, attributes := #[] }, { accessFlags := 10, nameIndex := 119, descriptorIndex := 31, attributes := #[] }, { accessFlags := 26, nameIndex := 1192, descriptorIndex := 1163, attributes := #[] }, { accessFlags := 26, nameIndex := 1158, descriptorIndex := 1159, attributes := #[] }, { accessFlags := 4120, nameIndex := 311, descriptorIndex := 312, attributes := #[] }])
  fields := #[{ name := "signum", type := .int, accessFlags := 16, slot := 0, constantValue := 0 }, { name := "mag", type := (.array .int), accessFlags := 16, slot := 1, constantValue := 0 }, { name := "bitCountPlusOne", type := .int, accessFlags := 2, slot := 2, constantValue := 0 }, { name := "bitLengthPlusOne", type := .int, accessFlags := 2, slot := 3, constantValue := 0 }, { name := "lowestSetBitPlusTwo", type := .int, accessFlags := 2, slot := 4, constantValue := 0 }, { name := "firstNonzeroIntNumPlusTwo", type := .int, accessFlags := 2, slot := 5, constantValue := 0 }, { name := "LONG_MASK", type := .long, accessFlags := 24, slot := 0, constantValue := 0 }, { name := "MAX_MAG_LENGTH", type := .int, accessFlags := 26, slot := 1, constantValue := 0 }, { name := "PRIME_SEARCH_BIT_LENGTH_LIMIT", type := .int, accessFlags := 26, slot := 2, constantValue := 0 }, { name := "KARATSUBA_THRESHOLD", type := .int, accessFlags := 26, slot := 3, constantValue := 0 }, { name := "TOOM_COOK_THRESHOLD", type := .int, accessFlags := 26, slot := 4, constantValue := 0 }, { name := "KARATSUBA_SQUARE_THRESHOLD", type := .int, accessFlags := 26, slot := 5, constantValue := 0 }, { name := "TOOM_COOK_SQUARE_THRESHOLD", type := .int, accessFlags := 26, slot := 6, constantValue := 0 }, { name := "BURNIKEL_ZIEGLER_THRESHOLD", type := .int, accessFlags := 24, slot := 7, constantValue := 0 }, { name := "BURNIKEL_ZIEGLER_OFFSET", type := .int, accessFlags := 24, slot := 8, constantValue := 0 }, { name := "SCHOENHAGE_BASE_CONVERSION_THRESHOLD", type := .int, accessFlags := 26, slot := 9, constantValue := 0 }, { name := "MULTIPLY_SQUARE_THRESHOLD", type := .int, accessFlags := 26, slot := 10, constantValue := 0 }, { name := "MONTGOMERY_INTRINSIC_THRESHOLD", type := .int, accessFlags := 26, slot := 11, constantValue := 0 }, { name := "bitsPerDigit", type := (.array .long), accessFlags := 10, slot := 12, constantValue := 0 }, { name := "SMALL_PRIME_THRESHOLD", type := .int, accessFlags := 26, slot := 13, constantValue := 0 }, { name := "DEFAULT_PRIME_CERTAINTY", type := .int, accessFlags := 26, slot := 14, constantValue := 0 }, { name := "SMALL_PRIME_PRODUCT", type := (.object "java/math/BigInteger"), accessFlags := 26, slot := 15, constantValue := 0 }, { name := "MAX_CONSTANT", type := .int, accessFlags := 26, slot := 16, constantValue := 0 }, { name := "posConst", type := (.array (.object "java/math/BigInteger")), accessFlags := 26, slot := 17, constantValue := 0 }, { name := "negConst", type := (.array (.object "java/math/BigInteger")), accessFlags := 26, slot := 18, constantValue := 0 }, { name := "powerCache", type := (.array (.array (.object "java/math/BigInteger"))), accessFlags := 74, slot := 19, constantValue := 0 }, { name := "logCache", type := (.array .double), accessFlags := 26, slot := 20, constantValue := 0 }, { name := "LOG_TWO", type := .double, accessFlags := 26, slot := 21, constantValue := 0 }, { name := "ZERO", type := (.object "java/math/BigInteger"), accessFlags := 25, slot := 22, constantValue := 0 }, { name := "ONE", type := (.object "java/math/BigInteger"), accessFlags := 25, slot := 23, constantValue := 0 }, { name := "TWO", type := (.object "java/math/BigInteger"), accessFlags := 25, slot := 24, constantValue := 0 }, { name := "NEGATIVE_ONE", type := (.object "java/math/BigInteger"), accessFlags := 26, slot := 25, constantValue := 0 }, { name := "TEN", type := (.object "java/math/BigInteger"), accessFlags := 25, slot := 26, constantValue := 0 }, { name := "bnExpModThreshTable", type := (.array .int), accessFlags := 8, slot := 27, constantValue := 0 }, { name := "NUM_ZEROS", type := .int, accessFlags := 10, slot := 28, constantValue := 0 }, { name := "ZEROS", type := (.object "java/lang/String"), accessFlags := 26, slot := 29, constantValue := 0 }, { name := "digitsPerLong", type := (.array .int), accessFlags := 10, slot := 30, constantValue := 0 }, { name := "longRadix", type := (.array (.object "java/math/BigInteger")), accessFlags := 10, slot := 31, constantValue := 0 }, { name := "digitsPerInt", type := (.array .int), accessFlags := 10, slot := 32, constantValue := 0 }, { name := "intRadix", type := (.array .int), accessFlags := 10, slot := 33, constantValue := 0 }, { name := "serialVersionUID", type := .long, accessFlags := 26, slot := 34, constantValue := 0 }, { name := "serialPersistentFields", type := (.array (.object "java/io/ObjectStreamField")), accessFlags := 26, slot := 35, constantValue := 0 }, { name := "$assertionsDisabled", type := .boolean, accessFlags := 4120, slot := 36, constantValue := 0 }]
  methods := #[k10m0, k10m1, k10m2, k10m3, k10m4, k10m5, k10m6, k10m7, k10m8, k10m9, k10m10]
  instanceTypes := #[.int, (.array .int), .int, .int, .int, .int]
  staticTypes := #[.long, .int, .int, .int, .int, .int, .int, .int, .int, .int, .int, .int, (.array .long), .int, .int, (.object "java/math/BigInteger"), .int, (.array (.object "java/math/BigInteger")), (.array (.object "java/math/BigInteger")), (.array (.array (.object "java/math/BigInteger"))), (.array .double), .double, (.object "java/math/BigInteger"), (.object "java/math/BigInteger"), (.object "java/math/BigInteger"), (.object "java/math/BigInteger"), (.object "java/math/BigInteger"), (.array .int), .int, (.object "java/lang/String"), (.array .int), (.array (.object "java/math/BigInteger")), (.array .int), (.array .int), .long, (.array (.object "java/io/ObjectStreamField")), .boolean]
  resolved := Array.replicate 1542 none
  statics := some 3 }

def pool11 : Array CpInfo := pool [(1, .class_ 2), (0, u "java/math/BigInteger"), (2, .methodref 6 7), (0, .class_ 8), (0, .nameAndType 9 10), (0, u "java/lang/Object"), (0, u "<init>"), (0, u "()V"), (0, .fieldref 12 13), (0, .class_ 14), (0, .nameAndType 15 16), (0, u "java/math/MutableBigInteger"), (0, u "offset"), (0, u "I"), (0, .fieldref 12 18), (0, .nameAndType 19 20), (0, u "value"), (0, u "[I"), (0, .fieldref 12 22), (0, .nameAndType 23 16), (0, u "intLen"), (4, .class_ 30), (1, u "java/util/Arrays"), (2, .methodref 28 34), (0, .nameAndType 35 36), (0, u "copyOfRange"), (0, u "([III)[I"), (0, .methodref 28 38), (0, .nameAndType 39 40), (0, u "fill"), (0, u "([II)V"), (2, u "$assertionsDisabled"), (0, u "Z"), (7, .long 4294967295), (1, .fieldref 1 55), (0, .nameAndType 56 57), (0, u "ZERO"), (0, u "Ljava/math/BigInteger;"), (0, .methodref 12 59), (0, .nameAndType 60 61), (0, u "getMagnitudeArray"), (0, u "()[I"), (0, .methodref 1 63), (0, .nameAndType 9 40), (0, .methodref 12 65), (0, .nameAndType 66 10), (0, u "normalize"), (6, u "toBigInteger"), (0, u "(I)Ljava/math/BigInteger;"), (13, .integer 2147483648), (1, .class_ 92), (1, u "java/lang/Integer"), (1, u "(I)I"), (47, .methodref 12 143), (0, .nameAndType 144 145), (0, u "compare"), (0, u "(Ljava/math/MutableBigInteger;)I"), (3, .methodref 12 150), (0, .nameAndType 151 10), (0, u "clear"), (0, .methodref 90 153), (0, .nameAndType 154 94), (0, u "numberOfLeadingZeros"), (7, u "(Ljava/math/MutableBigInteger;Ljava/math/MutableBigInteger;Z)Ljava/math/MutableBigInteger;"), (0, .methodref 12 164), (0, .nameAndType 165 162), (0, u "divideKnuth"), (3, u "(Ljava/math/MutableBigInteger;Ljava/math/MutableBigInteger;)Ljava/math/MutableBigInteger;"), (7, .methodref 12 7), (0, .methodref 12 179), (0, .nameAndType 180 181), (0, u "divideOneWord"), (0, u "(ILjava/math/MutableBigInteger;)I"), (75, u "ONE"), (0, u "Ljava/math/MutableBigInteger;"), (2, u "([I)V"), (149, u "KNUTH_POW2_THRESH_LEN"), (2, u "KNUTH_POW2_THRESH_ZEROS")] 175

def k11c0 : Code := { maxStack := 2, maxLocals := 1, code := jdk_2101_method_1_code, exceptionTable := #[], attributes := #[] }
def k11m0 : Method := { name := "<init>", desc := "()V", sig := { parameters := [], returnType := none }, accessFlags := 0, code := some k11c0 }
def k11c1 : Code := { maxStack := 2, maxLocals := 2, code := jdk_2101_method_3_code, exceptionTable := #[], attributes := #[] }
def k11m1 : Method := { name := "<init>", desc := "([I)V", sig := { parameters := [(.array .int)], returnType := none }, accessFlags := 0, code := some k11c1 }
def k11c2 : Code := { maxStack := 4, maxLocals := 2, code := jdk_2101_method_7_code, exceptionTable := #[], attributes := #[] }
def k11m2 : Method := { name := "getMagnitudeArray", desc := "()[I", sig := { parameters := [], returnType := some (.array .int) }, accessFlags := 2, code := some k11c2 }
def k11c3 : Code := { maxStack := 4, maxLocals := 2, code := jdk_2101_method_9_code, exceptionTable := #[], attributes := #[] }
def k11m3 : Method := { name := "toBigInteger", desc := "(I)Ljava/math/BigInteger;", sig := { parameters := [.int], returnType := some (.object "java/math/BigInteger") }, accessFlags := 0, code := some k11c3 }
def k11c4 : Code := { maxStack := 4, maxLocals := 3, code := jdk_2101_method_13_code, exceptionTable := #[], attributes := #[] }
def k11m4 : Method := { name := "clear", desc := "()V", sig := { parameters := [], returnType := none }, accessFlags := 0, code := some k11c4 }
def k11c5 : Code := { maxStack := 3, maxLocals := 8, code := jdk_2101_method_15_code, exceptionTable := #[], attributes := #[] }
def k11m5 : Method := { name := "compare", desc := "(Ljava/math/MutableBigInteger;)I", sig := { parameters := [(.object "java/math/MutableBigInteger")], returnType := some .int }, accessFlags := 16, code := some k11c5 }
def k11c6 : Code := { maxStack := 3, maxLocals := 4, code := jdk_2101_method_21_code, exceptionTable := #[], attributes := #[] }
def k11m6 : Method := { name := "normalize", desc := "()V", sig := { parameters := [], returnType := none }, accessFlags := 16, code := some k11c6 }
def k11c7 : Code := { maxStack := 6, maxLocals := 15, code := jdk_2101_method_53_code, exceptionTable := #[], attributes := #[] }
def k11m7 : Method := { name := "divideOneWord", desc := "(ILjava/math/MutableBigInteger;)I", sig := { parameters := [.int, (.object "java/math/MutableBigInteger")], returnType := some .int }, accessFlags := 0, code := some k11c7 }
def k11c8 : Code := { maxStack := 4, maxLocals := 3, code := jdk_2101_method_56_code, exceptionTable := #[], attributes := #[] }
def k11m8 : Method := { name := "divideKnuth", desc := "(Ljava/math/MutableBigInteger;Ljava/math/MutableBigInteger;)Ljava/math/MutableBigInteger;", sig := { parameters := [(.object "java/math/MutableBigInteger"), (.object "java/math/MutableBigInteger")], returnType := some (.object "java/math/MutableBigInteger") }, accessFlags := 0, code := some k11c8 }
def k11c9 : Code := { maxStack := 5, maxLocals := 8, code := jdk_2101_method_57_code, exceptionTable := #[], attributes := #[] }
def k11m9 : Method := { name := "divideKnuth", desc := "(Ljava/math/MutableBigInteger;Ljava/math/MutableBigInteger;Z)Ljava/math/MutableBigInteger;", sig := { parameters := [(.object "java/math/MutableBigInteger"), (.object "java/math/MutableBigInteger"), .boolean], returnType := some (.object "java/math/MutableBigInteger") }, accessFlags := 0, code := some k11c9 }
/-- java/math/MutableBigInteger -/
def k11 : Class := { plain "java/math/MutableBigInteger" (some 0) with
  accessFlags := 32
  interfaces := #[]
  cf := some (fileOf pool11 12 #[] #[{ accessFlags := 0, nameIndex := 9, descriptorIndex := 10, attributes := #[] }, { accessFlags := 0, nameIndex := 9, descriptorIndex := 261, attributes := #[] }, { accessFlags := 2, nameIndex := 60, descriptorIndex := 61, attributes := #[] }, { accessFlags := 0, nameIndex := 73, descriptorIndex := 74, attributes := #[] }, { accessFlags := 0, nameIndex := 151, descriptorIndex := 10, attributes := #[] }, { accessFlags := 16, nameIndex := 144, descriptorIndex := 145, attributes := #[] }, { accessFlags := 16, nameIndex := 66, descriptorIndex := 10, attributes := #[] }, { accessFlags := 0, nameIndex := 180, descriptorIndex := 181, attributes := #[] }, { accessFlags := 0, nameIndex := 165, descriptorIndex := 169, attributes := #[] }, { accessFlags := 0, nameIndex := 165, descriptorIndex := 162, attributes := #[] }] 32 6 #[] #[{ accessFlags := 0, nameIndex := 19, descriptorIndex := 20, attributes := #[] }, { accessFlags := 0, nameIndex := 23, descriptorIndex := 16, attributes := #[] }, { accessFlags := 0, nameIndex := 15, descriptorIndex := 16, attributes := #[] }, { accessFlags := 24, nameIndex := 257, descriptorIndex := 258, attributes := #[] }, { accessFlags := 24, nameIndex := 411, descriptorIndex := 16, attributes := #[] }, { accessFlags := 24, nameIndex := 414, descriptorIndex := 16, attributes := #[] }, { accessFlags := 4120, nameIndex := 43, descriptorIndex := 44, attributes := #[] }])
  fields := #[{ name := "value", type := (.array .int), accessFlags := 0, slot := 0, constantValue := 0 }, { name := "intLen", type := .int, accessFlags := 0, slot := 1, constantValue := 0 }, { name := "offset", type := .int, accessFlags := 0, slot := 2, constantValue := 0 }, { name := "ONE", type := (.object "java/math/MutableBigInteger"), accessFlags := 24, slot := 0, constantValue := 0 }, { name := "KNUTH_POW2_THRESH_LEN", type := .int, accessFlags := 24, slot := 1, constantValue := 0 }, { name := "KNUTH_POW2_THRESH_ZEROS", type := .int, accessFlags := 24, slot := 2, constantValue := 0 }, { name := "$assertionsDisabled", type := .boolean, accessFlags := 4120, slot := 3, constantValue := 0 }]
  methods := #[k11m0, k11m1, k11m2, k11m3, k11m4, k11m5, k11m6, k11m7, k11m8, k11m9]
  instanceTypes := #[(.array .int), .int, .int]
  staticTypes := #[(.object "java/math/MutableBigInteger"), .int, .int, .boolean]
  resolved := Array.replicate 590 none
  statics := none }

def pool12 : Array CpInfo := pool [(1, .class_ 2), (0, u "java/lang/constant/Constable"), (0, .class_ 4), (0, u "java/lang/Object")] 6

/-- java/lang/constant/Constable -/
def k12 : Class := { plain "java/lang/constant/Constable" (some 0) with
  accessFlags := 1537
  interfaces := #[]
  cf := some (fileOf pool12 1 #[] #[] 1537 3 #[] #[])
  fields := #[]
  methods := #[]
  instanceTypes := #[]
  staticTypes := #[]
  resolved := Array.replicate 11 none
  statics := none }

def pool13 : Array CpInfo := pool [(1, .class_ 2), (0, u "java/lang/constant/ConstantDesc"), (0, .class_ 4), (0, u "java/lang/Object")] 32

/-- java/lang/constant/ConstantDesc -/
def k13 : Class := { plain "java/lang/constant/ConstantDesc" (some 0) with
  accessFlags := 1537
  interfaces := #[]
  cf := some (fileOf pool13 1 #[] #[] 1537 3 #[] #[])
  fields := #[]
  methods := #[]
  instanceTypes := #[]
  staticTypes := #[]
  resolved := Array.replicate 37 none
  statics := none }

def pool14 : Array CpInfo := pool [(1, .class_ 2), (0, u "java/lang/Integer"), (16, u "digits"), (0, u "[C"), (32, u "numberOfLeadingZeros"), (0, u "(I)I"), (30, u "DigitOnes"), (0, u "[B"), (2, u "DigitTens"), (99, .class_ 190), (0, u "java/lang/Integer$IntegerCache"), (3, u "I"), (8, .class_ 204), (0, u "java/lang/Number"), (2, u "value"), (56, .integer 65536), (37, u "TYPE"), (0, u "Ljava/lang/Class;"), (0, .class_ 305), (0, u "java/lang/Comparable"), (0, .class_ 307), (0, u "java/lang/constant/Constable"), (0, .class_ 309), (0, u "java/lang/constant/ConstantDesc"), (0, u "MIN_VALUE"), (1, u "MAX_VALUE"), (3, u "SIZE"), (1, u "BYTES"), (1, u "serialVersionUID"), (0, u "J")] 131

def k14c0 : Code := { maxStack := 3, maxLocals := 2, code := jdk_33_method_47_code, exceptionTable := #[], attributes := #[] }
def k14m0 : Method := { name := "numberOfLeadingZeros", desc := "(I)I", sig := { parameters := [.int], returnType := some .int }, accessFlags := 9, code := some k14c0 }
/-- java/lang/Integer -/
def k14 : Class := { plain "java/lang/Integer" (some 7) with
  accessFlags := 49
  interfaces := #[4, 12, 13]
  cf := some (fileOf pool14 1 #[.nestMembers #[189]] #[{ accessFlags := 9, nameIndex := 53, descriptorIndex := 54, attributes := #[] }] 49 203 #[304, 306, 308] #[{ accessFlags := 25, nameIndex := 310, descriptorIndex := 194, attributes := #[] }, { accessFlags := 25, nameIndex := 312, descriptorIndex := 194, attributes := #[] }, { accessFlags := 25, nameIndex := 302, descriptorIndex := 303, attributes := #[] }, { accessFlags := 24, nameIndex := 19, descriptorIndex := 20, attributes := #[] }, { accessFlags := 24, nameIndex := 89, descriptorIndex := 86, attributes := #[] }, { accessFlags := 24, nameIndex := 85, descriptorIndex := 86, attributes := #[] }, { accessFlags := 18, nameIndex := 207, descriptorIndex := 194, attributes := #[] }, { accessFlags := 25, nameIndex := 316, descriptorIndex := 194, attributes := #[] }, { accessFlags := 25, nameIndex := 318, descriptorIndex := 194, attributes := #[] }, { accessFlags := 26, nameIndex := 320, descriptorIndex := 321, attributes := #[] }])
  fields := #[{ name := "MIN_VALUE", type := .int, accessFlags := 25, slot := 0, constantValue := 0 }, { name := "MAX_VALUE", type := .int, accessFlags := 25, slot := 1, constantValue := 0 }, { name := "TYPE", type := (.object "java/lang/Class"), accessFlags := 25, slot := 2, constantValue := 0 }, { name := "digits", type := (.array .char), accessFlags := 24, slot := 3, constantValue := 0 }, { name := "DigitTens", type := (.array .byte), accessFlags := 24, slot := 4, constantValue := 0 }, { name := "DigitOnes", type := (.array .byte), accessFlags := 24, slot := 5, constantValue := 0 }, { name := "value", type := .int, accessFlags := 18, slot := 0, constantValue := 0 }, { name := "SIZE", type := .int, accessFlags := 25, slot := 6, constantValue := 0 }, { name := "BYTES", type := .int, accessFlags := 25, slot := 7, constantValue := 0 }, { name := "serialVersionUID", type := .long, accessFlags := 26, slot := 8, constantValue := 0 }]
  methods := #[k14m0]
  instanceTypes := #[.int]
  staticTypes := #[.int, .int, (.object "java/lang/Class"), (.array .char), (.array .byte), (.array .byte), .int, .int, .long]
  resolved := Array.replicate 453 none
  statics := none }

def pool15 : Array CpInfo := pool [(1, .class_ 2), (0, u "java/lang/Long"), (232, .class_ 237), (1, u "java/lang/Long$LongCache"), (33, .class_ 272), (0, u "java/lang/Number"), (2, u "value"), (0, u "J"), (27, u "compare"), (0, u "(JJ)I"), (55, u "TYPE"), (0, u "Ljava/lang/Class;"), (0, .class_ 364), (0, u "java/lang/Comparable"), (0, .class_ 366), (0, u "java/lang/constant/Constable"), (0, .class_ 368), (0, u "java/lang/constant/ConstantDesc"), (0, u "MIN_VALUE"), (1, u "MAX_VALUE"), (4, u "SIZE"), (0, u "I"), (1, u "BYTES"), (1, u "serialVersionUID")] 142

def k15c0 : Code := { maxStack := 4, maxLocals := 4, code := jdk_35_method_42_code, exceptionTable := #[], attributes := #[] }
def k15m0 : Method := { name := "compare", desc := "(JJ)I", sig := { parameters := [.long, .long], returnType := some .int }, accessFlags := 9, code := some k15c0 }
/-- java/lang/Long -/
def k15 : Class := { plain "java/lang/Long" (some 7) with
  accessFlags := 49
  interfaces := #[4, 12, 13]
  cf := some (fileOf pool15 1 #[.nestMembers #[235]] #[{ accessFlags := 9, nameIndex := 304, descriptorIndex := 305, attributes := #[] }] 49 271 #[363, 365, 367] #[{ accessFlags := 25, nameIndex := 369, descriptorIndex := 276, attributes := #[] }, { accessFlags := 25, nameIndex := 371, descriptorIndex := 276, attributes := #[] }, { accessFlags := 25, nameIndex := 361, descriptorIndex := 362, attributes := #[] }, { accessFlags := 18, nameIndex := 275, descriptorIndex := 276, attributes := #[] }, { accessFlags := 25, nameIndex := 376, descriptorIndex := 377, attributes := #[] }, { accessFlags := 25, nameIndex := 379, descriptorIndex := 377, attributes := #[] }, { accessFlags := 26, nameIndex := 381, descriptorIndex := 276, attributes := #[] }])
  fields := #[{ name := "MIN_VALUE", type := .long, accessFlags := 25, slot := 0, constantValue := 0 }, { name := "MAX_VALUE", type := .long, accessFlags := 25, slot := 1, constantValue := 0 }, { name := "TYPE", type := (.object "java/lang/Class"), accessFlags := 25, slot := 2, constantValue := 0 }, { name := "value", type := .long, accessFlags := 18, slot := 0, constantValue := 0 }, { name := "SIZE", type := .int, accessFlags := 25, slot := 3, constantValue := 0 }, { name := "BYTES", type := .int, accessFlags := 25, slot := 4, constantValue := 0 }, { name := "serialVersionUID", type := .long, accessFlags := 26, slot := 5, constantValue := 0 }]
  methods := #[k15m0]
  instanceTypes := #[.long]
  staticTypes := #[.long, .long, (.object "java/lang/Class"), .int, .int, .long]
  resolved := Array.replicate 524 none
  statics := none }

def pool16 : Array CpInfo := pool [(2, .class_ 4), (1, u "java/lang/Object"), (0, u "<init>"), (0, u "()V"), (7, .class_ 16), (1, u "java/util/Arrays"), (57, .class_ 76), (1, u "java/util/Arrays$NaturalOrder"), (36, .class_ 115), (1, u "java/util/Arrays$LegacyMergeSort"), (1, u "Z"), (21, u "copyOfRange"), (10, .methodref 151 152), (0, .class_ 153), (0, .nameAndType 154 155), (0, u "java/lang/System"), (0, u "arraycopy"), (0, u "(Ljava/lang/Object;ILjava/lang/Object;II)V"), (148, .methodref 305 306), (0, .class_ 307), (0, .nameAndType 308 309), (0, u "java/lang/Math"), (0, u "min"), (0, u "(II)I"), (33, .methodref 14 344), (0, .nameAndType 345 346), (0, u "checkLength"), (0, u "(II)V"), (4, .methodref 14 352), (0, .nameAndType 353 354), (0, u "copyOfRangeInt"), (0, u "([III)[I"), (20, .class_ 376), (0, u "java/util/Arrays$ArrayList"), (68, u "$assertionsDisabled"), (269, u "MIN_ARRAY_SORT_GRAN"), (0, u "I"), (2, u "INSERTIONSORT_THRESHOLD"), (120, u "fill"), (4, u "([II)V"), (129, .class_ 976), (0, u "java/util/Arrays$ArrayItr")] 52

def k16m0 : Method := { name := "<init>", desc := "()V", sig := { parameters := [], returnType := none }, accessFlags := 2, code := none }
def k16c1 : Code := { maxStack := 3, maxLocals := 4, code := jdk_65_method_103_code, exceptionTable := #[], attributes := #[] }
def k16m1 : Method := { name := "fill", desc := "([II)V", sig := { parameters := [(.array .int), .int], returnType := none }, accessFlags := 9, code := some k16c1 }
def k16c2 : Code := { maxStack := 4, maxLocals := 2, code := jdk_65_method_131_code, exceptionTable := #[], attributes := #[] }
def k16m2 : Method := { name := "checkLength", desc := "(II)V", sig := { parameters := [.int, .int], returnType := none }, accessFlags := 10, code := some k16c2 }
def k16c3 : Code := { maxStack := 3, maxLocals := 3, code := jdk_65_method_136_code, exceptionTable := #[], attributes := #[] }
def k16m3 : Method := { name := "copyOfRange", desc := "([III)[I", sig := { parameters := [(.array .int), .int, .int], returnType := some (.array .int) }, accessFlags := 9, code := some k16c3 }
def k16c4 : Code := { maxStack := 6, maxLocals := 5, code := jdk_65_method_137_code, exceptionTable := #[], attributes := #[] }
def k16m4 : Method := { name := "copyOfRangeInt", desc := "([III)[I", sig := { parameters := [(.array .int), .int, .int], returnType := some (.array .int) }, accessFlags := 10, code := some k16c4 }
/-- java/util/Arrays -/
def k16 : Class := { plain "java/util/Arrays" (some 0) with
  accessFlags := 49
  interfaces := #[]
  cf := some (fileOf pool16 14 #[.nestMembers #[975, 375, 113, 74]] #[{ accessFlags := 2, nameIndex := 5, descriptorIndex := 6, attributes := #[] }, { accessFlags := 9, nameIndex := 840, descriptorIndex := 845, attributes := #[] }, { accessFlags := 10, nameIndex := 345, descriptorIndex := 346, attributes := #[] }, { accessFlags := 9, nameIndex := 139, descriptorIndex := 354, attributes := #[] }, { accessFlags := 10, nameIndex := 353, descriptorIndex := 354, attributes := #[] }] 49 2 #[] #[{ accessFlags := 26, nameIndex := 715, descriptorIndex := 716, attributes := #[] }, { accessFlags := 26, nameIndex := 719, descriptorIndex := 716, attributes := #[] }, { accessFlags := 4120, nameIndex := 445, descriptorIndex := 117, attributes := #[] }])
  fields := #[{ name := "MIN_ARRAY_SORT_GRAN", type := .int, accessFlags := 26, slot := 0, constantValue := 0 }, { name := "INSERTIONSORT_THRESHOLD", type := .int, accessFlags := 26, slot := 1, constantValue := 0 }, { name := "$assertionsDisabled", type := .boolean, accessFlags := 4120, slot := 2, constantValue := 0 }]
  methods := #[k16m0, k16m1, k16m2, k16m3, k16m4]
  instanceTypes := #[]
  staticTypes := #[.int, .int, .boolean]
  resolved := Array.replicate 1029 none
  statics := none }

def pool17 : Array CpInfo := pool [(2, .class_ 4), (1, u "java/lang/Object"), (0, u "<init>"), (0, u "()V"), (1, .class_ 10), (1, u "java/lang/System"), (0, u "allowSecurityManager"), (0, u "I"), (16, u "cons"), (0, u "Ljava/io/Console;"), (77, .class_ 110), (1, u "java/lang/System$CallersHolder"), (43, u "initialErrStream"), (0, u "Ljava/io/PrintStream;"), (19, u "security"), (0, u "Ljava/lang/SecurityManager;"), (31, .class_ 209), (0, u "java/lang/System$1"), (7, u "props"), (0, u "Ljava/util/Properties;"), (2, u "lineSeparator"), (0, u "Ljava/lang/String;"), (96, .class_ 321), (1, u "java/lang/System$LoggerFinder"), (5, .class_ 328), (0, u "java/lang/System$Logger"), (67, u "err"), (2, u "out"), (91, u "notSupportedJnuEncoding"), (15, u "in"), (17, u "initialIn"), (0, u "Ljava/io/InputStream;"), (35, u "bootLayer"), (0, u "Ljava/lang/ModuleLayer;"), (99, .class_ 664), (0, u "java/lang/System$2"), (9, u "NEVER"), (2, u "MAYBE"), (49, u "arraycopy"), (0, u "(Ljava/lang/Object;ILjava/lang/Object;II)V"), (72, .class_ 802), (0, u "java/lang/System$Logger$Level")] 31

def k17m0 : Method := { name := "<init>", desc := "()V", sig := { parameters := [], returnType := none }, accessFlags := 2, code := none }
def k17m1 : Method := { name := "arraycopy", desc := "(Ljava/lang/Object;ILjava/lang/Object;II)V", sig := { parameters := [(.object "java/lang/Object"), .int, (.object "java/lang/Object"), .int, .int], returnType := none }, accessFlags := 265, code := none }
/-- java/lang/System -/
def k17 : Class := { plain "java/lang/System" (some 0) with
  accessFlags := 49
  interfaces := #[]
  cf := some (fileOf pool17 8 #[.nestMembers #[319, 327, 801, 108, 663, 208]] #[{ accessFlags := 2, nameIndex := 5, descriptorIndex := 6, attributes := #[] }, { accessFlags := 265, nameIndex := 727, descriptorIndex := 728, attributes := #[] }] 49 2 #[] #[{ accessFlags := 25, nameIndex := 507, descriptorIndex := 526, attributes := #[] }, { accessFlags := 25, nameIndex := 399, descriptorIndex := 155, attributes := #[] }, { accessFlags := 25, nameIndex := 396, descriptorIndex := 155, attributes := #[] }, { accessFlags := 10, nameIndex := 525, descriptorIndex := 526, attributes := #[] }, { accessFlags := 26, nameIndex := 674, descriptorIndex := 12, attributes := #[] }, { accessFlags := 26, nameIndex := 677, descriptorIndex := 12, attributes := #[] }, { accessFlags := 10, nameIndex := 11, descriptorIndex := 12, attributes := #[] }, { accessFlags := 74, nameIndex := 175, descriptorIndex := 176, attributes := #[] }, { accessFlags := 10, nameIndex := 491, descriptorIndex := 222, attributes := #[] }, { accessFlags := 74, nameIndex := 29, descriptorIndex := 30, attributes := #[] }, { accessFlags := 74, nameIndex := 154, descriptorIndex := 155, attributes := #[] }, { accessFlags := 10, nameIndex := 217, descriptorIndex := 218, attributes := #[] }, { accessFlags := 10, nameIndex := 221, descriptorIndex := 222, attributes := #[] }, { accessFlags := 8, nameIndex := 562, descriptorIndex := 563, attributes := #[] }])
  fields := #[{ name := "in", type := (.object "java/io/InputStream"), accessFlags := 25, slot := 0, constantValue := 0 }, { name := "out", type := (.object "java/io/PrintStream"), accessFlags := 25, slot := 1, constantValue := 0 }, { name := "err", type := (.object "java/io/PrintStream"), accessFlags := 25, slot := 2, constantValue := 0 }, { name := "initialIn", type := (.object "java/io/InputStream"), accessFlags := 10, slot := 3, constantValue := 0 }, { name := "NEVER", type := .int, accessFlags := 26, slot := 4, constantValue := 0 }, { name := "MAYBE", type := .int, accessFlags := 26, slot := 5, constantValue := 0 }, { name := "allowSecurityManager", type := .int, accessFlags := 10, slot := 6, constantValue := 0 }, { name := "security", type := (.object "java/lang/SecurityManager"), accessFlags := 74, slot := 7, constantValue := 0 }, { name := "notSupportedJnuEncoding", type := (.object "java/lang/String"), accessFlags := 10, slot := 8, constantValue := 0 }, { name := "cons", type := (.object "java/io/Console"), accessFlags := 74, slot := 9, constantValue := 0 }, { name := "initialErrStream", type := (.object "java/io/PrintStream"), accessFlags := 74, slot := 10, constantValue := 0 }, { name := "props", type := (.object "java/util/Properties"), accessFlags := 10, slot := 11, constantValue := 0 }, { name := "lineSeparator", type := (.object "java/lang/String"), accessFlags := 10, slot := 12, constantValue := 0 }, { name := "bootLayer", type := (.object "java/lang/ModuleLayer"), accessFlags := 8, slot := 13, constantValue := 0 }]
  methods := #[k17m0, k17m1]
  instanceTypes := #[]
  staticTypes := #[(.object "java/io/InputStream"), (.object "java/io/PrintStream"), (.object "java/io/PrintStream"), (.object "java/io/InputStream"), .int, .int, .int, (.object "java/lang/SecurityManager"), (.object "java/lang/String"), (.object "java/io/Console"), (.object "java/io/PrintStream"), (.object "java/util/Properties"), (.object "java/lang/String"), (.object "java/lang/ModuleLayer")]
  resolved := Array.replicate 834 none
  statics := none }

def pool18 : Array CpInfo := pool [(1, u "java/lang/Cloneable"), (0, .class_ 1), (0, u "java/lang/Object"), (0, .class_ 3)] 3

/-- java/lang/Cloneable -/
def k18 : Class := { plain "java/lang/Cloneable" (some 0) with
  accessFlags := 1537
  interfaces := #[]
  cf := some (fileOf pool18 2 #[] #[] 1537 4 #[] #[])
  fields := #[]
  methods := #[]
  instanceTypes := #[]
  staticTypes := #[]
  resolved := Array.replicate 8 none
  statics := none }

/-- the primitive byte -/
def k19 : Class := { plain "byte" none with kind := .primitive 'B', accessFlags := 0x411 }
/-- [B -/
def k20 : Class := { plain "[B" (some 0) with kind := .array 19 .byte, interfaces := #[18, 5], accessFlags := 1041 }

/-- the primitive int -/
def k21 : Class := { plain "int" none with kind := .primitive 'I', accessFlags := 0x411 }
/-- [I -/
def k22 : Class := { plain "[I" (some 0) with kind := .array 21 .int, interfaces := #[18, 5], accessFlags := 1041 }

/-- the primitive long -/
def k23 : Class := { plain "long" none with kind := .primitive 'J', accessFlags := 0x411 }
/-- [J -/
def k24 : Class := { plain "[J" (some 0) with kind := .array 23 .long, interfaces := #[18, 5], accessFlags := 1041 }

/-- [Ljava/math/BigDecimal; -/
def k25 : Class := { plain "[Ljava/math/BigDecimal;" (some 0) with kind := .array 8 (.object "java/math/BigDecimal"), interfaces := #[18, 5], accessFlags := 1041 }

/-- [Ljava/math/BigInteger; -/
def k26 : Class := { plain "[Ljava/math/BigInteger;" (some 0) with kind := .array 10 (.object "java/math/BigInteger"), interfaces := #[18, 5], accessFlags := 1041 }

def heap : Heap := #[{ cls := 2, slots := #[.ref 7, .ref 6], vm := .statics 2 },
  { cls := 6, slots := #[.null, .long 0, .ref 45], vm := .statics 6 },
  { cls := 8, slots := #[.double 0, .int 0, .int 0, .int 0, .int 0, .int 0, .int 0, .long 0, .null, .int 0, .long 0, .ref 4, .ref 5, .long 0, .long 0, .ref 8, .ref 9, .ref 10, .ref 18, .null, .null, .int 0, .int 0, .int 0, .int 0, .int 0, .int 0, .int 0, .int 0, .null, .null, .ref 58, .null, .int 0, .int 0, .ref 59, .long 0, .null, .int 0], vm := .statics 8 },
  { cls := 10, slots := #[.long 0, .int 0, .int 0, .int 0, .int 0, .int 0, .int 0, .int 0, .int 0, .int 0, .int 0, .int 0, .null, .int 0, .int 0, .null, .int 0, .null, .null, .null, .null, .double 0, .ref 34, .ref 35, .ref 36, .null, .ref 44, .null, .int 0, .null, .null, .null, .null, .null, .long 0, .null, .int 0], vm := .statics 10 },
  { cls := 25, slots := #[.ref 8, .ref 9, .ref 10, .ref 11, .ref 12, .ref 13, .ref 14, .ref 15, .ref 16, .ref 17, .ref 18], vm := .none },
  { cls := 25, slots := #[.ref 8, .ref 19, .ref 20, .ref 21, .ref 22, .ref 23, .ref 24, .ref 25, .ref 26, .ref 27, .ref 28, .ref 29, .ref 30, .ref 31, .ref 32, .ref 33], vm := .none },
  { cls := 6, slots := #[.long 0, .int 500000000], vm := .none },
  { cls := 6, slots := #[.long 8, .int 0], vm := .none },
  { cls := 8, slots := #[.ref 34, .int 0, .int 0, .null, .long 0], vm := .none },
  { cls := 8, slots := #[.ref 35, .int 0, .int 0, .null, .long 1], vm := .none },
  { cls := 8, slots := #[.ref 36, .int 0, .int 0, .null, .long 2], vm := .none },
  { cls := 8, slots := #[.ref 37, .int 0, .int 0, .null, .long 3], vm := .none },
  { cls := 8, slots := #[.ref 38, .int 0, .int 0, .null, .long 4], vm := .none },
  { cls := 8, slots := #[.ref 39, .int 0, .int 0, .null, .long 5], vm := .none },
  { cls := 8, slots := #[.ref 40, .int 0, .int 0, .null, .long 6], vm := .none },
  { cls := 8, slots := #[.ref 41, .int 0, .int 0, .null, .long 7], vm := .none },
  { cls := 8, slots := #[.ref 42, .int 0, .int 0, .null, .long 8], vm := .none },
  { cls := 8, slots := #[.ref 43, .int 0, .int 0, .null, .long 9], vm := .none },
  { cls := 8, slots := #[.ref 44, .int 0, .int 0, .null, .long 10], vm := .none },
  { cls := 8, slots := #[.ref 34, .int 1, .int 0, .null, .long 0], vm := .none },
  { cls := 8, slots := #[.ref 34, .int 2, .int 0, .null, .long 0], vm := .none },
  { cls := 8, slots := #[.ref 34, .int 3, .int 0, .null, .long 0], vm := .none },
  { cls := 8, slots := #[.ref 34, .int 4, .int 0, .null, .long 0], vm := .none },
  { cls := 8, slots := #[.ref 34, .int 5, .int 0, .null, .long 0], vm := .none },
  { cls := 8, slots := #[.ref 34, .int 6, .int 0, .null, .long 0], vm := .none },
  { cls := 8, slots := #[.ref 34, .int 7, .int 0, .null, .long 0], vm := .none },
  { cls := 8, slots := #[.ref 34, .int 8, .int 0, .null, .long 0], vm := .none },
  { cls := 8, slots := #[.ref 34, .int 9, .int 0, .null, .long 0], vm := .none },
  { cls := 8, slots := #[.ref 34, .int 10, .int 0, .null, .long 0], vm := .none },
  { cls := 8, slots := #[.ref 34, .int 11, .int 0, .null, .long 0], vm := .none },
  { cls := 8, slots := #[.ref 34, .int 12, .int 0, .null, .long 0], vm := .none },
  { cls := 8, slots := #[.ref 34, .int 13, .int 0, .null, .long 0], vm := .none },
  { cls := 8, slots := #[.ref 34, .int 14, .int 0, .null, .long 0], vm := .none },
  { cls := 8, slots := #[.ref 34, .int 15, .int 0, .null, .long 0], vm := .none },
  { cls := 10, slots := #[.int 0, .ref 46, .int 0, .int 0, .int 0, .int 0], vm := .none },
  { cls := 10, slots := #[.int 1, .ref 47, .int 0, .int 0, .int 0, .int 0], vm := .none },
  { cls := 10, slots := #[.int 1, .ref 48, .int 0, .int 0, .int 0, .int 0], vm := .none },
  { cls := 10, slots := #[.int 1, .ref 49, .int 0, .int 0, .int 0, .int 0], vm := .none },
  { cls := 10, slots := #[.int 1, .ref 50, .int 0, .int 0, .int 0, .int 0], vm := .none },
  { cls := 10, slots := #[.int 1, .ref 51, .int 0, .int 0, .int 0, .int 0], vm := .none },
  { cls := 10, slots := #[.int 1, .ref 52, .int 0, .int 0, .int 0, .int 0], vm := .none },
  { cls := 10, slots := #[.int 1, .ref 53, .int 0, .int 0, .int 0, .int 0], vm := .none },
  { cls := 10, slots := #[.int 1, .ref 54, .int 0, .int 0, .int 0, .int 0], vm := .none },
  { cls := 10, slots := #[.int 1, .ref 55, .int 0, .int 0, .int 0, .int 0], vm := .none },
  { cls := 10, slots := #[.int 1, .ref 56, .int 0, .int 0, .int 0, .int 0], vm := .none },
  { cls := 10, slots := #[.int 1, .ref 57, .int 0, .int 0, .int 0, .int 0], vm := .none },
  { cls := 22, slots := #[], vm := .none },
  { cls := 22, slots := #[.int 1], vm := .none },
  { cls := 22, slots := #[.int 2], vm := .none },
  { cls := 22, slots := #[.int 3], vm := .none },
  { cls := 22, slots := #[.int 4], vm := .none },
  { cls := 22, slots := #[.int 5], vm := .none },
  { cls := 22, slots := #[.int 6], vm := .none },
  { cls := 22, slots := #[.int 7], vm := .none },
  { cls := 22, slots := #[.int 8], vm := .none },
  { cls := 22, slots := #[.int 9], vm := .none },
  { cls := 22, slots := #[.int 10], vm := .none },
  { cls := 22, slots := #[.int 1000000000], vm := .none },
  { cls := 24, slots := #[.long 1, .long 10, .long 100, .long 1000, .long 10000, .long 100000, .long 1000000, .long 10000000, .long 100000000, .long 1000000000, .long 10000000000, .long 100000000000, .long 1000000000000, .long 10000000000000, .long 100000000000000, .long 1000000000000000, .long 10000000000000000, .long 100000000000000000, .long 1000000000000000000], vm := .none },
  { cls := 24, slots := #[.long 9223372036854775807, .long 922337203685477580, .long 92233720368547758, .long 9223372036854775, .long 922337203685477, .long 92233720368547, .long 9223372036854, .long 922337203685, .long 92233720368, .long 9223372036, .long 922337203, .long 92233720, .long 9223372, .long 922337, .long 92233, .long 9223, .long 922, .long 92, .long 9], vm := .none }]
def classes : Array Class := #[k0, k1, k2, k3, k4, k5, k6, k7, k8, k9, k10, k11, k12, k13, k14, k15, k16, k17, k18, k19, k20, k21, k22, k23, k24, k25, k26]
def interned : List (Array UInt16 × Addr) := []
def slotsUsed : Nat := 363
def theMethod : MethodId := ⟨1, 1⟩
def args0 : Array Value := #[]
def aboutOver (below : List Frame) : State where
  vm := { classes := classes, interned := interned.toArray }
  heap := heap
  slotsUsed := slotsUsed
  threads := #[{ frames := .invoking theMethod args0 :: below }]
def below0 : List Frame := [.native { method := ⟨0, 0⟩, args := #[] }]
def about1 : State := aboutOver below0
def p0 : Program := .bare "" "" ""
def e0 : Env := launch0.env 0 0 0
theorem w_frames : about1.frames = Frame.invoking theMethod args0 :: below0 := rfl
set_option maxRecDepth 65536 in
theorem w_args : argsFit about1.vm theMethod args0 = true := by decide +kernel
set_option maxRecDepth 65536 in
theorem w_heap : heapFits about1 = true := by decide +kernel
set_option maxRecDepth 65536 in
theorem w_runnable : about1.curStatus? = some .runnable := by decide +kernel
set_option maxRecDepth 65536 in
theorem w_alone : about1.alone = true := by decide +kernel
set_option maxRecDepth 65536 in
theorem w_named : about1.methodNamed? x = some theMethod := by decide +kernel
set_option maxRecDepth 65536 in
theorem w_hears : about1.hears theMethod below0 = true := by decide +kernel
set_option maxRecDepth 65536 in
theorem w_ripe : about1.ripe theMethod args0 below0 = true := by decide +kernel
theorem w_running : about1.status = .running := rfl
set_option maxRecDepth 65536 in
theorem w_room : about1.hasRoom e0.platform room_1 = true :=
  launch0.hasRoom_least _ room_1 (by decide +kernel) (by decide +kernel) (by decide +kernel) (by decide +kernel) (by decide +kernel) (by decide +kernel)
theorem allAtoms_all (ts : List Jvm.Cond) (a : Array Jvm.Value) (st : Jvm.State) : (allAtoms ts).before a st = ts.all (fun c => c.before a st) := by
  induction ts with
  | nil => rfl
  | cons c t ih =>
    show (Jvm.Cond.and c (allAtoms t)).before a st = _
    rw [Jvm.Cond.before_and, ih, List.all_cons]
def words1 : List Jvm.Cond := Jvm.Cond.code x code maxLocals ret :: tables_1
/-- a 'code' word, met by the world's own term for the bytes: nothing is compared byte by byte -/
theorem code_word {y : MethodName} {bytes : ByteArray} {mx : Nat} {rt : Option FieldType} {a : Array Value} {s : State} {m : MethodId} {meth : Method} {c : Code} (h1 : s.methodNamed? y = some m) (h2 : s.vm.method? m = some meth) (h3 : meth.code = some c) (h4 : c.code = bytes)
    (h5 : (c.maxLocals == mx && c.exceptionTable.isEmpty && decide (c.maxStack ≤ mostOperands) && decide (meth.sig.returnType = rt) && !meth.locks && decide (parseMethodDescriptor y.desc = some meth.sig)) = true) : (Jvm.Cond.code y bytes mx rt).before a s = true := by
  simp only [Bool.and_eq_true, beq_iff_eq, Bool.not_eq_true', decide_eq_true_eq] at h5
  obtain ⟨⟨⟨⟨⟨g1, g2⟩, g3⟩, g4⟩, g5⟩, g6⟩ := h5
  simp [Cond.before, Cond.holds, Cond.value, h1, h2, h3, h4, g1, g2, g3, g4, g5, g6]
def isCode : Jvm.Cond → Bool
  | .code _ _ _ _ => true
  | _ => false
theorem all_split {L : List Jvm.Cond} {P : Jvm.Cond → Bool} (h1 : L.all (fun c => isCode c || P c) = true) (h2 : ∀ c ∈ L.filter isCode, P c = true) : L.all P = true := by
  refine List.all_eq_true.mpr fun c hc => ?_
  have h := List.all_eq_true.mp h1 c hc
  rcases Bool.eq_false_or_eq_true (isCode c) with hi | hi
  · exact h2 c (List.mem_filter.mpr ⟨hc, hi⟩)
  · simpa [hi] using h
set_option maxRecDepth 65536 in
theorem w_c0 : (Jvm.Cond.code x code maxLocals ret).before args0 about1 = true := code_word (m := ⟨1, 1⟩) (meth := k1m1) (c := k1c1) (by decide +kernel) rfl rfl rfl (by decide +kernel)
set_option maxRecDepth 65536 in
theorem w_c1 : (Jvm.Cond.code ({ cls := "com/example/letters_between_tasks/lettersbetweentasks/service/Backoff", name := "<init>", desc := "()V" } : Jvm.MethodName) prog_13_method_1_code (1 : Nat) (Option.none : Option Jvm.ClassFile.FieldType)).before args0 about1 = true := code_word (m := ⟨2, 0⟩) (meth := k2m0) (c := k2c0) (by decide +kernel) rfl rfl rfl (by decide +kernel)
set_option maxRecDepth 65536 in
theorem w_c2 : (Jvm.Cond.code ({ cls := "java/lang/Object", name := "<init>", desc := "()V" } : Jvm.MethodName) object_method_1_code (1 : Nat) (Option.none : Option Jvm.ClassFile.FieldType)).before args0 about1 = true := code_word (m := ⟨0, 0⟩) (meth := k0m0) (c := k0c0) (by decide +kernel) rfl rfl rfl (by decide +kernel)
set_option maxRecDepth 65536 in
theorem w_c3 : (Jvm.Cond.code ({ cls := "com/example/letters_between_tasks/lettersbetweentasks/service/Backoff", name := "next", desc := "()Ljava/time/Duration;" } : Jvm.MethodName) prog_13_method_2_code (3 : Nat) (Option.some (Jvm.ClassFile.FieldType.object "java/time/Duration"))).before args0 about1 = true := code_word (m := ⟨2, 1⟩) (meth := k2m1) (c := k2c1) (by decide +kernel) rfl rfl rfl (by decide +kernel)
set_option maxRecDepth 65536 in
theorem w_c4 : (Jvm.Cond.code ({ cls := "java/time/Duration", name := "multipliedBy", desc := "(J)Ljava/time/Duration;" } : Jvm.MethodName) jdk_2316_method_44_code (3 : Nat) (Option.some (Jvm.ClassFile.FieldType.object "java/time/Duration"))).before args0 about1 = true := code_word (m := ⟨6, 3⟩) (meth := k6m3) (c := k6c3) (by decide +kernel) rfl rfl rfl (by decide +kernel)
set_option maxRecDepth 65536 in
theorem w_c5 : (Jvm.Cond.code ({ cls := "java/time/Duration", name := "toBigDecimalSeconds", desc := "()Ljava/math/BigDecimal;" } : Jvm.MethodName) jdk_2316_method_47_code (1 : Nat) (Option.some (Jvm.ClassFile.FieldType.object "java/math/BigDecimal"))).before args0 about1 = true := code_word (m := ⟨6, 4⟩) (meth := k6m4) (c := k6c4) (by decide +kernel) rfl rfl rfl (by decide +kernel)
set_option maxRecDepth 65536 in
theorem w_c6 : (Jvm.Cond.code ({ cls := "java/math/BigDecimal", name := "valueOf", desc := "(J)Ljava/math/BigDecimal;" } : Jvm.MethodName) jdk_17_method_21_code (2 : Nat) (Option.some (Jvm.ClassFile.FieldType.object "java/math/BigDecimal"))).before args0 about1 = true := code_word (m := ⟨8, 2⟩) (meth := k8m2) (c := k8c2) (by decide +kernel) rfl rfl rfl (by decide +kernel)
set_option maxRecDepth 65536 in
theorem w_c7 : (Jvm.Cond.code ({ cls := "java/math/BigDecimal", name := "valueOf", desc := "(JI)Ljava/math/BigDecimal;" } : Jvm.MethodName) jdk_17_method_20_code (3 : Nat) (Option.some (Jvm.ClassFile.FieldType.object "java/math/BigDecimal"))).before args0 about1 = true := code_word (m := ⟨8, 1⟩) (meth := k8m1) (c := k8c1) (by decide +kernel) rfl rfl rfl (by decide +kernel)
set_option maxRecDepth 65536 in
theorem w_c8 : (Jvm.Cond.code ({ cls := "java/math/BigDecimal", name := "<init>", desc := "(Ljava/math/BigInteger;JII)V" } : Jvm.MethodName) jdk_17_method_1_code (6 : Nat) (Option.none : Option Jvm.ClassFile.FieldType)).before args0 about1 = true := code_word (m := ⟨8, 0⟩) (meth := k8m0) (c := k8c0) (by decide +kernel) rfl rfl rfl (by decide +kernel)
set_option maxRecDepth 65536 in
theorem w_c9 : (Jvm.Cond.code ({ cls := "java/lang/Number", name := "<init>", desc := "()V" } : Jvm.MethodName) jdk_18_method_1_code (1 : Nat) (Option.none : Option Jvm.ClassFile.FieldType)).before args0 about1 = true := code_word (m := ⟨7, 0⟩) (meth := k7m0) (c := k7c0) (by decide +kernel) rfl rfl rfl (by decide +kernel)
set_option maxRecDepth 65536 in
theorem w_c10 : (Jvm.Cond.code ({ cls := "java/math/BigDecimal", name := "add", desc := "(Ljava/math/BigDecimal;)Ljava/math/BigDecimal;" } : Jvm.MethodName) jdk_17_method_26_code (2 : Nat) (Option.some (Jvm.ClassFile.FieldType.object "java/math/BigDecimal"))).before args0 about1 = true := code_word (m := ⟨8, 4⟩) (meth := k8m4) (c := k8c4) (by decide +kernel) rfl rfl rfl (by decide +kernel)
set_option maxRecDepth 65536 in
theorem w_c11 : (Jvm.Cond.code ({ cls := "java/math/BigDecimal", name := "add", desc := "(JIJI)Ljava/math/BigDecimal;" } : Jvm.MethodName) jdk_17_method_134_code (12 : Nat) (Option.some (Jvm.ClassFile.FieldType.object "java/math/BigDecimal"))).before args0 about1 = true := code_word (m := ⟨8, 15⟩) (meth := k8m15) (c := k8c15) (by decide +kernel) rfl rfl rfl (by decide +kernel)
set_option maxRecDepth 65536 in
theorem w_c12 : (Jvm.Cond.code ({ cls := "java/math/BigDecimal", name := "checkScale", desc := "(JJ)I" } : Jvm.MethodName) jdk_17_method_113_code (5 : Nat) (Option.some Jvm.ClassFile.FieldType.int)).before args0 about1 = true := code_word (m := ⟨8, 12⟩) (meth := k8m12) (c := k8c12) (by decide +kernel) rfl rfl rfl (by decide +kernel)
set_option maxRecDepth 65536 in
theorem w_c13 : (Jvm.Cond.code ({ cls := "java/math/BigDecimal", name := "longMultiplyPowerTen", desc := "(JI)J" } : Jvm.MethodName) jdk_17_method_97_code (7 : Nat) (Option.some Jvm.ClassFile.FieldType.long)).before args0 about1 = true := code_word (m := ⟨8, 9⟩) (meth := k8m9) (c := k8c9) (by decide +kernel) rfl rfl rfl (by decide +kernel)
set_option maxRecDepth 65536 in
theorem w_c14 : (Jvm.Cond.code ({ cls := "java/math/BigDecimal", name := "add", desc := "(JJI)Ljava/math/BigDecimal;" } : Jvm.MethodName) jdk_17_method_133_code (7 : Nat) (Option.some (Jvm.ClassFile.FieldType.object "java/math/BigDecimal"))).before args0 about1 = true := code_word (m := ⟨8, 14⟩) (meth := k8m14) (c := k8c14) (by decide +kernel) rfl rfl rfl (by decide +kernel)
set_option maxRecDepth 65536 in
theorem w_c15 : (Jvm.Cond.code ({ cls := "java/math/BigDecimal", name := "add", desc := "(JJ)J" } : Jvm.MethodName) jdk_17_method_132_code (6 : Nat) (Option.some Jvm.ClassFile.FieldType.long)).before args0 about1 = true := code_word (m := ⟨8, 13⟩) (meth := k8m13) (c := k8c13) (by decide +kernel) rfl rfl rfl (by decide +kernel)
set_option maxRecDepth 65536 in
theorem w_c16 : (Jvm.Cond.code ({ cls := "java/math/BigDecimal", name := "multiply", desc := "(Ljava/math/BigDecimal;)Ljava/math/BigDecimal;" } : Jvm.MethodName) jdk_17_method_31_code (3 : Nat) (Option.some (Jvm.ClassFile.FieldType.object "java/math/BigDecimal"))).before args0 about1 = true := code_word (m := ⟨8, 5⟩) (meth := k8m5) (c := k8c5) (by decide +kernel) rfl rfl rfl (by decide +kernel)
set_option maxRecDepth 65536 in
theorem w_c17 : (Jvm.Cond.code ({ cls := "java/math/BigDecimal", name := "checkScale", desc := "(J)I" } : Jvm.MethodName) jdk_17_method_106_code (5 : Nat) (Option.some Jvm.ClassFile.FieldType.int)).before args0 about1 = true := code_word (m := ⟨8, 11⟩) (meth := k8m11) (c := k8c11) (by decide +kernel) rfl rfl rfl (by decide +kernel)
set_option maxRecDepth 65536 in
theorem w_c18 : (Jvm.Cond.code ({ cls := "java/math/BigDecimal", name := "multiply", desc := "(JJI)Ljava/math/BigDecimal;" } : Jvm.MethodName) jdk_17_method_157_code (7 : Nat) (Option.some (Jvm.ClassFile.FieldType.object "java/math/BigDecimal"))).before args0 about1 = true := code_word (m := ⟨8, 17⟩) (meth := k8m17) (c := k8c17) (by decide +kernel) rfl rfl rfl (by decide +kernel)
set_option maxRecDepth 65536 in
theorem w_c19 : (Jvm.Cond.code ({ cls := "java/math/BigDecimal", name := "multiply", desc := "(JJ)J" } : Jvm.MethodName) jdk_17_method_156_code (10 : Nat) (Option.some Jvm.ClassFile.FieldType.long)).before args0 about1 = true := code_word (m := ⟨8, 16⟩) (meth := k8m16) (c := k8c16) (by decide +kernel) rfl rfl rfl (by decide +kernel)
set_option maxRecDepth 65536 in
theorem w_c20 : (Jvm.Cond.code ({ cls := "java/lang/Math", name := "abs", desc := "(J)J" } : Jvm.MethodName) jdk_29_method_61_code (2 : Nat) (Option.some Jvm.ClassFile.FieldType.long)).before args0 about1 = true := code_word (m := ⟨9, 5⟩) (meth := k9m5) (c := k9c5) (by decide +kernel) rfl rfl rfl (by decide +kernel)
set_option maxRecDepth 65536 in
theorem w_c21 : (Jvm.Cond.code ({ cls := "java/time/Duration", name := "create", desc := "(Ljava/math/BigDecimal;)Ljava/time/Duration;" } : Jvm.MethodName) jdk_2316_method_48_code (3 : Nat) (Option.some (Jvm.ClassFile.FieldType.object "java/time/Duration"))).before args0 about1 = true := code_word (m := ⟨6, 5⟩) (meth := k6m5) (c := k6c5) (by decide +kernel) rfl rfl rfl (by decide +kernel)
set_option maxRecDepth 65536 in
theorem w_c22 : (Jvm.Cond.code ({ cls := "java/math/BigDecimal", name := "movePointRight", desc := "(I)Ljava/math/BigDecimal;" } : Jvm.MethodName) jdk_17_method_67_code (4 : Nat) (Option.some (Jvm.ClassFile.FieldType.object "java/math/BigDecimal"))).before args0 about1 = true := code_word (m := ⟨8, 7⟩) (meth := k8m7) (c := k8c7) (by decide +kernel) rfl rfl rfl (by decide +kernel)
set_option maxRecDepth 65536 in
theorem w_c23 : (Jvm.Cond.code ({ cls := "java/math/BigDecimal", name := "toBigIntegerExact", desc := "()Ljava/math/BigInteger;" } : Jvm.MethodName) jdk_17_method_81_code (1 : Nat) (Option.some (Jvm.ClassFile.FieldType.object "java/math/BigInteger"))).before args0 about1 = true := code_word (m := ⟨8, 8⟩) (meth := k8m8) (c := k8c8) (by decide +kernel) rfl rfl rfl (by decide +kernel)
set_option maxRecDepth 65536 in
theorem w_c24 : (Jvm.Cond.code ({ cls := "java/math/BigDecimal", name := "setScale", desc := "(II)Ljava/math/BigDecimal;" } : Jvm.MethodName) jdk_17_method_64_code (8 : Nat) (Option.some (Jvm.ClassFile.FieldType.object "java/math/BigDecimal"))).before args0 about1 = true := code_word (m := ⟨8, 6⟩) (meth := k8m6) (c := k8c6) (by decide +kernel) rfl rfl rfl (by decide +kernel)
set_option maxRecDepth 65536 in
theorem w_c25 : (Jvm.Cond.code ({ cls := "java/math/BigDecimal", name := "inflated", desc := "()Ljava/math/BigInteger;" } : Jvm.MethodName) jdk_17_method_99_code (1 : Nat) (Option.some (Jvm.ClassFile.FieldType.object "java/math/BigInteger"))).before args0 about1 = true := code_word (m := ⟨8, 10⟩) (meth := k8m10) (c := k8c10) (by decide +kernel) rfl rfl rfl (by decide +kernel)
set_option maxRecDepth 65536 in
theorem w_c26 : (Jvm.Cond.code ({ cls := "java/math/BigInteger", name := "valueOf", desc := "(J)Ljava/math/BigInteger;" } : Jvm.MethodName) jdk_2097_method_29_code (2 : Nat) (Option.some (Jvm.ClassFile.FieldType.object "java/math/BigInteger"))).before args0 about1 = true := code_word (m := ⟨10, 1⟩) (meth := k10m1) (c := k10c1) (by decide +kernel) rfl rfl rfl (by decide +kernel)
set_option maxRecDepth 65536 in
theorem w_c27 : (Jvm.Cond.code ({ cls := "java/math/BigInteger", name := "<init>", desc := "(J)V" } : Jvm.MethodName) jdk_2097_method_30_code (4 : Nat) (Option.none : Option Jvm.ClassFile.FieldType)).before args0 about1 = true := code_word (m := ⟨10, 2⟩) (meth := k10m2) (c := k10c2) (by decide +kernel) rfl rfl rfl (by decide +kernel)
set_option maxRecDepth 65536 in
theorem w_c28 : (Jvm.Cond.code ({ cls := "java/math/BigInteger", name := "divideAndRemainder", desc := "(Ljava/math/BigInteger;)[Ljava/math/BigInteger;" } : Jvm.MethodName) jdk_2097_method_63_code (2 : Nat) (Option.some (Jvm.ClassFile.FieldType.array (Jvm.ClassFile.FieldType.object "java/math/BigInteger")))).before args0 about1 = true := code_word (m := ⟨10, 3⟩) (meth := k10m3) (c := k10c3) (by decide +kernel) rfl rfl rfl (by decide +kernel)
set_option maxRecDepth 65536 in
theorem w_c29 : (Jvm.Cond.code ({ cls := "java/math/BigInteger", name := "divideAndRemainderKnuth", desc := "(Ljava/math/BigInteger;)[Ljava/math/BigInteger;" } : Jvm.MethodName) jdk_2097_method_64_code (7 : Nat) (Option.some (Jvm.ClassFile.FieldType.array (Jvm.ClassFile.FieldType.object "java/math/BigInteger")))).before args0 about1 = true := code_word (m := ⟨10, 4⟩) (meth := k10m4) (c := k10c4) (by decide +kernel) rfl rfl rfl (by decide +kernel)
set_option maxRecDepth 65536 in
theorem w_c30 : (Jvm.Cond.code ({ cls := "java/math/MutableBigInteger", name := "<init>", desc := "()V" } : Jvm.MethodName) jdk_2101_method_1_code (1 : Nat) (Option.none : Option Jvm.ClassFile.FieldType)).before args0 about1 = true := code_word (m := ⟨11, 0⟩) (meth := k11m0) (c := k11c0) (by decide +kernel) rfl rfl rfl (by decide +kernel)
set_option maxRecDepth 65536 in
theorem w_c31 : (Jvm.Cond.code ({ cls := "java/math/MutableBigInteger", name := "<init>", desc := "([I)V" } : Jvm.MethodName) jdk_2101_method_3_code (2 : Nat) (Option.none : Option Jvm.ClassFile.FieldType)).before args0 about1 = true := code_word (m := ⟨11, 1⟩) (meth := k11m1) (c := k11c1) (by decide +kernel) rfl rfl rfl (by decide +kernel)
set_option maxRecDepth 65536 in
theorem w_c32 : (Jvm.Cond.code ({ cls := "java/math/MutableBigInteger", name := "divideKnuth", desc := "(Ljava/math/MutableBigInteger;Ljava/math/MutableBigInteger;)Ljava/math/MutableBigInteger;" } : Jvm.MethodName) jdk_2101_method_56_code (3 : Nat) (Option.some (Jvm.ClassFile.FieldType.object "java/math/MutableBigInteger"))).before args0 about1 = true := code_word (m := ⟨11, 8⟩) (meth := k11m8) (c := k11c8) (by decide +kernel) rfl rfl rfl (by decide +kernel)
set_option maxRecDepth 65536 in
theorem w_c33 : (Jvm.Cond.code ({ cls := "java/math/MutableBigInteger", name := "divideKnuth", desc := "(Ljava/math/MutableBigInteger;Ljava/math/MutableBigInteger;Z)Ljava/math/MutableBigInteger;" } : Jvm.MethodName) jdk_2101_method_57_code (8 : Nat) (Option.some (Jvm.ClassFile.FieldType.object "java/math/MutableBigInteger"))).before args0 about1 = true := code_word (m := ⟨11, 9⟩) (meth := k11m9) (c := k11c9) (by decide +kernel) rfl rfl rfl (by decide +kernel)
set_option maxRecDepth 65536 in
theorem w_c34 : (Jvm.Cond.code ({ cls := "java/math/MutableBigInteger", name := "compare", desc := "(Ljava/math/MutableBigInteger;)I" } : Jvm.MethodName) jdk_2101_method_15_code (8 : Nat) (Option.some Jvm.ClassFile.FieldType.int)).before args0 about1 = true := code_word (m := ⟨11, 5⟩) (meth := k11m5) (c := k11c5) (by decide +kernel) rfl rfl rfl (by decide +kernel)
set_option maxRecDepth 65536 in
theorem w_c35 : (Jvm.Cond.code ({ cls := "java/math/MutableBigInteger", name := "toBigInteger", desc := "(I)Ljava/math/BigInteger;" } : Jvm.MethodName) jdk_2101_method_9_code (2 : Nat) (Option.some (Jvm.ClassFile.FieldType.object "java/math/BigInteger"))).before args0 about1 = true := code_word (m := ⟨11, 3⟩) (meth := k11m3) (c := k11c3) (by decide +kernel) rfl rfl rfl (by decide +kernel)
set_option maxRecDepth 65536 in
theorem w_c36 : (Jvm.Cond.code ({ cls := "java/math/MutableBigInteger", name := "getMagnitudeArray", desc := "()[I" } : Jvm.MethodName) jdk_2101_method_7_code (2 : Nat) (Option.some (Jvm.ClassFile.FieldType.array Jvm.ClassFile.FieldType.int))).before args0 about1 = true := code_word (m := ⟨11, 2⟩) (meth := k11m2) (c := k11c2) (by decide +kernel) rfl rfl rfl (by decide +kernel)
set_option maxRecDepth 65536 in
theorem w_c37 : (Jvm.Cond.code ({ cls := "java/math/BigInteger", name := "<init>", desc := "([II)V" } : Jvm.MethodName) jdk_2097_method_25_code (3 : Nat) (Option.none : Option Jvm.ClassFile.FieldType)).before args0 about1 = true := code_word (m := ⟨10, 0⟩) (meth := k10m0) (c := k10c0) (by decide +kernel) rfl rfl rfl (by decide +kernel)
set_option maxRecDepth 65536 in
theorem w_c38 : (Jvm.Cond.code ({ cls := "java/math/BigInteger", name := "bitLength", desc := "()I" } : Jvm.MethodName) jdk_2097_method_118_code (7 : Nat) (Option.some Jvm.ClassFile.FieldType.int)).before args0 about1 = true := code_word (m := ⟨10, 6⟩) (meth := k10m6) (c := k10c6) (by decide +kernel) rfl rfl rfl (by decide +kernel)
set_option maxRecDepth 65536 in
theorem w_c39 : (Jvm.Cond.code ({ cls := "java/math/BigInteger", name := "bitLengthForInt", desc := "(I)I" } : Jvm.MethodName) jdk_2097_method_74_code (1 : Nat) (Option.some Jvm.ClassFile.FieldType.int)).before args0 about1 = true := code_word (m := ⟨10, 5⟩) (meth := k10m5) (c := k10c5) (by decide +kernel) rfl rfl rfl (by decide +kernel)
set_option maxRecDepth 65536 in
theorem w_c40 : (Jvm.Cond.code ({ cls := "java/lang/Integer", name := "numberOfLeadingZeros", desc := "(I)I" } : Jvm.MethodName) jdk_33_method_47_code (2 : Nat) (Option.some Jvm.ClassFile.FieldType.int)).before args0 about1 = true := code_word (m := ⟨14, 0⟩) (meth := k14m0) (c := k14c0) (by decide +kernel) rfl rfl rfl (by decide +kernel)
set_option maxRecDepth 65536 in
theorem w_c41 : (Jvm.Cond.code ({ cls := "java/math/BigInteger", name := "longValue", desc := "()J" } : Jvm.MethodName) jdk_2097_method_136_code (4 : Nat) (Option.some Jvm.ClassFile.FieldType.long)).before args0 about1 = true := code_word (m := ⟨10, 8⟩) (meth := k10m8) (c := k10c8) (by decide +kernel) rfl rfl rfl (by decide +kernel)
set_option maxRecDepth 65536 in
theorem w_c42 : (Jvm.Cond.code ({ cls := "java/math/BigInteger", name := "getInt", desc := "(I)I" } : Jvm.MethodName) jdk_2097_method_148_code (3 : Nat) (Option.some Jvm.ClassFile.FieldType.int)).before args0 about1 = true := code_word (m := ⟨10, 10⟩) (meth := k10m10) (c := k10c10) (by decide +kernel) rfl rfl rfl (by decide +kernel)
set_option maxRecDepth 65536 in
theorem w_c43 : (Jvm.Cond.code ({ cls := "java/math/BigInteger", name := "signInt", desc := "()I" } : Jvm.MethodName) jdk_2097_method_147_code (1 : Nat) (Option.some Jvm.ClassFile.FieldType.int)).before args0 about1 = true := code_word (m := ⟨10, 9⟩) (meth := k10m9) (c := k10c9) (by decide +kernel) rfl rfl rfl (by decide +kernel)
set_option maxRecDepth 65536 in
theorem w_c44 : (Jvm.Cond.code ({ cls := "java/math/BigInteger", name := "intValue", desc := "()I" } : Jvm.MethodName) jdk_2097_method_135_code (2 : Nat) (Option.some Jvm.ClassFile.FieldType.int)).before args0 about1 = true := code_word (m := ⟨10, 7⟩) (meth := k10m7) (c := k10c7) (by decide +kernel) rfl rfl rfl (by decide +kernel)
set_option maxRecDepth 65536 in
theorem w_c45 : (Jvm.Cond.code ({ cls := "java/time/Duration", name := "ofSeconds", desc := "(JJ)Ljava/time/Duration;" } : Jvm.MethodName) jdk_2316_method_5_code (7 : Nat) (Option.some (Jvm.ClassFile.FieldType.object "java/time/Duration"))).before args0 about1 = true := code_word (m := ⟨6, 0⟩) (meth := k6m0) (c := k6c0) (by decide +kernel) rfl rfl rfl (by decide +kernel)
set_option maxRecDepth 65536 in
theorem w_c46 : (Jvm.Cond.code ({ cls := "java/lang/Math", name := "floorDiv", desc := "(JJ)J" } : Jvm.MethodName) jdk_29_method_49_code (6 : Nat) (Option.some Jvm.ClassFile.FieldType.long)).before args0 about1 = true := code_word (m := ⟨9, 3⟩) (meth := k9m3) (c := k9c3) (by decide +kernel) rfl rfl rfl (by decide +kernel)
set_option maxRecDepth 65536 in
theorem w_c47 : (Jvm.Cond.code ({ cls := "java/lang/Math", name := "addExact", desc := "(JJ)J" } : Jvm.MethodName) jdk_29_method_25_code (6 : Nat) (Option.some Jvm.ClassFile.FieldType.long)).before args0 about1 = true := code_word (m := ⟨9, 1⟩) (meth := k9m1) (c := k9c1) (by decide +kernel) rfl rfl rfl (by decide +kernel)
set_option maxRecDepth 65536 in
theorem w_c48 : (Jvm.Cond.code ({ cls := "java/lang/Math", name := "floorMod", desc := "(JJ)J" } : Jvm.MethodName) jdk_29_method_52_code (6 : Nat) (Option.some Jvm.ClassFile.FieldType.long)).before args0 about1 = true := code_word (m := ⟨9, 4⟩) (meth := k9m4) (c := k9c4) (by decide +kernel) rfl rfl rfl (by decide +kernel)
set_option maxRecDepth 65536 in
theorem w_c49 : (Jvm.Cond.code ({ cls := "java/time/Duration", name := "create", desc := "(JI)Ljava/time/Duration;" } : Jvm.MethodName) jdk_2316_method_16_code (3 : Nat) (Option.some (Jvm.ClassFile.FieldType.object "java/time/Duration"))).before args0 about1 = true := code_word (m := ⟨6, 1⟩) (meth := k6m1) (c := k6c1) (by decide +kernel) rfl rfl rfl (by decide +kernel)
set_option maxRecDepth 65536 in
theorem w_c50 : (Jvm.Cond.code ({ cls := "java/time/Duration", name := "<init>", desc := "(JI)V" } : Jvm.MethodName) jdk_2316_method_17_code (4 : Nat) (Option.none : Option Jvm.ClassFile.FieldType)).before args0 about1 = true := code_word (m := ⟨6, 2⟩) (meth := k6m2) (c := k6c2) (by decide +kernel) rfl rfl rfl (by decide +kernel)
set_option maxRecDepth 65536 in
theorem w_c51 : (Jvm.Cond.code ({ cls := "java/time/Duration", name := "compareTo", desc := "(Ljava/time/Duration;)I" } : Jvm.MethodName) jdk_2316_method_66_code (3 : Nat) (Option.some Jvm.ClassFile.FieldType.int)).before args0 about1 = true := code_word (m := ⟨6, 7⟩) (meth := k6m7) (c := k6c7) (by decide +kernel) rfl rfl rfl (by decide +kernel)
set_option maxRecDepth 65536 in
theorem w_c52 : (Jvm.Cond.code ({ cls := "java/lang/Long", name := "compare", desc := "(JJ)I" } : Jvm.MethodName) jdk_35_method_42_code (4 : Nat) (Option.some Jvm.ClassFile.FieldType.int)).before args0 about1 = true := code_word (m := ⟨15, 0⟩) (meth := k15m0) (c := k15c0) (by decide +kernel) rfl rfl rfl (by decide +kernel)
set_option maxRecDepth 65536 in
theorem w_c53 : (Jvm.Cond.code ({ cls := "java/time/Duration", name := "toNanos", desc := "()J" } : Jvm.MethodName) jdk_2316_method_58_code (7 : Nat) (Option.some Jvm.ClassFile.FieldType.long)).before args0 about1 = true := code_word (m := ⟨6, 6⟩) (meth := k6m6) (c := k6c6) (by decide +kernel) rfl rfl rfl (by decide +kernel)
set_option maxRecDepth 65536 in
theorem w_c54 : (Jvm.Cond.code ({ cls := "java/lang/Math", name := "multiplyExact", desc := "(JJ)J" } : Jvm.MethodName) jdk_29_method_30_code (10 : Nat) (Option.some Jvm.ClassFile.FieldType.long)).before args0 about1 = true := code_word (m := ⟨9, 2⟩) (meth := k9m2) (c := k9c2) (by decide +kernel) rfl rfl rfl (by decide +kernel)
set_option maxRecDepth 65536 in
theorem w_c55 : (Jvm.Cond.code ({ cls := "java/math/BigDecimal", name := "zeroValueOf", desc := "(I)Ljava/math/BigDecimal;" } : Jvm.MethodName) jdk_17_method_24_code (1 : Nat) (Option.some (Jvm.ClassFile.FieldType.object "java/math/BigDecimal"))).before args0 about1 = true := code_word (m := ⟨8, 3⟩) (meth := k8m3) (c := k8c3) (by decide +kernel) rfl rfl rfl (by decide +kernel)
set_option maxRecDepth 65536 in
theorem w_c56 : (Jvm.Cond.code ({ cls := "java/math/MutableBigInteger", name := "clear", desc := "()V" } : Jvm.MethodName) jdk_2101_method_13_code (3 : Nat) (Option.none : Option Jvm.ClassFile.FieldType)).before args0 about1 = true := code_word (m := ⟨11, 4⟩) (meth := k11m4) (c := k11c4) (by decide +kernel) rfl rfl rfl (by decide +kernel)
set_option maxRecDepth 65536 in
theorem w_c57 : (Jvm.Cond.code ({ cls := "java/math/MutableBigInteger", name := "divideOneWord", desc := "(ILjava/math/MutableBigInteger;)I" } : Jvm.MethodName) jdk_2101_method_53_code (15 : Nat) (Option.some Jvm.ClassFile.FieldType.int)).before args0 about1 = true := code_word (m := ⟨11, 7⟩) (meth := k11m7) (c := k11c7) (by decide +kernel) rfl rfl rfl (by decide +kernel)
set_option maxRecDepth 65536 in
theorem w_c58 : (Jvm.Cond.code ({ cls := "java/math/MutableBigInteger", name := "normalize", desc := "()V" } : Jvm.MethodName) jdk_2101_method_21_code (4 : Nat) (Option.none : Option Jvm.ClassFile.FieldType)).before args0 about1 = true := code_word (m := ⟨11, 6⟩) (meth := k11m6) (c := k11c6) (by decide +kernel) rfl rfl rfl (by decide +kernel)
set_option maxRecDepth 65536 in
theorem w_c59 : (Jvm.Cond.code ({ cls := "java/util/Arrays", name := "copyOfRange", desc := "([III)[I" } : Jvm.MethodName) jdk_65_method_136_code (3 : Nat) (Option.some (Jvm.ClassFile.FieldType.array Jvm.ClassFile.FieldType.int))).before args0 about1 = true := code_word (m := ⟨16, 3⟩) (meth := k16m3) (c := k16c3) (by decide +kernel) rfl rfl rfl (by decide +kernel)
set_option maxRecDepth 65536 in
theorem w_c60 : (Jvm.Cond.code ({ cls := "java/util/Arrays", name := "copyOfRangeInt", desc := "([III)[I" } : Jvm.MethodName) jdk_65_method_137_code (5 : Nat) (Option.some (Jvm.ClassFile.FieldType.array Jvm.ClassFile.FieldType.int))).before args0 about1 = true := code_word (m := ⟨16, 4⟩) (meth := k16m4) (c := k16c4) (by decide +kernel) rfl rfl rfl (by decide +kernel)
set_option maxRecDepth 65536 in
theorem w_c61 : (Jvm.Cond.code ({ cls := "java/util/Arrays", name := "checkLength", desc := "(II)V" } : Jvm.MethodName) jdk_65_method_131_code (2 : Nat) (Option.none : Option Jvm.ClassFile.FieldType)).before args0 about1 = true := code_word (m := ⟨16, 2⟩) (meth := k16m2) (c := k16c2) (by decide +kernel) rfl rfl rfl (by decide +kernel)
set_option maxRecDepth 65536 in
theorem w_c62 : (Jvm.Cond.code ({ cls := "java/lang/Math", name := "min", desc := "(II)I" } : Jvm.MethodName) jdk_29_method_69_code (2 : Nat) (Option.some Jvm.ClassFile.FieldType.int)).before args0 about1 = true := code_word (m := ⟨9, 6⟩) (meth := k9m6) (c := k9c6) (by decide +kernel) rfl rfl rfl (by decide +kernel)
set_option maxRecDepth 65536 in
theorem w_c63 : (Jvm.Cond.code ({ cls := "java/util/Arrays", name := "fill", desc := "([II)V" } : Jvm.MethodName) jdk_65_method_103_code (4 : Nat) (Option.none : Option Jvm.ClassFile.FieldType)).before args0 about1 = true := code_word (m := ⟨16, 1⟩) (meth := k16m1) (c := k16c1) (by decide +kernel) rfl rfl rfl (by decide +kernel)
def codes1 : List Jvm.Cond := [Jvm.Cond.code x code maxLocals ret, Jvm.Cond.code ({ cls := "com/example/letters_between_tasks/lettersbetweentasks/service/Backoff", name := "<init>", desc := "()V" } : Jvm.MethodName) prog_13_method_1_code (1 : Nat) (Option.none : Option Jvm.ClassFile.FieldType), Jvm.Cond.code ({ cls := "java/lang/Object", name := "<init>", desc := "()V" } : Jvm.MethodName) object_method_1_code (1 : Nat) (Option.none : Option Jvm.ClassFile.FieldType), Jvm.Cond.code ({ cls := "com/example/letters_between_tasks/lettersbetweentasks/service/Backoff", name := "next", desc := "()Ljava/time/Duration;" } : Jvm.MethodName) prog_13_method_2_code (3 : Nat) (Option.some (Jvm.ClassFile.FieldType.object "java/time/Duration")), Jvm.Cond.code ({ cls := "java/time/Duration", name := "multipliedBy", desc := "(J)Ljava/time/Duration;" } : Jvm.MethodName) jdk_2316_method_44_code (3 : Nat) (Option.some (Jvm.ClassFile.FieldType.object "java/time/Duration")), Jvm.Cond.code ({ cls := "java/time/Duration", name := "toBigDecimalSeconds", desc := "()Ljava/math/BigDecimal;" } : Jvm.MethodName) jdk_2316_method_47_code (1 : Nat) (Option.some (Jvm.ClassFile.FieldType.object "java/math/BigDecimal")), Jvm.Cond.code ({ cls := "java/math/BigDecimal", name := "valueOf", desc := "(J)Ljava/math/BigDecimal;" } : Jvm.MethodName) jdk_17_method_21_code (2 : Nat) (Option.some (Jvm.ClassFile.FieldType.object "java/math/BigDecimal")), Jvm.Cond.code ({ cls := "java/math/BigDecimal", name := "valueOf", desc := "(JI)Ljava/math/BigDecimal;" } : Jvm.MethodName) jdk_17_method_20_code (3 : Nat) (Option.some (Jvm.ClassFile.FieldType.object "java/math/BigDecimal")), Jvm.Cond.code ({ cls := "java/math/BigDecimal", name := "<init>", desc := "(Ljava/math/BigInteger;JII)V" } : Jvm.MethodName) jdk_17_method_1_code (6 : Nat) (Option.none : Option Jvm.ClassFile.FieldType), Jvm.Cond.code ({ cls := "java/lang/Number", name := "<init>", desc := "()V" } : Jvm.MethodName) jdk_18_method_1_code (1 : Nat) (Option.none : Option Jvm.ClassFile.FieldType), Jvm.Cond.code ({ cls := "java/math/BigDecimal", name := "add", desc := "(Ljava/math/BigDecimal;)Ljava/math/BigDecimal;" } : Jvm.MethodName) jdk_17_method_26_code (2 : Nat) (Option.some (Jvm.ClassFile.FieldType.object "java/math/BigDecimal")), Jvm.Cond.code ({ cls := "java/math/BigDecimal", name := "add", desc := "(JIJI)Ljava/math/BigDecimal;" } : Jvm.MethodName) jdk_17_method_134_code (12 : Nat) (Option.some (Jvm.ClassFile.FieldType.object "java/math/BigDecimal")), Jvm.Cond.code ({ cls := "java/math/BigDecimal", name := "checkScale", desc := "(JJ)I" } : Jvm.MethodName) jdk_17_method_113_code (5 : Nat) (Option.some Jvm.ClassFile.FieldType.int), Jvm.Cond.code ({ cls := "java/math/BigDecimal", name := "longMultiplyPowerTen", desc := "(JI)J" } : Jvm.MethodName) jdk_17_method_97_code (7 : Nat) (Option.some Jvm.ClassFile.FieldType.long), Jvm.Cond.code ({ cls := "java/math/BigDecimal", name := "add", desc := "(JJI)Ljava/math/BigDecimal;" } : Jvm.MethodName) jdk_17_method_133_code (7 : Nat) (Option.some (Jvm.ClassFile.FieldType.object "java/math/BigDecimal")), Jvm.Cond.code ({ cls := "java/math/BigDecimal", name := "add", desc := "(JJ)J" } : Jvm.MethodName) jdk_17_method_132_code (6 : Nat) (Option.some Jvm.ClassFile.FieldType.long), Jvm.Cond.code ({ cls := "java/math/BigDecimal", name := "multiply", desc := "(Ljava/math/BigDecimal;)Ljava/math/BigDecimal;" } : Jvm.MethodName) jdk_17_method_31_code (3 : Nat) (Option.some (Jvm.ClassFile.FieldType.object "java/math/BigDecimal")), Jvm.Cond.code ({ cls := "java/math/BigDecimal", name := "checkScale", desc := "(J)I" } : Jvm.MethodName) jdk_17_method_106_code (5 : Nat) (Option.some Jvm.ClassFile.FieldType.int), Jvm.Cond.code ({ cls := "java/math/BigDecimal", name := "multiply", desc := "(JJI)Ljava/math/BigDecimal;" } : Jvm.MethodName) jdk_17_method_157_code (7 : Nat) (Option.some (Jvm.ClassFile.FieldType.object "java/math/BigDecimal")), Jvm.Cond.code ({ cls := "java/math/BigDecimal", name := "multiply", desc := "(JJ)J" } : Jvm.MethodName) jdk_17_method_156_code (10 : Nat) (Option.some Jvm.ClassFile.FieldType.long), Jvm.Cond.code ({ cls := "java/lang/Math", name := "abs", desc := "(J)J" } : Jvm.MethodName) jdk_29_method_61_code (2 : Nat) (Option.some Jvm.ClassFile.FieldType.long), Jvm.Cond.code ({ cls := "java/time/Duration", name := "create", desc := "(Ljava/math/BigDecimal;)Ljava/time/Duration;" } : Jvm.MethodName) jdk_2316_method_48_code (3 : Nat) (Option.some (Jvm.ClassFile.FieldType.object "java/time/Duration")), Jvm.Cond.code ({ cls := "java/math/BigDecimal", name := "movePointRight", desc := "(I)Ljava/math/BigDecimal;" } : Jvm.MethodName) jdk_17_method_67_code (4 : Nat) (Option.some (Jvm.ClassFile.FieldType.object "java/math/BigDecimal")), Jvm.Cond.code ({ cls := "java/math/BigDecimal", name := "toBigIntegerExact", desc := "()Ljava/math/BigInteger;" } : Jvm.MethodName) jdk_17_method_81_code (1 : Nat) (Option.some (Jvm.ClassFile.FieldType.object "java/math/BigInteger")), Jvm.Cond.code ({ cls := "java/math/BigDecimal", name := "setScale", desc := "(II)Ljava/math/BigDecimal;" } : Jvm.MethodName) jdk_17_method_64_code (8 : Nat) (Option.some (Jvm.ClassFile.FieldType.object "java/math/BigDecimal")), Jvm.Cond.code ({ cls := "java/math/BigDecimal", name := "inflated", desc := "()Ljava/math/BigInteger;" } : Jvm.MethodName) jdk_17_method_99_code (1 : Nat) (Option.some (Jvm.ClassFile.FieldType.object "java/math/BigInteger")), Jvm.Cond.code ({ cls := "java/math/BigInteger", name := "valueOf", desc := "(J)Ljava/math/BigInteger;" } : Jvm.MethodName) jdk_2097_method_29_code (2 : Nat) (Option.some (Jvm.ClassFile.FieldType.object "java/math/BigInteger")), Jvm.Cond.code ({ cls := "java/math/BigInteger", name := "<init>", desc := "(J)V" } : Jvm.MethodName) jdk_2097_method_30_code (4 : Nat) (Option.none : Option Jvm.ClassFile.FieldType), Jvm.Cond.code ({ cls := "java/math/BigInteger", name := "divideAndRemainder", desc := "(Ljava/math/BigInteger;)[Ljava/math/BigInteger;" } : Jvm.MethodName) jdk_2097_method_63_code (2 : Nat) (Option.some (Jvm.ClassFile.FieldType.array (Jvm.ClassFile.FieldType.object "java/math/BigInteger"))), Jvm.Cond.code ({ cls := "java/math/BigInteger", name := "divideAndRemainderKnuth", desc := "(Ljava/math/BigInteger;)[Ljava/math/BigInteger;" } : Jvm.MethodName) jdk_2097_method_64_code (7 : Nat) (Option.some (Jvm.ClassFile.FieldType.array (Jvm.ClassFile.FieldType.object "java/math/BigInteger"))), Jvm.Cond.code ({ cls := "java/math/MutableBigInteger", name := "<init>", desc := "()V" } : Jvm.MethodName) jdk_2101_method_1_code (1 : Nat) (Option.none : Option Jvm.ClassFile.FieldType), Jvm.Cond.code ({ cls := "java/math/MutableBigInteger", name := "<init>", desc := "([I)V" } : Jvm.MethodName) jdk_2101_method_3_code (2 : Nat) (Option.none : Option Jvm.ClassFile.FieldType), Jvm.Cond.code ({ cls := "java/math/MutableBigInteger", name := "divideKnuth", desc := "(Ljava/math/MutableBigInteger;Ljava/math/MutableBigInteger;)Ljava/math/MutableBigInteger;" } : Jvm.MethodName) jdk_2101_method_56_code (3 : Nat) (Option.some (Jvm.ClassFile.FieldType.object "java/math/MutableBigInteger")), Jvm.Cond.code ({ cls := "java/math/MutableBigInteger", name := "divideKnuth", desc := "(Ljava/math/MutableBigInteger;Ljava/math/MutableBigInteger;Z)Ljava/math/MutableBigInteger;" } : Jvm.MethodName) jdk_2101_method_57_code (8 : Nat) (Option.some (Jvm.ClassFile.FieldType.object "java/math/MutableBigInteger")), Jvm.Cond.code ({ cls := "java/math/MutableBigInteger", name := "compare", desc := "(Ljava/math/MutableBigInteger;)I" } : Jvm.MethodName) jdk_2101_method_15_code (8 : Nat) (Option.some Jvm.ClassFile.FieldType.int), Jvm.Cond.code ({ cls := "java/math/MutableBigInteger", name := "toBigInteger", desc := "(I)Ljava/math/BigInteger;" } : Jvm.MethodName) jdk_2101_method_9_code (2 : Nat) (Option.some (Jvm.ClassFile.FieldType.object "java/math/BigInteger")), Jvm.Cond.code ({ cls := "java/math/MutableBigInteger", name := "getMagnitudeArray", desc := "()[I" } : Jvm.MethodName) jdk_2101_method_7_code (2 : Nat) (Option.some (Jvm.ClassFile.FieldType.array Jvm.ClassFile.FieldType.int)), Jvm.Cond.code ({ cls := "java/math/BigInteger", name := "<init>", desc := "([II)V" } : Jvm.MethodName) jdk_2097_method_25_code (3 : Nat) (Option.none : Option Jvm.ClassFile.FieldType), Jvm.Cond.code ({ cls := "java/math/BigInteger", name := "bitLength", desc := "()I" } : Jvm.MethodName) jdk_2097_method_118_code (7 : Nat) (Option.some Jvm.ClassFile.FieldType.int), Jvm.Cond.code ({ cls := "java/math/BigInteger", name := "bitLengthForInt", desc := "(I)I" } : Jvm.MethodName) jdk_2097_method_74_code (1 : Nat) (Option.some Jvm.ClassFile.FieldType.int), Jvm.Cond.code ({ cls := "java/lang/Integer", name := "numberOfLeadingZeros", desc := "(I)I" } : Jvm.MethodName) jdk_33_method_47_code (2 : Nat) (Option.some Jvm.ClassFile.FieldType.int), Jvm.Cond.code ({ cls := "java/math/BigInteger", name := "longValue", desc := "()J" } : Jvm.MethodName) jdk_2097_method_136_code (4 : Nat) (Option.some Jvm.ClassFile.FieldType.long), Jvm.Cond.code ({ cls := "java/math/BigInteger", name := "getInt", desc := "(I)I" } : Jvm.MethodName) jdk_2097_method_148_code (3 : Nat) (Option.some Jvm.ClassFile.FieldType.int), Jvm.Cond.code ({ cls := "java/math/BigInteger", name := "signInt", desc := "()I" } : Jvm.MethodName) jdk_2097_method_147_code (1 : Nat) (Option.some Jvm.ClassFile.FieldType.int), Jvm.Cond.code ({ cls := "java/math/BigInteger", name := "intValue", desc := "()I" } : Jvm.MethodName) jdk_2097_method_135_code (2 : Nat) (Option.some Jvm.ClassFile.FieldType.int), Jvm.Cond.code ({ cls := "java/time/Duration", name := "ofSeconds", desc := "(JJ)Ljava/time/Duration;" } : Jvm.MethodName) jdk_2316_method_5_code (7 : Nat) (Option.some (Jvm.ClassFile.FieldType.object "java/time/Duration")), Jvm.Cond.code ({ cls := "java/lang/Math", name := "floorDiv", desc := "(JJ)J" } : Jvm.MethodName) jdk_29_method_49_code (6 : Nat) (Option.some Jvm.ClassFile.FieldType.long), Jvm.Cond.code ({ cls := "java/lang/Math", name := "addExact", desc := "(JJ)J" } : Jvm.MethodName) jdk_29_method_25_code (6 : Nat) (Option.some Jvm.ClassFile.FieldType.long), Jvm.Cond.code ({ cls := "java/lang/Math", name := "floorMod", desc := "(JJ)J" } : Jvm.MethodName) jdk_29_method_52_code (6 : Nat) (Option.some Jvm.ClassFile.FieldType.long), Jvm.Cond.code ({ cls := "java/time/Duration", name := "create", desc := "(JI)Ljava/time/Duration;" } : Jvm.MethodName) jdk_2316_method_16_code (3 : Nat) (Option.some (Jvm.ClassFile.FieldType.object "java/time/Duration")), Jvm.Cond.code ({ cls := "java/time/Duration", name := "<init>", desc := "(JI)V" } : Jvm.MethodName) jdk_2316_method_17_code (4 : Nat) (Option.none : Option Jvm.ClassFile.FieldType), Jvm.Cond.code ({ cls := "java/time/Duration", name := "compareTo", desc := "(Ljava/time/Duration;)I" } : Jvm.MethodName) jdk_2316_method_66_code (3 : Nat) (Option.some Jvm.ClassFile.FieldType.int), Jvm.Cond.code ({ cls := "java/lang/Long", name := "compare", desc := "(JJ)I" } : Jvm.MethodName) jdk_35_method_42_code (4 : Nat) (Option.some Jvm.ClassFile.FieldType.int), Jvm.Cond.code ({ cls := "java/time/Duration", name := "toNanos", desc := "()J" } : Jvm.MethodName) jdk_2316_method_58_code (7 : Nat) (Option.some Jvm.ClassFile.FieldType.long), Jvm.Cond.code ({ cls := "java/lang/Math", name := "multiplyExact", desc := "(JJ)J" } : Jvm.MethodName) jdk_29_method_30_code (10 : Nat) (Option.some Jvm.ClassFile.FieldType.long), Jvm.Cond.code ({ cls := "java/math/BigDecimal", name := "zeroValueOf", desc := "(I)Ljava/math/BigDecimal;" } : Jvm.MethodName) jdk_17_method_24_code (1 : Nat) (Option.some (Jvm.ClassFile.FieldType.object "java/math/BigDecimal")), Jvm.Cond.code ({ cls := "java/math/MutableBigInteger", name := "clear", desc := "()V" } : Jvm.MethodName) jdk_2101_method_13_code (3 : Nat) (Option.none : Option Jvm.ClassFile.FieldType), Jvm.Cond.code ({ cls := "java/math/MutableBigInteger", name := "divideOneWord", desc := "(ILjava/math/MutableBigInteger;)I" } : Jvm.MethodName) jdk_2101_method_53_code (15 : Nat) (Option.some Jvm.ClassFile.FieldType.int), Jvm.Cond.code ({ cls := "java/math/MutableBigInteger", name := "normalize", desc := "()V" } : Jvm.MethodName) jdk_2101_method_21_code (4 : Nat) (Option.none : Option Jvm.ClassFile.FieldType), Jvm.Cond.code ({ cls := "java/util/Arrays", name := "copyOfRange", desc := "([III)[I" } : Jvm.MethodName) jdk_65_method_136_code (3 : Nat) (Option.some (Jvm.ClassFile.FieldType.array Jvm.ClassFile.FieldType.int)), Jvm.Cond.code ({ cls := "java/util/Arrays", name := "copyOfRangeInt", desc := "([III)[I" } : Jvm.MethodName) jdk_65_method_137_code (5 : Nat) (Option.some (Jvm.ClassFile.FieldType.array Jvm.ClassFile.FieldType.int)), Jvm.Cond.code ({ cls := "java/util/Arrays", name := "checkLength", desc := "(II)V" } : Jvm.MethodName) jdk_65_method_131_code (2 : Nat) (Option.none : Option Jvm.ClassFile.FieldType), Jvm.Cond.code ({ cls := "java/lang/Math", name := "min", desc := "(II)I" } : Jvm.MethodName) jdk_29_method_69_code (2 : Nat) (Option.some Jvm.ClassFile.FieldType.int), Jvm.Cond.code ({ cls := "java/util/Arrays", name := "fill", desc := "([II)V" } : Jvm.MethodName) jdk_65_method_103_code (4 : Nat) (Option.none : Option Jvm.ClassFile.FieldType)]
set_option maxRecDepth 65536 in
theorem codes_eq : words1.filter isCode = codes1 := rfl
theorem w_codes : ∀ c ∈ words1.filter isCode, c.before args0 about1 = true := by
  rw [codes_eq]
  intro c hc
  simp only [codes1, List.mem_cons, List.not_mem_nil, or_false] at hc
  rcases hc with rfl | rfl | rfl | rfl | rfl | rfl | rfl | rfl | rfl | rfl | rfl | rfl | rfl | rfl | rfl | rfl | rfl | rfl | rfl | rfl | rfl | rfl | rfl | rfl | rfl | rfl | rfl | rfl | rfl | rfl | rfl | rfl | rfl | rfl | rfl | rfl | rfl | rfl | rfl | rfl | rfl | rfl | rfl | rfl | rfl | rfl | rfl | rfl | rfl | rfl | rfl | rfl | rfl | rfl | rfl | rfl | rfl | rfl | rfl | rfl | rfl | rfl | rfl | rfl
  · exact w_c0
  · exact w_c1
  · exact w_c2
  · exact w_c3
  · exact w_c4
  · exact w_c5
  · exact w_c6
  · exact w_c7
  · exact w_c8
  · exact w_c9
  · exact w_c10
  · exact w_c11
  · exact w_c12
  · exact w_c13
  · exact w_c14
  · exact w_c15
  · exact w_c16
  · exact w_c17
  · exact w_c18
  · exact w_c19
  · exact w_c20
  · exact w_c21
  · exact w_c22
  · exact w_c23
  · exact w_c24
  · exact w_c25
  · exact w_c26
  · exact w_c27
  · exact w_c28
  · exact w_c29
  · exact w_c30
  · exact w_c31
  · exact w_c32
  · exact w_c33
  · exact w_c34
  · exact w_c35
  · exact w_c36
  · exact w_c37
  · exact w_c38
  · exact w_c39
  · exact w_c40
  · exact w_c41
  · exact w_c42
  · exact w_c43
  · exact w_c44
  · exact w_c45
  · exact w_c46
  · exact w_c47
  · exact w_c48
  · exact w_c49
  · exact w_c50
  · exact w_c51
  · exact w_c52
  · exact w_c53
  · exact w_c54
  · exact w_c55
  · exact w_c56
  · exact w_c57
  · exact w_c58
  · exact w_c59
  · exact w_c60
  · exact w_c61
  · exact w_c62
  · exact w_c63
set_option maxRecDepth 65536 in
theorem w_t1 : (words1.take 24).all (fun c => isCode c || c.before args0 about1) = true := by decide +kernel
set_option maxRecDepth 65536 in
theorem w_t2 : ((words1.drop 24).take 24).all (fun c => isCode c || c.before args0 about1) = true := by decide +kernel
set_option maxRecDepth 65536 in
theorem w_t3 : (((words1.drop 24).drop 24).take 24).all (fun c => isCode c || c.before args0 about1) = true := by decide +kernel
set_option maxRecDepth 65536 in
theorem w_t4 : ((((words1.drop 24).drop 24).drop 24).take 24).all (fun c => isCode c || c.before args0 about1) = true := by decide +kernel
set_option maxRecDepth 65536 in
theorem w_t5 : (((((words1.drop 24).drop 24).drop 24).drop 24).take 24).all (fun c => isCode c || c.before args0 about1) = true := by decide +kernel
set_option maxRecDepth 65536 in
theorem w_t6 : ((((((words1.drop 24).drop 24).drop 24).drop 24).drop 24).take 24).all (fun c => isCode c || c.before args0 about1) = true := by decide +kernel
set_option maxRecDepth 65536 in
theorem w_t7 : (((((((words1.drop 24).drop 24).drop 24).drop 24).drop 24).drop 24).take 24).all (fun c => isCode c || c.before args0 about1) = true := by decide +kernel
set_option maxRecDepth 65536 in
theorem w_t8 : ((((((((words1.drop 24).drop 24).drop 24).drop 24).drop 24).drop 24).drop 24).take 24).all (fun c => isCode c || c.before args0 about1) = true := by decide +kernel
set_option maxRecDepth 65536 in
theorem w_t9 : (((((((((words1.drop 24).drop 24).drop 24).drop 24).drop 24).drop 24).drop 24).drop 24).take 24).all (fun c => isCode c || c.before args0 about1) = true := by decide +kernel
set_option maxRecDepth 65536 in
theorem w_t10 : ((((((((((words1.drop 24).drop 24).drop 24).drop 24).drop 24).drop 24).drop 24).drop 24).drop 24).take 24).all (fun c => isCode c || c.before args0 about1) = true := by decide +kernel
set_option maxRecDepth 65536 in
theorem w_t11 : (((((((((((words1.drop 24).drop 24).drop 24).drop 24).drop 24).drop 24).drop 24).drop 24).drop 24).drop 24).take 24).all (fun c => isCode c || c.before args0 about1) = true := by decide +kernel
set_option maxRecDepth 65536 in
theorem w_t12 : ((((((((((((words1.drop 24).drop 24).drop 24).drop 24).drop 24).drop 24).drop 24).drop 24).drop 24).drop 24).drop 24).take 24).all (fun c => isCode c || c.before args0 about1) = true := by decide +kernel
set_option maxRecDepth 65536 in
theorem w_t13 : (((((((((((((words1.drop 24).drop 24).drop 24).drop 24).drop 24).drop 24).drop 24).drop 24).drop 24).drop 24).drop 24).drop 24).take 24).all (fun c => isCode c || c.before args0 about1) = true := by decide +kernel
set_option maxRecDepth 65536 in
theorem w_t14 : ((((((((((((((words1.drop 24).drop 24).drop 24).drop 24).drop 24).drop 24).drop 24).drop 24).drop 24).drop 24).drop 24).drop 24).drop 24).take 24).all (fun c => isCode c || c.before args0 about1) = true := by decide +kernel
set_option maxRecDepth 65536 in
theorem w_t15 : ((((((((((((((words1.drop 24).drop 24).drop 24).drop 24).drop 24).drop 24).drop 24).drop 24).drop 24).drop 24).drop 24).drop 24).drop 24).drop 24).all (fun c => isCode c || c.before args0 about1) = true := by decide +kernel
theorem w_tables : (allAtoms (Jvm.Cond.code x code maxLocals ret :: tables_1)).before args0 about1 = true := by
  rw [allAtoms_all]
  show words1.all (fun c => c.before args0 about1) = true
  refine all_split ?_ w_codes
  rw [← List.take_append_drop 24 words1, List.all_append, w_t1, ← List.take_append_drop 24 (words1.drop 24), List.all_append, w_t2, ← List.take_append_drop 24 ((words1.drop 24).drop 24), List.all_append, w_t3, ← List.take_append_drop 24 (((words1.drop 24).drop 24).drop 24), List.all_append, w_t4, ← List.take_append_drop 24 ((((words1.drop 24).drop 24).drop 24).drop 24), List.all_append, w_t5, ← List.take_append_drop 24 (((((words1.drop 24).drop 24).drop 24).drop 24).drop 24), List.all_append, w_t6, ← List.take_append_drop 24 ((((((words1.drop 24).drop 24).drop 24).drop 24).drop 24).drop 24), List.all_append, w_t7, ← List.take_append_drop 24 (((((((words1.drop 24).drop 24).drop 24).drop 24).drop 24).drop 24).drop 24), List.all_append, w_t8, ← List.take_append_drop 24 ((((((((words1.drop 24).drop 24).drop 24).drop 24).drop 24).drop 24).drop 24).drop 24), List.all_append, w_t9, ← List.take_append_drop 24 (((((((((words1.drop 24).drop 24).drop 24).drop 24).drop 24).drop 24).drop 24).drop 24).drop 24), List.all_append, w_t10, ← List.take_append_drop 24 ((((((((((words1.drop 24).drop 24).drop 24).drop 24).drop 24).drop 24).drop 24).drop 24).drop 24).drop 24), List.all_append, w_t11, ← List.take_append_drop 24 (((((((((((words1.drop 24).drop 24).drop 24).drop 24).drop 24).drop 24).drop 24).drop 24).drop 24).drop 24).drop 24), List.all_append, w_t12, ← List.take_append_drop 24 ((((((((((((words1.drop 24).drop 24).drop 24).drop 24).drop 24).drop 24).drop 24).drop 24).drop 24).drop 24).drop 24).drop 24), List.all_append, w_t13, ← List.take_append_drop 24 (((((((((((((words1.drop 24).drop 24).drop 24).drop 24).drop 24).drop 24).drop 24).drop 24).drop 24).drop 24).drop 24).drop 24).drop 24), List.all_append, w_t14, w_t15]
  rfl
set_option maxRecDepth 65536 in
theorem w_rest : rest_1_c.before args0 about1 = true := by decide +kernel
set_option maxRecDepth 65536 in
theorem w_case : (Jvm.Cond.and given_1 narrow_1).before args0 about1 = true := by decide +kernel
theorem w_applies : (headSpec (Jvm.Cond.code x code maxLocals ret :: tables_1) room_1).applies x e0.platform about1 = true :=
  (Spec.applies_iff w_frames).mpr ⟨w_running, w_runnable, w_alone, w_named, w_hears, w_ripe, w_room, w_tables⟩
theorem atStart : AtStart classFile x code maxLocals ret World_1 tables_1 room_1 Calls_1 rest_1 Pre_1 launch0 p0 e0 about1 theMethod args0 below0 :=
  ⟨lists_1, trivial, launch0.admits_env _ _ _, launch0.least_env, fairChoices_fair.cas, fairChoices_fair.clock, w_frames, w_args, w_heap, w_applies, trivial, w_rest, w_case⟩
end start1
theorem witness_1 : WitnessClaimed_1 := ⟨start1.p0, start1.e0, start1.about1, start1.theMethod, start1.args0, start1.below0, start1.atStart⟩
end Jvm.Pilot.@@N@@
