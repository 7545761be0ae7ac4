import JvmDerived
import JvmDerived.Pilot.@@N@@Statement
import JvmDerived.Pilot.@@N@@Code
set_option linter.unusedVariables false
set_option linter.unusedSimpArgs false
namespace Jvm.Pilot.@@N@@
open Jvm Jvm.ClassFile Sem Op Lib Jvm.Free Jvm.Stand Jvm.LawKit Jvm.RoadKit Bundle Jvm.Pilot.@@N@@.Jvm.D

section Layer
variable {p : Program} {l : Launch} {e : Env} {R : Room} {s : State} {m : MethodId} {args : Array Value} {below : List Frame} {meth : Method} {c : Code} {bytes : ByteArray} {mxl : Nat} {rt : Option FieldType} {Z : State} {a0 : Array Value} {EL : List (String × Nat)} {own : String} {n0 : Nat} {h0 : Heap} {ws : List Addr} {S0 : State} {V : Vm} {h : Heap} {cells slots pc pc' : Nat} {L : Array Slot} {st : List Value}
/-- where a walk stands: V the tables on which it is based, h its heap, g its frame -/
def Wk (p : Program) (l : Launch) (e : Env) (R : Room) (s : State) (m : MethodId) (args : Array Value) (below : List Frame) (meth : Method) (c : Code) (bytes : ByteArray) (mxl : Nat) (rt : Option FieldType) (Z : State) (a0 : Array Value) (EL : List (String × Nat)) (own : String) (n0 : Nat) (h0 : Heap) (ws : List Addr) (S0 : State) (V : Vm) (h : Heap) (cells slots : Nat) (g : JFrame) : Prop :=
  (p.tables.exec = Jvm.exec ∧ c.code = bytes ∧ c.maxLocals = mxl ∧ meth.sig.returnType = rt ∧ meth.locks = false ∧ EW Z a0 EL ∧ (∀ x ∈ ws, n0 ≤ x) ∧ n0 ≤ h0.size ∧ s.heap = h0 ∧ Old Z n0 h0) ∧
  (Z.Warmed39 V ∧ V.findClass own = some m.cls ∧ V = s.vm ∧ Old Z n0 h ∧ CHr Z EL s.vm h0 V h ∧ Keep h0 h ws) ∧
  ∃ (T : State) (locs : List Loc), Stand p l e R (s.setVm V) m args below meth c T locs cells slots ∧ T.heap = h ∧ Fr n0 locs ∧ ∀ t, Steps p.tables e below (T.setTop g) t → Steps p.tables e below S0 t
theorem Wk.plain {g g' : JFrame} (W : Wk p l e R s m args below meth c bytes mxl rt Z a0 EL own n0 h0 ws S0 V h cells slots g) (f : ∀ (T : State), At T m c below → p.tables.exec = Jvm.exec → c.code = bytes → ∀ t, Steps p.tables e below (T.setTop g') t → Steps p.tables e below (T.setTop g) t) : Wk p l e R s m args below meth c bytes mxl rt Z a0 EL own n0 h0 ws S0 V h cells slots g' := by
  obtain ⟨a, b, T, locs, X, eT, N, k⟩ := W
  exact ⟨a, b, T, locs, X, eT, N, fun t q => k t (f T X.here a.1 a.2.1 t q)⟩
/-- a step that reads the tables and leaves the heap -/
theorem Wk.reads {g g' : JFrame} (W : Wk p l e R s m args below meth c bytes mxl rt Z a0 EL own n0 h0 ws S0 V h cells slots g) (f : ∀ (T : State) (locs : List Loc), Stand p l e R (s.setVm V) m args below meth c T locs cells slots → T.heap = h → p.tables.exec = Jvm.exec → c.code = bytes → Z.Warmed39 (s.setVm V).vm → (s.setVm V).vm.findClass own = some m.cls → ∃ T', Stand p l e R (s.setVm V) m args below meth c T' locs cells slots ∧ T'.heap = h ∧ ∀ t, Steps p.tables e below (T'.setTop g') t → Steps p.tables e below (T.setTop g) t) : Wk p l e R s m args below meth c bytes mxl rt Z a0 EL own n0 h0 ws S0 V h cells slots g' := by
  obtain ⟨a, b, T, locs, X, eT, N, k⟩ := W
  obtain ⟨T', X', eT', q⟩ := f T locs X eT a.1 a.2.1 b.1 b.2.1
  exact ⟨a, b, T', locs, X', eT', N, fun t z => k t (q t z)⟩
theorem Wk.cast {st' : List Value} (W : Wk p l e R s m args below meth c bytes mxl rt Z a0 EL own n0 h0 ws S0 V h cells slots (mkF m pc L st)) (q : st = st') : Wk p l e R s m args below meth c bytes mxl rt Z a0 EL own n0 h0 ws S0 V h cells slots (mkF m pc L st') := by subst q; exact W
theorem Wk.castL {L' : Array Slot} (W : Wk p l e R s m args below meth c bytes mxl rt Z a0 EL own n0 h0 ws S0 V h cells slots (mkF m pc L st)) (q : L = L') : Wk p l e R s m args below meth c bytes mxl rt Z a0 EL own n0 h0 ws S0 V h cells slots (mkF m pc L' st) := by subst q; exact W
theorem Wk.more {g : JFrame} {cells' slots' : Nat} (W : Wk p l e R s m args below meth c bytes mxl rt Z a0 EL own n0 h0 ws S0 V h cells slots g) (hc : cells ≤ cells') (hs : slots ≤ slots') : Wk p l e R s m args below meth c bytes mxl rt Z a0 EL own n0 h0 ws S0 V h cells' slots' g := by
  obtain ⟨a, b, T, locs, X, eT, N, k⟩ := W
  exact ⟨a, b, T, locs, X.mono hc hs, eT, N, k⟩
theorem Wk.alike {g : JFrame} (W : Wk p l e R s m args below meth c bytes mxl rt Z a0 EL own n0 h0 ws S0 V h cells slots g) : Z.vm.Alike V := W.2.1.1.alike
theorem Wk.old {g : JFrame} (W : Wk p l e R s m args below meth c bytes mxl rt Z a0 EL own n0 h0 ws S0 V h cells slots g) : Old Z n0 h := W.2.1.2.2.2.1
theorem Wk.n0le {g : JFrame} (W : Wk p l e R s m args below meth c bytes mxl rt Z a0 EL own n0 h0 ws S0 V h cells slots g) : n0 ≤ h.size := by have q := W.old; rw [← q.1]; exact q.2.1
theorem Wk.kept {g : JFrame} (W : Wk p l e R s m args below meth c bytes mxl rt Z a0 EL own n0 h0 ws S0 V h cells slots g) : Keep h0 h ws := W.2.1.2.2.2.2.2
theorem Wk.chv {g : JFrame} (W : Wk p l e R s m args below meth c bytes mxl rt Z a0 EL own n0 h0 ws S0 V h cells slots g) : CHv Z EL V h := W.2.1.2.2.2.2.1.1
theorem Wk.el {g : JFrame} (W : Wk p l e R s m args below meth c bytes mxl rt Z a0 EL own n0 h0 ws S0 V h cells slots g) : EW Z a0 EL := W.1.2.2.2.2.2.1
theorem Wk.sta {g : JFrame} (W : Wk p l e R s m args below meth c bytes mxl rt Z a0 EL own n0 h0 ws S0 V h cells slots g) {C n d : String} {v : Value} (S : Sta Z Z.heap C n d v) : Sta Z h C n d v := S.ext W.old.2
/-- an object of a class that no constant is of -/
theorem Wk.safeE {g : JFrame} (W : Wk p l e R s m args below meth c bytes mxl rt Z a0 EL own n0 h0 ws S0 V h cells slots g) {a : Addr} {C : String} (E : Exa Z h a C) (h1 : C ≠ "java/lang/String") (h2 : C ≠ "[B") : Safe Z EL V h a := Safe.exa W.alike E h1 h2
theorem Wk.safeA {g : JFrame} (W : Wk p l e R s m args below meth c bytes mxl rt Z a0 EL own n0 h0 ws S0 V h cells slots g) {a : Addr} {k : ClassId} {ty : FieldType} {z : Int32} {vs : List Value} {dv : Value} (A : Arv Z h a k ty z vs dv) (ht : ty ≠ .byte) : Safe Z EL V h a := Safe.arv W.alike A ht
/-- a write has been made at a -/
theorem Wk.wrote {g g' : JFrame} {h' : Heap} {a : Addr} {sl : Nat} {v : Value} {cells' slots' : Nat} (W : Wk p l e R s m args below meth c bytes mxl rt Z a0 EL own n0 h0 ws S0 V h cells slots g) (sf : Safe Z EL V h a) (q : a ∈ ws ∨ h0.size ≤ a) (f : ∀ (T : State) (locs : List Loc), Stand p l e R (s.setVm V) m args below meth c T locs cells slots → T.heap = h → p.tables.exec = Jvm.exec → c.code = bytes → Z.Warmed39 (s.setVm V).vm → (s.setVm V).vm.findClass own = some m.cls → ∃ T' h', Stand p l e R (s.setVm V) m args below meth c T' (locs ++ [⟨a, sl⟩]) cells slots ∧ T'.heap = h' ∧ Wr h h' a sl v ∧ ∀ t, Steps p.tables e below (T'.setTop g') t → Steps p.tables e below (T.setTop g) t) :
    ∃ h', Wk p l e R s m args below meth c bytes mxl rt Z a0 EL own n0 h0 ws S0 V h' cells slots g' ∧ Wr h h' a sl v ∧ ∀ x, Safe Z EL V h x → Safe Z EL V h' x := by
  obtain ⟨a1, b, T, locs, X, eT, N, k⟩ := W
  obtain ⟨T', h', X', eT', w, st⟩ := f T locs X eT a1.1 a1.2.1 b.1 b.2.1
  have hge : n0 ≤ a := q.elim (fun z => a1.2.2.2.2.2.2.1 a z) (fun z => Nat.le_trans a1.2.2.2.2.2.2.2.1 z)
  refine ⟨h', ⟨a1, ⟨b.1, b.2.1, b.2.2.1, b.2.2.2.1.wr w hge, b.2.2.2.2.1.trans (CHr.wr w sf b.2.2.2.2.1.1), b.2.2.2.2.2.wr w q⟩, T', _, X', eT', Fr.snoc X' N hge, fun t z => k t (st t z)⟩, w, fun x sx => Safe.wr w sf b.2.2.2.2.1.1 sx⟩
/-- something has been made at the heap's end -/
theorem Wk.grew {g : JFrame} {G : Addr → JFrame} {cells' slots' : Nat} {Q : Heap → Prop} (W : Wk p l e R s m args below meth c bytes mxl rt Z a0 EL own n0 h0 ws S0 V h cells slots g) (f : ∀ (T : State) (locs : List Loc), Stand p l e R (s.setVm V) m args below meth c T locs cells slots → T.heap = h → p.tables.exec = Jvm.exec → c.code = bytes → Z.Warmed39 (s.setVm V).vm → (s.setVm V).vm.findClass own = some m.cls → ∃ T' h', Stand p l e R (s.setVm V) m args below meth c T' locs cells' slots' ∧ T'.heap = h' ∧ Ext h h' ∧ Q h' ∧ ∀ t, Steps p.tables e below (T'.setTop (G h.size)) t → Steps p.tables e below (T.setTop g) t) :
    ∃ h' a, Wk p l e R s m args below meth c bytes mxl rt Z a0 EL own n0 h0 ws S0 V h' cells' slots' (G a) ∧ Ext h h' ∧ a = h.size ∧ Q h' ∧ Safe Z EL V h' a ∧ ∀ x, Safe Z EL V h x → Safe Z EL V h' x := by
  obtain ⟨a1, b, T, locs, X, eT, N, k⟩ := W
  obtain ⟨T', h', X', eT', E, q, st⟩ := f T locs X eT a1.1 a1.2.1 b.1 b.2.1
  have H := b.2.2.2.2.1.1
  exact ⟨h', h.size, ⟨a1, ⟨b.1, b.2.1, b.2.2.1, b.2.2.2.1.ext E, b.2.2.2.2.1.trans (CHr.ext E H), b.2.2.2.2.2.ext E⟩, T', _, X', eT', N, fun t z => k t (st t z)⟩, E, rfl, q, Safe.ext E H (Safe.new (Nat.le_refl _)), fun x sx => Safe.ext E H sx⟩

theorem Wk.aloadN {k : Fin 4} {v : Value} (W : Wk p l e R s m args below meth c bytes mxl rt Z a0 EL own n0 h0 ws S0 V h cells slots (mkF m pc L st)) (hd : decode bytes pc = .ok (.aload_n k, 1)) (hl : L[k.val]? = some (.val v)) (hv : v.isRef = true) (hp : pc + 1 = pc') : Wk p l e R s m args below meth c bytes mxl rt Z a0 EL own n0 h0 ws S0 V h cells slots (mkF m pc' L (v :: st)) := by
  subst hp
  exact W.plain fun T hq hx hby t k => XS.aloadN hq hx rfl (hb hby hd) hl hv k
theorem Wk.aload {k : Nat} {v : Value} (W : Wk p l e R s m args below meth c bytes mxl rt Z a0 EL own n0 h0 ws S0 V h cells slots (mkF m pc L st)) (hd : decode bytes pc = .ok (.aload k, 2)) (hl : L[k]? = some (.val v)) (hv : v.isRef = true) (hp : pc + 2 = pc') : Wk p l e R s m args below meth c bytes mxl rt Z a0 EL own n0 h0 ws S0 V h cells slots (mkF m pc' L (v :: st)) := by
  subst hp
  exact W.plain fun T hq hx hby t k => XS.aload hq hx rfl (hb hby hd) hl hv k
theorem Wk.iloadN {k : Fin 4} {v : Int32} (W : Wk p l e R s m args below meth c bytes mxl rt Z a0 EL own n0 h0 ws S0 V h cells slots (mkF m pc L st)) (hd : decode bytes pc = .ok (.iload_n k, 1)) (hl : L[k.val]? = some (.val (.int v))) (hp : pc + 1 = pc') : Wk p l e R s m args below meth c bytes mxl rt Z a0 EL own n0 h0 ws S0 V h cells slots (mkF m pc' L (.int v :: st)) := by
  subst hp
  exact W.plain fun T hq hx hby t k => XS.iloadN hq hx rfl (hb hby hd) hl k
theorem Wk.iload {k : Nat} {v : Int32} (W : Wk p l e R s m args below meth c bytes mxl rt Z a0 EL own n0 h0 ws S0 V h cells slots (mkF m pc L st)) (hd : decode bytes pc = .ok (.iload k, 2)) (hl : L[k]? = some (.val (.int v))) (hp : pc + 2 = pc') : Wk p l e R s m args below meth c bytes mxl rt Z a0 EL own n0 h0 ws S0 V h cells slots (mkF m pc' L (.int v :: st)) := by
  subst hp
  exact W.plain fun T hq hx hby t k => XS.iload hq hx rfl (hb hby hd) hl k
theorem Wk.lloadN {k : Fin 4} {v : Int64} (W : Wk p l e R s m args below meth c bytes mxl rt Z a0 EL own n0 h0 ws S0 V h cells slots (mkF m pc L st)) (hd : decode bytes pc = .ok (.lload_n k, 1)) (hl : L[k.val]? = some (.val (.long v))) (hp : pc + 1 = pc') : Wk p l e R s m args below meth c bytes mxl rt Z a0 EL own n0 h0 ws S0 V h cells slots (mkF m pc' L (.long v :: st)) := by
  subst hp
  exact W.plain fun T hq hx hby t k => Jvm.Free.XT.lloadN hq hx rfl (hb hby hd) hl k
theorem Wk.lload {k : Nat} {v : Int64} (W : Wk p l e R s m args below meth c bytes mxl rt Z a0 EL own n0 h0 ws S0 V h cells slots (mkF m pc L st)) (hd : decode bytes pc = .ok (.lload k, 2)) (hl : L[k]? = some (.val (.long v))) (hp : pc + 2 = pc') : Wk p l e R s m args below meth c bytes mxl rt Z a0 EL own n0 h0 ws S0 V h cells slots (mkF m pc' L (.long v :: st)) := by
  subst hp
  exact W.plain fun T hq hx hby t k => Jvm.Free.XT.lload hq hx rfl (hb hby hd) hl k
theorem Wk.iconst {i : Int} {v : Int32} (W : Wk p l e R s m args below meth c bytes mxl rt Z a0 EL own n0 h0 ws S0 V h cells slots (mkF m pc L st)) (hd : decode bytes pc = .ok (.iconst i, 1)) (hv : Int32.ofInt i = v) (hp : pc + 1 = pc') : Wk p l e R s m args below meth c bytes mxl rt Z a0 EL own n0 h0 ws S0 V h cells slots (mkF m pc' L (.int v :: st)) := by
  subst hv hp
  exact W.plain fun T hq hx hby t k => XS.iconst hq hx rfl (hb hby hd)  k
theorem Wk.bipush {i : Int} {v : Int32} (W : Wk p l e R s m args below meth c bytes mxl rt Z a0 EL own n0 h0 ws S0 V h cells slots (mkF m pc L st)) (hd : decode bytes pc = .ok (.bipush i, 2)) (hv : (Int8.ofInt i).toInt32 = v) (hp : pc + 2 = pc') : Wk p l e R s m args below meth c bytes mxl rt Z a0 EL own n0 h0 ws S0 V h cells slots (mkF m pc' L (.int v :: st)) := by
  subst hv hp
  exact W.plain fun T hq hx hby t k => XS.bipush hq hx rfl (hb hby hd)  k
theorem Wk.sipush {i : Int} {v : Int32} (W : Wk p l e R s m args below meth c bytes mxl rt Z a0 EL own n0 h0 ws S0 V h cells slots (mkF m pc L st)) (hd : decode bytes pc = .ok (.sipush i, 3)) (hv : (Int16.ofInt i).toInt32 = v) (hp : pc + 3 = pc') : Wk p l e R s m args below meth c bytes mxl rt Z a0 EL own n0 h0 ws S0 V h cells slots (mkF m pc' L (.int v :: st)) := by
  subst hv hp
  exact W.plain fun T hq hx hby t k => XS.sipush hq hx rfl (hb hby hd)  k
theorem Wk.lconst {k : Fin 2} {v : Int64} (W : Wk p l e R s m args below meth c bytes mxl rt Z a0 EL own n0 h0 ws S0 V h cells slots (mkF m pc L st)) (hd : decode bytes pc = .ok (.lconst k, 1)) (hv : Int64.ofNat k = v) (hp : pc + 1 = pc') : Wk p l e R s m args below meth c bytes mxl rt Z a0 EL own n0 h0 ws S0 V h cells slots (mkF m pc' L (.long v :: st)) := by
  subst hv hp
  exact W.plain fun T hq hx hby t k => Jvm.Free.XT.lconst hq hx rfl (hb hby hd)  k
theorem Wk.aconstNull  (W : Wk p l e R s m args below meth c bytes mxl rt Z a0 EL own n0 h0 ws S0 V h cells slots (mkF m pc L st)) (hd : decode bytes pc = .ok (.aconst_null, 1))  (hp : pc + 1 = pc') : Wk p l e R s m args below meth c bytes mxl rt Z a0 EL own n0 h0 ws S0 V h cells slots (mkF m pc' L (.null :: st)) := by
  subst hp
  exact W.plain fun T hq hx hby t k => XS.aconstNull hq hx rfl (hb hby hd)  k
theorem Wk.iadd {x y v : Int32} (W : Wk p l e R s m args below meth c bytes mxl rt Z a0 EL own n0 h0 ws S0 V h cells slots (mkF m pc L (.int y :: .int x :: st))) (hd : decode bytes pc = .ok (.iadd, 1)) (hv : x + y = v) (hp : pc + 1 = pc') : Wk p l e R s m args below meth c bytes mxl rt Z a0 EL own n0 h0 ws S0 V h cells slots (mkF m pc' L (.int v :: st)) := by
  subst hv hp
  exact W.plain fun T hq hx hby t k => XS.iadd hq hx rfl (hb hby hd) rfl k
theorem Wk.isub {x y v : Int32} (W : Wk p l e R s m args below meth c bytes mxl rt Z a0 EL own n0 h0 ws S0 V h cells slots (mkF m pc L (.int y :: .int x :: st))) (hd : decode bytes pc = .ok (.isub, 1)) (hv : x - y = v) (hp : pc + 1 = pc') : Wk p l e R s m args below meth c bytes mxl rt Z a0 EL own n0 h0 ws S0 V h cells slots (mkF m pc' L (.int v :: st)) := by
  subst hv hp
  exact W.plain fun T hq hx hby t k => XS.isub hq hx rfl (hb hby hd) rfl k
theorem Wk.imul {x y v : Int32} (W : Wk p l e R s m args below meth c bytes mxl rt Z a0 EL own n0 h0 ws S0 V h cells slots (mkF m pc L (.int y :: .int x :: st))) (hd : decode bytes pc = .ok (.imul, 1)) (hv : x * y = v) (hp : pc + 1 = pc') : Wk p l e R s m args below meth c bytes mxl rt Z a0 EL own n0 h0 ws S0 V h cells slots (mkF m pc' L (.int v :: st)) := by
  subst hv hp
  exact W.plain fun T hq hx hby t k => XS.imul hq hx rfl (hb hby hd) rfl k
theorem Wk.iand {x y v : Int32} (W : Wk p l e R s m args below meth c bytes mxl rt Z a0 EL own n0 h0 ws S0 V h cells slots (mkF m pc L (.int y :: .int x :: st))) (hd : decode bytes pc = .ok (.iand, 1)) (hv : x &&& y = v) (hp : pc + 1 = pc') : Wk p l e R s m args below meth c bytes mxl rt Z a0 EL own n0 h0 ws S0 V h cells slots (mkF m pc' L (.int v :: st)) := by
  subst hv hp
  exact W.plain fun T hq hx hby t k => XS.iand hq hx rfl (hb hby hd) rfl k
theorem Wk.ior {x y v : Int32} (W : Wk p l e R s m args below meth c bytes mxl rt Z a0 EL own n0 h0 ws S0 V h cells slots (mkF m pc L (.int y :: .int x :: st))) (hd : decode bytes pc = .ok (.ior, 1)) (hv : x ||| y = v) (hp : pc + 1 = pc') : Wk p l e R s m args below meth c bytes mxl rt Z a0 EL own n0 h0 ws S0 V h cells slots (mkF m pc' L (.int v :: st)) := by
  subst hv hp
  exact W.plain fun T hq hx hby t k => Jvm.Free.XT.ior hq hx rfl (hb hby hd) rfl k
theorem Wk.ixor {x y v : Int32} (W : Wk p l e R s m args below meth c bytes mxl rt Z a0 EL own n0 h0 ws S0 V h cells slots (mkF m pc L (.int y :: .int x :: st))) (hd : decode bytes pc = .ok (.ixor, 1)) (hv : x ^^^ y = v) (hp : pc + 1 = pc') : Wk p l e R s m args below meth c bytes mxl rt Z a0 EL own n0 h0 ws S0 V h cells slots (mkF m pc' L (.int v :: st)) := by
  subst hv hp
  exact W.plain fun T hq hx hby t k => Jvm.Free.XT.ixor hq hx rfl (hb hby hd) rfl k
theorem Wk.ishl {x y v : Int32} (W : Wk p l e R s m args below meth c bytes mxl rt Z a0 EL own n0 h0 ws S0 V h cells slots (mkF m pc L (.int y :: .int x :: st))) (hd : decode bytes pc = .ok (.ishl, 1)) (hv : x <<< (y &&& 31) = v) (hp : pc + 1 = pc') : Wk p l e R s m args below meth c bytes mxl rt Z a0 EL own n0 h0 ws S0 V h cells slots (mkF m pc' L (.int v :: st)) := by
  subst hv hp
  exact W.plain fun T hq hx hby t k => Jvm.Free.XT.ishl hq hx rfl (hb hby hd) rfl k
theorem Wk.ishr {x y v : Int32} (W : Wk p l e R s m args below meth c bytes mxl rt Z a0 EL own n0 h0 ws S0 V h cells slots (mkF m pc L (.int y :: .int x :: st))) (hd : decode bytes pc = .ok (.ishr, 1)) (hv : x >>> (y &&& 31) = v) (hp : pc + 1 = pc') : Wk p l e R s m args below meth c bytes mxl rt Z a0 EL own n0 h0 ws S0 V h cells slots (mkF m pc' L (.int v :: st)) := by
  subst hv hp
  exact W.plain fun T hq hx hby t k => Jvm.Free.XT.ishr hq hx rfl (hb hby hd) rfl k
theorem Wk.iushr {x y v : Int32} (W : Wk p l e R s m args below meth c bytes mxl rt Z a0 EL own n0 h0 ws S0 V h cells slots (mkF m pc L (.int y :: .int x :: st))) (hd : decode bytes pc = .ok (.iushr, 1)) (hv : Jvm.Free.XT.ushr x y = v) (hp : pc + 1 = pc') : Wk p l e R s m args below meth c bytes mxl rt Z a0 EL own n0 h0 ws S0 V h cells slots (mkF m pc' L (.int v :: st)) := by
  subst hv hp
  exact W.plain fun T hq hx hby t k => Jvm.Free.XT.iushr hq hx rfl (hb hby hd) rfl k
theorem Wk.idiv {x y v : Int32} (W : Wk p l e R s m args below meth c bytes mxl rt Z a0 EL own n0 h0 ws S0 V h cells slots (mkF m pc L (.int y :: .int x :: st))) (hd : decode bytes pc = .ok (.idiv, 1)) (hy : y ≠ 0) (hv : x / y = v) (hp : pc + 1 = pc') : Wk p l e R s m args below meth c bytes mxl rt Z a0 EL own n0 h0 ws S0 V h cells slots (mkF m pc' L (.int v :: st)) := by
  subst hv hp
  exact W.plain fun T hq hx hby t k => XS.idiv hq hx rfl (hb hby hd) rfl hy k
theorem Wk.irem {x y v : Int32} (W : Wk p l e R s m args below meth c bytes mxl rt Z a0 EL own n0 h0 ws S0 V h cells slots (mkF m pc L (.int y :: .int x :: st))) (hd : decode bytes pc = .ok (.irem, 1)) (hy : y ≠ 0) (hv : x - (x / y) * y = v) (hp : pc + 1 = pc') : Wk p l e R s m args below meth c bytes mxl rt Z a0 EL own n0 h0 ws S0 V h cells slots (mkF m pc' L (.int v :: st)) := by
  subst hv hp
  exact W.plain fun T hq hx hby t k => XS.irem hq hx rfl (hb hby hd) rfl hy k
theorem Wk.ineg {x v : Int32} (W : Wk p l e R s m args below meth c bytes mxl rt Z a0 EL own n0 h0 ws S0 V h cells slots (mkF m pc L (.int x :: st))) (hd : decode bytes pc = .ok (.ineg, 1)) (hv : -x = v) (hp : pc + 1 = pc') : Wk p l e R s m args below meth c bytes mxl rt Z a0 EL own n0 h0 ws S0 V h cells slots (mkF m pc' L (.int v :: st)) := by
  subst hv hp
  exact W.plain fun T hq hx hby t k => XS.ineg hq hx rfl (hb hby hd) rfl k
theorem Wk.i2b {x v : Int32} (W : Wk p l e R s m args below meth c bytes mxl rt Z a0 EL own n0 h0 ws S0 V h cells slots (mkF m pc L (.int x :: st))) (hd : decode bytes pc = .ok (.i2b, 1)) (hv : x.toInt8.toInt32 = v) (hp : pc + 1 = pc') : Wk p l e R s m args below meth c bytes mxl rt Z a0 EL own n0 h0 ws S0 V h cells slots (mkF m pc' L (.int v :: st)) := by
  subst hv hp
  exact W.plain fun T hq hx hby t k => Jvm.Free.XT.i2b hq hx rfl (hb hby hd) rfl k
theorem Wk.i2c {x v : Int32} (W : Wk p l e R s m args below meth c bytes mxl rt Z a0 EL own n0 h0 ws S0 V h cells slots (mkF m pc L (.int x :: st))) (hd : decode bytes pc = .ok (.i2c, 1)) (hv : x.toUInt32.toUInt16.toUInt32.toInt32 = v) (hp : pc + 1 = pc') : Wk p l e R s m args below meth c bytes mxl rt Z a0 EL own n0 h0 ws S0 V h cells slots (mkF m pc' L (.int v :: st)) := by
  subst hv hp
  exact W.plain fun T hq hx hby t k => Jvm.Free.XT.i2c hq hx rfl (hb hby hd) rfl k
theorem Wk.i2s {x v : Int32} (W : Wk p l e R s m args below meth c bytes mxl rt Z a0 EL own n0 h0 ws S0 V h cells slots (mkF m pc L (.int x :: st))) (hd : decode bytes pc = .ok (.i2s, 1)) (hv : x.toInt16.toInt32 = v) (hp : pc + 1 = pc') : Wk p l e R s m args below meth c bytes mxl rt Z a0 EL own n0 h0 ws S0 V h cells slots (mkF m pc' L (.int v :: st)) := by
  subst hv hp
  exact W.plain fun T hq hx hby t k => Jvm.Free.XT.i2s hq hx rfl (hb hby hd) rfl k
theorem Wk.ladd {x y v : Int64} (W : Wk p l e R s m args below meth c bytes mxl rt Z a0 EL own n0 h0 ws S0 V h cells slots (mkF m pc L (.long y :: .long x :: st))) (hd : decode bytes pc = .ok (.ladd, 1)) (hv : x + y = v) (hp : pc + 1 = pc') : Wk p l e R s m args below meth c bytes mxl rt Z a0 EL own n0 h0 ws S0 V h cells slots (mkF m pc' L (.long v :: st)) := by
  subst hv hp
  exact W.plain fun T hq hx hby t k => Jvm.Free.XT.ladd hq hx rfl (hb hby hd) rfl k
theorem Wk.lsub {x y v : Int64} (W : Wk p l e R s m args below meth c bytes mxl rt Z a0 EL own n0 h0 ws S0 V h cells slots (mkF m pc L (.long y :: .long x :: st))) (hd : decode bytes pc = .ok (.lsub, 1)) (hv : x - y = v) (hp : pc + 1 = pc') : Wk p l e R s m args below meth c bytes mxl rt Z a0 EL own n0 h0 ws S0 V h cells slots (mkF m pc' L (.long v :: st)) := by
  subst hv hp
  exact W.plain fun T hq hx hby t k => Jvm.Free.XT.lsub hq hx rfl (hb hby hd) rfl k
theorem Wk.lmul {x y v : Int64} (W : Wk p l e R s m args below meth c bytes mxl rt Z a0 EL own n0 h0 ws S0 V h cells slots (mkF m pc L (.long y :: .long x :: st))) (hd : decode bytes pc = .ok (.lmul, 1)) (hv : x * y = v) (hp : pc + 1 = pc') : Wk p l e R s m args below meth c bytes mxl rt Z a0 EL own n0 h0 ws S0 V h cells slots (mkF m pc' L (.long v :: st)) := by
  subst hv hp
  exact W.plain fun T hq hx hby t k => Jvm.Free.XT.lmul hq hx rfl (hb hby hd) rfl k
theorem Wk.land {x y v : Int64} (W : Wk p l e R s m args below meth c bytes mxl rt Z a0 EL own n0 h0 ws S0 V h cells slots (mkF m pc L (.long y :: .long x :: st))) (hd : decode bytes pc = .ok (.land, 1)) (hv : x &&& y = v) (hp : pc + 1 = pc') : Wk p l e R s m args below meth c bytes mxl rt Z a0 EL own n0 h0 ws S0 V h cells slots (mkF m pc' L (.long v :: st)) := by
  subst hv hp
  exact W.plain fun T hq hx hby t k => Jvm.Free.XT.land hq hx rfl (hb hby hd) rfl k
theorem Wk.lor {x y v : Int64} (W : Wk p l e R s m args below meth c bytes mxl rt Z a0 EL own n0 h0 ws S0 V h cells slots (mkF m pc L (.long y :: .long x :: st))) (hd : decode bytes pc = .ok (.lor, 1)) (hv : x ||| y = v) (hp : pc + 1 = pc') : Wk p l e R s m args below meth c bytes mxl rt Z a0 EL own n0 h0 ws S0 V h cells slots (mkF m pc' L (.long v :: st)) := by
  subst hv hp
  exact W.plain fun T hq hx hby t k => Jvm.Free.XT.lor hq hx rfl (hb hby hd) rfl k
theorem Wk.lxor {x y v : Int64} (W : Wk p l e R s m args below meth c bytes mxl rt Z a0 EL own n0 h0 ws S0 V h cells slots (mkF m pc L (.long y :: .long x :: st))) (hd : decode bytes pc = .ok (.lxor, 1)) (hv : x ^^^ y = v) (hp : pc + 1 = pc') : Wk p l e R s m args below meth c bytes mxl rt Z a0 EL own n0 h0 ws S0 V h cells slots (mkF m pc' L (.long v :: st)) := by
  subst hv hp
  exact W.plain fun T hq hx hby t k => Jvm.Free.XT.lxor hq hx rfl (hb hby hd) rfl k
theorem Wk.ldiv {x y v : Int64} (W : Wk p l e R s m args below meth c bytes mxl rt Z a0 EL own n0 h0 ws S0 V h cells slots (mkF m pc L (.long y :: .long x :: st))) (hd : decode bytes pc = .ok (.ldiv, 1)) (hy : y ≠ 0) (hv : x / y = v) (hp : pc + 1 = pc') : Wk p l e R s m args below meth c bytes mxl rt Z a0 EL own n0 h0 ws S0 V h cells slots (mkF m pc' L (.long v :: st)) := by
  subst hv hp
  exact W.plain fun T hq hx hby t k => Jvm.Free.XT.ldiv hq hx rfl (hb hby hd) rfl hy k
theorem Wk.lrem {x y v : Int64} (W : Wk p l e R s m args below meth c bytes mxl rt Z a0 EL own n0 h0 ws S0 V h cells slots (mkF m pc L (.long y :: .long x :: st))) (hd : decode bytes pc = .ok (.lrem, 1)) (hy : y ≠ 0) (hv : x - (x / y) * y = v) (hp : pc + 1 = pc') : Wk p l e R s m args below meth c bytes mxl rt Z a0 EL own n0 h0 ws S0 V h cells slots (mkF m pc' L (.long v :: st)) := by
  subst hv hp
  exact W.plain fun T hq hx hby t k => Jvm.Free.XT.lrem hq hx rfl (hb hby hd) rfl hy k
theorem Wk.lshl {x v : Int64} {y : Int32} (W : Wk p l e R s m args below meth c bytes mxl rt Z a0 EL own n0 h0 ws S0 V h cells slots (mkF m pc L (.int y :: .long x :: st))) (hd : decode bytes pc = .ok (.lshl, 1)) (hv : x <<< (y.toInt64 &&& 63) = v) (hp : pc + 1 = pc') : Wk p l e R s m args below meth c bytes mxl rt Z a0 EL own n0 h0 ws S0 V h cells slots (mkF m pc' L (.long v :: st)) := by
  subst hv hp
  exact W.plain fun T hq hx hby t k => Jvm.Free.XT.lshl hq hx rfl (hb hby hd) rfl k
theorem Wk.lshr {x v : Int64} {y : Int32} (W : Wk p l e R s m args below meth c bytes mxl rt Z a0 EL own n0 h0 ws S0 V h cells slots (mkF m pc L (.int y :: .long x :: st))) (hd : decode bytes pc = .ok (.lshr, 1)) (hv : x >>> (y.toInt64 &&& 63) = v) (hp : pc + 1 = pc') : Wk p l e R s m args below meth c bytes mxl rt Z a0 EL own n0 h0 ws S0 V h cells slots (mkF m pc' L (.long v :: st)) := by
  subst hv hp
  exact W.plain fun T hq hx hby t k => Jvm.Free.XT.lshr hq hx rfl (hb hby hd) rfl k
theorem Wk.lushr {x v : Int64} {y : Int32} (W : Wk p l e R s m args below meth c bytes mxl rt Z a0 EL own n0 h0 ws S0 V h cells slots (mkF m pc L (.int y :: .long x :: st))) (hd : decode bytes pc = .ok (.lushr, 1)) (hv : Jvm.Free.XT.ushrL x y = v) (hp : pc + 1 = pc') : Wk p l e R s m args below meth c bytes mxl rt Z a0 EL own n0 h0 ws S0 V h cells slots (mkF m pc' L (.long v :: st)) := by
  subst hv hp
  exact W.plain fun T hq hx hby t k => Jvm.Free.XT.lushr hq hx rfl (hb hby hd) rfl k
theorem Wk.lneg {x v : Int64} (W : Wk p l e R s m args below meth c bytes mxl rt Z a0 EL own n0 h0 ws S0 V h cells slots (mkF m pc L (.long x :: st))) (hd : decode bytes pc = .ok (.lneg, 1)) (hv : -x = v) (hp : pc + 1 = pc') : Wk p l e R s m args below meth c bytes mxl rt Z a0 EL own n0 h0 ws S0 V h cells slots (mkF m pc' L (.long v :: st)) := by
  subst hv hp
  exact W.plain fun T hq hx hby t k => Jvm.Free.XT.lneg hq hx rfl (hb hby hd) rfl k
theorem Wk.i2l {x : Int32} {v : Int64} (W : Wk p l e R s m args below meth c bytes mxl rt Z a0 EL own n0 h0 ws S0 V h cells slots (mkF m pc L (.int x :: st))) (hd : decode bytes pc = .ok (.i2l, 1)) (hv : x.toInt64 = v) (hp : pc + 1 = pc') : Wk p l e R s m args below meth c bytes mxl rt Z a0 EL own n0 h0 ws S0 V h cells slots (mkF m pc' L (.long v :: st)) := by
  subst hv hp
  exact W.plain fun T hq hx hby t k => Jvm.Free.XT.i2l hq hx rfl (hb hby hd) rfl k
theorem Wk.l2i {x : Int64} {v : Int32} (W : Wk p l e R s m args below meth c bytes mxl rt Z a0 EL own n0 h0 ws S0 V h cells slots (mkF m pc L (.long x :: st))) (hd : decode bytes pc = .ok (.l2i, 1)) (hv : x.toInt32 = v) (hp : pc + 1 = pc') : Wk p l e R s m args below meth c bytes mxl rt Z a0 EL own n0 h0 ws S0 V h cells slots (mkF m pc' L (.int v :: st)) := by
  subst hv hp
  exact W.plain fun T hq hx hby t k => Jvm.Free.XT.l2i hq hx rfl (hb hby hd) rfl k
theorem Wk.lcmp {x y : Int64} {v : Int32} (W : Wk p l e R s m args below meth c bytes mxl rt Z a0 EL own n0 h0 ws S0 V h cells slots (mkF m pc L (.long y :: .long x :: st))) (hd : decode bytes pc = .ok (.lcmp, 1)) (hv : Jvm.Free.XT.cmpL x y = v) (hp : pc + 1 = pc') : Wk p l e R s m args below meth c bytes mxl rt Z a0 EL own n0 h0 ws S0 V h cells slots (mkF m pc' L (.int v :: st)) := by
  subst hv hp
  exact W.plain fun T hq hx hby t k => Jvm.Free.XT.lcmp hq hx rfl (hb hby hd) rfl k
theorem Wk.dup {x : Value} (W : Wk p l e R s m args below meth c bytes mxl rt Z a0 EL own n0 h0 ws S0 V h cells slots (mkF m pc L (x :: st))) (hd : decode bytes pc = .ok (.dup, 1)) (hc : x.category = 1) (hp : pc + 1 = pc') : Wk p l e R s m args below meth c bytes mxl rt Z a0 EL own n0 h0 ws S0 V h cells slots (mkF m pc' L (x :: x :: st)) := by
  subst hp
  exact W.plain fun T hq hx hby t k => XS.dup hq hx rfl (hb hby hd) rfl hc k
theorem Wk.pop {x : Value} (W : Wk p l e R s m args below meth c bytes mxl rt Z a0 EL own n0 h0 ws S0 V h cells slots (mkF m pc L (x :: st))) (hd : decode bytes pc = .ok (.pop, 1)) (hc : x.category = 1) (hp : pc + 1 = pc') : Wk p l e R s m args below meth c bytes mxl rt Z a0 EL own n0 h0 ws S0 V h cells slots (mkF m pc' L st) := by
  subst hp
  exact W.plain fun T hq hx hby t k => Jvm.Free.XT.pop hq hx rfl (hb hby hd) rfl hc k
theorem Wk.dupX1 {x y : Value} (W : Wk p l e R s m args below meth c bytes mxl rt Z a0 EL own n0 h0 ws S0 V h cells slots (mkF m pc L (x :: y :: st))) (hd : decode bytes pc = .ok (.dup_x1, 1)) (hc : x.category = 1) (hc' : y.category = 1) (hp : pc + 1 = pc') : Wk p l e R s m args below meth c bytes mxl rt Z a0 EL own n0 h0 ws S0 V h cells slots (mkF m pc' L (x :: y :: x :: st)) := by
  subst hp
  exact W.plain fun T hq hx hby t k => Jvm.Free.XT.dupX1 hq hx rfl (hb hby hd) rfl hc hc' k
theorem Wk.dup2 {x y : Value} (W : Wk p l e R s m args below meth c bytes mxl rt Z a0 EL own n0 h0 ws S0 V h cells slots (mkF m pc L (x :: y :: st))) (hd : decode bytes pc = .ok (.dup2, 1)) (hc : x.category = 1) (hc' : y.category = 1) (hp : pc + 1 = pc') : Wk p l e R s m args below meth c bytes mxl rt Z a0 EL own n0 h0 ws S0 V h cells slots (mkF m pc' L (x :: y :: x :: y :: st)) := by
  subst hp
  exact W.plain fun T hq hx hby t k => Jvm.Free.XT.dup2 hq hx rfl (hb hby hd) rfl hc hc' k
theorem Wk.dup2L {x : Int64} (W : Wk p l e R s m args below meth c bytes mxl rt Z a0 EL own n0 h0 ws S0 V h cells slots (mkF m pc L (.long x :: st))) (hd : decode bytes pc = .ok (.dup2, 1))  (hp : pc + 1 = pc') : Wk p l e R s m args below meth c bytes mxl rt Z a0 EL own n0 h0 ws S0 V h cells slots (mkF m pc' L (.long x :: .long x :: st)) := by
  subst hp
  exact W.plain fun T hq hx hby t k => Jvm.Free.XT.dup2L hq hx rfl (hb hby hd) rfl k
theorem Wk.istoreN {k : Fin 4} {x : Int32} {L' : Array Slot} (W : Wk p l e R s m args below meth c bytes mxl rt Z a0 EL own n0 h0 ws S0 V h cells slots (mkF m pc L (.int x :: st))) (hd : decode bytes pc = .ok (.istore_n k, 1)) (hl : storeLocals L k.val (.int x) = some L') (hp : pc + 1 = pc') : Wk p l e R s m args below meth c bytes mxl rt Z a0 EL own n0 h0 ws S0 V h cells slots (mkF m pc' L' st) := by
  subst hp
  exact W.plain fun T hq hx hby t k => XS.istoreN hq hx rfl (hb hby hd) rfl hl k
theorem Wk.istore {k : Nat} {x : Int32} {L' : Array Slot} (W : Wk p l e R s m args below meth c bytes mxl rt Z a0 EL own n0 h0 ws S0 V h cells slots (mkF m pc L (.int x :: st))) (hd : decode bytes pc = .ok (.istore k, 2)) (hl : storeLocals L k (.int x) = some L') (hp : pc + 2 = pc') : Wk p l e R s m args below meth c bytes mxl rt Z a0 EL own n0 h0 ws S0 V h cells slots (mkF m pc' L' st) := by
  subst hp
  exact W.plain fun T hq hx hby t k => XS.istore hq hx rfl (hb hby hd) rfl hl k
theorem Wk.astoreN {k : Fin 4} {x : Value} {L' : Array Slot} (W : Wk p l e R s m args below meth c bytes mxl rt Z a0 EL own n0 h0 ws S0 V h cells slots (mkF m pc L (x :: st))) (hd : decode bytes pc = .ok (.astore_n k, 1)) (hr : x.isRef = true) (hl : storeLocals L k.val x = some L') (hp : pc + 1 = pc') : Wk p l e R s m args below meth c bytes mxl rt Z a0 EL own n0 h0 ws S0 V h cells slots (mkF m pc' L' st) := by
  subst hp
  exact W.plain fun T hq hx hby t k => XS.astoreN hq hx rfl (hb hby hd) rfl hr hl k
theorem Wk.astore {k : Nat} {x : Value} {L' : Array Slot} (W : Wk p l e R s m args below meth c bytes mxl rt Z a0 EL own n0 h0 ws S0 V h cells slots (mkF m pc L (x :: st))) (hd : decode bytes pc = .ok (.astore k, 2)) (hr : x.isRef = true) (hl : storeLocals L k x = some L') (hp : pc + 2 = pc') : Wk p l e R s m args below meth c bytes mxl rt Z a0 EL own n0 h0 ws S0 V h cells slots (mkF m pc' L' st) := by
  subst hp
  exact W.plain fun T hq hx hby t k => XS.astore hq hx rfl (hb hby hd) rfl hr hl k
theorem Wk.lstoreN {k : Fin 4} {x : Int64} {L' : Array Slot} (W : Wk p l e R s m args below meth c bytes mxl rt Z a0 EL own n0 h0 ws S0 V h cells slots (mkF m pc L (.long x :: st))) (hd : decode bytes pc = .ok (.lstore_n k, 1)) (hl : storeLocals L k.val (.long x) = some L') (hp : pc + 1 = pc') : Wk p l e R s m args below meth c bytes mxl rt Z a0 EL own n0 h0 ws S0 V h cells slots (mkF m pc' L' st) := by
  subst hp
  exact W.plain fun T hq hx hby t k => Jvm.Free.XT.lstoreN hq hx rfl (hb hby hd) rfl hl k
theorem Wk.lstore {k : Nat} {x : Int64} {L' : Array Slot} (W : Wk p l e R s m args below meth c bytes mxl rt Z a0 EL own n0 h0 ws S0 V h cells slots (mkF m pc L (.long x :: st))) (hd : decode bytes pc = .ok (.lstore k, 2)) (hl : storeLocals L k (.long x) = some L') (hp : pc + 2 = pc') : Wk p l e R s m args below meth c bytes mxl rt Z a0 EL own n0 h0 ws S0 V h cells slots (mkF m pc' L' st) := by
  subst hp
  exact W.plain fun T hq hx hby t k => Jvm.Free.XT.lstore hq hx rfl (hb hby hd) rfl hl k
theorem Wk.iinc {k : Nat} {cst : Int} {x v : Int32} {L' : Array Slot} (W : Wk p l e R s m args below meth c bytes mxl rt Z a0 EL own n0 h0 ws S0 V h cells slots (mkF m pc L st)) (hd : decode bytes pc = .ok (.iinc k cst, 3)) (hl : L[k]? = some (.val (.int x))) (hv : x + Int32.ofInt cst = v) (hl' : storeLocals L k (.int v) = some L') (hp : pc + 3 = pc') : Wk p l e R s m args below meth c bytes mxl rt Z a0 EL own n0 h0 ws S0 V h cells slots (mkF m pc' L' st) := by
  subst hv hp
  exact W.plain fun T hq hx hby t k => XS.iinc hq hx rfl (hb hby hd) hl hl' k
theorem Wk.goto {o : Int} (W : Wk p l e R s m args below meth c bytes mxl rt Z a0 EL own n0 h0 ws S0 V h cells slots (mkF m pc L st)) (hd : decode bytes pc = .ok (.goto o, 3))  (ho : 0 ≤ (pc : Int) + o) (hp : ((pc : Int) + o).toNat = pc') : Wk p l e R s m args below meth c bytes mxl rt Z a0 EL own n0 h0 ws S0 V h cells slots (mkF m pc' L st) := by
  exact W.plain fun T hq hx hby t k => XS.goto hq hx rfl (pc0 := pc) rfl (hb hby hd)  ho hp k
theorem Wk.ifT {cd : ClassFile.Cond} {x : Int32} {o : Int} (W : Wk p l e R s m args below meth c bytes mxl rt Z a0 EL own n0 h0 ws S0 V h cells slots (mkF m pc L (.int x :: st))) (hd : decode bytes pc = .ok (.ifCond cd o, 3)) (hc : if_icmp.holds cd x 0 = true) (ho : 0 ≤ (pc : Int) + o) (hp : ((pc : Int) + o).toNat = pc') : Wk p l e R s m args below meth c bytes mxl rt Z a0 EL own n0 h0 ws S0 V h cells slots (mkF m pc' L st) := by
  exact W.plain fun T hq hx hby t k => XS.ifYes hq hx rfl (pc0 := pc) rfl (hb hby hd) rfl ((if0 cd x).trans hc) ho hp k
theorem Wk.ifF {cd : ClassFile.Cond} {x : Int32} {o : Int} (W : Wk p l e R s m args below meth c bytes mxl rt Z a0 EL own n0 h0 ws S0 V h cells slots (mkF m pc L (.int x :: st))) (hd : decode bytes pc = .ok (.ifCond cd o, 3)) (hc : if_icmp.holds cd x 0 = false) (hp : pc + 3 = pc') : Wk p l e R s m args below meth c bytes mxl rt Z a0 EL own n0 h0 ws S0 V h cells slots (mkF m pc' L st) := by
  subst hp
  exact W.plain fun T hq hx hby t k => XS.ifNo hq hx rfl (hb hby hd) rfl ((if0 cd x).trans hc) k
theorem Wk.icmpT {cd : ClassFile.Cond} {x y : Int32} {o : Int} (W : Wk p l e R s m args below meth c bytes mxl rt Z a0 EL own n0 h0 ws S0 V h cells slots (mkF m pc L (.int y :: .int x :: st))) (hd : decode bytes pc = .ok (.if_icmp cd o, 3)) (hc : if_icmp.holds cd x y = true) (ho : 0 ≤ (pc : Int) + o) (hp : ((pc : Int) + o).toNat = pc') : Wk p l e R s m args below meth c bytes mxl rt Z a0 EL own n0 h0 ws S0 V h cells slots (mkF m pc' L st) := by
  exact W.plain fun T hq hx hby t k => XS.icmpYes hq hx rfl (pc0 := pc) rfl (hb hby hd) rfl hc ho hp k
theorem Wk.icmpF {cd : ClassFile.Cond} {x y : Int32} {o : Int} (W : Wk p l e R s m args below meth c bytes mxl rt Z a0 EL own n0 h0 ws S0 V h cells slots (mkF m pc L (.int y :: .int x :: st))) (hd : decode bytes pc = .ok (.if_icmp cd o, 3)) (hc : if_icmp.holds cd x y = false) (hp : pc + 3 = pc') : Wk p l e R s m args below meth c bytes mxl rt Z a0 EL own n0 h0 ws S0 V h cells slots (mkF m pc' L st) := by
  subst hp
  exact W.plain fun T hq hx hby t k => XS.icmpNo hq hx rfl (hb hby hd) rfl hc k
theorem Wk.ifnullT {o : Int} (W : Wk p l e R s m args below meth c bytes mxl rt Z a0 EL own n0 h0 ws S0 V h cells slots (mkF m pc L (.null :: st))) (hd : decode bytes pc = .ok (.ifnull o, 3))  (ho : 0 ≤ (pc : Int) + o) (hp : ((pc : Int) + o).toNat = pc') : Wk p l e R s m args below meth c bytes mxl rt Z a0 EL own n0 h0 ws S0 V h cells slots (mkF m pc' L st) := by
  exact W.plain fun T hq hx hby t k => XS.ifnullYes hq hx rfl (pc0 := pc) rfl (hb hby hd) rfl ho hp k
theorem Wk.ifnullF {o : Int} {b : Addr} (W : Wk p l e R s m args below meth c bytes mxl rt Z a0 EL own n0 h0 ws S0 V h cells slots (mkF m pc L (.ref b :: st))) (hd : decode bytes pc = .ok (.ifnull o, 3))  (hp : pc + 3 = pc') : Wk p l e R s m args below meth c bytes mxl rt Z a0 EL own n0 h0 ws S0 V h cells slots (mkF m pc' L st) := by
  subst hp
  exact W.plain fun T hq hx hby t k => XS.ifnullNo hq hx rfl (hb hby hd) rfl k
theorem Wk.ifnonnullT {o : Int} {b : Addr} (W : Wk p l e R s m args below meth c bytes mxl rt Z a0 EL own n0 h0 ws S0 V h cells slots (mkF m pc L (.ref b :: st))) (hd : decode bytes pc = .ok (.ifnonnull o, 3))  (ho : 0 ≤ (pc : Int) + o) (hp : ((pc : Int) + o).toNat = pc') : Wk p l e R s m args below meth c bytes mxl rt Z a0 EL own n0 h0 ws S0 V h cells slots (mkF m pc' L st) := by
  exact W.plain fun T hq hx hby t k => Jvm.Free.XT.ifnonnullYes hq hx rfl (pc0 := pc) rfl (hb hby hd) rfl ho hp k
theorem Wk.ifnonnullF {o : Int} (W : Wk p l e R s m args below meth c bytes mxl rt Z a0 EL own n0 h0 ws S0 V h cells slots (mkF m pc L (.null :: st))) (hd : decode bytes pc = .ok (.ifnonnull o, 3))  (hp : pc + 3 = pc') : Wk p l e R s m args below meth c bytes mxl rt Z a0 EL own n0 h0 ws S0 V h cells slots (mkF m pc' L st) := by
  subst hp
  exact W.plain fun T hq hx hby t k => Jvm.Free.XT.ifnonnullNo hq hx rfl (hb hby hd) rfl k
theorem Wk.acmpT {cd : ClassFile.ACond} {x y : Value} {o : Int} (W : Wk p l e R s m args below meth c bytes mxl rt Z a0 EL own n0 h0 ws S0 V h cells slots (mkF m pc L (y :: x :: st))) (hd : decode bytes pc = .ok (.if_acmp cd o, 3)) (hx' : x.isRef = true) (hy' : y.isRef = true) (hc : Jvm.Free.XT.acmp cd x y = true) (ho : 0 ≤ (pc : Int) + o) (hp : ((pc : Int) + o).toNat = pc') : Wk p l e R s m args below meth c bytes mxl rt Z a0 EL own n0 h0 ws S0 V h cells slots (mkF m pc' L st) := by
  exact W.plain fun T hq hx hby t k => Jvm.Free.XT.acmpYes hq hx rfl (pc0 := pc) rfl (hb hby hd) rfl hx' hy' hc ho hp k
theorem Wk.acmpF {cd : ClassFile.ACond} {x y : Value} {o : Int} (W : Wk p l e R s m args below meth c bytes mxl rt Z a0 EL own n0 h0 ws S0 V h cells slots (mkF m pc L (y :: x :: st))) (hd : decode bytes pc = .ok (.if_acmp cd o, 3)) (hx' : x.isRef = true) (hy' : y.isRef = true) (hc : Jvm.Free.XT.acmp cd x y = false) (hp : pc + 3 = pc') : Wk p l e R s m args below meth c bytes mxl rt Z a0 EL own n0 h0 ws S0 V h cells slots (mkF m pc' L st) := by
  subst hp
  exact W.plain fun T hq hx hby t k => Jvm.Free.XT.acmpNo hq hx rfl (hb hby hd) rfl hx' hy' hc k
theorem Wk.new {C : String} {index n cells' slots' : Nat} (W : Wk p l e R s m args below meth c bytes mxl rt Z a0 EL own n0 h0 ws S0 V h cells slots (mkF m pc L st)) (hd : decode bytes pc = .ok (.new index, 3)) (w : (Jvm.Cond.classLink own index C).before a0 Z = true) (wi : (Jvm.Cond.instantiable C n).before a0 Z = true) (wz : (Jvm.Cond.initialized C).before a0 Z = true) (hp : pc + 3 = pc') (hc : cells + 1 = cells') (hs : slots + n = slots') (hc' : cells' ≤ R.cells) (hs' : slots' ≤ R.slots) :
    ∃ h' a, Wk p l e R s m args below meth c bytes mxl rt Z a0 EL own n0 h0 ws S0 V h' cells' slots' (mkF m pc' L (.ref a :: st)) ∧ Ext h h' ∧ a = h.size ∧ (Exa Z h' h.size C ∧ (∀ {O nm d : String} {ty : FieldType}, Laid Z a0 C O nm d → parseFieldDescriptor d = some ty → Fld Z h' h.size O nm d (defaultValue ty)) ∧ Unt h' h.size) ∧ Safe Z EL V h' a ∧ ∀ x, Safe Z EL V h x → Safe Z EL V h' x := by
  subst hp hc hs
  refine W.grew (G := fun a => mkF m (pc + 3) L (.ref a :: st)) (Q := fun h' => Exa Z h' h.size C ∧ (∀ {O nm d : String} {ty : FieldType}, Laid Z a0 C O nm d → parseFieldDescriptor d = some ty → Fld Z h' h.size O nm d (defaultValue ty)) ∧ Unt h' h.size) fun T locs X eT hx hby hZ hown => ?_
  obtain ⟨T', h', X', e', E, A, D, U, st'⟩ := newO X hx hZ hown w wi wz eT (g := mkF m pc L st) rfl (hb hby hd) hc' hs'
  exact ⟨T', h', X', e', E, ⟨A, D, U⟩, st'⟩
theorem Wk.newarr {aty : ArrayType} {z : Int32} {cap cells' slots' : Nat} (W : Wk p l e R s m args below meth c bytes mxl rt Z a0 EL own n0 h0 ws S0 V h cells slots (mkF m pc L (.int z :: st))) (hd : decode bytes pc = .ok (.newarray aty, 2)) (w : (Jvm.Cond.arrayClass (newarray.typeOf aty)).before a0 Z = true) (hn : ¬ z < 0) (hcap : z.toNatClampNeg ≤ cap) (hbig : cap * 8 ≤ 536870912) (hp : pc + 2 = pc') (hc : cells + 1 = cells') (hs : slots + cap = slots') (hc' : cells' ≤ R.cells) (hs' : slots' ≤ R.slots) :
    ∃ h' a, Wk p l e R s m args below meth c bytes mxl rt Z a0 EL own n0 h0 ws S0 V h' cells' slots' (mkF m pc' L (.ref a :: st)) ∧ Ext h h' ∧ a = h.size ∧ (∃ k, Arv Z h' h.size k (newarray.typeOf aty) z [] (defaultValue (newarray.typeOf aty))) ∧ Safe Z EL V h' a ∧ ∀ x, Safe Z EL V h x → Safe Z EL V h' x := by
  subst hp hc hs
  refine W.grew (G := fun a => mkF m (pc + 2) L (.ref a :: st)) (Q := fun h' => ∃ k, Arv Z h' h.size k (newarray.typeOf aty) z [] (defaultValue (newarray.typeOf aty))) fun T locs X eT hx hby hZ hown => ?_
  obtain ⟨T', h', k, X', e', E, A, st'⟩ := newP X hx hZ w eT (g := mkF m pc L (.int z :: st)) rfl (hb hby hd) rfl hn (cap := cap) hcap hbig hc' hs'
  exact ⟨T', h', X', e', E, ⟨k, Arv.new A hn⟩, st'⟩
theorem Wk.newarrE {aty : ArrayType} {z : Int32} {ad : String} {cap cells' slots' : Nat} (W : Wk p l e R s m args below meth c bytes mxl rt Z a0 EL own n0 h0 ws S0 V h cells slots (mkF m pc L (.int z :: st))) (hd : decode bytes pc = .ok (.newarray aty, 2)) (w : (Jvm.Cond.arrayClass (newarray.typeOf aty)).before a0 Z = true) (had : "[" ++ (newarray.typeOf aty).toString = ad) (hn : ¬ z < 0) (hcap : z.toNatClampNeg ≤ cap) (hbig : cap * 8 ≤ 536870912) (hp : pc + 2 = pc') (hc : cells + 1 = cells') (hs : slots + cap = slots') (hc' : cells' ≤ R.cells) (hs' : slots' ≤ R.slots) :
    ∃ h' a, Wk p l e R s m args below meth c bytes mxl rt Z a0 EL own n0 h0 ws S0 V h' cells' slots' (mkF m pc' L (.ref a :: st)) ∧ Ext h h' ∧ a = h.size ∧ ((∃ k, Arv Z h' h.size k (newarray.typeOf aty) z [] (defaultValue (newarray.typeOf aty))) ∧ Exa Z h' h.size ad) ∧ Safe Z EL V h' a ∧ ∀ x, Safe Z EL V h x → Safe Z EL V h' x := by
  subst hp hc hs
  refine W.grew (G := fun a => mkF m (pc + 2) L (.ref a :: st)) (Q := fun h' => (∃ k, Arv Z h' h.size k (newarray.typeOf aty) z [] (defaultValue (newarray.typeOf aty))) ∧ Exa Z h' h.size ad) fun T locs X eT hx hby hZ hown => ?_
  obtain ⟨T', h', k, X', e', E, A, B, st'⟩ := newPE X hx hZ w eT (g := mkF m pc L (.int z :: st)) rfl (hb hby hd) rfl hn (cap := cap) hcap hbig hc' hs' had
  exact ⟨T', h', X', e', E, ⟨⟨k, Arv.new A hn⟩, B⟩, st'⟩
theorem Wk.clone {index : Nat} {ad : String} {a : Addr} {k : ClassId} {ty : FieldType} {z : Int32} {vs : List Value} {dv : Value} {cap Wd cells' slots' : Nat} (W : Wk p l e R s m args below meth c bytes mxl rt Z a0 EL own n0 h0 ws S0 V h cells slots (mkF m pc L (.ref a :: st))) (hd : decode bytes pc = .ok (.invokevirtual index, 3)) (w1 : (Jvm.Cond.methodLink own index ⟨ad, "clone", "()Ljava/lang/Object;"⟩).before a0 Z = true) (w2 : (Jvm.Cond.sameMethod ad "java/lang/Object" "clone" "()Ljava/lang/Object;").before a0 Z = true) (w3 : (Jvm.Cond.native ⟨"java/lang/Object", "clone", "()Ljava/lang/Object;"⟩).before a0 Z = true) (w4 : (Jvm.Cond.instanceMethod ⟨"java/lang/Object", "clone", "()Ljava/lang/Object;"⟩).before a0 Z = true) (w5 : (Jvm.Cond.selects ad ⟨ad, "clone", "()Ljava/lang/Object;"⟩ ⟨"java/lang/Object", "clone", "()Ljava/lang/Object;"⟩).before a0 Z = true) (w6 : (Jvm.Cond.castable ad "java/lang/Cloneable").before a0 Z = true) (A : Arv Z h a k ty z vs dv) (E : Exa Z h a ad) (hL : L.size = mxl) (hW : (st.map fun v => v.category).sum = Wd) (hf : 1 ≤ R.frames) (hl : Wd + 14 ≤ R.locals) (hcap : z.toNatClampNeg ≤ cap) (hp : pc + 3 = pc') (hc : cells + 1 = cells') (hs : slots + cap = slots') (hc' : cells' ≤ R.cells) (hs' : slots' ≤ R.slots) :
    ∃ h' a, Wk p l e R s m args below meth c bytes mxl rt Z a0 EL own n0 h0 ws S0 V h' cells' slots' (mkF m pc' L (.ref a :: st)) ∧ Ext h h' ∧ a = h.size ∧ (Arv Z h' h.size k ty z vs dv ∧ Exa Z h' h.size ad) ∧ Safe Z EL V h' a ∧ ∀ x, Safe Z EL V h x → Safe Z EL V h' x := by
  subst hp hc hs hW
  have hml := W.1.2.2.1
  refine W.grew (G := fun b => mkF m (pc + 3) L (.ref b :: st)) (Q := fun h' => Arv Z h' h.size k ty z vs dv ∧ Exa Z h' h.size ad) fun T locs X eT hx hby hZ hown => ?_
  obtain ⟨T', h', X', e', E', ⟨c', B1, B2, B3, B4, B5, B6⟩, C, st'⟩ := cloneH X hx hZ hown w1 w2 w3 w4 w5 w6 eT (Arv.arh A) E (g := mkF m pc L (.ref a :: st)) rfl (hL.trans hml.symm) rfl (hb hby hd) hf (by show 2 * 0 + _ ≤ _; exact Nat.le_of_eq (Nat.zero_add _)) hl hcap hc' hs'
  exact ⟨T', h', X', e', E', ⟨⟨c', B1, B2, B3, B4, B5, B6⟩, C⟩, st'⟩
theorem Wk.getf {index : Nat} {R0 O n d : String} {a : Addr} {v : Value} (W : Wk p l e R s m args below meth c bytes mxl rt Z a0 EL own n0 h0 ws S0 V h cells slots (mkF m pc L (.ref a :: st))) (hd : decode bytes pc = .ok (.getfield index, 3)) (w : (Jvm.Cond.fieldLink own index R0 n d).before a0 Z = true) (via : Via Z R0 O n d) (F : Fld Z h a O n d v) (hp : pc + 3 = pc') : Wk p l e R s m args below meth c bytes mxl rt Z a0 EL own n0 h0 ws S0 V h cells slots (mkF m pc' L (v :: st)) := by
  subst hp
  exact W.reads fun T locs X eT hx hby hZ hown => getF X hx hZ hown (host := "") (Or.inl w) via eT F (g := mkF m pc L (.ref a :: st)) rfl rfl (hb hby hd)
theorem Wk.gets {index : Nat} {O n d : String} {v : Value} (W : Wk p l e R s m args below meth c bytes mxl rt Z a0 EL own n0 h0 ws S0 V h cells slots (mkF m pc L st)) (hd : decode bytes pc = .ok (.getstatic index, 3)) (w : (Jvm.Cond.fieldLink own index O n d).before a0 Z = true) (S : Sta Z Z.heap O n d v) (hp : pc + 3 = pc') : Wk p l e R s m args below meth c bytes mxl rt Z a0 EL own n0 h0 ws S0 V h cells slots (mkF m pc' L (v :: st)) := by
  subst hp
  have S' := W.sta S
  exact W.reads fun T locs X eT hx hby hZ hown => getS (host := "") X hx hZ hown w Via.refl eT S' (g := mkF m pc L st) rfl (hb hby hd)
theorem Wk.castY {index : Nat} {K : String} {a : Addr} (W : Wk p l e R s m args below meth c bytes mxl rt Z a0 EL own n0 h0 ws S0 V h cells slots (mkF m pc L (.ref a :: st))) (hd : decode bytes pc = .ok (.checkcast index, 3)) (w : (Jvm.Cond.classLink own index K).before a0 Z = true) (I : Ins Z h a K true) (hp : pc + 3 = pc') : Wk p l e R s m args below meth c bytes mxl rt Z a0 EL own n0 h0 ws S0 V h cells slots (mkF m pc' L (.ref a :: st)) := by
  subst hp
  exact W.reads fun T locs X eT hx hby hZ hown => Jvm.RoadKit.castY X hx hZ hown w eT I (g := mkF m pc L (.ref a :: st)) rfl rfl (hb hby hd)
theorem Wk.instY {index : Nat} {K : String} {a : Addr} (W : Wk p l e R s m args below meth c bytes mxl rt Z a0 EL own n0 h0 ws S0 V h cells slots (mkF m pc L (.ref a :: st))) (hd : decode bytes pc = .ok (.instanceof index, 3)) (w : (Jvm.Cond.classLink own index K).before a0 Z = true) (I : Ins Z h a K true) (hp : pc + 3 = pc') : Wk p l e R s m args below meth c bytes mxl rt Z a0 EL own n0 h0 ws S0 V h cells slots (mkF m pc' L (.int 1 :: st)) := by
  subst hp
  exact W.reads fun T locs X eT hx hby hZ hown => Jvm.RoadKit.instY X hx hZ hown w eT I (g := mkF m pc L (.ref a :: st)) rfl rfl (hb hby hd)
theorem Wk.putf {index kk : Nat} {R0 O n d C : String} {ty : FieldType} {a : Addr} {v old : Value} (W : Wk p l e R s m args below meth c bytes mxl rt Z a0 EL own n0 h0 ws S0 V h cells slots (mkF m pc L (v :: .ref a :: st))) (hd : decode bytes pc = .ok (.putfield index, 3)) (w : (Jvm.Cond.fieldLink own index R0 n d).before a0 Z = true) (via : Via Z R0 O n d) (F : Fld Z h a O n d old) (E : Exa Z h a C) (Lw : (Jvm.Cond.lays C O n d).before a0 Z = true ∨ ((Jvm.Cond.laysFinal C O n d).before a0 Z = true ∧ own = O ∧ meth.name = "<init>")) (wi : (Jvm.Cond.instantiable C kk).before a0 Z = true) (hty : parseFieldDescriptor d = some ty) (hn : narrow ty v = v) (hf : fits ty v = true) (sf : Safe Z EL V h a) (q : a ∈ ws ∨ h0.size ≤ a) (hp : pc + 3 = pc') :
    ∃ h', Wk p l e R s m args below meth c bytes mxl rt Z a0 EL own n0 h0 ws S0 V h' cells slots (mkF m pc' L st) ∧ Wr h h' a (Jvm.RoadKit.slotOf Z O n d) v ∧ ∀ x, Safe Z EL V h x → Safe Z EL V h' x := by
  subst hp
  exact W.wrote (cells' := 0) (slots' := 0) (h' := h) sf q fun T locs X eT hx hby hZ hown => putF X hx hZ hown (host := "") (Or.inl w) via eT F E Lw wi hty hn hf (g := mkF m pc L (v :: .ref a :: st)) rfl rfl (hb hby hd)
theorem Wk.initO {index : Nat} {a : Addr} {Wd : Nat} (W : Wk p l e R s m args below meth c bytes mxl rt Z a0 EL own n0 h0 ws S0 V h cells slots (mkF m pc L (.ref a :: st))) (hd : decode bytes pc = .ok (.invokespecial index, 3)) (w1 : (Jvm.Cond.methodLink own index Lib.objectInit).before a0 Z = true) (w2 : (Jvm.Cond.instanceMethod Lib.objectInit).before a0 Z = true) (w3 : (Jvm.Cond.code Lib.objectInit ⟨#[0xb1]⟩ 1 none).before a0 Z = true) (hL : L.size = mxl) (hW : (st.map fun v => v.category).sum = Wd) (hf : 1 ≤ R.frames) (hl : Wd + 12 ≤ R.locals) (hp : pc + 3 = pc') : Wk p l e R s m args below meth c bytes mxl rt Z a0 EL own n0 h0 ws S0 V h cells slots (mkF m pc' L st) := by
  subst hp hW
  have hml := W.1.2.2.1
  exact W.reads fun T locs X eT hx hby hZ hown => Jvm.RoadKit.initO X hx hZ hown w1 w2 w3 eT (g := mkF m pc L (.ref a :: st)) rfl (hL.trans hml.symm) rfl (hb hby hd) hf (by show 2 * 0 + _ ≤ _; exact Nat.le_of_eq (Nat.zero_add _)) hl
theorem Wk.ldcI {index : Nat} {v : Int32} (W : Wk p l e R s m args below meth c bytes mxl rt Z a0 EL own n0 h0 ws S0 V h cells slots (mkF m pc L st)) (hd : decode bytes pc = .ok (.ldc index, 2)) (w : (Jvm.Cond.constant own index v).before a0 Z = true) (hp : pc + 2 = pc') : Wk p l e R s m args below meth c bytes mxl rt Z a0 EL own n0 h0 ws S0 V h cells slots (mkF m pc' L (.int v :: st)) := by
  subst hp
  exact W.reads fun T locs X eT hx hby hZ hown => ⟨T, X, eT, X.ldcInt hx hown (mvT hZ w) (g := mkF m pc L st) rfl (hb hby hd)⟩
theorem Wk.ldc2 {index : Nat} {v : Int64} (W : Wk p l e R s m args below meth c bytes mxl rt Z a0 EL own n0 h0 ws S0 V h cells slots (mkF m pc L st)) (hd : decode bytes pc = .ok (.ldc2_w index, 3)) (w : (Jvm.Cond.constantLong own index v).before a0 Z = true) (hp : pc + 3 = pc') : Wk p l e R s m args below meth c bytes mxl rt Z a0 EL own n0 h0 ws S0 V h cells slots (mkF m pc' L (.long v :: st)) := by
  subst hp
  exact W.reads fun T locs X eT hx hby hZ hown => ⟨T, X, eT, X.ldc2Long hx hown (mvT hZ w) (g := mkF m pc L st) rfl (hb hby hd)⟩
section Arrays
variable {a : Addr} {k : ClassId} {z j : Int32} {vs : List Value} {dv w : Value} {ty : FieldType} {i : Nat}
theorem Wk.alen (W : Wk p l e R s m args below meth c bytes mxl rt Z a0 EL own n0 h0 ws S0 V h cells slots (mkF m pc L (.ref a :: st))) (hd : decode bytes pc = .ok (.arraylength, 1)) (A : Arv Z h a k ty z vs dv) (hp : pc + 1 = pc') : Wk p l e R s m args below meth c bytes mxl rt Z a0 EL own n0 h0 ws S0 V h cells slots (mkF m pc' L (.int z :: st)) := by
  subst hp
  obtain ⟨cl, A1, -, S, M, -, -⟩ := A
  exact W.reads fun T locs X eT hx hby hZ hown => ⟨T, X, eT, fun t q => X.arraylength hx (by rw [eT]; exact A1.1) (State.isArrayOf_alike hZ.alike A1.2.1) (g := mkF m pc L (.ref a :: st)) rfl rfl (hb hby hd) t (by rw [len_of S M]; exact q)⟩
theorem Wk.caload (W : Wk p l e R s m args below meth c bytes mxl rt Z a0 EL own n0 h0 ws S0 V h cells slots (mkF m pc L (.int j :: .ref a :: st))) (hd : decode bytes pc = .ok (.caload, 1)) (A : Arv Z h a k .char z vs dv) (hj : ¬ j < 0 ∧ j < z) (hv : vs.getD j.toNatClampNeg dv = w) (hp : pc + 1 = pc') : Wk p l e R s m args below meth c bytes mxl rt Z a0 EL own n0 h0 ws S0 V h cells slots (mkF m pc' L (w :: st)) := by
  subst hp
  obtain ⟨cl, A1, -, S, M, H, -⟩ := A
  have hin := inb_of S hj
  exact W.reads fun T locs X eT hx hby hZ hown => ⟨T, X, eT, X.caload hx (by rw [eT]; exact A1.1) (State.isArrayOf_alike hZ.alike A1.2.1) A1.2.2 hin (H.at hin hv) (g := mkF m pc L (.int j :: .ref a :: st)) rfl rfl (hb hby hd)⟩
theorem Wk.baload (W : Wk p l e R s m args below meth c bytes mxl rt Z a0 EL own n0 h0 ws S0 V h cells slots (mkF m pc L (.int j :: .ref a :: st))) (hd : decode bytes pc = .ok (.baload, 1)) (A : Arv Z h a k .byte z vs dv) (hj : ¬ j < 0 ∧ j < z) (hv : vs.getD j.toNatClampNeg dv = w) (hp : pc + 1 = pc') : Wk p l e R s m args below meth c bytes mxl rt Z a0 EL own n0 h0 ws S0 V h cells slots (mkF m pc' L (w :: st)) := by
  subst hp
  obtain ⟨cl, A1, -, S, M, H, -⟩ := A
  have hin := inb_of S hj
  exact W.reads fun T locs X eT hx hby hZ hown => ⟨T, X, eT, X.baloadBytes hx (by rw [eT]; exact A1.1) (State.isArrayOf_alike hZ.alike A1.2.1) A1.2.2 hin (H.at hin hv) (g := mkF m pc L (.int j :: .ref a :: st)) rfl rfl (hb hby hd)⟩
theorem Wk.iaload (W : Wk p l e R s m args below meth c bytes mxl rt Z a0 EL own n0 h0 ws S0 V h cells slots (mkF m pc L (.int j :: .ref a :: st))) (hd : decode bytes pc = .ok (.iaload, 1)) (A : Arv Z h a k .int z vs dv) (hj : ¬ j < 0 ∧ j < z) (hv : vs.getD j.toNatClampNeg dv = w) (hp : pc + 1 = pc') : Wk p l e R s m args below meth c bytes mxl rt Z a0 EL own n0 h0 ws S0 V h cells slots (mkF m pc' L (w :: st)) := by
  subst hp
  obtain ⟨cl, A1, -, S, M, H, -⟩ := A
  have hin := inb_of S hj
  exact W.reads fun T locs X eT hx hby hZ hown => ⟨T, X, eT, X.iaload hx (by rw [eT]; exact A1.1) (State.isArrayOf_alike hZ.alike A1.2.1) A1.2.2 hin (H.at hin hv) (g := mkF m pc L (.int j :: .ref a :: st)) rfl rfl (hb hby hd)⟩
theorem Wk.laload (W : Wk p l e R s m args below meth c bytes mxl rt Z a0 EL own n0 h0 ws S0 V h cells slots (mkF m pc L (.int j :: .ref a :: st))) (hd : decode bytes pc = .ok (.laload, 1)) (A : Arv Z h a k .long z vs dv) (hj : ¬ j < 0 ∧ j < z) (hv : vs.getD j.toNatClampNeg dv = w) (hp : pc + 1 = pc') : Wk p l e R s m args below meth c bytes mxl rt Z a0 EL own n0 h0 ws S0 V h cells slots (mkF m pc' L (w :: st)) := by
  subst hp
  obtain ⟨cl, A1, -, S, M, H, -⟩ := A
  have hin := inb_of S hj
  exact W.reads fun T locs X eT hx hby hZ hown => ⟨T, X, eT, X.laload hx (by rw [eT]; exact A1.1) (State.isArrayOf_alike hZ.alike A1.2.1) A1.2.2 hin (H.at hin hv) (g := mkF m pc L (.int j :: .ref a :: st)) rfl rfl (hb hby hd)⟩
theorem Wk.saload (W : Wk p l e R s m args below meth c bytes mxl rt Z a0 EL own n0 h0 ws S0 V h cells slots (mkF m pc L (.int j :: .ref a :: st))) (hd : decode bytes pc = .ok (.saload, 1)) (A : Arv Z h a k .short z vs dv) (hj : ¬ j < 0 ∧ j < z) (hv : vs.getD j.toNatClampNeg dv = w) (hp : pc + 1 = pc') : Wk p l e R s m args below meth c bytes mxl rt Z a0 EL own n0 h0 ws S0 V h cells slots (mkF m pc' L (w :: st)) := by
  subst hp
  obtain ⟨cl, A1, -, S, M, H, -⟩ := A
  have hin := inb_of S hj
  exact W.reads fun T locs X eT hx hby hZ hown => ⟨T, X, eT, X.saload hx (by rw [eT]; exact A1.1) (State.isArrayOf_alike hZ.alike A1.2.1) A1.2.2 hin (H.at hin hv) (g := mkF m pc L (.int j :: .ref a :: st)) rfl rfl (hb hby hd)⟩
theorem Wk.aaload (W : Wk p l e R s m args below meth c bytes mxl rt Z a0 EL own n0 h0 ws S0 V h cells slots (mkF m pc L (.int j :: .ref a :: st))) (hd : decode bytes pc = .ok (.aaload, 1)) (A : Arv Z h a k ty z vs dv) (ht : ty.isReference = true) (hj : ¬ j < 0 ∧ j < z) (hv : vs.getD j.toNatClampNeg dv = w) (hp : pc + 1 = pc') : Wk p l e R s m args below meth c bytes mxl rt Z a0 EL own n0 h0 ws S0 V h cells slots (mkF m pc' L (w :: st)) := by
  subst hp
  obtain ⟨cl, A1, -, S, M, H, -⟩ := A
  have hin := inb_of S hj
  exact W.reads fun T locs X eT hx hby hZ hown => ⟨T, X, eT, X.aaload hx (by rw [eT]; exact A1.1) (State.isArrayOf_alike hZ.alike A1.2.1) ht A1.2.2 hin (H.at hin hv) (g := mkF m pc L (.int j :: .ref a :: st)) rfl rfl (hb hby hd)⟩
theorem Wk.castore {x x' : Int32} (W : Wk p l e R s m args below meth c bytes mxl rt Z a0 EL own n0 h0 ws S0 V h cells slots (mkF m pc L (.int x :: .int j :: .ref a :: st))) (hd : decode bytes pc = .ok (.castore, 1)) (A : Arv Z h a k .char z vs dv) (hj : ¬ j < 0 ∧ j < z) (hi : j.toNatClampNeg = i) (hlt : i < vs.length) (hx' : nar .char x = x') (sf : Safe Z EL V h a) (q : a ∈ ws ∨ h0.size ≤ a) (hp : pc + 1 = pc') :
    ∃ h', Wk p l e R s m args below meth c bytes mxl rt Z a0 EL own n0 h0 ws S0 V h' cells slots (mkF m pc' L st) ∧ Wr h h' a j.toNatClampNeg (.int x') ∧ Arv Z h' a k .char z (vs.set i (.int x')) dv ∧ ∀ x, Safe Z EL V h x → Safe Z EL V h' x := by
  subst hp hx'
  obtain ⟨cl, A1, q1, S, M, H, G⟩ := A
  have hin := inb_of S hj
  obtain ⟨h', W', w', sf'⟩ := W.wrote (cells' := 0) (slots' := 0) (h' := h) sf q fun T locs X eT hx hby hZ hown => stC X hx hZ eT A1 hin (g := mkF m pc L (.int x :: .int j :: .ref a :: st)) rfl rfl (hb hby hd)
  exact ⟨h', W', w', Arv.set A1 q1 S M H G (fits_nar_char _) w' i hi hlt, sf'⟩
theorem Wk.bastore {x x' : Int32} (W : Wk p l e R s m args below meth c bytes mxl rt Z a0 EL own n0 h0 ws S0 V h cells slots (mkF m pc L (.int x :: .int j :: .ref a :: st))) (hd : decode bytes pc = .ok (.bastore, 1)) (A : Arv Z h a k .byte z vs dv) (hj : ¬ j < 0 ∧ j < z) (hi : j.toNatClampNeg = i) (hlt : i < vs.length) (hx' : nar .byte x = x') (sf : Safe Z EL V h a) (q : a ∈ ws ∨ h0.size ≤ a) (hp : pc + 1 = pc') :
    ∃ h', Wk p l e R s m args below meth c bytes mxl rt Z a0 EL own n0 h0 ws S0 V h' cells slots (mkF m pc' L st) ∧ Wr h h' a j.toNatClampNeg (.int x') ∧ Arv Z h' a k .byte z (vs.set i (.int x')) dv ∧ ∀ x, Safe Z EL V h x → Safe Z EL V h' x := by
  subst hp hx'
  obtain ⟨cl, A1, q1, S, M, H, G⟩ := A
  have hin := inb_of S hj
  obtain ⟨h', W', w', sf'⟩ := W.wrote (cells' := 0) (slots' := 0) (h' := h) sf q fun T locs X eT hx hby hZ hown => stB X hx hZ eT A1 hin (g := mkF m pc L (.int x :: .int j :: .ref a :: st)) rfl rfl (hb hby hd)
  exact ⟨h', W', w', Arv.set A1 q1 S M H G (fits_nar_byte _) w' i hi hlt, sf'⟩
theorem Wk.iastore {x x' : Int32} (W : Wk p l e R s m args below meth c bytes mxl rt Z a0 EL own n0 h0 ws S0 V h cells slots (mkF m pc L (.int x :: .int j :: .ref a :: st))) (hd : decode bytes pc = .ok (.iastore, 1)) (A : Arv Z h a k .int z vs dv) (hj : ¬ j < 0 ∧ j < z) (hi : j.toNatClampNeg = i) (hlt : i < vs.length) (hx' : x = x') (sf : Safe Z EL V h a) (q : a ∈ ws ∨ h0.size ≤ a) (hp : pc + 1 = pc') :
    ∃ h', Wk p l e R s m args below meth c bytes mxl rt Z a0 EL own n0 h0 ws S0 V h' cells slots (mkF m pc' L st) ∧ Wr h h' a j.toNatClampNeg (.int x') ∧ Arv Z h' a k .int z (vs.set i (.int x')) dv ∧ ∀ x, Safe Z EL V h x → Safe Z EL V h' x := by
  subst hp hx'
  obtain ⟨cl, A1, q1, S, M, H, G⟩ := A
  have hin := inb_of S hj
  obtain ⟨h', W', w', sf'⟩ := W.wrote (cells' := 0) (slots' := 0) (h' := h) sf q fun T locs X eT hx hby hZ hown => stI X hx hZ eT A1 hin (g := mkF m pc L (.int x :: .int j :: .ref a :: st)) rfl rfl (hb hby hd)
  exact ⟨h', W', w', Arv.set A1 q1 S M H G rfl w' i hi hlt, sf'⟩
theorem Wk.lastore {x x' : Int64} (W : Wk p l e R s m args below meth c bytes mxl rt Z a0 EL own n0 h0 ws S0 V h cells slots (mkF m pc L (.long x :: .int j :: .ref a :: st))) (hd : decode bytes pc = .ok (.lastore, 1)) (A : Arv Z h a k .long z vs dv) (hj : ¬ j < 0 ∧ j < z) (hi : j.toNatClampNeg = i) (hlt : i < vs.length) (hx' : x = x') (sf : Safe Z EL V h a) (q : a ∈ ws ∨ h0.size ≤ a) (hp : pc + 1 = pc') :
    ∃ h', Wk p l e R s m args below meth c bytes mxl rt Z a0 EL own n0 h0 ws S0 V h' cells slots (mkF m pc' L st) ∧ Wr h h' a j.toNatClampNeg (.long x') ∧ Arv Z h' a k .long z (vs.set i (.long x')) dv ∧ ∀ x, Safe Z EL V h x → Safe Z EL V h' x := by
  subst hp hx'
  obtain ⟨cl, A1, q1, S, M, H, G⟩ := A
  have hin := inb_of S hj
  obtain ⟨h', W', w', sf'⟩ := W.wrote (cells' := 0) (slots' := 0) (h' := h) sf q fun T locs X eT hx hby hZ hown => stJ X hx hZ eT A1 hin (g := mkF m pc L (.long x :: .int j :: .ref a :: st)) rfl rfl (hb hby hd)
  exact ⟨h', W', w', Arv.set A1 q1 S M H G rfl w' i hi hlt, sf'⟩
end Arrays

/-- what a walk owes at its end -/
def Done (p : Program) (e : Env) (below : List Frame) (S0 s : State) (Z : State) (EL : List (String × Nat)) (n0 : Nat) (h0 : Heap) (ws : List Addr) (R : Room) (Q : Option Value → Heap → Vm → Prop) : Prop :=
  ∃ s₂ o, Steps p.tables e below S0 s₂ ∧ s₂.status = .running ∧ Ended s₂ below o ∧ ∃ v L, o = .returned v ∧ (Fr n0 L ∧ Keep h0 s₂.heap ws ∧ Q v s₂.heap s₂.vm) ∧ CHr Z EL s.vm h0 s₂.vm s₂.heap ∧ FrameEnd s o s₂ L R.cells R.slots
theorem Wk.fin {g : JFrame} (W : Wk p l e R s m args below meth c bytes mxl rt Z a0 EL own n0 h0 ws S0 V h cells slots g) {v : Option Value} {Q : Option Value → Heap → Vm → Prop} (hv : rt = none → v = none) (hc : cells ≤ R.cells) (hs : slots ≤ R.slots) (hQ : ∀ V', (∀ x, x < h.size → Safe Z EL V h x → Safe Z EL V' h x) → Q v h V')
    (f : ∀ (T : State) (locs : List Loc) (fs : List Frame), Stand p l e R (s.setVm V) m args below meth c T locs cells slots → p.tables.exec = Jvm.exec → c.code = bytes → (∀ (f : JFrame) (acts : List Action), f.method = m → f.locked = none → f.entered = [] → (doReturn e (T.setTop f) acts v).1 = T.setFrames fs) → Steps p.tables e below (T.setTop g) (T.setFrames fs)) : Done p e below S0 s Z EL n0 h0 ws R Q := by
  obtain ⟨a1, b, T, locs, X, eT, N, k⟩ := W
  have hVs := b.2.2.1
  subst hVs
  obtain ⟨fs, hr, hrun, hended, r2, r4⟩ := (show Stand p l e R s m args below meth c T locs cells slots from X).leave (v := v) (fun z => hv (by rw [← a1.2.2.2.1]; exact z)) a1.2.2.2.2.1
  have hh : (T.setFrames fs).heap = h := eT
  have hC2 := CHv.at X b.1 a1.2.2.2.2.2.1 b.2.2.2.2.1.1
  have hC : CHr Z EL s.vm h0 (T.setFrames fs).vm (T.setFrames fs).heap := by
    rw [hh]
    exact b.2.2.2.2.1.trans hC2
  refine ⟨_, _, k _ (f T locs fs X a1.1 a1.2.1 hr), hrun, hended, v, locs, rfl, ⟨N, by rw [hh]; exact b.2.2.2.2.2, by rw [hh]; exact hQ _ fun x hx sx => hC2.safe hx sx⟩, hC, ⟨v, rfl⟩, r2, r4.mono hc hs⟩
theorem Wk.vret (W : Wk p l e R s m args below meth c bytes mxl rt Z a0 EL own n0 h0 ws S0 V h cells slots (mkF m pc L [])) (hd : decode bytes pc = .ok (.return_, 1)) (hr : rt = none) {Q : Option Value → Heap → Vm → Prop} (hc : cells ≤ R.cells) (hs : slots ≤ R.slots) (hQ : ∀ V', (∀ x, x < h.size → Safe Z EL V h x → Safe Z EL V' h x) → Q none h V') : Done p e below S0 s Z EL n0 h0 ws R Q := by
  have hrt := W.1.2.2.2.1
  exact W.fin (v := none) (fun _ => rfl) hc hs hQ fun T locs fs X hx hby hr' => X.returnOut hx (hrt.trans hr) (hb hby hd) hr'
theorem Wk.aret {w : Value} {t : FieldType} (W : Wk p l e R s m args below meth c bytes mxl rt Z a0 EL own n0 h0 ws S0 V h cells slots (mkF m pc L (w :: st))) (hd : decode bytes pc = .ok (.areturn, 1)) (hr : rt = some t) (ht : t.isReference = true) (hw : w.isRef = true) (hn : narrow t w = w) {Q : Option Value → Heap → Vm → Prop} (hc : cells ≤ R.cells) (hs : slots ≤ R.slots) (hQ : ∀ V', (∀ x, x < h.size → Safe Z EL V h x → Safe Z EL V' h x) → Q (some w) h V') : Done p e below S0 s Z EL n0 h0 ws R Q := by
  have hrt := W.1.2.2.2.1
  exact W.fin (v := some w) (fun z => by rw [hr] at z; cases z) hc hs hQ fun T locs fs X hx hby hr' => retOut X hx (hrt.trans hr) hn (Or.inr (Or.inr (Or.inr (Or.inr ⟨rfl, ht, hw⟩)))) (hb hby hd) hr'
theorem Wk.iret {z : Int32} {t : FieldType} (W : Wk p l e R s m args below meth c bytes mxl rt Z a0 EL own n0 h0 ws S0 V h cells slots (mkF m pc L (.int z :: st))) (hd : decode bytes pc = .ok (.ireturn, 1)) (hr : rt = some t) (ht : t = .int ∨ t = .boolean ∨ t = .byte ∨ t = .char ∨ t = .short) (hn : narrow t (.int z) = .int z) {Q : Option Value → Heap → Vm → Prop} (hc : cells ≤ R.cells) (hs : slots ≤ R.slots) (hQ : ∀ V', (∀ x, x < h.size → Safe Z EL V h x → Safe Z EL V' h x) → Q (some (.int z)) h V') : Done p e below S0 s Z EL n0 h0 ws R Q := by
  have hrt := W.1.2.2.2.1
  exact W.fin (v := some (.int z)) (fun z => by rw [hr] at z; cases z) hc hs hQ fun T locs fs X hx hby hr' => retOut X hx (hrt.trans hr) hn (Or.inl ⟨rfl, ht, z, rfl⟩) (hb hby hd) hr'
theorem Wk.lret {z : Int64} (W : Wk p l e R s m args below meth c bytes mxl rt Z a0 EL own n0 h0 ws S0 V h cells slots (mkF m pc L (.long z :: st))) (hd : decode bytes pc = .ok (.lreturn, 1)) (hr : rt = some .long) {Q : Option Value → Heap → Vm → Prop} (hc : cells ≤ R.cells) (hs : slots ≤ R.slots) (hQ : ∀ V', (∀ x, x < h.size → Safe Z EL V h x → Safe Z EL V' h x) → Q (some (.long z)) h V') : Done p e below S0 s Z EL n0 h0 ws R Q := by
  have hrt := W.1.2.2.2.1
  exact W.fin (v := some (.long z)) (fun z => by rw [hr] at z; cases z) hc hs hQ fun T locs fs X hx hby hr' => retOut X hx (hrt.trans hr) rfl (Or.inr (Or.inl ⟨rfl, rfl, z, rfl⟩)) (hb hby hd) hr'
/-- a body's contract: called with as', on the heap h, it comes back; it has written at most the cells ws and new ones; Q holds of what it returned and of the heap -/
def Con (l : Launch) (Z : State) (EL : List (String × Nat)) (n0 : Nat) (y : MethodName) (bytes : ByteArray) (mxl : Nat) (rt : Option FieldType) (rm : Room) (as' : Array Value) (h : Heap) (ws : List Addr) (Q : Option Value → Heap → Vm → Prop) (wds : List Jvm.Cond) : Prop :=
  MetFree l y (head1 (Jvm.Cond.code y bytes mxl rt :: wds) rm) (fun a U => a = as' ∧ Z.Warmed39 U.vm ∧ U.heap = h ∧ CHv Z EL U.vm h ∧ ∀ x ∈ ws, Safe Z EL U.vm h x) (fun _ _ _ _ _ => True) (fun _ U o U' => ∃ v L, o = .returned v ∧ (Fr n0 L ∧ Keep h U'.heap ws ∧ Q v U'.heap U'.vm) ∧ CHr Z EL U.vm U.heap U'.vm U'.heap ∧ FrameEnd U o U' L rm.cells rm.slots)
theorem Con.of {y : MethodName} {rm : Room} {as' : Array Value} {Q : Option Value → Heap → Vm → Prop} {wds : List Jvm.Cond} {L0 : Array Slot} (hpn : plainFor y = true) (hef : ∀ m, entryFrame m as' mxl = mkF m 0 L0 []) (hws : ∀ x ∈ ws, n0 ≤ x) (hO : Old Z n0 h0) (hEL : EW Z a0 EL)
    (body : ∀ (p : Program) (e : Env) (s : State) (m : MethodId) (below : List Frame) (meth : Method) (c : Code) (S0 : State), meth.name = y.name → (∀ x ∈ ws, Safe Z EL s.vm h0 x) → Wk p l e rm s m as' below meth c bytes mxl rt Z a0 EL y.cls n0 h0 ws S0 s.vm h0 0 0 (mkF m 0 L0 []) → Done p e below S0 s Z EL n0 h0 ws rm Q) : Con l Z EL n0 y bytes mxl rt rm as' h0 ws Q wds := by
  refine MetFree.of_bodySF hpn hisR ?_
  intro p e s m args below meth c s₁ Bd hml hP hK
  obtain ⟨rfl, hZ, hh, hC, hsf⟩ := hP
  have hnm := (name_of_methodNamed Bd.named Bd.method).1
  have e0 : s₁.heap = h0 := by rw [← hh, Bd.state]; rfl
  have hn0 : n0 ≤ h0.size := by rw [← hO.1]; exact hO.2.1
  have X0 : Stand p l e rm (s.setVm s.vm) m args below meth c s₁ [] 0 0 := Stand.of_body Bd
  obtain ⟨s₂, o, g1, g2, g3, v, L, g4, g5, g6, g7⟩ := body p e s m below meth c (s₁.setTop (entryFrame m args mxl)) hnm hsf ⟨⟨Bd.exec, Bd.bytes, hml, Bd.returns, Bd.notSynchronized, hEL, hws, hn0, hh, hO⟩, ⟨hZ, findClass_of_methodNamed Bd.named, rfl, hO, CHr.refl hC, Keep.refl _ _⟩, s₁, [], X0, e0, Fr.nil n0, fun t k => castTop (hef m) k⟩
  exact ⟨s₂, o, g1, g2, g3, v, L, g4, g5, by rw [hh]; exact g6, g7⟩

theorem Con.back {y : MethodName} {bytes' : ByteArray} {mxl' : Nat} {rt' : Option FieldType} {rm : Room} {as' : Array Value} {ws' : List Addr} {Q : Option Value → Heap → Vm → Prop} {len Wd : Nat} (con : Con l Z EL n0 y bytes' mxl' rt' rm as' h ws' Q []) (hZ : Z.Warmed39 V) (wc : (Jvm.Cond.code y bytes' mxl' rt').before a0 Z = true) (wz : (Jvm.Cond.initialized y.cls).before a0 Z = true) (hf : rm.frames + 1 ≤ R.frames) (hl : Wd + (mxl' + 11) + rm.locals ≤ R.locals) (hEL : EW Z a0 EL) (H : CHv Z EL V h) (hsf : ∀ x ∈ ws', Safe Z EL V h x) :
    Back l R p e below (s.setVm V) args y len Wd (fun A a => a = as' ∧ A.U.heap = h ∧ A.cells + rm.cells ≤ R.cells ∧ A.slots + rm.slots ≤ R.slots) (fun A _ v B => ∃ L, (Fr n0 L ∧ Keep h B.U.heap ws' ∧ Q v B.U.heap B.U.vm) ∧ B.locs = A.locs ++ L ∧ B.cells = A.cells + rm.cells ∧ B.slots = A.slots + rm.slots) := by
  refine Back.of_free (bytes := bytes') (maxL := mxl') (ret := rt') (E := fun _ first o t L k n => k = rm.cells ∧ n = rm.slots ∧ (∃ v, o = .returned v ∧ (Fr n0 L ∧ Keep h t.heap ws' ∧ Q v t.heap t.vm))) con hf hl ?_ ?_ (fun _ _ _ _ _ _ _ _ _ => trivial) ?_ ?_
  · intro m meth c A a Y hp
    have hU : Z.Warmed39 A.U.vm := wtrans (s := s.setVm V) hZ Y.warmed
    exact ⟨by show (Jvm.Cond.and _ .tt).before a A.U = true; rw [Cond.before_and, mv hU wc]; rfl, mv hU wc, mv hU wz, hp.2.2.1, hp.2.2.2⟩
  · intro m meth c A a g mk Y hp
    have q := CHv.at Y hZ hEL H
    exact ⟨hp.1, wtrans (s := s.setVm V) hZ Y.warmed, hp.2.1, q.1, fun x hx => (Nat.lt_or_ge x h.size).elim (fun z => q.safe z (hsf x hx)) (fun z => Safe.new z)⟩
  · rintro _ _ _ _ ⟨v, L, h1, h2, h3, h4⟩
    exact ⟨L, _, _, h4, rfl, rfl, v, h1, h2⟩
  · intro m meth c A a g mk v t L k n Y hp _ _ he
    obtain ⟨e1, e2, v', e3, e4⟩ := he
    cases e3; subst e1 e2
    exact ⟨L, e4, rfl, rfl, rfl⟩
theorem Wk.called {g : JFrame} {G : Option Value → JFrame} {rm : Room} {ws' : List Addr} {Q : Option Value → Heap → Vm → Prop} {cells' slots' : Nat} (W : Wk p l e R s m args below meth c bytes mxl rt Z a0 EL own n0 h0 ws S0 V h cells slots g) (hq : ∀ x ∈ ws', x ∈ ws ∨ h0.size ≤ x) (hsf : ∀ x ∈ ws', Safe Z EL V h x) (hc : cells + rm.cells = cells') (hs : slots + rm.slots = slots')
    (f : ∀ (T : State) (locs : List Loc), Stand p l e R (s.setVm V) m args below meth c T locs cells slots → T.heap = h → p.tables.exec = Jvm.exec → c.code = bytes → Z.Warmed39 (s.setVm V).vm → (s.setVm V).vm.findClass own = some m.cls → ∃ (v : Option Value) (vm₁ : Vm) (B : Pt), (s.setVm V).WarmedH vm₁ ∧ Stand p l e R (s.setVm V) m args below meth c B.U B.locs B.cells B.slots ∧ (∃ L, (Fr n0 L ∧ Keep h B.U.heap ws' ∧ Q v B.U.heap B.U.vm) ∧ B.locs = locs ++ L ∧ B.cells = cells + rm.cells ∧ B.slots = slots + rm.slots) ∧ ∀ t, Steps p.tables e below (B.U.setTop (G v)) t → Steps p.tables e below (T.setTop g) t) :
    ∃ V' h' v, Wk p l e R s m args below meth c bytes mxl rt Z a0 EL own n0 h0 ws S0 V' h' cells' slots' (G v) ∧ Keep h h' ws' ∧ (∃ V2, Q v h' V2) ∧ ∀ x, x < h.size → Safe Z EL V h x → Safe Z EL V' h' x := by
  obtain ⟨a1, b, T, locs, X, eT, N, k⟩ := W
  obtain ⟨v, vm₁, B, -, X2, ⟨L', hQ, l1, l2, l3⟩, stp⟩ := f T locs X eT a1.1 a1.2.1 b.1 b.2.1
  rw [l1, l2, l3, hc, hs] at X2
  have hge : ∀ x ∈ ws', n0 ≤ x := fun x hx => (hq x hx).elim (fun z => a1.2.2.2.2.2.2.1 x z) (fun z => Nat.le_trans a1.2.2.2.2.2.2.2.1 z)
  have H := b.2.2.2.2.1.1
  exact ⟨V, B.U.heap, v, ⟨a1, ⟨b.1, b.2.1, b.2.2.1, b.2.2.2.1.keep hQ.2.1 hge, b.2.2.2.2.1.trans (CHr.keep hQ.2.1 hsf H), b.2.2.2.2.2.trans hQ.2.1 hq⟩, B.U, _, X2, rfl, N.app hQ.1, fun t z => k t (stp t z)⟩, hQ.2.1, ⟨_, hQ.2.2⟩, fun x _ sx => Safe.keep hQ.2.1 hsf H sx⟩
section Calls
variable {y z : MethodName} {bytes' : ByteArray} {mxl' : Nat} {rt' : Option FieldType} {rm : Room} {ws' : List Addr} {Q : Option Value → Heap → Vm → Prop} {argsL rest stk : List Value} {index Wd cells' slots' : Nat}
theorem Wk.callS (W : Wk p l e R s m args below meth c bytes mxl rt Z a0 EL own n0 h0 ws S0 V h cells slots (mkF m pc L stk)) (hd : decode bytes pc = .ok (.invokestatic index, 3)) (con : Con l Z EL n0 y bytes' mxl' rt' rm argsL.toArray h ws' Q []) (w1 : (Jvm.Cond.methodLink own index y).before a0 Z = true) (w2 : (Jvm.Cond.static y).before a0 Z = true) (w3 : (Jvm.Cond.initialized y.cls).before a0 Z = true) (w4 : (Jvm.Cond.code y bytes' mxl' rt').before a0 Z = true) (hy : y.cls ≠ "java/lang/invoke/MethodHandle" ∧ y.cls ≠ "java/lang/invoke/VarHandle") (hlen : ∀ sig, parseMethodDescriptor y.desc = some sig → argsL.length = sig.parameters.length) (hstk : stk = argsL.reverse ++ rest) (hW : (rest.map fun v => v.category).sum = Wd) (hf : rm.frames + 1 ≤ R.frames) (hl : Wd + (mxl' + 11) + rm.locals ≤ R.locals) (hL : L.size = mxl) (hsf : ∀ x ∈ ws', Safe Z EL V h x) (hq : ∀ x ∈ ws', x ∈ ws ∨ h0.size ≤ x) (hp : pc + 3 = pc') (hc : cells + rm.cells = cells') (hs : slots + rm.slots = slots') (hc' : cells' ≤ R.cells) (hs' : slots' ≤ R.slots) :
    ∃ V' h' v, Wk p l e R s m args below meth c bytes mxl rt Z a0 EL own n0 h0 ws S0 V' h' cells' slots' (mkF m pc' L (v.toList ++ rest)) ∧ Keep h h' ws' ∧ (∃ V2, Q v h' V2) ∧ ∀ x, x < h.size → Safe Z EL V h x → Safe Z EL V' h' x := by
  subst hp
  have hml := W.1.2.2.1
  have hEL := W.el
  have H := W.chv
  refine W.called (G := fun v => mkF m (pc + 3) L (v.toList ++ rest)) hq hsf hc hs fun T locs X eT hx hby hZ hown => ?_
  exact Jvm.LawKit.callS X hx (y := y) hown (mvT hZ w1) (mvT hZ w2) (mvT hZ w3) (mvT hZ w4) hy (con.back hZ w4 w3 hf hl hEL H hsf) (g := mkF m pc L stk) rfl (hL.trans hml.symm) (argsL := argsL) (rest := rest) hlen hstk (by subst hW; show 2 * 0 + _ ≤ _; exact Nat.le_of_eq (Nat.zero_add _)) (hb hby hd) (fun _ _ => ⟨rfl, eT, by rw [← hc] at hc'; exact hc', by rw [← hs] at hs'; exact hs'⟩)
theorem Wk.callI {a : Addr} (W : Wk p l e R s m args below meth c bytes mxl rt Z a0 EL own n0 h0 ws S0 V h cells slots (mkF m pc L stk)) (hd : decode bytes pc = .ok (.invokespecial index, 3)) (con : Con l Z EL n0 y bytes' mxl' none rm (.ref a :: argsL).toArray h ws' Q []) (hy1 : y.name = "<init>") (w1 : (Jvm.Cond.methodLink own index y).before a0 Z = true) (w2 : (Jvm.Cond.instanceMethod y).before a0 Z = true) (w3 : (Jvm.Cond.initialized y.cls).before a0 Z = true) (w4 : (Jvm.Cond.code y bytes' mxl' none).before a0 Z = true) (hy : y.cls ≠ "java/lang/invoke/MethodHandle" ∧ y.cls ≠ "java/lang/invoke/VarHandle") (hlen : ∀ sig, parseMethodDescriptor y.desc = some sig → argsL.length = sig.parameters.length) (hstk : stk = argsL.reverse ++ .ref a :: rest) (hW : (rest.map fun v => v.category).sum = Wd) (hf : rm.frames + 1 ≤ R.frames) (hl : Wd + (mxl' + 11) + rm.locals ≤ R.locals) (hL : L.size = mxl) (hsf : ∀ x ∈ ws', Safe Z EL V h x) (hq : ∀ x ∈ ws', x ∈ ws ∨ h0.size ≤ x) (hp : pc + 3 = pc') (hc : cells + rm.cells = cells') (hs : slots + rm.slots = slots') (hc' : cells' ≤ R.cells) (hs' : slots' ≤ R.slots) :
    ∃ V' h' v, Wk p l e R s m args below meth c bytes mxl rt Z a0 EL own n0 h0 ws S0 V' h' cells' slots' (mkF m pc' L (v.toList ++ rest)) ∧ Keep h h' ws' ∧ (∃ V2, Q v h' V2) ∧ ∀ x, x < h.size → Safe Z EL V h x → Safe Z EL V' h' x := by
  subst hp
  have hml := W.1.2.2.1
  have hEL := W.el
  have H := W.chv
  refine W.called (G := fun v => mkF m (pc + 3) L (v.toList ++ rest)) hq hsf hc hs fun T locs X eT hx hby hZ hown => ?_
  obtain ⟨v, vm₁, B, g1, g2, g3, g4⟩ := X.specialBack hx (y := y) hy1 hown (mvT hZ w1) (mvT hZ w2) (mvT hZ w4) hy (con.back hZ w4 w3 hf hl hEL H hsf) (g := mkF m pc L stk) rfl (hL.trans hml.symm) (Steps.refl _) (a := a) (argsL := argsL) (rest := rest) hlen hstk (by subst hW; show 2 * 0 + _ ≤ _; exact Nat.le_of_eq (Nat.zero_add _)) (hb hby hd) (fun _ _ => ⟨rfl, eT, by rw [← hc] at hc'; exact hc', by rw [← hs] at hs'; exact hs'⟩)
  exact ⟨v, vm₁, B, g1, g2, g3, fun t k => g4.trans k⟩
theorem Wk.callV {a : Addr} {C : String} (W : Wk p l e R s m args below meth c bytes mxl rt Z a0 EL own n0 h0 ws S0 V h cells slots (mkF m pc L stk)) (hd : decode bytes pc = .ok (.invokevirtual index, 3)) (con : Con l Z EL n0 z bytes' mxl' rt' rm (.ref a :: argsL).toArray h ws' Q []) (E : Exa Z h a C) (w1 : (Jvm.Cond.methodLink own index y).before a0 Z = true) (wd : (Jvm.Cond.declares y).before a0 Z = true) (wn : (Jvm.Cond.selects C y y).before a0 Z = true ∨ ∃ S, (Jvm.Cond.superclass y.cls S).before a0 Z = true) (ws1 : (Jvm.Cond.selects C y z).before a0 Z = true) (w2 : (Jvm.Cond.instanceMethod z).before a0 Z = true) (w3 : (Jvm.Cond.initialized z.cls).before a0 Z = true) (w4 : (Jvm.Cond.code z bytes' mxl' rt').before a0 Z = true) (hy : y.cls ≠ "java/lang/invoke/MethodHandle" ∧ y.cls ≠ "java/lang/invoke/VarHandle") (hlen : ∀ sig, parseMethodDescriptor y.desc = some sig → argsL.length = sig.parameters.length) (hstk : stk = argsL.reverse ++ .ref a :: rest) (hW : (rest.map fun v => v.category).sum = Wd) (hf : rm.frames + 1 ≤ R.frames) (hl : Wd + (mxl' + 11) + rm.locals ≤ R.locals) (hL : L.size = mxl) (hsf : ∀ x ∈ ws', Safe Z EL V h x) (hq : ∀ x ∈ ws', x ∈ ws ∨ h0.size ≤ x) (hp : pc + 3 = pc') (hc : cells + rm.cells = cells') (hs : slots + rm.slots = slots') (hc' : cells' ≤ R.cells) (hs' : slots' ≤ R.slots) :
    ∃ V' h' v, Wk p l e R s m args below meth c bytes mxl rt Z a0 EL own n0 h0 ws S0 V' h' cells' slots' (mkF m pc' L (v.toList ++ rest)) ∧ Keep h h' ws' ∧ (∃ V2, Q v h' V2) ∧ ∀ x, x < h.size → Safe Z EL V h x → Safe Z EL V' h' x := by
  subst hp
  have hml := W.1.2.2.1
  have hEL := W.el
  have H := W.chv
  refine W.called (G := fun v => mkF m (pc + 3) L (v.toList ++ rest)) hq hsf hc hs fun T locs X eT hx hby hZ hown => ?_
  obtain ⟨cB, kB, q1, q2, q3⟩ := isOf hZ eT E
  have hnf : NotFace (s.setVm V) y := wn.elim (fun w => notFace_of_selects (args := #[]) (mvT hZ w)) (fun ⟨S, w⟩ => nf_super (args := #[]) (mvT hZ w))
  obtain ⟨v, vm₁, B, g1, g2, g3, g4⟩ := X.virtualBack hx (y := y) (z := z) hown (mvT hZ w1) (mvT hZ wd) hnf (mvT hZ ws1) (mvT hZ w2) hy (con.back hZ w4 w3 hf hl hEL H hsf) q1 q3 (g := mkF m pc L stk) rfl (hL.trans hml.symm) (Steps.refl _) (argsL := argsL) (rest := rest) hlen hstk (by subst hW; show 2 * 0 + _ ≤ _; exact Nat.le_of_eq (Nat.zero_add _)) (hb hby hd) (fun _ _ => ⟨rfl, eT, by rw [← hc] at hc'; exact hc', by rw [← hs] at hs'; exact hs'⟩)
  exact ⟨v, vm₁, B, g1, g2, g3, fun t k => g4.trans k⟩
/-- a private method, called by invokevirtual -/
theorem Wk.callP {a : Addr} {C : String} (W : Wk p l e R s m args below meth c bytes mxl rt Z a0 EL own n0 h0 ws S0 V h cells slots (mkF m pc L stk)) (hd : decode bytes pc = .ok (.invokevirtual index, 3)) (con : Con l Z EL n0 y bytes' mxl' rt' rm (.ref a :: argsL).toArray h ws' Q []) (E : Exa Z h a C) (w1 : (Jvm.Cond.methodLink own index y).before a0 Z = true) (w2 : (Jvm.Cond.instanceMethod y).before a0 Z = true) (ws1 : (Jvm.Cond.selects y.cls y y).before a0 Z = true) (wp : (Jvm.Cond.privateMethod y).before a0 Z = true) (w3 : (Jvm.Cond.initialized y.cls).before a0 Z = true) (w4 : (Jvm.Cond.code y bytes' mxl' rt').before a0 Z = true) (hy : y.cls ≠ "java/lang/invoke/MethodHandle" ∧ y.cls ≠ "java/lang/invoke/VarHandle") (hlen : ∀ sig, parseMethodDescriptor y.desc = some sig → argsL.length = sig.parameters.length) (hstk : stk = argsL.reverse ++ .ref a :: rest) (hW : (rest.map fun v => v.category).sum = Wd) (hf : rm.frames + 1 ≤ R.frames) (hl : Wd + (mxl' + 11) + rm.locals ≤ R.locals) (hL : L.size = mxl) (hsf : ∀ x ∈ ws', Safe Z EL V h x) (hq : ∀ x ∈ ws', x ∈ ws ∨ h0.size ≤ x) (hp : pc + 3 = pc') (hc : cells + rm.cells = cells') (hs : slots + rm.slots = slots') (hc' : cells' ≤ R.cells) (hs' : slots' ≤ R.slots) :
    ∃ V' h' v, Wk p l e R s m args below meth c bytes mxl rt Z a0 EL own n0 h0 ws S0 V' h' cells' slots' (mkF m pc' L (v.toList ++ rest)) ∧ Keep h h' ws' ∧ (∃ V2, Q v h' V2) ∧ ∀ x, x < h.size → Safe Z EL V h x → Safe Z EL V' h' x := by
  subst hp
  have hml := W.1.2.2.1
  have hEL := W.el
  have H := W.chv
  refine W.called (G := fun v => mkF m (pc + 3) L (v.toList ++ rest)) hq hsf hc hs fun T locs X eT hx hby hZ hown => ?_
  obtain ⟨cl, q1, q2⟩ := (Ins.self E).cell
  obtain ⟨v, vm₁, B, g1, g2, g3, g4⟩ := X.privateBack hx (y := y) hown (mvT hZ w1) (mvT hZ w2) (mvT hZ ws1) (Cond.privateMethod_at (mvP hZ wp (args := #[]))) (mvT hZ w4) hy (con.back hZ w4 w3 hf hl hEL H hsf) (g := mkF m pc L stk) rfl (hL.trans hml.symm) (Steps.refl _) (a := a) (by rw [eT]; exact q1) q2 (argsL := argsL) (rest := rest) hlen hstk (by subst hW; show 2 * 0 + _ ≤ _; exact Nat.le_of_eq (Nat.zero_add _)) (hb hby hd) (fun _ _ => ⟨rfl, eT, by rw [← hc] at hc'; exact hc', by rw [← hs] at hs'; exact hs'⟩)
  exact ⟨v, vm₁, B, g1, g2, g3, fun t k => g4.trans k⟩
/-- .. the entry names a subclass of the declaring one -/
theorem Wk.callU {a : Addr} {C owner : String} (W : Wk p l e R s m args below meth c bytes mxl rt Z a0 EL own n0 h0 ws S0 V h cells slots (mkF m pc L stk)) (hd : decode bytes pc = .ok (.invokevirtual index, 3)) (con : Con l Z EL n0 z bytes' mxl' rt' rm (.ref a :: argsL).toArray h ws' Q []) (E : Exa Z h a C) (w1 : (Jvm.Cond.methodLink own index y).before a0 Z = true) (wsm : (Jvm.Cond.sameMethod y.cls owner y.name y.desc).before a0 Z = true) (wd : (Jvm.Cond.declares ⟨owner, y.name, y.desc⟩).before a0 Z = true) (how : owner ≠ "java/lang/invoke/MethodHandle" ∧ owner ≠ "java/lang/invoke/VarHandle") (ws1 : (Jvm.Cond.selects C y z).before a0 Z = true) (w2 : (Jvm.Cond.instanceMethod z).before a0 Z = true) (w3 : (Jvm.Cond.initialized z.cls).before a0 Z = true) (w4 : (Jvm.Cond.code z bytes' mxl' rt').before a0 Z = true) (hlen : ∀ sig, parseMethodDescriptor y.desc = some sig → argsL.length = sig.parameters.length) (hstk : stk = argsL.reverse ++ .ref a :: rest) (hW : (rest.map fun v => v.category).sum = Wd) (hf : rm.frames + 1 ≤ R.frames) (hl : Wd + (mxl' + 11) + rm.locals ≤ R.locals) (hL : L.size = mxl) (hsf : ∀ x ∈ ws', Safe Z EL V h x) (hq : ∀ x ∈ ws', x ∈ ws ∨ h0.size ≤ x) (hp : pc + 3 = pc') (hc : cells + rm.cells = cells') (hs : slots + rm.slots = slots') (hc' : cells' ≤ R.cells) (hs' : slots' ≤ R.slots) :
    ∃ V' h' v, Wk p l e R s m args below meth c bytes mxl rt Z a0 EL own n0 h0 ws S0 V' h' cells' slots' (mkF m pc' L (v.toList ++ rest)) ∧ Keep h h' ws' ∧ (∃ V2, Q v h' V2) ∧ ∀ x, x < h.size → Safe Z EL V h x → Safe Z EL V' h' x := by
  subst hp
  have hml := W.1.2.2.1
  have hEL := W.el
  have H := W.chv
  refine W.called (G := fun v => mkF m (pc + 3) L (v.toList ++ rest)) hq hsf hc hs fun T locs X eT hx hby hZ hown => ?_
  obtain ⟨cB, kB, q1, q2, q3⟩ := isOf hZ eT E
  obtain ⟨v, vm₁, B, g1, g2, g3, g4⟩ := X.virtualBackUp hx (x := y) (y := z) hown (mvT hZ w1) (mvT hZ wsm) (mvT hZ wd) how (mvT hZ ws1) (mvT hZ w2) (con.back hZ w4 w3 hf hl hEL H hsf) q1 q3 (g := mkF m pc L stk) rfl (hL.trans hml.symm) (Steps.refl _) (argsL := argsL) (rest := rest) hlen hstk (by subst hW; show 2 * 0 + _ ≤ _; exact Nat.le_of_eq (Nat.zero_add _)) (hb hby hd) (fun _ _ => ⟨rfl, eT, by rw [← hc] at hc'; exact hc', by rw [← hs] at hs'; exact hs'⟩)
  exact ⟨v, vm₁, B, g1, g2, g3, fun t k => g4.trans k⟩
end Calls
theorem safe0 {V : Vm} {a : Addr} : Safe Z [] V h a := fun B => by obtain ⟨p, hp, -⟩ := B; cases hp
end Layer


def lst (n : Nat) (g : Nat → Int64) : List Value := (List.range n).map fun i => Value.long (g i)
def zf : Nat → Int64 := fun _ => 0
def upd (g : Nat → Int64) (i : Nat) (v : Int64) : Nat → Int64 := fun j => if j = i then v else g j
theorem own_lst_set (n : Nat) (g : Nat → Int64) (i : Nat) (v : Int64) : (lst n g).set i (.long v) = lst n (upd g i v) := by
  refine List.ext_getElem (by simp [lst]) fun j h1 h2 => ?_
  simp only [lst, upd, List.getElem_set, List.getElem_map, List.getElem_range]
  by_cases q : i = j
  · subst q; simp
  · have q' : ¬ j = i := fun z => q z.symm
    simp [q, q']
theorem own_lst_get {n i : Nat} {g : Nat → Int64} {dv : Value} (h : i < n) : (lst n g).getD i dv = .long (g i) := by
  simp [lst, List.getD, h]
theorem own_lst_len (n : Nat) (g : Nat → Int64) : (lst n g).length = n := by simp [lst]
theorem own_lst_z (n i : Nat) : (lst n zf).getD i (.long (0 : Int64)) = ([] : List Value).getD i (.long (0 : Int64)) := by
  by_cases h : i < n
  · rw [own_lst_get h]; rfl
  · simp [lst, List.getD, h]
theorem own_lst0 {Z : State} {h : Heap} {a : Addr} {k : ClassId} {z : Int32} {n : Nat} (A : Arv Z h a k .long z [] (.long (0 : Int64))) : Arv Z h a k .long z (lst n zf) (.long (0 : Int64)) := A.pad (own_lst_z n)
theorem own_cg {Z : State} {h : Heap} {a : Addr} {k : ClassId} {z : Int32} {n : Nat} {g g' : Nat → Int64} {dv : Value} (A : Arv Z h a k .long z (lst n g) dv) (q : ∀ i, i < n → g i = g' i) : Arv Z h a k .long z (lst n g') dv := by
  have e : lst n g = lst n g' := List.map_congr_left fun i hi => by rw [q i (List.mem_range.mp hi)]
  rw [← e]; exact A
theorem own_irr (x : Int32) : ¬ x < x := by rw [Int32.lt_iff_toInt_lt]; omega
theorem own_toInt {X : Nat} (h : X < 2147483648) : (Int32.ofNat X).toInt = X := Int32.toInt_ofNat_of_lt (by omega)
theorem own_lt {X Y : Nat} (hX : X < 2147483648) (hY : Y < 2147483648) (h : X < Y) : Int32.ofNat X < Int32.ofNat Y := by
  rw [Int32.lt_iff_toInt_lt, own_toInt hX, own_toInt hY]; omega
theorem own_nlt {X Y : Nat} (hX : X < 2147483648) (hY : Y < 2147483648) (h : Y ≤ X) : ¬ Int32.ofNat X < Int32.ofNat Y := by
  rw [Int32.lt_iff_toInt_lt, own_toInt hX, own_toInt hY]; omega
theorem own_ofNat_inj {X Y : Nat} (hX : X < 2147483648) (hY : Y < 2147483648) (h : Int32.ofNat X = Int32.ofNat Y) : X = Y := by
  have q := congrArg Int32.toInt h
  rw [own_toInt hX, own_toInt hY] at q; omega
theorem own_ne {X Y : Nat} (hX : X < 2147483648) (hY : Y < 2147483648) (h : ¬ X = Y) : ¬ Int32.ofNat X = Int32.ofNat Y := fun q => h (own_ofNat_inj hX hY q)
theorem own_nn {X : Nat} (hX : X < 2147483648) : ¬ Int32.ofNat X < (0 : Int32) := own_nlt (Y := 0) hX (by omega) (by omega)
theorem own_pos {X : Nat} (hX : X + 1 < 2147483648) : (0 : Int32) < Int32.ofNat (X + 1) := own_lt (X := 0) (by omega) hX (by omega)
theorem own_add1 (X : Nat) : Int32.ofNat X + (1 : Int32) = Int32.ofNat (X + 1) := by rw [Int32.ofNat_add]; rfl
theorem own_sub1 (X : Nat) : Int32.ofNat (X + 1) - (1 : Int32) = Int32.ofNat X := by rw [← own_add1, Int32.add_sub_cancel]
theorem own_clamp {X : Nat} (h : X < 2147483648) : (Int32.ofNat X).toNatClampNeg = X := by
  show (Int32.ofNat X).toInt.toNat = X
  rw [own_toInt h]; omega
theorem own_shr6 {X : Nat} (h : X < 2147483648) : Int32.ofNat X >>> ((6 : Int32) &&& 31) = Int32.ofNat (X / 64) := by
  apply Int32.toBitVec_inj.mp
  rw [Int32.toBitVec_shiftRight]
  show (BitVec.ofNat 32 X).sshiftRight 6 = BitVec.ofNat 32 (X / 64)
  have hm : (BitVec.ofNat 32 X).msb = false := by
    rw [BitVec.msb_eq_decide]; simp only [BitVec.toNat_ofNat]; simp; omega
  rw [BitVec.sshiftRight_eq_of_msb_false hm]
  apply BitVec.eq_of_toNat_eq
  simp only [BitVec.toNat_ushiftRight, BitVec.toNat_ofNat, Nat.shiftRight_eq_div_pow]
  omega
theorem own_icp {X : Nat} (h : X < 1114112) : Jvm.Free.XT.ushr (Int32.ofNat X) (16 : Int32) < (17 : Int32) := by
  have e : Jvm.Free.XT.ushr (Int32.ofNat X) (16 : Int32) = Int32.ofNat (X / 65536) := by
    apply Int32.toBitVec_inj.mp
    show (BitVec.ofNat 32 X) >>> 16 = BitVec.ofNat 32 (X / 65536)
    apply BitVec.eq_of_toNat_eq
    simp only [BitVec.toNat_ushiftRight, BitVec.toNat_ofNat, Nat.shiftRight_eq_div_pow]
    omega
  rw [e]; exact own_lt (Y := 17) (by omega) (by omega) (by omega)
def lom (F : Nat) : Int64 := (-1 : Int64) <<< ((Int32.ofNat F).toInt64 &&& 63)
def him (G : Nat) : Int64 := Jvm.Free.XT.ushrL (-1 : Int64) (-(Int32.ofNat (G + 1)))
def wf (F G i : Nat) : Int64 := (if i = F / 64 then lom F else if i < F / 64 then 0 else -1) &&& (if i = G / 64 then him G else if i < G / 64 then -1 else 0)
def fl (F t i : Nat) : Int64 := if i = F / 64 then lom F else if F / 64 < i ∧ i < t then -1 else 0
theorem own_or0 (x : Int64) : (0 : Int64) ||| x = x := by simp
theorem own_andm1 (x : Int64) : x &&& (-1 : Int64) = x := by simp
theorem own_m1and (x : Int64) : (-1 : Int64) &&& x = x := by simp
theorem own_0and (x : Int64) : (0 : Int64) &&& x = 0 := by simp
theorem own_w1 {F G : Nat} (h : F / 64 = G / 64) : ∀ i, i < G / 64 + 1 → upd zf (F / 64) ((0 : Int64) ||| (lom F &&& him G)) i = wf F G i := fun i hi => by
  unfold upd zf wf
  by_cases q : i = F / 64
  · rw [if_pos q, if_pos q, if_pos (q.trans h), own_or0]
  · have q2 : i < F / 64 := by omega
    rw [if_neg q, if_neg q, if_pos q2, own_0and]
theorem own_fl0 {F N : Nat} : ∀ i, i < N → upd zf (F / 64) ((0 : Int64) ||| lom F) i = fl F (F / 64 + 1) i := fun i hi => by
  unfold upd zf fl
  by_cases q : i = F / 64
  · rw [if_pos q, if_pos q, own_or0]
  · have q2 : ¬ (F / 64 < i ∧ i < F / 64 + 1) := by omega
    rw [if_neg q, if_neg q, if_neg q2]
theorem own_flS {F t N : Nat} (h : F / 64 < t) : ∀ i, i < N → upd (fl F t) t (-1 : Int64) i = fl F (t + 1) i := fun i hi => by
  unfold upd fl
  by_cases q : i = t
  · subst q
    have q1 : ¬ i = F / 64 := by omega
    have q2 : F / 64 < i ∧ i < i + 1 := by omega
    rw [if_pos rfl, if_neg q1, if_pos q2]
  · rw [if_neg q]
    by_cases q1 : i = F / 64
    · rw [if_pos q1, if_pos q1]
    · rw [if_neg q1, if_neg q1]
      by_cases q2 : F / 64 < i ∧ i < t
      · rw [if_pos q2, if_pos ⟨q2.1, by omega⟩]
      · rw [if_neg q2, if_neg (by omega)]
theorem own_fl_at {F t : Nat} (h : F / 64 < t) : fl F t t = 0 := by
  unfold fl; rw [if_neg (by omega), if_neg (by omega)]
theorem own_flX {F G : Nat} (h : F / 64 < G / 64) : ∀ i, i < G / 64 + 1 → upd (fl F (G / 64)) (G / 64) ((0 : Int64) ||| him G) i = wf F G i := fun i hi => by
  unfold upd fl wf
  by_cases q : i = G / 64
  · subst q
    rw [if_pos rfl, if_neg (by omega), if_neg (by omega), if_pos rfl, own_or0, own_m1and]
  · rw [if_neg q, if_neg q, if_pos (by omega : i < G / 64), own_andm1]
    by_cases q1 : i = F / 64
    · rw [if_pos q1, if_pos q1]
    · rw [if_neg q1, if_neg q1]
      by_cases q2 : i < F / 64
      · rw [if_pos q2, if_neg (by omega)]
      · rw [if_neg q2, if_pos (by omega)]
def ctn (N : Nat) (g : Nat → Int64) (x : Int32) : Int32 := if Jvm.Free.XT.ushr x (6 : Int32) < Int32.ofNat N then (if Jvm.Free.XT.cmpL (g (Jvm.Free.XT.ushr x (6 : Int32)).toNatClampNeg &&& ((1 : Int64) <<< (x.toInt64 &&& 63))) (0 : Int64) = (0 : Int32) then 0 else 1) else 0
def inr (f q x : Int32) : Int32 := if x < f then 0 else if q < x then 0 else 1
def bc1 (x : Int64) : Int64 := x - (Jvm.Free.XT.ushrL x (1 : Int32) &&& (6148914691236517205 : Int64))
def bc2 (x : Int64) : Int64 := (x &&& (3689348814741910323 : Int64)) + (Jvm.Free.XT.ushrL x (2 : Int32) &&& (3689348814741910323 : Int64))
def bc3 (x : Int64) : Int64 := (x + Jvm.Free.XT.ushrL x (4 : Int32)) &&& (1085102592571150095 : Int64)
def bc4 (x : Int64) : Int64 := x + Jvm.Free.XT.ushrL x (8 : Int32)
def bc5 (x : Int64) : Int64 := x + Jvm.Free.XT.ushrL x (16 : Int32)
def bc6 (x : Int64) : Int64 := x + Jvm.Free.XT.ushrL x (32 : Int32)
def bcf (x : Int64) : Int32 := (bc6 (bc5 (bc4 (bc3 (bc2 (bc1 x)))))).toInt32 &&& (127 : Int32)
def szf (g : Nat → Int64) : Nat → Int32
  | 0 => 0
  | t + 1 => szf g t + bcf (g t)
theorem own_ushr6 (x : Int32) : Jvm.Free.XT.ushr x (6 : Int32) = Int32.ofNat (x.toUInt32.toNat / 64) := by
  apply Int32.toBitVec_inj.mp
  show x.toBitVec >>> 6 = BitVec.ofNat 32 (x.toBitVec.toNat / 64)
  apply BitVec.eq_of_toNat_eq
  have hx := x.toBitVec.isLt
  simp only [BitVec.toNat_ushiftRight, BitVec.toNat_ofNat, Nat.shiftRight_eq_div_pow]
  omega
theorem own_ushr6_lt (x : Int32) : x.toUInt32.toNat / 64 < 67108864 := by
  have hx := x.toUInt32.toBitVec.isLt
  have e : x.toUInt32.toNat = x.toUInt32.toBitVec.toNat := rfl
  omega
theorem own_ushr6_nn (x : Int32) : ¬ Jvm.Free.XT.ushr x (6 : Int32) < 0 := by rw [own_ushr6]; exact own_nn (by have := own_ushr6_lt x; omega)
theorem own_ushr6_in {x : Int32} {N : Nat} (hN : N < 2147483648) (h : Jvm.Free.XT.ushr x (6 : Int32) < Int32.ofNat N) : (Jvm.Free.XT.ushr x (6 : Int32)).toNatClampNeg < N := by
  have q := own_ushr6_lt x
  rw [own_ushr6] at h ⊢
  rw [own_clamp (by omega)]
  rw [Int32.lt_iff_toInt_lt, own_toInt (by omega), own_toInt hN] at h
  omega

theorem own_addsub (a b : Int32) : a + b - a = b := by
  rw [Int32.add_comm, Int32.add_sub_cancel]
theorem own_div {X m : Nat} (hX : X < 2147483648) (hm : 0 < m) (hm' : m < 2147483648) : Int32.ofNat X / Int32.ofNat m = Int32.ofNat (X / m) := by
  apply Int32.toInt_inj.mp
  have hq : X / m ≤ X := Nat.div_le_self _ _
  rw [Int32.toInt_div, own_toInt hX, own_toInt hm', own_toInt (by omega)]
  have e : ((X : Int).tdiv (m : Int)) = ((X / m : Nat) : Int) := by
    rw [Int.tdiv_eq_ediv_of_nonneg (by omega)]; rfl
  rw [e]
  have h1 : ((X / m : Nat) : Int) ≤ X := by exact_mod_cast hq
  have h2 : (0 : Int) ≤ ((X / m : Nat) : Int) := Int.natCast_nonneg _
  generalize ((X / m : Nat) : Int) = y at *
  rw [Int.bmod_eq_of_le (by omega) (by omega)]
theorem own_masked (a : Int32) : ∃ X : Nat, X < 2147483648 ∧ (a &&& (2147483647 : Int32)) = Int32.ofNat X := by
  obtain ⟨q1, q2⟩ := c_and a 2147483647 (by decide)
  have e1 : (2147483647 : Int32).toInt = 2147483647 := rfl
  refine ⟨(a &&& 2147483647).toInt.toNat, by omega, ?_⟩
  apply Int32.toInt_inj.mp
  rw [own_toInt (by omega)]
  omega
theorem own_rem {a : Int32} {m : Nat} (hm : 0 < m) (hm' : m < 2147483648) : ∃ r : Nat, r < m ∧ (a &&& (2147483647 : Int32)) - (a &&& (2147483647 : Int32)) / Int32.ofNat m * Int32.ofNat m = Int32.ofNat r := by
  obtain ⟨X, hX, eX⟩ := own_masked a
  rw [eX]
  refine ⟨X % m, Nat.mod_lt _ hm, ?_⟩
  rw [own_div hX hm hm', ← Int32.ofNat_mul]
  have hs : X = X / m * m + X % m := by rw [Nat.mul_comm]; exact (Nat.div_add_mod X m).symm
  have e2 : Int32.ofNat X = Int32.ofNat (X / m * m) + Int32.ofNat (X % m) := by rw [← Int32.ofNat_add, ← hs]
  rw [e2, own_addsub]
theorem own_rem1 (a : Int32) : ∃ F : Nat, F < 1114112 ∧ ((a &&& (2147483647 : Int32)) - ((a &&& (2147483647 : Int32)) / (1114112 : Int32)) * (1114112 : Int32)) = Int32.ofNat F := own_rem (m := 1114112) (by omega) (by omega)
theorem own_subF {F : Nat} (h : F < 1114112) : (1114112 : Int32) - Int32.ofNat F = Int32.ofNat (1114112 - F) := by
  apply Int32.toInt_inj.mp
  rw [Int32.toInt_sub, own_toInt (by omega), own_toInt (by omega)]
  have e : (1114112 : Int32).toInt = 1114112 := rfl
  rw [e, Int.bmod_eq_of_le (by omega) (by omega)]; omega
theorem own_nz {F : Nat} (h : F < 1114112) : ¬ Int32.ofNat (1114112 - F) = (0 : Int32) := own_ne (Y := 0) (by omega) (by omega) (by omega)
theorem own_sum {F D : Nat} (hF : F < 1114112) (hD : D < 1114112 - F) : ∃ G : Nat, F ≤ G ∧ G < 1114112 ∧ Int32.ofNat F + Int32.ofNat D = Int32.ofNat G := ⟨F + D, by omega, by omega, (Int32.ofNat_add F D).symm⟩
theorem own_shamt (X : Nat) : (Int32.ofNat X).toInt64 &&& 63 = Int64.ofNat (X % 64) := by
  apply Int64.toBitVec_inj.mp
  show (BitVec.ofNat 32 X).signExtend 64 &&& (63#64) = BitVec.ofNat 64 (X % 64)
  apply BitVec.eq_of_getLsbD_eq
  intro i hi
  have e63 : (63#64).getLsbD i = decide (i < 6) := by
    have : ∀ i : Fin 64, (63#64).getLsbD i.val = decide (i.val < 6) := by decide +kernel
    exact this ⟨i, hi⟩
  have e : X % 64 = X % 2 ^ 6 := rfl
  rw [BitVec.getLsbD_and, e63, BitVec.getLsbD_signExtend, BitVec.getLsbD_ofNat, BitVec.getLsbD_ofNat, e, Nat.testBit_mod_two_pow]
  by_cases q : i < 6
  · have q32 : i < 32 := by omega
    simp [q, q32, hi]
  · simp [q, hi]
def lo6 (k : Nat) : Int64 := (-1 : Int64) <<< (Int64.ofNat k)
def hi6 (k : Nat) : Int64 := Jvm.Free.XT.ushrL (-1 : Int64) (Int32.ofNat (63 - k))
theorem lom_eq (F : Nat) : lom F = lo6 (F % 64) := by unfold lom lo6; rw [own_shamt]
theorem own_ushrL (x : Int64) (y : Int32) : Jvm.Free.XT.ushrL x y = (x.toUInt64 >>> (y.toInt64.toUInt64 &&& Int64.toUInt64 63)).toInt64 := rfl
theorem him_eq (G : Nat) : him G = hi6 (G % 64) := by
  unfold him hi6
  rw [own_ushrL, own_ushrL]
  have e : (-(Int32.ofNat (G + 1))).toInt64.toUInt64 &&& Int64.toUInt64 63 = (Int32.ofNat (63 - G % 64)).toInt64.toUInt64 &&& Int64.toUInt64 63 := by
    have e1 : (Int32.ofNat (63 - G % 64)).toInt64 &&& 63 = Int64.ofNat (63 - G % 64) := by rw [own_shamt, Nat.mod_eq_of_lt (by omega)]
    have e2 : -(Int32.ofNat (G + 1)) = Int32.ofNat (4294967295 - G % 4294967296) := by
      apply Int32.toBitVec_inj.mp
      show -(BitVec.ofNat 32 (G + 1)) = BitVec.ofNat 32 (4294967295 - G % 4294967296)
      apply BitVec.eq_of_toNat_eq
      simp only [BitVec.toNat_neg, BitVec.toNat_ofNat]
      omega
    have e3 : (-(Int32.ofNat (G + 1))).toInt64 &&& 63 = Int64.ofNat (63 - G % 64) := by
      rw [e2, own_shamt]
      congr 1
      omega
    have := e3.trans e1.symm
    exact congrArg Int64.toUInt64 this
  rw [e]
def bitN (x : Int64) (s : Nat) : Bool := x.toBitVec.getLsbD s
theorem bit_lo : ∀ k s : Fin 64, bitN (lo6 k.val) s.val = decide (k.val ≤ s.val) := by decide +kernel
theorem bit_hi : ∀ k s : Fin 64, bitN (hi6 k.val) s.val = decide (s.val ≤ k.val) := by decide +kernel
theorem bit_m1 : ∀ s : Fin 64, bitN (-1) s.val = true := by decide +kernel
theorem bit_0 (s : Nat) : bitN 0 s = false := by simp [bitN]
theorem bit_and (x y : Int64) (s : Nat) : bitN (x &&& y) s = (bitN x s && bitN y s) := by simp [bitN]
theorem bit_one : ∀ s i : Fin 64, bitN ((1 : Int64) <<< Int64.ofNat s.val) i.val = decide (i.val = s.val) := by decide +kernel
theorem bit_test (x : Int64) (s : Fin 64) : (x &&& ((1 : Int64) <<< Int64.ofNat s.val) = 0) ↔ bitN x s.val = false := by
  constructor
  · intro h
    have q := congrArg (fun z => bitN z s.val) h
    simp only [bit_and, bit_one, bit_0, decide_true, Bool.and_true] at q
    exact q
  · intro h
    apply Int64.toBitVec_inj.mp
    apply BitVec.eq_of_getLsbD_eq
    intro i hi
    show bitN (x &&& ((1 : Int64) <<< Int64.ofNat s.val)) i = bitN 0 i
    rw [bit_and, bit_0, bit_one s ⟨i, hi⟩]
    by_cases q : i = s.val
    · subst q; simp [h]
    · simp [q]
theorem bit_wf {F G i s : Nat} (hi : i < G / 64 + 1) (hs : s < 64) : bitN (wf F G i) s = decide (F ≤ 64 * i + s ∧ 64 * i + s ≤ G) := by
  unfold wf
  rw [bit_and]
  have hF := Nat.mod_lt F (by omega : 64 > 0)
  have hG := Nat.mod_lt G (by omega : 64 > 0)
  have dF := Nat.div_add_mod F 64
  have dG := Nat.div_add_mod G 64
  have e1 : bitN (if i = F / 64 then lom F else if i < F / 64 then 0 else -1) s = decide (F ≤ 64 * i + s) := by
    by_cases q : i = F / 64
    · rw [if_pos q, lom_eq, bit_lo ⟨F % 64, hF⟩ ⟨s, hs⟩]; simp only [decide_eq_decide]; omega
    · rw [if_neg q]
      by_cases q2 : i < F / 64
      · rw [if_pos q2, bit_0]; symm; rw [decide_eq_false_iff_not]; omega
      · rw [if_neg q2, bit_m1 ⟨s, hs⟩]; symm; rw [decide_eq_true_iff]; omega
  have e2 : bitN (if i = G / 64 then him G else if i < G / 64 then -1 else 0) s = decide (64 * i + s ≤ G) := by
    by_cases q : i = G / 64
    · rw [if_pos q, him_eq, bit_hi ⟨G % 64, hG⟩ ⟨s, hs⟩]; simp only [decide_eq_decide]; omega
    · rw [if_neg q, if_pos (by omega : i < G / 64), bit_m1 ⟨s, hs⟩]; symm; rw [decide_eq_true_iff]; omega
  rw [e1, e2]; exact (Bool.decide_and _ _).symm
theorem own_cmpL (x y : Int64) : Jvm.Free.XT.cmpL x y = if y < x then 1 else if x = y then 0 else -1 := rfl
theorem cmpL0 (x : Int64) : Jvm.Free.XT.cmpL x (0 : Int64) = (0 : Int32) ↔ x = 0 := by
  rw [own_cmpL]
  by_cases h1 : (0 : Int64) < x
  · rw [if_pos h1]
    constructor
    · intro h; exact absurd h (by decide)
    · intro h; subst h; exact absurd h1 (by decide)
  · rw [if_neg h1]
    by_cases h2 : x = 0
    · rw [if_pos h2]; exact ⟨fun _ => h2, fun _ => rfl⟩
    · rw [if_neg h2]; exact ⟨fun h => absurd h (by decide), fun h => absurd h h2⟩
theorem own_ctn {F G : Nat} (hFG : F ≤ G) (hG : G < 1114112) (x : Int32) : ctn (G / 64 + 1) (wf F G) x = inr (Int32.ofNat F) (Int32.ofNat G) x := by
  have hX := x.toUInt32.toBitVec.isLt
  have hxe : x = Int32.ofNat x.toUInt32.toNat := by
    apply Int32.toBitVec_inj.mp
    show x.toBitVec = BitVec.ofNat 32 x.toBitVec.toNat
    simp
  have hlt : x.toUInt32.toNat < 4294967296 := x.toUInt32.toNat_lt
  unfold ctn
  rw [own_ushr6]
  generalize hXd : x.toUInt32.toNat = X at *
  by_cases q : X / 64 < G / 64 + 1
  · have hX31 : X < 2147483648 := by omega
    rw [if_pos (own_lt (by omega) (by omega) q), own_clamp (by omega)]
    have e6 : (x.toInt64 &&& 63) = Int64.ofNat (X % 64) := by rw [hxe, own_shamt]
    rw [e6]
    have ht := bit_test (wf F G (X / 64)) ⟨X % 64, Nat.mod_lt _ (by omega)⟩
    have hb := bit_wf (F := F) (i := X / 64) (s := X % 64) q (Nat.mod_lt _ (by omega))
    rw [Nat.div_add_mod] at hb
    have hc := cmpL0 (wf F G (X / 64) &&& ((1 : Int64) <<< Int64.ofNat (X % 64)))
    unfold inr
    by_cases hin : F ≤ X ∧ X ≤ G
    · have hbt : bitN (wf F G (X / 64)) (X % 64) = true := by rw [hb]; exact decide_eq_true hin
      have hn : ¬ (Jvm.Free.XT.cmpL (wf F G (X / 64) &&& ((1 : Int64) <<< Int64.ofNat (X % 64))) (0 : Int64) = (0 : Int32)) := fun z => by
        have := ht.mp (hc.mp z)
        rw [hbt] at this; exact absurd this (by decide)
      rw [if_neg hn, hxe, if_neg (own_nlt hX31 (by omega) hin.1), if_neg (own_nlt (by omega) hX31 hin.2)]
    · have hbt : bitN (wf F G (X / 64)) (X % 64) = false := by rw [hb]; exact decide_eq_false hin
      rw [if_pos (hc.mpr (ht.mpr hbt)), hxe]
      by_cases hlo : X < F
      · rw [if_pos (own_lt hX31 (by omega) hlo)]
      · rw [if_neg (own_nlt hX31 (by omega) (by omega)), if_pos (own_lt (by omega) hX31 (by omega))]
  · rw [if_neg (own_nlt (by omega) (by omega) (by omega))]
    unfold inr
    by_cases h31 : X < 2147483648
    · have h1 : G < X := by
        rcases Nat.lt_or_ge G X with h | h
        · exact h
        · exact absurd (Nat.div_le_div_right (c := 64) h) (by omega)
      by_cases hlo : x < Int32.ofNat F
      · rw [if_pos hlo]
      · rw [if_neg hlo, hxe, if_pos (own_lt (by omega) h31 h1)]
    · have hneg : x < Int32.ofNat F := by
        rw [Int32.lt_iff_toInt_lt, own_toInt (by omega)]
        have : x.toInt < 0 := by
          rw [hxe]
          show (BitVec.ofNat 32 X).toInt < 0
          rw [BitVec.toInt_eq_toNat_cond]
          simp only [BitVec.toNat_ofNat]
          omega
        omega
      rw [if_pos hneg]
theorem bc_lo : ∀ k : Fin 64, bcf (lo6 k.val) = Int32.ofNat (64 - k.val) := by decide +kernel
theorem bc_hi : ∀ k : Fin 64, bcf (hi6 k.val) = Int32.ofNat (k.val + 1) := by decide +kernel
theorem bc_lohi : ∀ k j : Fin 64, k.val ≤ j.val → bcf (lo6 k.val &&& hi6 j.val) = Int32.ofNat (j.val + 1 - k.val) := by decide +kernel
theorem bc_0 : bcf 0 = Int32.ofNat 0 := by decide +kernel
theorem bc_m1 : bcf (-1) = Int32.ofNat 64 := by decide +kernel
def cnt (F G t : Nat) : Nat := min (64 * t) (G + 1) - F
theorem own_bc {F G i : Nat} (hFG : F ≤ G) (hi : i < G / 64 + 1) : bcf (wf F G i) = Int32.ofNat (cnt F G (i + 1) - cnt F G i) := by
  have hF := Nat.mod_lt F (by omega : 64 > 0)
  have hG := Nat.mod_lt G (by omega : 64 > 0)
  have dF := Nat.div_add_mod F 64
  have dG := Nat.div_add_mod G 64
  have hdd := Nat.div_le_div_right (c := 64) hFG
  unfold wf cnt
  by_cases q : i = F / 64
  · rw [if_pos q]
    by_cases q2 : i = G / 64
    · rw [if_pos q2, lom_eq, him_eq, bc_lohi ⟨F % 64, hF⟩ ⟨G % 64, hG⟩ (by show F % 64 ≤ G % 64; omega)]
      congr 1; show G % 64 + 1 - F % 64 = _; omega
    · rw [if_neg q2, if_pos (by omega : i < G / 64), own_andm1, lom_eq, bc_lo ⟨F % 64, hF⟩]
      congr 1; show 64 - F % 64 = _; omega
  · rw [if_neg q]
    by_cases q1 : i < F / 64
    · rw [if_pos q1, own_0and, bc_0]; congr 1; omega
    · rw [if_neg q1, own_m1and]
      by_cases q2 : i = G / 64
      · rw [if_pos q2, him_eq, bc_hi ⟨G % 64, hG⟩]; congr 1; show G % 64 + 1 = _; omega
      · rw [if_neg q2, if_pos (by omega : i < G / 64), bc_m1]; congr 1; omega
theorem own_szf {F G : Nat} (hFG : F ≤ G) : ∀ t, t ≤ G / 64 + 1 → szf (wf F G) t = Int32.ofNat (cnt F G t) := by
  intro t
  induction t with
  | zero => intro _; show (0 : Int32) = _; unfold cnt; rw [Nat.mul_zero, Nat.zero_min, Nat.zero_sub]; rfl
  | succ t ih =>
    intro ht
    show szf (wf F G) t + bcf (wf F G t) = _
    rw [ih (by omega), own_bc hFG (by omega), ← Int32.ofNat_add]
    congr 1
    unfold cnt; omega
theorem own_size {F G : Nat} (hFG : F ≤ G) (hG : G < 1114112) : szf (wf F G) (G / 64 + 1) = (Int32.ofNat G - Int32.ofNat F) + (1 : Int32) := by
  rw [own_szf hFG _ (Nat.le_refl _)]
  have e : cnt F G (G / 64 + 1) = G - F + 1 := by
    have dG := Nat.div_add_mod G 64
    have hGm := Nat.mod_lt G (by omega : 64 > 0)
    unfold cnt; omega
  rw [e, ← own_add1]
  congr 1
  have e2 : Int32.ofNat G = Int32.ofNat (G - F) + Int32.ofNat F := by rw [← Int32.ofNat_add, Nat.sub_add_cancel hFG]
  rw [e2, Int32.add_sub_cancel]

theorem w0 {Z : State} {a0 : Array Value} (hw : ∀ d ∈ tables_1, d.before a0 Z = true) : (Jvm.Cond.constant "com/example/input_under_constraint/inputunderconstraint/CodePointSetRangePinLaw" (7 : Nat) (2147483647 : Int32)).before a0 Z = true := hw _ (List.mem_of_getElem? (i := 0) rfl)
theorem w1 {Z : State} {a0 : Array Value} (hw : ∀ d ∈ tables_1, d.before a0 Z = true) : (Jvm.Cond.constant "com/example/input_under_constraint/inputunderconstraint/CodePointSetRangePinLaw" (8 : Nat) (1114112 : Int32)).before a0 Z = true := hw _ (List.mem_of_getElem? (i := 1) rfl)
theorem w2 {Z : State} {a0 : Array Value} (hw : ∀ d ∈ tables_1, d.before a0 Z = true) : (Jvm.Cond.methodLink "com/example/input_under_constraint/inputunderconstraint/CodePointSetRangePinLaw" (9 : Nat) ({ cls := "com/example/input_under_constraint/inputunderconstraint/CodePointSet", name := "range", desc := "(II)Lcom/example/input_under_constraint/inputunderconstraint/CodePointSet;" } : Jvm.MethodName)).before a0 Z = true := hw _ (List.mem_of_getElem? (i := 2) rfl)
theorem w3 {Z : State} {a0 : Array Value} (hw : ∀ d ∈ tables_1, d.before a0 Z = true) : (Jvm.Cond.static ({ cls := "com/example/input_under_constraint/inputunderconstraint/CodePointSet", name := "range", desc := "(II)Lcom/example/input_under_constraint/inputunderconstraint/CodePointSet;" } : Jvm.MethodName)).before a0 Z = true := hw _ (List.mem_of_getElem? (i := 3) rfl)
theorem w4 {Z : State} {a0 : Array Value} (hw : ∀ d ∈ tables_1, d.before a0 Z = true) : (Jvm.Cond.initialized "com/example/input_under_constraint/inputunderconstraint/CodePointSet").before a0 Z = true := hw _ (List.mem_of_getElem? (i := 4) rfl)
theorem w5 {Z : State} {a0 : Array Value} (hw : ∀ d ∈ tables_1, d.before a0 Z = true) : (Jvm.Cond.code ({ cls := "com/example/input_under_constraint/inputunderconstraint/CodePointSet", name := "range", desc := "(II)Lcom/example/input_under_constraint/inputunderconstraint/CodePointSet;" } : Jvm.MethodName) prog_8_method_4_code (3 : Nat) (Option.some (Jvm.ClassFile.FieldType.object "com/example/input_under_constraint/inputunderconstraint/CodePointSet"))).before a0 Z = true := hw _ (List.mem_of_getElem? (i := 5) rfl)
theorem w6 {Z : State} {a0 : Array Value} (hw : ∀ d ∈ tables_1, d.before a0 Z = true) : (Jvm.Cond.methodLink "com/example/input_under_constraint/inputunderconstraint/CodePointSet" (53 : Nat) ({ cls := "java/lang/Character", name := "isValidCodePoint", desc := "(I)Z" } : Jvm.MethodName)).before a0 Z = true := hw _ (List.mem_of_getElem? (i := 6) rfl)
theorem w7 {Z : State} {a0 : Array Value} (hw : ∀ d ∈ tables_1, d.before a0 Z = true) : (Jvm.Cond.static ({ cls := "java/lang/Character", name := "isValidCodePoint", desc := "(I)Z" } : Jvm.MethodName)).before a0 Z = true := hw _ (List.mem_of_getElem? (i := 7) rfl)
theorem w8 {Z : State} {a0 : Array Value} (hw : ∀ d ∈ tables_1, d.before a0 Z = true) : (Jvm.Cond.initialized "java/lang/Character").before a0 Z = true := hw _ (List.mem_of_getElem? (i := 8) rfl)
theorem w9 {Z : State} {a0 : Array Value} (hw : ∀ d ∈ tables_1, d.before a0 Z = true) : (Jvm.Cond.code ({ cls := "java/lang/Character", name := "isValidCodePoint", desc := "(I)Z" } : Jvm.MethodName) jdk_89_method_11_code (2 : Nat) (Option.some Jvm.ClassFile.FieldType.boolean)).before a0 Z = true := hw _ (List.mem_of_getElem? (i := 9) rfl)
theorem w10 {Z : State} {a0 : Array Value} (hw : ∀ d ∈ tables_1, d.before a0 Z = true) : (Jvm.Cond.classLink "com/example/input_under_constraint/inputunderconstraint/CodePointSet" (2 : Nat) "java/util/BitSet").before a0 Z = true := hw _ (List.mem_of_getElem? (i := 10) rfl)
theorem w11 {Z : State} {a0 : Array Value} (hw : ∀ d ∈ tables_1, d.before a0 Z = true) : (Jvm.Cond.instantiable "java/util/BitSet" (3 : Nat)).before a0 Z = true := hw _ (List.mem_of_getElem? (i := 11) rfl)
theorem w12 {Z : State} {a0 : Array Value} (hw : ∀ d ∈ tables_1, d.before a0 Z = true) : (Jvm.Cond.initialized "java/util/BitSet").before a0 Z = true := hw _ (List.mem_of_getElem? (i := 12) rfl)
theorem w13 {Z : State} {a0 : Array Value} (hw : ∀ d ∈ tables_1, d.before a0 Z = true) : (Jvm.Cond.methodLink "com/example/input_under_constraint/inputunderconstraint/CodePointSet" (73 : Nat) ({ cls := "java/util/BitSet", name := "<init>", desc := "(I)V" } : Jvm.MethodName)).before a0 Z = true := hw _ (List.mem_of_getElem? (i := 13) rfl)
theorem w14 {Z : State} {a0 : Array Value} (hw : ∀ d ∈ tables_1, d.before a0 Z = true) : (Jvm.Cond.instanceMethod ({ cls := "java/util/BitSet", name := "<init>", desc := "(I)V" } : Jvm.MethodName)).before a0 Z = true := hw _ (List.mem_of_getElem? (i := 14) rfl)
theorem w15 {Z : State} {a0 : Array Value} (hw : ∀ d ∈ tables_1, d.before a0 Z = true) : (Jvm.Cond.code ({ cls := "java/util/BitSet", name := "<init>", desc := "(I)V" } : Jvm.MethodName) jdk_92_method_5_code (2 : Nat) (Option.none : Option Jvm.ClassFile.FieldType)).before a0 Z = true := hw _ (List.mem_of_getElem? (i := 15) rfl)
theorem w16 {Z : State} {a0 : Array Value} (hw : ∀ d ∈ tables_1, d.before a0 Z = true) : (Jvm.Cond.methodLink "java/util/BitSet" (21 : Nat) ({ cls := "java/lang/Object", name := "<init>", desc := "()V" } : Jvm.MethodName)).before a0 Z = true := hw _ (List.mem_of_getElem? (i := 16) rfl)
theorem w17 {Z : State} {a0 : Array Value} (hw : ∀ d ∈ tables_1, d.before a0 Z = true) : (Jvm.Cond.instanceMethod ({ cls := "java/lang/Object", name := "<init>", desc := "()V" } : Jvm.MethodName)).before a0 Z = true := hw _ (List.mem_of_getElem? (i := 17) rfl)
theorem w18 {Z : State} {a0 : Array Value} (hw : ∀ d ∈ tables_1, d.before a0 Z = true) : (Jvm.Cond.code ({ cls := "java/lang/Object", name := "<init>", desc := "()V" } : Jvm.MethodName) object_method_1_code (1 : Nat) (Option.none : Option Jvm.ClassFile.FieldType)).before a0 Z = true := hw _ (List.mem_of_getElem? (i := 18) rfl)
theorem w19 {Z : State} {a0 : Array Value} (hw : ∀ d ∈ tables_1, d.before a0 Z = true) : (Jvm.Cond.fieldLink "java/util/BitSet" (7 : Nat) "java/util/BitSet" "wordsInUse" "I").before a0 Z = true := hw _ (List.mem_of_getElem? (i := 19) rfl)
theorem w20 {Z : State} {a0 : Array Value} (hw : ∀ d ∈ tables_1, d.before a0 Z = true) : (Jvm.Cond.lays "java/util/BitSet" "java/util/BitSet" "wordsInUse" "I").before a0 Z = true := hw _ (List.mem_of_getElem? (i := 20) rfl)
theorem w21 {Z : State} {a0 : Array Value} (hw : ∀ d ∈ tables_1, d.before a0 Z = true) : (Jvm.Cond.fieldLink "java/util/BitSet" (24 : Nat) "java/util/BitSet" "sizeIsSticky" "Z").before a0 Z = true := hw _ (List.mem_of_getElem? (i := 21) rfl)
theorem w22 {Z : State} {a0 : Array Value} (hw : ∀ d ∈ tables_1, d.before a0 Z = true) : (Jvm.Cond.lays "java/util/BitSet" "java/util/BitSet" "sizeIsSticky" "Z").before a0 Z = true := hw _ (List.mem_of_getElem? (i := 22) rfl)
theorem w23 {Z : State} {a0 : Array Value} (hw : ∀ d ∈ tables_1, d.before a0 Z = true) : (Jvm.Cond.methodLink "java/util/BitSet" (27 : Nat) ({ cls := "java/util/BitSet", name := "initWords", desc := "(I)V" } : Jvm.MethodName)).before a0 Z = true := hw _ (List.mem_of_getElem? (i := 23) rfl)
theorem w24 {Z : State} {a0 : Array Value} (hw : ∀ d ∈ tables_1, d.before a0 Z = true) : (Jvm.Cond.instanceMethod ({ cls := "java/util/BitSet", name := "initWords", desc := "(I)V" } : Jvm.MethodName)).before a0 Z = true := hw _ (List.mem_of_getElem? (i := 24) rfl)
theorem w25 {Z : State} {a0 : Array Value} (hw : ∀ d ∈ tables_1, d.before a0 Z = true) : (Jvm.Cond.privateMethod ({ cls := "java/util/BitSet", name := "initWords", desc := "(I)V" } : Jvm.MethodName)).before a0 Z = true := hw _ (List.mem_of_getElem? (i := 25) rfl)
theorem w26 {Z : State} {a0 : Array Value} (hw : ∀ d ∈ tables_1, d.before a0 Z = true) : (Jvm.Cond.selects "java/util/BitSet" ({ cls := "java/util/BitSet", name := "initWords", desc := "(I)V" } : Jvm.MethodName) ({ cls := "java/util/BitSet", name := "initWords", desc := "(I)V" } : Jvm.MethodName)).before a0 Z = true := hw _ (List.mem_of_getElem? (i := 26) rfl)
theorem w27 {Z : State} {a0 : Array Value} (hw : ∀ d ∈ tables_1, d.before a0 Z = true) : (Jvm.Cond.code ({ cls := "java/util/BitSet", name := "initWords", desc := "(I)V" } : Jvm.MethodName) jdk_92_method_6_code (2 : Nat) (Option.none : Option Jvm.ClassFile.FieldType)).before a0 Z = true := hw _ (List.mem_of_getElem? (i := 27) rfl)
theorem w28 {Z : State} {a0 : Array Value} (hw : ∀ d ∈ tables_1, d.before a0 Z = true) : (Jvm.Cond.methodLink "java/util/BitSet" (52 : Nat) ({ cls := "java/util/BitSet", name := "wordIndex", desc := "(I)I" } : Jvm.MethodName)).before a0 Z = true := hw _ (List.mem_of_getElem? (i := 28) rfl)
theorem w29 {Z : State} {a0 : Array Value} (hw : ∀ d ∈ tables_1, d.before a0 Z = true) : (Jvm.Cond.static ({ cls := "java/util/BitSet", name := "wordIndex", desc := "(I)I" } : Jvm.MethodName)).before a0 Z = true := hw _ (List.mem_of_getElem? (i := 29) rfl)
theorem w30 {Z : State} {a0 : Array Value} (hw : ∀ d ∈ tables_1, d.before a0 Z = true) : (Jvm.Cond.code ({ cls := "java/util/BitSet", name := "wordIndex", desc := "(I)I" } : Jvm.MethodName) jdk_92_method_1_code (1 : Nat) (Option.some Jvm.ClassFile.FieldType.int)).before a0 Z = true := hw _ (List.mem_of_getElem? (i := 30) rfl)
theorem w31 {Z : State} {a0 : Array Value} (hw : ∀ d ∈ tables_1, d.before a0 Z = true) : (Jvm.Cond.arrayClass Jvm.ClassFile.FieldType.long).before a0 Z = true := hw _ (List.mem_of_getElem? (i := 31) rfl)
theorem w32 {Z : State} {a0 : Array Value} (hw : ∀ d ∈ tables_1, d.before a0 Z = true) : (Jvm.Cond.fieldLink "java/util/BitSet" (11 : Nat) "java/util/BitSet" "words" "[J").before a0 Z = true := hw _ (List.mem_of_getElem? (i := 32) rfl)
theorem w33 {Z : State} {a0 : Array Value} (hw : ∀ d ∈ tables_1, d.before a0 Z = true) : (Jvm.Cond.lays "java/util/BitSet" "java/util/BitSet" "words" "[J").before a0 Z = true := hw _ (List.mem_of_getElem? (i := 33) rfl)
theorem w34 {Z : State} {a0 : Array Value} (hw : ∀ d ∈ tables_1, d.before a0 Z = true) : (Jvm.Cond.methodLink "com/example/input_under_constraint/inputunderconstraint/CodePointSet" (76 : Nat) ({ cls := "java/util/BitSet", name := "set", desc := "(II)V" } : Jvm.MethodName)).before a0 Z = true := hw _ (List.mem_of_getElem? (i := 34) rfl)
theorem w35 {Z : State} {a0 : Array Value} (hw : ∀ d ∈ tables_1, d.before a0 Z = true) : (Jvm.Cond.declares ({ cls := "java/util/BitSet", name := "set", desc := "(II)V" } : Jvm.MethodName)).before a0 Z = true := hw _ (List.mem_of_getElem? (i := 35) rfl)
theorem w36 {Z : State} {a0 : Array Value} (hw : ∀ d ∈ tables_1, d.before a0 Z = true) : (Jvm.Cond.instanceMethod ({ cls := "java/util/BitSet", name := "set", desc := "(II)V" } : Jvm.MethodName)).before a0 Z = true := hw _ (List.mem_of_getElem? (i := 36) rfl)
theorem w37 {Z : State} {a0 : Array Value} (hw : ∀ d ∈ tables_1, d.before a0 Z = true) : (Jvm.Cond.selects "java/util/BitSet" ({ cls := "java/util/BitSet", name := "set", desc := "(II)V" } : Jvm.MethodName) ({ cls := "java/util/BitSet", name := "set", desc := "(II)V" } : Jvm.MethodName)).before a0 Z = true := hw _ (List.mem_of_getElem? (i := 37) rfl)
theorem w38 {Z : State} {a0 : Array Value} (hw : ∀ d ∈ tables_1, d.before a0 Z = true) : (Jvm.Cond.code ({ cls := "java/util/BitSet", name := "set", desc := "(II)V" } : Jvm.MethodName) jdk_92_method_21_code (10 : Nat) (Option.none : Option Jvm.ClassFile.FieldType)).before a0 Z = true := hw _ (List.mem_of_getElem? (i := 38) rfl)
theorem w39 {Z : State} {a0 : Array Value} (hw : ∀ d ∈ tables_1, d.before a0 Z = true) : (Jvm.Cond.methodLink "java/util/BitSet" (161 : Nat) ({ cls := "java/util/BitSet", name := "checkRange", desc := "(II)V" } : Jvm.MethodName)).before a0 Z = true := hw _ (List.mem_of_getElem? (i := 39) rfl)
theorem w40 {Z : State} {a0 : Array Value} (hw : ∀ d ∈ tables_1, d.before a0 Z = true) : (Jvm.Cond.static ({ cls := "java/util/BitSet", name := "checkRange", desc := "(II)V" } : Jvm.MethodName)).before a0 Z = true := hw _ (List.mem_of_getElem? (i := 40) rfl)
theorem w41 {Z : State} {a0 : Array Value} (hw : ∀ d ∈ tables_1, d.before a0 Z = true) : (Jvm.Cond.code ({ cls := "java/util/BitSet", name := "checkRange", desc := "(II)V" } : Jvm.MethodName) jdk_92_method_16_code (2 : Nat) (Option.none : Option Jvm.ClassFile.FieldType)).before a0 Z = true := hw _ (List.mem_of_getElem? (i := 41) rfl)
theorem w42 {Z : State} {a0 : Array Value} (hw : ∀ d ∈ tables_1, d.before a0 Z = true) : (Jvm.Cond.methodLink "java/util/BitSet" (155 : Nat) ({ cls := "java/util/BitSet", name := "expandTo", desc := "(I)V" } : Jvm.MethodName)).before a0 Z = true := hw _ (List.mem_of_getElem? (i := 42) rfl)
theorem w43 {Z : State} {a0 : Array Value} (hw : ∀ d ∈ tables_1, d.before a0 Z = true) : (Jvm.Cond.instanceMethod ({ cls := "java/util/BitSet", name := "expandTo", desc := "(I)V" } : Jvm.MethodName)).before a0 Z = true := hw _ (List.mem_of_getElem? (i := 43) rfl)
theorem w44 {Z : State} {a0 : Array Value} (hw : ∀ d ∈ tables_1, d.before a0 Z = true) : (Jvm.Cond.privateMethod ({ cls := "java/util/BitSet", name := "expandTo", desc := "(I)V" } : Jvm.MethodName)).before a0 Z = true := hw _ (List.mem_of_getElem? (i := 44) rfl)
theorem w45 {Z : State} {a0 : Array Value} (hw : ∀ d ∈ tables_1, d.before a0 Z = true) : (Jvm.Cond.selects "java/util/BitSet" ({ cls := "java/util/BitSet", name := "expandTo", desc := "(I)V" } : Jvm.MethodName) ({ cls := "java/util/BitSet", name := "expandTo", desc := "(I)V" } : Jvm.MethodName)).before a0 Z = true := hw _ (List.mem_of_getElem? (i := 45) rfl)
theorem w46 {Z : State} {a0 : Array Value} (hw : ∀ d ∈ tables_1, d.before a0 Z = true) : (Jvm.Cond.code ({ cls := "java/util/BitSet", name := "expandTo", desc := "(I)V" } : Jvm.MethodName) jdk_92_method_15_code (3 : Nat) (Option.none : Option Jvm.ClassFile.FieldType)).before a0 Z = true := hw _ (List.mem_of_getElem? (i := 46) rfl)
theorem w47 {Z : State} {a0 : Array Value} (hw : ∀ d ∈ tables_1, d.before a0 Z = true) : (Jvm.Cond.methodLink "java/util/BitSet" (139 : Nat) ({ cls := "java/util/BitSet", name := "ensureCapacity", desc := "(I)V" } : Jvm.MethodName)).before a0 Z = true := hw _ (List.mem_of_getElem? (i := 47) rfl)
theorem w48 {Z : State} {a0 : Array Value} (hw : ∀ d ∈ tables_1, d.before a0 Z = true) : (Jvm.Cond.instanceMethod ({ cls := "java/util/BitSet", name := "ensureCapacity", desc := "(I)V" } : Jvm.MethodName)).before a0 Z = true := hw _ (List.mem_of_getElem? (i := 48) rfl)
theorem w49 {Z : State} {a0 : Array Value} (hw : ∀ d ∈ tables_1, d.before a0 Z = true) : (Jvm.Cond.privateMethod ({ cls := "java/util/BitSet", name := "ensureCapacity", desc := "(I)V" } : Jvm.MethodName)).before a0 Z = true := hw _ (List.mem_of_getElem? (i := 49) rfl)
theorem w50 {Z : State} {a0 : Array Value} (hw : ∀ d ∈ tables_1, d.before a0 Z = true) : (Jvm.Cond.selects "java/util/BitSet" ({ cls := "java/util/BitSet", name := "ensureCapacity", desc := "(I)V" } : Jvm.MethodName) ({ cls := "java/util/BitSet", name := "ensureCapacity", desc := "(I)V" } : Jvm.MethodName)).before a0 Z = true := hw _ (List.mem_of_getElem? (i := 50) rfl)
theorem w51 {Z : State} {a0 : Array Value} (hw : ∀ d ∈ tables_1, d.before a0 Z = true) : (Jvm.Cond.code ({ cls := "java/util/BitSet", name := "ensureCapacity", desc := "(I)V" } : Jvm.MethodName) jdk_92_method_14_code (3 : Nat) (Option.none : Option Jvm.ClassFile.FieldType)).before a0 Z = true := hw _ (List.mem_of_getElem? (i := 51) rfl)
theorem w52 {Z : State} {a0 : Array Value} (hw : ∀ d ∈ tables_1, d.before a0 Z = true) : (Jvm.Cond.constantLong "java/util/BitSet" (165 : Nat) (-1 : Int64)).before a0 Z = true := hw _ (List.mem_of_getElem? (i := 52) rfl)
theorem w53 {Z : State} {a0 : Array Value} (hw : ∀ d ∈ tables_1, d.before a0 Z = true) : (Jvm.Cond.methodLink "java/util/BitSet" (56 : Nat) ({ cls := "java/util/BitSet", name := "checkInvariants", desc := "()V" } : Jvm.MethodName)).before a0 Z = true := hw _ (List.mem_of_getElem? (i := 53) rfl)
theorem w54 {Z : State} {a0 : Array Value} (hw : ∀ d ∈ tables_1, d.before a0 Z = true) : (Jvm.Cond.instanceMethod ({ cls := "java/util/BitSet", name := "checkInvariants", desc := "()V" } : Jvm.MethodName)).before a0 Z = true := hw _ (List.mem_of_getElem? (i := 54) rfl)
theorem w55 {Z : State} {a0 : Array Value} (hw : ∀ d ∈ tables_1, d.before a0 Z = true) : (Jvm.Cond.privateMethod ({ cls := "java/util/BitSet", name := "checkInvariants", desc := "()V" } : Jvm.MethodName)).before a0 Z = true := hw _ (List.mem_of_getElem? (i := 55) rfl)
theorem w56 {Z : State} {a0 : Array Value} (hw : ∀ d ∈ tables_1, d.before a0 Z = true) : (Jvm.Cond.selects "java/util/BitSet" ({ cls := "java/util/BitSet", name := "checkInvariants", desc := "()V" } : Jvm.MethodName) ({ cls := "java/util/BitSet", name := "checkInvariants", desc := "()V" } : Jvm.MethodName)).before a0 Z = true := hw _ (List.mem_of_getElem? (i := 56) rfl)
theorem w57 {Z : State} {a0 : Array Value} (hw : ∀ d ∈ tables_1, d.before a0 Z = true) : (Jvm.Cond.code ({ cls := "java/util/BitSet", name := "checkInvariants", desc := "()V" } : Jvm.MethodName) jdk_92_method_2_code (1 : Nat) (Option.none : Option Jvm.ClassFile.FieldType)).before a0 Z = true := hw _ (List.mem_of_getElem? (i := 57) rfl)
theorem w58 {Z : State} {a0 : Array Value} (hw : ∀ d ∈ tables_1, d.before a0 Z = true) : (Jvm.Cond.fieldLink "java/util/BitSet" (3 : Nat) "java/util/BitSet" "$assertionsDisabled" "Z").before a0 Z = true := hw _ (List.mem_of_getElem? (i := 58) rfl)
theorem w59 {Z : State} {a0 : Array Value} (hw : ∀ d ∈ tables_1, d.before a0 Z = true) : (Jvm.Cond.classLink "com/example/input_under_constraint/inputunderconstraint/CodePointSet" (8 : Nat) "com/example/input_under_constraint/inputunderconstraint/CodePointSet").before a0 Z = true := hw _ (List.mem_of_getElem? (i := 59) rfl)
theorem w60 {Z : State} {a0 : Array Value} (hw : ∀ d ∈ tables_1, d.before a0 Z = true) : (Jvm.Cond.instantiable "com/example/input_under_constraint/inputunderconstraint/CodePointSet" (2 : Nat)).before a0 Z = true := hw _ (List.mem_of_getElem? (i := 60) rfl)
theorem w61 {Z : State} {a0 : Array Value} (hw : ∀ d ∈ tables_1, d.before a0 Z = true) : (Jvm.Cond.methodLink "com/example/input_under_constraint/inputunderconstraint/CodePointSet" (50 : Nat) ({ cls := "com/example/input_under_constraint/inputunderconstraint/CodePointSet", name := "<init>", desc := "(Ljava/util/BitSet;)V" } : Jvm.MethodName)).before a0 Z = true := hw _ (List.mem_of_getElem? (i := 61) rfl)
theorem w62 {Z : State} {a0 : Array Value} (hw : ∀ d ∈ tables_1, d.before a0 Z = true) : (Jvm.Cond.instanceMethod ({ cls := "com/example/input_under_constraint/inputunderconstraint/CodePointSet", name := "<init>", desc := "(Ljava/util/BitSet;)V" } : Jvm.MethodName)).before a0 Z = true := hw _ (List.mem_of_getElem? (i := 62) rfl)
theorem w63 {Z : State} {a0 : Array Value} (hw : ∀ d ∈ tables_1, d.before a0 Z = true) : (Jvm.Cond.code ({ cls := "com/example/input_under_constraint/inputunderconstraint/CodePointSet", name := "<init>", desc := "(Ljava/util/BitSet;)V" } : Jvm.MethodName) prog_8_method_1_code (2 : Nat) (Option.none : Option Jvm.ClassFile.FieldType)).before a0 Z = true := hw _ (List.mem_of_getElem? (i := 63) rfl)
theorem w64 {Z : State} {a0 : Array Value} (hw : ∀ d ∈ tables_1, d.before a0 Z = true) : (Jvm.Cond.methodLink "com/example/input_under_constraint/inputunderconstraint/CodePointSet" (1 : Nat) ({ cls := "java/util/BitSet", name := "toLongArray", desc := "()[J" } : Jvm.MethodName)).before a0 Z = true := hw _ (List.mem_of_getElem? (i := 64) rfl)
theorem w65 {Z : State} {a0 : Array Value} (hw : ∀ d ∈ tables_1, d.before a0 Z = true) : (Jvm.Cond.declares ({ cls := "java/util/BitSet", name := "toLongArray", desc := "()[J" } : Jvm.MethodName)).before a0 Z = true := hw _ (List.mem_of_getElem? (i := 65) rfl)
theorem w66 {Z : State} {a0 : Array Value} (hw : ∀ d ∈ tables_1, d.before a0 Z = true) : (Jvm.Cond.instanceMethod ({ cls := "java/util/BitSet", name := "toLongArray", desc := "()[J" } : Jvm.MethodName)).before a0 Z = true := hw _ (List.mem_of_getElem? (i := 66) rfl)
theorem w67 {Z : State} {a0 : Array Value} (hw : ∀ d ∈ tables_1, d.before a0 Z = true) : (Jvm.Cond.selects "java/util/BitSet" ({ cls := "java/util/BitSet", name := "toLongArray", desc := "()[J" } : Jvm.MethodName) ({ cls := "java/util/BitSet", name := "toLongArray", desc := "()[J" } : Jvm.MethodName)).before a0 Z = true := hw _ (List.mem_of_getElem? (i := 67) rfl)
theorem w68 {Z : State} {a0 : Array Value} (hw : ∀ d ∈ tables_1, d.before a0 Z = true) : (Jvm.Cond.code ({ cls := "java/util/BitSet", name := "toLongArray", desc := "()[J" } : Jvm.MethodName) jdk_92_method_13_code (1 : Nat) (Option.some (Jvm.ClassFile.FieldType.array Jvm.ClassFile.FieldType.long))).before a0 Z = true := hw _ (List.mem_of_getElem? (i := 68) rfl)
theorem w69 {Z : State} {a0 : Array Value} (hw : ∀ d ∈ tables_1, d.before a0 Z = true) : (Jvm.Cond.methodLink "java/util/BitSet" (59 : Nat) ({ cls := "java/util/Arrays", name := "copyOf", desc := "([JI)[J" } : Jvm.MethodName)).before a0 Z = true := hw _ (List.mem_of_getElem? (i := 69) rfl)
theorem w70 {Z : State} {a0 : Array Value} (hw : ∀ d ∈ tables_1, d.before a0 Z = true) : (Jvm.Cond.static ({ cls := "java/util/Arrays", name := "copyOf", desc := "([JI)[J" } : Jvm.MethodName)).before a0 Z = true := hw _ (List.mem_of_getElem? (i := 70) rfl)
theorem w71 {Z : State} {a0 : Array Value} (hw : ∀ d ∈ tables_1, d.before a0 Z = true) : (Jvm.Cond.initialized "java/util/Arrays").before a0 Z = true := hw _ (List.mem_of_getElem? (i := 71) rfl)
theorem w72 {Z : State} {a0 : Array Value} (hw : ∀ d ∈ tables_1, d.before a0 Z = true) : (Jvm.Cond.code ({ cls := "java/util/Arrays", name := "copyOf", desc := "([JI)[J" } : Jvm.MethodName) jdk_65_method_124_code (3 : Nat) (Option.some (Jvm.ClassFile.FieldType.array Jvm.ClassFile.FieldType.long))).before a0 Z = true := hw _ (List.mem_of_getElem? (i := 72) rfl)
theorem w73 {Z : State} {a0 : Array Value} (hw : ∀ d ∈ tables_1, d.before a0 Z = true) : (Jvm.Cond.methodLink "java/util/Arrays" (319 : Nat) ({ cls := "[J", name := "clone", desc := "()Ljava/lang/Object;" } : Jvm.MethodName)).before a0 Z = true := hw _ (List.mem_of_getElem? (i := 73) rfl)
theorem w74 {Z : State} {a0 : Array Value} (hw : ∀ d ∈ tables_1, d.before a0 Z = true) : (Jvm.Cond.sameMethod "[J" "java/lang/Object" "clone" "()Ljava/lang/Object;").before a0 Z = true := hw _ (List.mem_of_getElem? (i := 74) rfl)
theorem w76 {Z : State} {a0 : Array Value} (hw : ∀ d ∈ tables_1, d.before a0 Z = true) : (Jvm.Cond.instanceMethod ({ cls := "java/lang/Object", name := "clone", desc := "()Ljava/lang/Object;" } : Jvm.MethodName)).before a0 Z = true := hw _ (List.mem_of_getElem? (i := 76) rfl)
theorem w77 {Z : State} {a0 : Array Value} (hw : ∀ d ∈ tables_1, d.before a0 Z = true) : (Jvm.Cond.selects "[J" ({ cls := "[J", name := "clone", desc := "()Ljava/lang/Object;" } : Jvm.MethodName) ({ cls := "java/lang/Object", name := "clone", desc := "()Ljava/lang/Object;" } : Jvm.MethodName)).before a0 Z = true := hw _ (List.mem_of_getElem? (i := 77) rfl)
theorem w78 {Z : State} {a0 : Array Value} (hw : ∀ d ∈ tables_1, d.before a0 Z = true) : (Jvm.Cond.native ({ cls := "java/lang/Object", name := "clone", desc := "()Ljava/lang/Object;" } : Jvm.MethodName)).before a0 Z = true := hw _ (List.mem_of_getElem? (i := 78) rfl)
theorem w79 {Z : State} {a0 : Array Value} (hw : ∀ d ∈ tables_1, d.before a0 Z = true) : (Jvm.Cond.castable "[J" "java/lang/Cloneable").before a0 Z = true := hw _ (List.mem_of_getElem? (i := 79) rfl)
theorem w80 {Z : State} {a0 : Array Value} (hw : ∀ d ∈ tables_1, d.before a0 Z = true) : (Jvm.Cond.classLink "java/util/Arrays" (320 : Nat) "[J").before a0 Z = true := hw _ (List.mem_of_getElem? (i := 80) rfl)
theorem w82 {Z : State} {a0 : Array Value} (hw : ∀ d ∈ tables_1, d.before a0 Z = true) : (Jvm.Cond.methodLink "com/example/input_under_constraint/inputunderconstraint/CodePointSet" (7 : Nat) ({ cls := "com/example/input_under_constraint/inputunderconstraint/CodePointSet", name := "<init>", desc := "([J)V" } : Jvm.MethodName)).before a0 Z = true := hw _ (List.mem_of_getElem? (i := 82) rfl)
theorem w83 {Z : State} {a0 : Array Value} (hw : ∀ d ∈ tables_1, d.before a0 Z = true) : (Jvm.Cond.instanceMethod ({ cls := "com/example/input_under_constraint/inputunderconstraint/CodePointSet", name := "<init>", desc := "([J)V" } : Jvm.MethodName)).before a0 Z = true := hw _ (List.mem_of_getElem? (i := 83) rfl)
theorem w84 {Z : State} {a0 : Array Value} (hw : ∀ d ∈ tables_1, d.before a0 Z = true) : (Jvm.Cond.code ({ cls := "com/example/input_under_constraint/inputunderconstraint/CodePointSet", name := "<init>", desc := "([J)V" } : Jvm.MethodName) prog_8_method_2_code (2 : Nat) (Option.none : Option Jvm.ClassFile.FieldType)).before a0 Z = true := hw _ (List.mem_of_getElem? (i := 84) rfl)
theorem w85 {Z : State} {a0 : Array Value} (hw : ∀ d ∈ tables_1, d.before a0 Z = true) : (Jvm.Cond.methodLink "com/example/input_under_constraint/inputunderconstraint/CodePointSet" (13 : Nat) ({ cls := "java/lang/Object", name := "<init>", desc := "()V" } : Jvm.MethodName)).before a0 Z = true := hw _ (List.mem_of_getElem? (i := 85) rfl)
theorem w86 {Z : State} {a0 : Array Value} (hw : ∀ d ∈ tables_1, d.before a0 Z = true) : (Jvm.Cond.fieldLink "com/example/input_under_constraint/inputunderconstraint/CodePointSet" (18 : Nat) "com/example/input_under_constraint/inputunderconstraint/CodePointSet" "words" "[J").before a0 Z = true := hw _ (List.mem_of_getElem? (i := 86) rfl)
theorem w87 {Z : State} {a0 : Array Value} (hw : ∀ d ∈ tables_1, d.before a0 Z = true) : (Jvm.Cond.laysFinal "com/example/input_under_constraint/inputunderconstraint/CodePointSet" "com/example/input_under_constraint/inputunderconstraint/CodePointSet" "words" "[J").before a0 Z = true := hw _ (List.mem_of_getElem? (i := 87) rfl)
theorem w88 {Z : State} {a0 : Array Value} (hw : ∀ d ∈ tables_1, d.before a0 Z = true) : (Jvm.Cond.methodLink "com/example/input_under_constraint/inputunderconstraint/CodePointSetRangePinLaw" (15 : Nat) ({ cls := "com/example/input_under_constraint/inputunderconstraint/CodePointSet", name := "contains", desc := "(I)Z" } : Jvm.MethodName)).before a0 Z = true := hw _ (List.mem_of_getElem? (i := 88) rfl)
theorem w89 {Z : State} {a0 : Array Value} (hw : ∀ d ∈ tables_1, d.before a0 Z = true) : (Jvm.Cond.declares ({ cls := "com/example/input_under_constraint/inputunderconstraint/CodePointSet", name := "contains", desc := "(I)Z" } : Jvm.MethodName)).before a0 Z = true := hw _ (List.mem_of_getElem? (i := 89) rfl)
theorem w90 {Z : State} {a0 : Array Value} (hw : ∀ d ∈ tables_1, d.before a0 Z = true) : (Jvm.Cond.instanceMethod ({ cls := "com/example/input_under_constraint/inputunderconstraint/CodePointSet", name := "contains", desc := "(I)Z" } : Jvm.MethodName)).before a0 Z = true := hw _ (List.mem_of_getElem? (i := 90) rfl)
theorem w91 {Z : State} {a0 : Array Value} (hw : ∀ d ∈ tables_1, d.before a0 Z = true) : (Jvm.Cond.selects "com/example/input_under_constraint/inputunderconstraint/CodePointSet" ({ cls := "com/example/input_under_constraint/inputunderconstraint/CodePointSet", name := "contains", desc := "(I)Z" } : Jvm.MethodName) ({ cls := "com/example/input_under_constraint/inputunderconstraint/CodePointSet", name := "contains", desc := "(I)Z" } : Jvm.MethodName)).before a0 Z = true := hw _ (List.mem_of_getElem? (i := 91) rfl)
theorem w92 {Z : State} {a0 : Array Value} (hw : ∀ d ∈ tables_1, d.before a0 Z = true) : (Jvm.Cond.code ({ cls := "com/example/input_under_constraint/inputunderconstraint/CodePointSet", name := "contains", desc := "(I)Z" } : Jvm.MethodName) prog_8_method_6_code (3 : Nat) (Option.some Jvm.ClassFile.FieldType.boolean)).before a0 Z = true := hw _ (List.mem_of_getElem? (i := 92) rfl)
theorem w93 {Z : State} {a0 : Array Value} (hw : ∀ d ∈ tables_1, d.before a0 Z = true) : (Jvm.Cond.methodLink "com/example/input_under_constraint/inputunderconstraint/CodePointSetRangePinLaw" (19 : Nat) ({ cls := "com/example/input_under_constraint/inputunderconstraint/CodePointSetRangePinLaw", name := "inRange", desc := "(III)Z" } : Jvm.MethodName)).before a0 Z = true := hw _ (List.mem_of_getElem? (i := 93) rfl)
theorem w94 {Z : State} {a0 : Array Value} (hw : ∀ d ∈ tables_1, d.before a0 Z = true) : (Jvm.Cond.static ({ cls := "com/example/input_under_constraint/inputunderconstraint/CodePointSetRangePinLaw", name := "inRange", desc := "(III)Z" } : Jvm.MethodName)).before a0 Z = true := hw _ (List.mem_of_getElem? (i := 94) rfl)
theorem w95 {Z : State} {a0 : Array Value} (hw : ∀ d ∈ tables_1, d.before a0 Z = true) : (Jvm.Cond.initialized "com/example/input_under_constraint/inputunderconstraint/CodePointSetRangePinLaw").before a0 Z = true := hw _ (List.mem_of_getElem? (i := 95) rfl)
theorem w96 {Z : State} {a0 : Array Value} (hw : ∀ d ∈ tables_1, d.before a0 Z = true) : (Jvm.Cond.code ({ cls := "com/example/input_under_constraint/inputunderconstraint/CodePointSetRangePinLaw", name := "inRange", desc := "(III)Z" } : Jvm.MethodName) method_2_code (3 : Nat) (Option.some Jvm.ClassFile.FieldType.boolean)).before a0 Z = true := hw _ (List.mem_of_getElem? (i := 96) rfl)
theorem w97 {Z : State} {a0 : Array Value} (hw : ∀ d ∈ tables_1, d.before a0 Z = true) : (Jvm.Cond.methodLink "com/example/input_under_constraint/inputunderconstraint/CodePointSetRangePinLaw" (25 : Nat) ({ cls := "com/example/input_under_constraint/inputunderconstraint/CodePointSet", name := "size", desc := "()I" } : Jvm.MethodName)).before a0 Z = true := hw _ (List.mem_of_getElem? (i := 97) rfl)
theorem w98 {Z : State} {a0 : Array Value} (hw : ∀ d ∈ tables_1, d.before a0 Z = true) : (Jvm.Cond.declares ({ cls := "com/example/input_under_constraint/inputunderconstraint/CodePointSet", name := "size", desc := "()I" } : Jvm.MethodName)).before a0 Z = true := hw _ (List.mem_of_getElem? (i := 98) rfl)
theorem w99 {Z : State} {a0 : Array Value} (hw : ∀ d ∈ tables_1, d.before a0 Z = true) : (Jvm.Cond.instanceMethod ({ cls := "com/example/input_under_constraint/inputunderconstraint/CodePointSet", name := "size", desc := "()I" } : Jvm.MethodName)).before a0 Z = true := hw _ (List.mem_of_getElem? (i := 99) rfl)
theorem w100 {Z : State} {a0 : Array Value} (hw : ∀ d ∈ tables_1, d.before a0 Z = true) : (Jvm.Cond.selects "com/example/input_under_constraint/inputunderconstraint/CodePointSet" ({ cls := "com/example/input_under_constraint/inputunderconstraint/CodePointSet", name := "size", desc := "()I" } : Jvm.MethodName) ({ cls := "com/example/input_under_constraint/inputunderconstraint/CodePointSet", name := "size", desc := "()I" } : Jvm.MethodName)).before a0 Z = true := hw _ (List.mem_of_getElem? (i := 100) rfl)
theorem w101 {Z : State} {a0 : Array Value} (hw : ∀ d ∈ tables_1, d.before a0 Z = true) : (Jvm.Cond.code ({ cls := "com/example/input_under_constraint/inputunderconstraint/CodePointSet", name := "size", desc := "()I" } : Jvm.MethodName) prog_8_method_7_code (7 : Nat) (Option.some Jvm.ClassFile.FieldType.int)).before a0 Z = true := hw _ (List.mem_of_getElem? (i := 101) rfl)
theorem w102 {Z : State} {a0 : Array Value} (hw : ∀ d ∈ tables_1, d.before a0 Z = true) : (Jvm.Cond.methodLink "com/example/input_under_constraint/inputunderconstraint/CodePointSet" (90 : Nat) ({ cls := "java/lang/Long", name := "bitCount", desc := "(J)I" } : Jvm.MethodName)).before a0 Z = true := hw _ (List.mem_of_getElem? (i := 102) rfl)
theorem w103 {Z : State} {a0 : Array Value} (hw : ∀ d ∈ tables_1, d.before a0 Z = true) : (Jvm.Cond.static ({ cls := "java/lang/Long", name := "bitCount", desc := "(J)I" } : Jvm.MethodName)).before a0 Z = true := hw _ (List.mem_of_getElem? (i := 103) rfl)
theorem w104 {Z : State} {a0 : Array Value} (hw : ∀ d ∈ tables_1, d.before a0 Z = true) : (Jvm.Cond.initialized "java/lang/Long").before a0 Z = true := hw _ (List.mem_of_getElem? (i := 104) rfl)
theorem w105 {Z : State} {a0 : Array Value} (hw : ∀ d ∈ tables_1, d.before a0 Z = true) : (Jvm.Cond.code ({ cls := "java/lang/Long", name := "bitCount", desc := "(J)I" } : Jvm.MethodName) jdk_35_method_50_code (2 : Nat) (Option.some Jvm.ClassFile.FieldType.int)).before a0 Z = true := hw _ (List.mem_of_getElem? (i := 105) rfl)
theorem w106 {Z : State} {a0 : Array Value} (hw : ∀ d ∈ tables_1, d.before a0 Z = true) : (Jvm.Cond.constantLong "java/lang/Long" (314 : Nat) (6148914691236517205 : Int64)).before a0 Z = true := hw _ (List.mem_of_getElem? (i := 106) rfl)
theorem w107 {Z : State} {a0 : Array Value} (hw : ∀ d ∈ tables_1, d.before a0 Z = true) : (Jvm.Cond.constantLong "java/lang/Long" (316 : Nat) (3689348814741910323 : Int64)).before a0 Z = true := hw _ (List.mem_of_getElem? (i := 107) rfl)
theorem w108 {Z : State} {a0 : Array Value} (hw : ∀ d ∈ tables_1, d.before a0 Z = true) : (Jvm.Cond.constantLong "java/lang/Long" (318 : Nat) (1085102592571150095 : Int64)).before a0 Z = true := hw _ (List.mem_of_getElem? (i := 108) rfl)
theorem pd0 : parseMethodDescriptor "(I)I" = some ⟨[.int], some .int⟩ := by decide +kernel
theorem pd1 : parseMethodDescriptor "(I)V" = some ⟨[.int], none⟩ := by decide +kernel
theorem pd2 : parseMethodDescriptor "()V" = some ⟨[], none⟩ := by decide +kernel
theorem pd3 : parseMethodDescriptor "(II)V" = some ⟨[.int, .int], none⟩ := by decide +kernel
theorem pd4 : parseMethodDescriptor "([JI)[J" = some ⟨[(.array .long), .int], some (.array .long)⟩ := by decide +kernel
theorem pd5 : parseMethodDescriptor "()[J" = some ⟨[], some (.array .long)⟩ := by decide +kernel
theorem pd6 : parseMethodDescriptor "([J)V" = some ⟨[(.array .long)], none⟩ := by decide +kernel
theorem pd7 : parseMethodDescriptor "(I)Z" = some ⟨[.int], some .boolean⟩ := by decide +kernel
theorem pd8 : parseMethodDescriptor "(Ljava/util/BitSet;)V" = some ⟨[(.object "java/util/BitSet")], none⟩ := by decide +kernel
theorem pd9 : parseMethodDescriptor "(J)I" = some ⟨[.long], some .int⟩ := by decide +kernel
theorem pd10 : parseMethodDescriptor "(II)Lcom/example/input_under_constraint/inputunderconstraint/CodePointSet;" = some ⟨[.int, .int], some (.object "com/example/input_under_constraint/inputunderconstraint/CodePointSet")⟩ := by decide +kernel
theorem pd11 : parseMethodDescriptor "(III)Z" = some ⟨[.int, .int, .int], some .boolean⟩ := by decide +kernel
theorem pd12 : parseMethodDescriptor "()I" = some ⟨[], some .int⟩ := by decide +kernel
theorem djdk_89_11_0 : decode jdk_89_method_11_code 0 = .ok (.iload_n 0, 1) := by decide +kernel
theorem djdk_89_11_1 : decode jdk_89_method_11_code 1 = .ok (.bipush 16, 2) := by decide +kernel
theorem djdk_89_11_3 : decode jdk_89_method_11_code 3 = .ok (.iushr, 1) := by decide +kernel
theorem djdk_89_11_4 : decode jdk_89_method_11_code 4 = .ok (.istore_n 1, 1) := by decide +kernel
theorem djdk_89_11_5 : decode jdk_89_method_11_code 5 = .ok (.iload_n 1, 1) := by decide +kernel
theorem djdk_89_11_6 : decode jdk_89_method_11_code 6 = .ok (.bipush 17, 2) := by decide +kernel
theorem djdk_89_11_8 : decode jdk_89_method_11_code 8 = .ok (.if_icmp .ge 7, 3) := by decide +kernel
theorem djdk_89_11_11 : decode jdk_89_method_11_code 11 = .ok (.iconst 1, 1) := by decide +kernel
theorem djdk_89_11_12 : decode jdk_89_method_11_code 12 = .ok (.goto 4, 3) := by decide +kernel
theorem djdk_89_11_16 : decode jdk_89_method_11_code 16 = .ok (.ireturn, 1) := by decide +kernel
theorem djdk_92_1_0 : decode jdk_92_method_1_code 0 = .ok (.iload_n 0, 1) := by decide +kernel
theorem djdk_92_1_1 : decode jdk_92_method_1_code 1 = .ok (.bipush 6, 2) := by decide +kernel
theorem djdk_92_1_3 : decode jdk_92_method_1_code 3 = .ok (.ishr, 1) := by decide +kernel
theorem djdk_92_1_4 : decode jdk_92_method_1_code 4 = .ok (.ireturn, 1) := by decide +kernel
theorem djdk_92_6_0 : decode jdk_92_method_6_code 0 = .ok (.aload_n 0, 1) := by decide +kernel
theorem djdk_92_6_1 : decode jdk_92_method_6_code 1 = .ok (.iload_n 1, 1) := by decide +kernel
theorem djdk_92_6_2 : decode jdk_92_method_6_code 2 = .ok (.iconst 1, 1) := by decide +kernel
theorem djdk_92_6_3 : decode jdk_92_method_6_code 3 = .ok (.isub, 1) := by decide +kernel
theorem djdk_92_6_4 : decode jdk_92_method_6_code 4 = .ok (.invokestatic 52, 3) := by decide +kernel
theorem djdk_92_6_7 : decode jdk_92_method_6_code 7 = .ok (.iconst 1, 1) := by decide +kernel
theorem djdk_92_6_8 : decode jdk_92_method_6_code 8 = .ok (.iadd, 1) := by decide +kernel
theorem djdk_92_6_9 : decode jdk_92_method_6_code 9 = .ok (.newarray .long, 2) := by decide +kernel
theorem djdk_92_6_11 : decode jdk_92_method_6_code 11 = .ok (.putfield 11, 3) := by decide +kernel
theorem djdk_92_6_14 : decode jdk_92_method_6_code 14 = .ok (.return_, 1) := by decide +kernel
theorem djdk_92_5_0 : decode jdk_92_method_5_code 0 = .ok (.aload_n 0, 1) := by decide +kernel
theorem djdk_92_5_1 : decode jdk_92_method_5_code 1 = .ok (.invokespecial 21, 3) := by decide +kernel
theorem djdk_92_5_4 : decode jdk_92_method_5_code 4 = .ok (.aload_n 0, 1) := by decide +kernel
theorem djdk_92_5_5 : decode jdk_92_method_5_code 5 = .ok (.iconst 0, 1) := by decide +kernel
theorem djdk_92_5_6 : decode jdk_92_method_5_code 6 = .ok (.putfield 7, 3) := by decide +kernel
theorem djdk_92_5_9 : decode jdk_92_method_5_code 9 = .ok (.aload_n 0, 1) := by decide +kernel
theorem djdk_92_5_10 : decode jdk_92_method_5_code 10 = .ok (.iconst 0, 1) := by decide +kernel
theorem djdk_92_5_11 : decode jdk_92_method_5_code 11 = .ok (.putfield 24, 3) := by decide +kernel
theorem djdk_92_5_14 : decode jdk_92_method_5_code 14 = .ok (.iload_n 1, 1) := by decide +kernel
theorem djdk_92_5_15 : decode jdk_92_method_5_code 15 = .ok (.ifCond .ge 30, 3) := by decide +kernel
theorem djdk_92_5_45 : decode jdk_92_method_5_code 45 = .ok (.aload_n 0, 1) := by decide +kernel
theorem djdk_92_5_46 : decode jdk_92_method_5_code 46 = .ok (.iload_n 1, 1) := by decide +kernel
theorem djdk_92_5_47 : decode jdk_92_method_5_code 47 = .ok (.invokevirtual 27, 3) := by decide +kernel
theorem djdk_92_5_50 : decode jdk_92_method_5_code 50 = .ok (.aload_n 0, 1) := by decide +kernel
theorem djdk_92_5_51 : decode jdk_92_method_5_code 51 = .ok (.iconst 1, 1) := by decide +kernel
theorem djdk_92_5_52 : decode jdk_92_method_5_code 52 = .ok (.putfield 24, 3) := by decide +kernel
theorem djdk_92_5_55 : decode jdk_92_method_5_code 55 = .ok (.return_, 1) := by decide +kernel
theorem djdk_92_16_0 : decode jdk_92_method_16_code 0 = .ok (.iload_n 0, 1) := by decide +kernel
theorem djdk_92_16_1 : decode jdk_92_method_16_code 1 = .ok (.ifCond .ge 30, 3) := by decide +kernel
theorem djdk_92_16_31 : decode jdk_92_method_16_code 31 = .ok (.iload_n 1, 1) := by decide +kernel
theorem djdk_92_16_32 : decode jdk_92_method_16_code 32 = .ok (.ifCond .ge 30, 3) := by decide +kernel
theorem djdk_92_16_62 : decode jdk_92_method_16_code 62 = .ok (.iload_n 0, 1) := by decide +kernel
theorem djdk_92_16_63 : decode jdk_92_method_16_code 63 = .ok (.iload_n 1, 1) := by decide +kernel
theorem djdk_92_16_64 : decode jdk_92_method_16_code 64 = .ok (.if_icmp .le 39, 3) := by decide +kernel
theorem djdk_92_16_103 : decode jdk_92_method_16_code 103 = .ok (.return_, 1) := by decide +kernel
theorem djdk_92_14_0 : decode jdk_92_method_14_code 0 = .ok (.aload_n 0, 1) := by decide +kernel
theorem djdk_92_14_1 : decode jdk_92_method_14_code 1 = .ok (.getfield 11, 3) := by decide +kernel
theorem djdk_92_14_4 : decode jdk_92_method_14_code 4 = .ok (.arraylength, 1) := by decide +kernel
theorem djdk_92_14_5 : decode jdk_92_method_14_code 5 = .ok (.iload_n 1, 1) := by decide +kernel
theorem djdk_92_14_6 : decode jdk_92_method_14_code 6 = .ok (.if_icmp .ge 32, 3) := by decide +kernel
theorem djdk_92_14_38 : decode jdk_92_method_14_code 38 = .ok (.return_, 1) := by decide +kernel
theorem djdk_92_15_0 : decode jdk_92_method_15_code 0 = .ok (.iload_n 1, 1) := by decide +kernel
theorem djdk_92_15_1 : decode jdk_92_method_15_code 1 = .ok (.iconst 1, 1) := by decide +kernel
theorem djdk_92_15_2 : decode jdk_92_method_15_code 2 = .ok (.iadd, 1) := by decide +kernel
theorem djdk_92_15_3 : decode jdk_92_method_15_code 3 = .ok (.istore_n 2, 1) := by decide +kernel
theorem djdk_92_15_4 : decode jdk_92_method_15_code 4 = .ok (.aload_n 0, 1) := by decide +kernel
theorem djdk_92_15_5 : decode jdk_92_method_15_code 5 = .ok (.getfield 7, 3) := by decide +kernel
theorem djdk_92_15_8 : decode jdk_92_method_15_code 8 = .ok (.iload_n 2, 1) := by decide +kernel
theorem djdk_92_15_9 : decode jdk_92_method_15_code 9 = .ok (.if_icmp .ge 13, 3) := by decide +kernel
theorem djdk_92_15_12 : decode jdk_92_method_15_code 12 = .ok (.aload_n 0, 1) := by decide +kernel
theorem djdk_92_15_13 : decode jdk_92_method_15_code 13 = .ok (.iload_n 2, 1) := by decide +kernel
theorem djdk_92_15_14 : decode jdk_92_method_15_code 14 = .ok (.invokevirtual 139, 3) := by decide +kernel
theorem djdk_92_15_17 : decode jdk_92_method_15_code 17 = .ok (.aload_n 0, 1) := by decide +kernel
theorem djdk_92_15_18 : decode jdk_92_method_15_code 18 = .ok (.iload_n 2, 1) := by decide +kernel
theorem djdk_92_15_19 : decode jdk_92_method_15_code 19 = .ok (.putfield 7, 3) := by decide +kernel
theorem djdk_92_15_22 : decode jdk_92_method_15_code 22 = .ok (.return_, 1) := by decide +kernel
theorem djdk_92_2_0 : decode jdk_92_method_2_code 0 = .ok (.getstatic 3, 3) := by decide +kernel
theorem djdk_92_2_3 : decode jdk_92_method_2_code 3 = .ok (.ifCond .ne 34, 3) := by decide +kernel
theorem djdk_92_2_37 : decode jdk_92_method_2_code 37 = .ok (.getstatic 3, 3) := by decide +kernel
theorem djdk_92_2_40 : decode jdk_92_method_2_code 40 = .ok (.ifCond .ne 30, 3) := by decide +kernel
theorem djdk_92_2_70 : decode jdk_92_method_2_code 70 = .ok (.getstatic 3, 3) := by decide +kernel
theorem djdk_92_2_73 : decode jdk_92_method_2_code 73 = .ok (.ifCond .ne 37, 3) := by decide +kernel
theorem djdk_92_2_110 : decode jdk_92_method_2_code 110 = .ok (.return_, 1) := by decide +kernel
theorem djdk_92_21_84 : decode jdk_92_method_21_code 84 = .ok (.iload 9, 2) := by decide +kernel
theorem djdk_92_21_86 : decode jdk_92_method_21_code 86 = .ok (.iload 4, 2) := by decide +kernel
theorem djdk_92_21_88 : decode jdk_92_method_21_code 88 = .ok (.if_icmp .ge 19, 3) := by decide +kernel
theorem djdk_92_21_107 : decode jdk_92_method_21_code 107 = .ok (.aload_n 0, 1) := by decide +kernel
theorem djdk_92_21_108 : decode jdk_92_method_21_code 108 = .ok (.getfield 11, 3) := by decide +kernel
theorem djdk_92_21_111 : decode jdk_92_method_21_code 111 = .ok (.iload 4, 2) := by decide +kernel
theorem djdk_92_21_113 : decode jdk_92_method_21_code 113 = .ok (.dup2, 1) := by decide +kernel
theorem djdk_92_21_114 : decode jdk_92_method_21_code 114 = .ok (.laload, 1) := by decide +kernel
theorem djdk_92_21_115 : decode jdk_92_method_21_code 115 = .ok (.lload 7, 2) := by decide +kernel
theorem djdk_92_21_117 : decode jdk_92_method_21_code 117 = .ok (.lor, 1) := by decide +kernel
theorem djdk_92_21_118 : decode jdk_92_method_21_code 118 = .ok (.lastore, 1) := by decide +kernel
theorem djdk_92_21_119 : decode jdk_92_method_21_code 119 = .ok (.aload_n 0, 1) := by decide +kernel
theorem djdk_92_21_120 : decode jdk_92_method_21_code 120 = .ok (.invokevirtual 56, 3) := by decide +kernel
theorem djdk_92_21_123 : decode jdk_92_method_21_code 123 = .ok (.return_, 1) := by decide +kernel
theorem djdk_92_21_91 : decode jdk_92_method_21_code 91 = .ok (.aload_n 0, 1) := by decide +kernel
theorem djdk_92_21_92 : decode jdk_92_method_21_code 92 = .ok (.getfield 11, 3) := by decide +kernel
theorem djdk_92_21_95 : decode jdk_92_method_21_code 95 = .ok (.iload 9, 2) := by decide +kernel
theorem djdk_92_21_97 : decode jdk_92_method_21_code 97 = .ok (.ldc2_w 165, 3) := by decide +kernel
theorem djdk_92_21_100 : decode jdk_92_method_21_code 100 = .ok (.lastore, 1) := by decide +kernel
theorem djdk_92_21_101 : decode jdk_92_method_21_code 101 = .ok (.iinc 9 1, 3) := by decide +kernel
theorem djdk_92_21_104 : decode jdk_92_method_21_code 104 = .ok (.goto (-20), 3) := by decide +kernel
theorem djdk_92_21_0 : decode jdk_92_method_21_code 0 = .ok (.iload_n 1, 1) := by decide +kernel
theorem djdk_92_21_1 : decode jdk_92_method_21_code 1 = .ok (.iload_n 2, 1) := by decide +kernel
theorem djdk_92_21_2 : decode jdk_92_method_21_code 2 = .ok (.invokestatic 161, 3) := by decide +kernel
theorem djdk_92_21_5 : decode jdk_92_method_21_code 5 = .ok (.iload_n 1, 1) := by decide +kernel
theorem djdk_92_21_6 : decode jdk_92_method_21_code 6 = .ok (.iload_n 2, 1) := by decide +kernel
theorem djdk_92_21_7 : decode jdk_92_method_21_code 7 = .ok (.if_icmp .ne 4, 3) := by decide +kernel
theorem djdk_92_21_11 : decode jdk_92_method_21_code 11 = .ok (.iload_n 1, 1) := by decide +kernel
theorem djdk_92_21_12 : decode jdk_92_method_21_code 12 = .ok (.invokestatic 52, 3) := by decide +kernel
theorem djdk_92_21_15 : decode jdk_92_method_21_code 15 = .ok (.istore_n 3, 1) := by decide +kernel
theorem djdk_92_21_16 : decode jdk_92_method_21_code 16 = .ok (.iload_n 2, 1) := by decide +kernel
theorem djdk_92_21_17 : decode jdk_92_method_21_code 17 = .ok (.iconst 1, 1) := by decide +kernel
theorem djdk_92_21_18 : decode jdk_92_method_21_code 18 = .ok (.isub, 1) := by decide +kernel
theorem djdk_92_21_19 : decode jdk_92_method_21_code 19 = .ok (.invokestatic 52, 3) := by decide +kernel
theorem djdk_92_21_22 : decode jdk_92_method_21_code 22 = .ok (.istore 4, 2) := by decide +kernel
theorem djdk_92_21_24 : decode jdk_92_method_21_code 24 = .ok (.aload_n 0, 1) := by decide +kernel
theorem djdk_92_21_25 : decode jdk_92_method_21_code 25 = .ok (.iload 4, 2) := by decide +kernel
theorem djdk_92_21_27 : decode jdk_92_method_21_code 27 = .ok (.invokevirtual 155, 3) := by decide +kernel
theorem djdk_92_21_30 : decode jdk_92_method_21_code 30 = .ok (.ldc2_w 165, 3) := by decide +kernel
theorem djdk_92_21_33 : decode jdk_92_method_21_code 33 = .ok (.iload_n 1, 1) := by decide +kernel
theorem djdk_92_21_34 : decode jdk_92_method_21_code 34 = .ok (.lshl, 1) := by decide +kernel
theorem djdk_92_21_35 : decode jdk_92_method_21_code 35 = .ok (.lstore 5, 2) := by decide +kernel
theorem djdk_92_21_37 : decode jdk_92_method_21_code 37 = .ok (.ldc2_w 165, 3) := by decide +kernel
theorem djdk_92_21_40 : decode jdk_92_method_21_code 40 = .ok (.iload_n 2, 1) := by decide +kernel
theorem djdk_92_21_41 : decode jdk_92_method_21_code 41 = .ok (.ineg, 1) := by decide +kernel
theorem djdk_92_21_42 : decode jdk_92_method_21_code 42 = .ok (.lushr, 1) := by decide +kernel
theorem djdk_92_21_43 : decode jdk_92_method_21_code 43 = .ok (.lstore 7, 2) := by decide +kernel
theorem djdk_92_21_45 : decode jdk_92_method_21_code 45 = .ok (.iload_n 3, 1) := by decide +kernel
theorem djdk_92_21_46 : decode jdk_92_method_21_code 46 = .ok (.iload 4, 2) := by decide +kernel
theorem djdk_92_21_48 : decode jdk_92_method_21_code 48 = .ok (.if_icmp .ne 20, 3) := by decide +kernel
theorem djdk_92_21_51 : decode jdk_92_method_21_code 51 = .ok (.aload_n 0, 1) := by decide +kernel
theorem djdk_92_21_52 : decode jdk_92_method_21_code 52 = .ok (.getfield 11, 3) := by decide +kernel
theorem djdk_92_21_55 : decode jdk_92_method_21_code 55 = .ok (.iload_n 3, 1) := by decide +kernel
theorem djdk_92_21_56 : decode jdk_92_method_21_code 56 = .ok (.dup2, 1) := by decide +kernel
theorem djdk_92_21_57 : decode jdk_92_method_21_code 57 = .ok (.laload, 1) := by decide +kernel
theorem djdk_92_21_58 : decode jdk_92_method_21_code 58 = .ok (.lload 5, 2) := by decide +kernel
theorem djdk_92_21_60 : decode jdk_92_method_21_code 60 = .ok (.lload 7, 2) := by decide +kernel
theorem djdk_92_21_62 : decode jdk_92_method_21_code 62 = .ok (.land, 1) := by decide +kernel
theorem djdk_92_21_63 : decode jdk_92_method_21_code 63 = .ok (.lor, 1) := by decide +kernel
theorem djdk_92_21_64 : decode jdk_92_method_21_code 64 = .ok (.lastore, 1) := by decide +kernel
theorem djdk_92_21_65 : decode jdk_92_method_21_code 65 = .ok (.goto 54, 3) := by decide +kernel
theorem djdk_92_21_68 : decode jdk_92_method_21_code 68 = .ok (.aload_n 0, 1) := by decide +kernel
theorem djdk_92_21_69 : decode jdk_92_method_21_code 69 = .ok (.getfield 11, 3) := by decide +kernel
theorem djdk_92_21_72 : decode jdk_92_method_21_code 72 = .ok (.iload_n 3, 1) := by decide +kernel
theorem djdk_92_21_73 : decode jdk_92_method_21_code 73 = .ok (.dup2, 1) := by decide +kernel
theorem djdk_92_21_74 : decode jdk_92_method_21_code 74 = .ok (.laload, 1) := by decide +kernel
theorem djdk_92_21_75 : decode jdk_92_method_21_code 75 = .ok (.lload 5, 2) := by decide +kernel
theorem djdk_92_21_77 : decode jdk_92_method_21_code 77 = .ok (.lor, 1) := by decide +kernel
theorem djdk_92_21_78 : decode jdk_92_method_21_code 78 = .ok (.lastore, 1) := by decide +kernel
theorem djdk_92_21_79 : decode jdk_92_method_21_code 79 = .ok (.iload_n 3, 1) := by decide +kernel
theorem djdk_92_21_80 : decode jdk_92_method_21_code 80 = .ok (.iconst 1, 1) := by decide +kernel
theorem djdk_92_21_81 : decode jdk_92_method_21_code 81 = .ok (.iadd, 1) := by decide +kernel
theorem djdk_92_21_82 : decode jdk_92_method_21_code 82 = .ok (.istore 9, 2) := by decide +kernel
theorem djdk_65_124_0 : decode jdk_65_method_124_code 0 = .ok (.iload_n 1, 1) := by decide +kernel
theorem djdk_65_124_1 : decode jdk_65_method_124_code 1 = .ok (.aload_n 0, 1) := by decide +kernel
theorem djdk_65_124_2 : decode jdk_65_method_124_code 2 = .ok (.arraylength, 1) := by decide +kernel
theorem djdk_65_124_3 : decode jdk_65_method_124_code 3 = .ok (.if_icmp .ne 11, 3) := by decide +kernel
theorem djdk_65_124_6 : decode jdk_65_method_124_code 6 = .ok (.aload_n 0, 1) := by decide +kernel
theorem djdk_65_124_7 : decode jdk_65_method_124_code 7 = .ok (.invokevirtual 319, 3) := by decide +kernel
theorem djdk_65_124_10 : decode jdk_65_method_124_code 10 = .ok (.checkcast 320, 3) := by decide +kernel
theorem djdk_65_124_13 : decode jdk_65_method_124_code 13 = .ok (.areturn, 1) := by decide +kernel
theorem djdk_92_13_0 : decode jdk_92_method_13_code 0 = .ok (.aload_n 0, 1) := by decide +kernel
theorem djdk_92_13_1 : decode jdk_92_method_13_code 1 = .ok (.getfield 11, 3) := by decide +kernel
theorem djdk_92_13_4 : decode jdk_92_method_13_code 4 = .ok (.aload_n 0, 1) := by decide +kernel
theorem djdk_92_13_5 : decode jdk_92_method_13_code 5 = .ok (.getfield 7, 3) := by decide +kernel
theorem djdk_92_13_8 : decode jdk_92_method_13_code 8 = .ok (.invokestatic 59, 3) := by decide +kernel
theorem djdk_92_13_11 : decode jdk_92_method_13_code 11 = .ok (.areturn, 1) := by decide +kernel
theorem dprog_8_2_0 : decode prog_8_method_2_code 0 = .ok (.aload_n 0, 1) := by decide +kernel
theorem dprog_8_2_1 : decode prog_8_method_2_code 1 = .ok (.invokespecial 13, 3) := by decide +kernel
theorem dprog_8_2_4 : decode prog_8_method_2_code 4 = .ok (.aload_n 0, 1) := by decide +kernel
theorem dprog_8_2_5 : decode prog_8_method_2_code 5 = .ok (.aload_n 1, 1) := by decide +kernel
theorem dprog_8_2_6 : decode prog_8_method_2_code 6 = .ok (.putfield 18, 3) := by decide +kernel
theorem dprog_8_2_9 : decode prog_8_method_2_code 9 = .ok (.return_, 1) := by decide +kernel
theorem dprog_8_1_0 : decode prog_8_method_1_code 0 = .ok (.aload_n 0, 1) := by decide +kernel
theorem dprog_8_1_1 : decode prog_8_method_1_code 1 = .ok (.aload_n 1, 1) := by decide +kernel
theorem dprog_8_1_2 : decode prog_8_method_1_code 2 = .ok (.invokevirtual 1, 3) := by decide +kernel
theorem dprog_8_1_5 : decode prog_8_method_1_code 5 = .ok (.invokespecial 7, 3) := by decide +kernel
theorem dprog_8_1_8 : decode prog_8_method_1_code 8 = .ok (.return_, 1) := by decide +kernel
theorem dprog_8_4_0 : decode prog_8_method_4_code 0 = .ok (.iload_n 0, 1) := by decide +kernel
theorem dprog_8_4_1 : decode prog_8_method_4_code 1 = .ok (.invokestatic 53, 3) := by decide +kernel
theorem dprog_8_4_4 : decode prog_8_method_4_code 4 = .ok (.ifCond .eq 10, 3) := by decide +kernel
theorem dprog_8_4_7 : decode prog_8_method_4_code 7 = .ok (.iload_n 1, 1) := by decide +kernel
theorem dprog_8_4_8 : decode prog_8_method_4_code 8 = .ok (.invokestatic 53, 3) := by decide +kernel
theorem dprog_8_4_11 : decode prog_8_method_4_code 11 = .ok (.ifCond .ne 24, 3) := by decide +kernel
theorem dprog_8_4_35 : decode prog_8_method_4_code 35 = .ok (.iload_n 0, 1) := by decide +kernel
theorem dprog_8_4_36 : decode prog_8_method_4_code 36 = .ok (.iload_n 1, 1) := by decide +kernel
theorem dprog_8_4_37 : decode prog_8_method_4_code 37 = .ok (.if_icmp .le 24, 3) := by decide +kernel
theorem dprog_8_4_61 : decode prog_8_method_4_code 61 = .ok (.new 2, 3) := by decide +kernel
theorem dprog_8_4_64 : decode prog_8_method_4_code 64 = .ok (.dup, 1) := by decide +kernel
theorem dprog_8_4_65 : decode prog_8_method_4_code 65 = .ok (.iload_n 1, 1) := by decide +kernel
theorem dprog_8_4_66 : decode prog_8_method_4_code 66 = .ok (.iconst 1, 1) := by decide +kernel
theorem dprog_8_4_67 : decode prog_8_method_4_code 67 = .ok (.iadd, 1) := by decide +kernel
theorem dprog_8_4_68 : decode prog_8_method_4_code 68 = .ok (.invokespecial 73, 3) := by decide +kernel
theorem dprog_8_4_71 : decode prog_8_method_4_code 71 = .ok (.astore_n 2, 1) := by decide +kernel
theorem dprog_8_4_72 : decode prog_8_method_4_code 72 = .ok (.aload_n 2, 1) := by decide +kernel
theorem dprog_8_4_73 : decode prog_8_method_4_code 73 = .ok (.iload_n 0, 1) := by decide +kernel
theorem dprog_8_4_74 : decode prog_8_method_4_code 74 = .ok (.iload_n 1, 1) := by decide +kernel
theorem dprog_8_4_75 : decode prog_8_method_4_code 75 = .ok (.iconst 1, 1) := by decide +kernel
theorem dprog_8_4_76 : decode prog_8_method_4_code 76 = .ok (.iadd, 1) := by decide +kernel
theorem dprog_8_4_77 : decode prog_8_method_4_code 77 = .ok (.invokevirtual 76, 3) := by decide +kernel
theorem dprog_8_4_80 : decode prog_8_method_4_code 80 = .ok (.new 8, 3) := by decide +kernel
theorem dprog_8_4_83 : decode prog_8_method_4_code 83 = .ok (.dup, 1) := by decide +kernel
theorem dprog_8_4_84 : decode prog_8_method_4_code 84 = .ok (.aload_n 2, 1) := by decide +kernel
theorem dprog_8_4_85 : decode prog_8_method_4_code 85 = .ok (.invokespecial 50, 3) := by decide +kernel
theorem dprog_8_4_88 : decode prog_8_method_4_code 88 = .ok (.areturn, 1) := by decide +kernel
theorem dprog_8_6_0 : decode prog_8_method_6_code 0 = .ok (.iload_n 1, 1) := by decide +kernel
theorem dprog_8_6_1 : decode prog_8_method_6_code 1 = .ok (.bipush 6, 2) := by decide +kernel
theorem dprog_8_6_3 : decode prog_8_method_6_code 3 = .ok (.iushr, 1) := by decide +kernel
theorem dprog_8_6_4 : decode prog_8_method_6_code 4 = .ok (.istore_n 2, 1) := by decide +kernel
theorem dprog_8_6_5 : decode prog_8_method_6_code 5 = .ok (.iload_n 2, 1) := by decide +kernel
theorem dprog_8_6_6 : decode prog_8_method_6_code 6 = .ok (.aload_n 0, 1) := by decide +kernel
theorem dprog_8_6_7 : decode prog_8_method_6_code 7 = .ok (.getfield 18, 3) := by decide +kernel
theorem dprog_8_6_10 : decode prog_8_method_6_code 10 = .ok (.arraylength, 1) := by decide +kernel
theorem dprog_8_6_11 : decode prog_8_method_6_code 11 = .ok (.if_icmp .ge 22, 3) := by decide +kernel
theorem dprog_8_6_14 : decode prog_8_method_6_code 14 = .ok (.aload_n 0, 1) := by decide +kernel
theorem dprog_8_6_15 : decode prog_8_method_6_code 15 = .ok (.getfield 18, 3) := by decide +kernel
theorem dprog_8_6_18 : decode prog_8_method_6_code 18 = .ok (.iload_n 2, 1) := by decide +kernel
theorem dprog_8_6_19 : decode prog_8_method_6_code 19 = .ok (.laload, 1) := by decide +kernel
theorem dprog_8_6_20 : decode prog_8_method_6_code 20 = .ok (.lconst 1, 1) := by decide +kernel
theorem dprog_8_6_21 : decode prog_8_method_6_code 21 = .ok (.iload_n 1, 1) := by decide +kernel
theorem dprog_8_6_22 : decode prog_8_method_6_code 22 = .ok (.lshl, 1) := by decide +kernel
theorem dprog_8_6_23 : decode prog_8_method_6_code 23 = .ok (.land, 1) := by decide +kernel
theorem dprog_8_6_24 : decode prog_8_method_6_code 24 = .ok (.lconst 0, 1) := by decide +kernel
theorem dprog_8_6_25 : decode prog_8_method_6_code 25 = .ok (.lcmp, 1) := by decide +kernel
theorem dprog_8_6_26 : decode prog_8_method_6_code 26 = .ok (.ifCond .eq 7, 3) := by decide +kernel
theorem dprog_8_6_33 : decode prog_8_method_6_code 33 = .ok (.iconst 0, 1) := by decide +kernel
theorem dprog_8_6_34 : decode prog_8_method_6_code 34 = .ok (.ireturn, 1) := by decide +kernel
theorem dprog_8_6_29 : decode prog_8_method_6_code 29 = .ok (.iconst 1, 1) := by decide +kernel
theorem dprog_8_6_30 : decode prog_8_method_6_code 30 = .ok (.goto 4, 3) := by decide +kernel
theorem dm_2_0 : decode method_2_code 0 = .ok (.iload_n 0, 1) := by decide +kernel
theorem dm_2_1 : decode method_2_code 1 = .ok (.iload_n 2, 1) := by decide +kernel
theorem dm_2_2 : decode method_2_code 2 = .ok (.if_icmp .gt 12, 3) := by decide +kernel
theorem dm_2_14 : decode method_2_code 14 = .ok (.iconst 0, 1) := by decide +kernel
theorem dm_2_15 : decode method_2_code 15 = .ok (.ireturn, 1) := by decide +kernel
theorem dm_2_5 : decode method_2_code 5 = .ok (.iload_n 2, 1) := by decide +kernel
theorem dm_2_6 : decode method_2_code 6 = .ok (.iload_n 1, 1) := by decide +kernel
theorem dm_2_7 : decode method_2_code 7 = .ok (.if_icmp .gt 7, 3) := by decide +kernel
theorem dm_2_10 : decode method_2_code 10 = .ok (.iconst 1, 1) := by decide +kernel
theorem dm_2_11 : decode method_2_code 11 = .ok (.goto 4, 3) := by decide +kernel
theorem djdk_35_50_0 : decode jdk_35_method_50_code 0 = .ok (.lload_n 0, 1) := by decide +kernel
theorem djdk_35_50_1 : decode jdk_35_method_50_code 1 = .ok (.lload_n 0, 1) := by decide +kernel
theorem djdk_35_50_2 : decode jdk_35_method_50_code 2 = .ok (.iconst 1, 1) := by decide +kernel
theorem djdk_35_50_3 : decode jdk_35_method_50_code 3 = .ok (.lushr, 1) := by decide +kernel
theorem djdk_35_50_4 : decode jdk_35_method_50_code 4 = .ok (.ldc2_w 314, 3) := by decide +kernel
theorem djdk_35_50_7 : decode jdk_35_method_50_code 7 = .ok (.land, 1) := by decide +kernel
theorem djdk_35_50_8 : decode jdk_35_method_50_code 8 = .ok (.lsub, 1) := by decide +kernel
theorem djdk_35_50_9 : decode jdk_35_method_50_code 9 = .ok (.lstore_n 0, 1) := by decide +kernel
theorem djdk_35_50_10 : decode jdk_35_method_50_code 10 = .ok (.lload_n 0, 1) := by decide +kernel
theorem djdk_35_50_11 : decode jdk_35_method_50_code 11 = .ok (.ldc2_w 316, 3) := by decide +kernel
theorem djdk_35_50_14 : decode jdk_35_method_50_code 14 = .ok (.land, 1) := by decide +kernel
theorem djdk_35_50_15 : decode jdk_35_method_50_code 15 = .ok (.lload_n 0, 1) := by decide +kernel
theorem djdk_35_50_16 : decode jdk_35_method_50_code 16 = .ok (.iconst 2, 1) := by decide +kernel
theorem djdk_35_50_17 : decode jdk_35_method_50_code 17 = .ok (.lushr, 1) := by decide +kernel
theorem djdk_35_50_18 : decode jdk_35_method_50_code 18 = .ok (.ldc2_w 316, 3) := by decide +kernel
theorem djdk_35_50_21 : decode jdk_35_method_50_code 21 = .ok (.land, 1) := by decide +kernel
theorem djdk_35_50_22 : decode jdk_35_method_50_code 22 = .ok (.ladd, 1) := by decide +kernel
theorem djdk_35_50_23 : decode jdk_35_method_50_code 23 = .ok (.lstore_n 0, 1) := by decide +kernel
theorem djdk_35_50_24 : decode jdk_35_method_50_code 24 = .ok (.lload_n 0, 1) := by decide +kernel
theorem djdk_35_50_25 : decode jdk_35_method_50_code 25 = .ok (.lload_n 0, 1) := by decide +kernel
theorem djdk_35_50_26 : decode jdk_35_method_50_code 26 = .ok (.iconst 4, 1) := by decide +kernel
theorem djdk_35_50_27 : decode jdk_35_method_50_code 27 = .ok (.lushr, 1) := by decide +kernel
theorem djdk_35_50_28 : decode jdk_35_method_50_code 28 = .ok (.ladd, 1) := by decide +kernel
theorem djdk_35_50_29 : decode jdk_35_method_50_code 29 = .ok (.ldc2_w 318, 3) := by decide +kernel
theorem djdk_35_50_32 : decode jdk_35_method_50_code 32 = .ok (.land, 1) := by decide +kernel
theorem djdk_35_50_33 : decode jdk_35_method_50_code 33 = .ok (.lstore_n 0, 1) := by decide +kernel
theorem djdk_35_50_34 : decode jdk_35_method_50_code 34 = .ok (.lload_n 0, 1) := by decide +kernel
theorem djdk_35_50_35 : decode jdk_35_method_50_code 35 = .ok (.lload_n 0, 1) := by decide +kernel
theorem djdk_35_50_36 : decode jdk_35_method_50_code 36 = .ok (.bipush 8, 2) := by decide +kernel
theorem djdk_35_50_38 : decode jdk_35_method_50_code 38 = .ok (.lushr, 1) := by decide +kernel
theorem djdk_35_50_39 : decode jdk_35_method_50_code 39 = .ok (.ladd, 1) := by decide +kernel
theorem djdk_35_50_40 : decode jdk_35_method_50_code 40 = .ok (.lstore_n 0, 1) := by decide +kernel
theorem djdk_35_50_41 : decode jdk_35_method_50_code 41 = .ok (.lload_n 0, 1) := by decide +kernel
theorem djdk_35_50_42 : decode jdk_35_method_50_code 42 = .ok (.lload_n 0, 1) := by decide +kernel
theorem djdk_35_50_43 : decode jdk_35_method_50_code 43 = .ok (.bipush 16, 2) := by decide +kernel
theorem djdk_35_50_45 : decode jdk_35_method_50_code 45 = .ok (.lushr, 1) := by decide +kernel
theorem djdk_35_50_46 : decode jdk_35_method_50_code 46 = .ok (.ladd, 1) := by decide +kernel
theorem djdk_35_50_47 : decode jdk_35_method_50_code 47 = .ok (.lstore_n 0, 1) := by decide +kernel
theorem djdk_35_50_48 : decode jdk_35_method_50_code 48 = .ok (.lload_n 0, 1) := by decide +kernel
theorem djdk_35_50_49 : decode jdk_35_method_50_code 49 = .ok (.lload_n 0, 1) := by decide +kernel
theorem djdk_35_50_50 : decode jdk_35_method_50_code 50 = .ok (.bipush 32, 2) := by decide +kernel
theorem djdk_35_50_52 : decode jdk_35_method_50_code 52 = .ok (.lushr, 1) := by decide +kernel
theorem djdk_35_50_53 : decode jdk_35_method_50_code 53 = .ok (.ladd, 1) := by decide +kernel
theorem djdk_35_50_54 : decode jdk_35_method_50_code 54 = .ok (.lstore_n 0, 1) := by decide +kernel
theorem djdk_35_50_55 : decode jdk_35_method_50_code 55 = .ok (.lload_n 0, 1) := by decide +kernel
theorem djdk_35_50_56 : decode jdk_35_method_50_code 56 = .ok (.l2i, 1) := by decide +kernel
theorem djdk_35_50_57 : decode jdk_35_method_50_code 57 = .ok (.bipush 127, 2) := by decide +kernel
theorem djdk_35_50_59 : decode jdk_35_method_50_code 59 = .ok (.iand, 1) := by decide +kernel
theorem djdk_35_50_60 : decode jdk_35_method_50_code 60 = .ok (.ireturn, 1) := by decide +kernel
theorem dprog_8_7_13 : decode prog_8_method_7_code 13 = .ok (.iload 4, 2) := by decide +kernel
theorem dprog_8_7_15 : decode prog_8_method_7_code 15 = .ok (.iload_n 3, 1) := by decide +kernel
theorem dprog_8_7_16 : decode prog_8_method_7_code 16 = .ok (.if_icmp .ge 23, 3) := by decide +kernel
theorem dprog_8_7_39 : decode prog_8_method_7_code 39 = .ok (.iload_n 1, 1) := by decide +kernel
theorem dprog_8_7_40 : decode prog_8_method_7_code 40 = .ok (.ireturn, 1) := by decide +kernel
theorem dprog_8_7_19 : decode prog_8_method_7_code 19 = .ok (.aload_n 2, 1) := by decide +kernel
theorem dprog_8_7_20 : decode prog_8_method_7_code 20 = .ok (.iload 4, 2) := by decide +kernel
theorem dprog_8_7_22 : decode prog_8_method_7_code 22 = .ok (.laload, 1) := by decide +kernel
theorem dprog_8_7_23 : decode prog_8_method_7_code 23 = .ok (.lstore 5, 2) := by decide +kernel
theorem dprog_8_7_25 : decode prog_8_method_7_code 25 = .ok (.iload_n 1, 1) := by decide +kernel
theorem dprog_8_7_26 : decode prog_8_method_7_code 26 = .ok (.lload 5, 2) := by decide +kernel
theorem dprog_8_7_28 : decode prog_8_method_7_code 28 = .ok (.invokestatic 90, 3) := by decide +kernel
theorem dprog_8_7_31 : decode prog_8_method_7_code 31 = .ok (.iadd, 1) := by decide +kernel
theorem dprog_8_7_32 : decode prog_8_method_7_code 32 = .ok (.istore_n 1, 1) := by decide +kernel
theorem dprog_8_7_33 : decode prog_8_method_7_code 33 = .ok (.iinc 4 1, 3) := by decide +kernel
theorem dprog_8_7_36 : decode prog_8_method_7_code 36 = .ok (.goto (-23), 3) := by decide +kernel
theorem dprog_8_7_0 : decode prog_8_method_7_code 0 = .ok (.iconst 0, 1) := by decide +kernel
theorem dprog_8_7_1 : decode prog_8_method_7_code 1 = .ok (.istore_n 1, 1) := by decide +kernel
theorem dprog_8_7_2 : decode prog_8_method_7_code 2 = .ok (.aload_n 0, 1) := by decide +kernel
theorem dprog_8_7_3 : decode prog_8_method_7_code 3 = .ok (.getfield 18, 3) := by decide +kernel
theorem dprog_8_7_6 : decode prog_8_method_7_code 6 = .ok (.astore_n 2, 1) := by decide +kernel
theorem dprog_8_7_7 : decode prog_8_method_7_code 7 = .ok (.aload_n 2, 1) := by decide +kernel
theorem dprog_8_7_8 : decode prog_8_method_7_code 8 = .ok (.arraylength, 1) := by decide +kernel
theorem dprog_8_7_9 : decode prog_8_method_7_code 9 = .ok (.istore_n 3, 1) := by decide +kernel
theorem dprog_8_7_10 : decode prog_8_method_7_code 10 = .ok (.iconst 0, 1) := by decide +kernel
theorem dprog_8_7_11 : decode prog_8_method_7_code 11 = .ok (.istore 4, 2) := by decide +kernel
theorem pf0 : plainFor (⟨"java/lang/Character", "isValidCodePoint", "(I)Z"⟩ : MethodName) = true := by first | exact plainFor_of_name (by first | (simp [plainName, overriddenIn]; done) | decide +kernel) | decide +kernel
theorem pf1 : plainFor (⟨"java/util/BitSet", "wordIndex", "(I)I"⟩ : MethodName) = true := by first | exact plainFor_of_name (by first | (simp [plainName, overriddenIn]; done) | decide +kernel) | decide +kernel
theorem pf2 : plainFor (⟨"java/util/BitSet", "initWords", "(I)V"⟩ : MethodName) = true := by first | exact plainFor_of_name (by first | (simp [plainName, overriddenIn]; done) | decide +kernel) | decide +kernel
theorem pf3 : plainFor (⟨"java/util/BitSet", "<init>", "(I)V"⟩ : MethodName) = true := by first | exact plainFor_of_name (by first | (simp [plainName, overriddenIn]; done) | decide +kernel) | decide +kernel
theorem pf4 : plainFor (⟨"java/util/BitSet", "checkRange", "(II)V"⟩ : MethodName) = true := by first | exact plainFor_of_name (by first | (simp [plainName, overriddenIn]; done) | decide +kernel) | decide +kernel
theorem pf5 : plainFor (⟨"java/util/BitSet", "ensureCapacity", "(I)V"⟩ : MethodName) = true := by first | exact plainFor_of_name (by first | (simp [plainName, overriddenIn]; done) | decide +kernel) | decide +kernel
theorem pf6 : plainFor (⟨"java/util/BitSet", "expandTo", "(I)V"⟩ : MethodName) = true := by first | exact plainFor_of_name (by first | (simp [plainName, overriddenIn]; done) | decide +kernel) | decide +kernel
theorem pf7 : plainFor (⟨"java/util/BitSet", "checkInvariants", "()V"⟩ : MethodName) = true := by first | exact plainFor_of_name (by first | (simp [plainName, overriddenIn]; done) | decide +kernel) | decide +kernel
theorem pf8 : plainFor (⟨"java/util/BitSet", "set", "(II)V"⟩ : MethodName) = true := by first | exact plainFor_of_name (by first | (simp [plainName, overriddenIn]; done) | decide +kernel) | decide +kernel
theorem pf9 : plainFor (⟨"java/util/Arrays", "copyOf", "([JI)[J"⟩ : MethodName) = true := by first | exact plainFor_of_name (by first | (simp [plainName, overriddenIn]; done) | decide +kernel) | decide +kernel
theorem pf10 : plainFor (⟨"java/util/BitSet", "toLongArray", "()[J"⟩ : MethodName) = true := by first | exact plainFor_of_name (by first | (simp [plainName, overriddenIn]; done) | decide +kernel) | decide +kernel
theorem pf11 : plainFor (⟨"com/example/input_under_constraint/inputunderconstraint/CodePointSet", "<init>", "([J)V"⟩ : MethodName) = true := by first | exact plainFor_of_name (by first | (simp [plainName, overriddenIn]; done) | decide +kernel) | decide +kernel
theorem pf12 : plainFor (⟨"com/example/input_under_constraint/inputunderconstraint/CodePointSet", "<init>", "(Ljava/util/BitSet;)V"⟩ : MethodName) = true := by first | exact plainFor_of_name (by first | (simp [plainName, overriddenIn]; done) | decide +kernel) | decide +kernel
theorem pf13 : plainFor (⟨"com/example/input_under_constraint/inputunderconstraint/CodePointSet", "range", "(II)Lcom/example/input_under_constraint/inputunderconstraint/CodePointSet;"⟩ : MethodName) = true := by first | exact plainFor_of_name (by first | (simp [plainName, overriddenIn]; done) | decide +kernel) | decide +kernel
theorem pf14 : plainFor (⟨"com/example/input_under_constraint/inputunderconstraint/CodePointSet", "contains", "(I)Z"⟩ : MethodName) = true := by first | exact plainFor_of_name (by first | (simp [plainName, overriddenIn]; done) | decide +kernel) | decide +kernel
theorem pf15 : plainFor (⟨"com/example/input_under_constraint/inputunderconstraint/CodePointSetRangePinLaw", "inRange", "(III)Z"⟩ : MethodName) = true := by first | exact plainFor_of_name (by first | (simp [plainName, overriddenIn]; done) | decide +kernel) | decide +kernel
theorem pf16 : plainFor (⟨"java/lang/Long", "bitCount", "(J)I"⟩ : MethodName) = true := by first | exact plainFor_of_name (by first | (simp [plainName, overriddenIn]; done) | decide +kernel) | decide +kernel
theorem pf17 : plainFor (⟨"com/example/input_under_constraint/inputunderconstraint/CodePointSet", "size", "()I"⟩ : MethodName) = true := by first | exact plainFor_of_name (by first | (simp [plainName, overriddenIn]; done) | decide +kernel) | decide +kernel
theorem pf18 : plainFor (⟨"com/example/input_under_constraint/inputunderconstraint/CodePointSetRangePinLaw", "law", "(IIIII)Z"⟩ : MethodName) = true := by first | exact plainFor_of_name (by first | (simp [plainName, overriddenIn]; done) | decide +kernel) | decide +kernel
theorem ef_ivc (m : MethodId) (X : Nat) : entryFrame m #[(.int (Int32.ofNat X))] 2 = mkF m 0 #[.val (.int (Int32.ofNat X)), .unset] [] := by first | (simp [entryFrame, mkF, argsToLocals, Value.category]; done) | rfl
set_option maxRecDepth 65536 in
set_option maxHeartbeats 40000000 in
theorem ivc (l : Launch) (Z : State) (a0 : Array Value) (n0 : Nat) (hw : ∀ d ∈ tables_1, d.before a0 Z = true) (hEL : EW Z a0 []) (O1 : Sta Z Z.heap "java/util/BitSet" "$assertionsDisabled" "Z" (.int (1 : Int32))) (X : Nat) (h0 : Heap) (hO : Old Z n0 h0) (hX : X < 1114112) :
    Con l Z [] n0 (⟨"java/lang/Character", "isValidCodePoint", "(I)Z"⟩ : MethodName) jdk_89_method_11_code 2 (some .boolean) ({ frames := 0, cells := 0, slots := 0, locals := 0 } : Room) #[(.int (Int32.ofNat X))] h0 [] (fun v h V' => v = some (.int (1 : Int32)) ∧ h0 = h) [] := by
  refine Con.of (a0 := a0) pf0 (fun m => ef_ivc m X) all0 hO hEL ?_
  intro p e s m below meth c S0 hnm hsf W
  replace W := W.iloadN (pc' := 1) djdk_89_11_0 rfl rfl
  replace W := W.bipush (pc' := 3) (v := (16 : Int32)) djdk_89_11_1 rfl rfl
  replace W := W.iushr (pc' := 4) (v := (Jvm.Free.XT.ushr (Int32.ofNat X) (16 : Int32))) djdk_89_11_3 rfl rfl
  replace W := W.istoreN (pc' := 5) (L' := #[.val (.int (Int32.ofNat X)), .val (.int (Jvm.Free.XT.ushr (Int32.ofNat X) (16 : Int32)))]) djdk_89_11_4 rfl rfl
  replace W := W.iloadN (pc' := 6) djdk_89_11_5 rfl rfl
  replace W := W.bipush (pc' := 8) (v := (17 : Int32)) djdk_89_11_6 rfl rfl
  replace W := W.icmpF (pc' := 11) djdk_89_11_8 (tlt (own_icp hX)).2.1 rfl
  replace W := W.iconst (pc' := 12) (v := (1 : Int32)) djdk_89_11_11 rfl rfl
  replace W := W.goto (pc' := 16) djdk_89_11_12 (by decide) (by decide)
  exact W.iret (t := .boolean) djdk_89_11_16 rfl (by simp) (by decide) (by decide) (by decide) (fun V' cv => ⟨rfl, rfl⟩)
theorem ef_wix (m : MethodId) (X : Nat) : entryFrame m #[(.int (Int32.ofNat X))] 1 = mkF m 0 #[.val (.int (Int32.ofNat X))] [] := by first | (simp [entryFrame, mkF, argsToLocals, Value.category]; done) | rfl
set_option maxRecDepth 65536 in
set_option maxHeartbeats 40000000 in
theorem wix (l : Launch) (Z : State) (a0 : Array Value) (n0 : Nat) (hw : ∀ d ∈ tables_1, d.before a0 Z = true) (hEL : EW Z a0 []) (O1 : Sta Z Z.heap "java/util/BitSet" "$assertionsDisabled" "Z" (.int (1 : Int32))) (X : Nat) (h0 : Heap) (hO : Old Z n0 h0) (hX : X < 2147483648) :
    Con l Z [] n0 (⟨"java/util/BitSet", "wordIndex", "(I)I"⟩ : MethodName) jdk_92_method_1_code 1 (some .int) ({ frames := 0, cells := 0, slots := 0, locals := 0 } : Room) #[(.int (Int32.ofNat X))] h0 [] (fun v h V' => v = some (.int (Int32.ofNat (X / 64))) ∧ h0 = h) [] := by
  refine Con.of (a0 := a0) pf1 (fun m => ef_wix m X) all0 hO hEL ?_
  intro p e s m below meth c S0 hnm hsf W
  replace W := W.iloadN (pc' := 1) djdk_92_1_0 rfl rfl
  replace W := W.bipush (pc' := 3) (v := (6 : Int32)) djdk_92_1_1 rfl rfl
  replace W := W.ishr (pc' := 4) (v := (Int32.ofNat (X / 64))) djdk_92_1_3 (own_shr6 hX) rfl
  exact W.iret (t := .int) djdk_92_1_4 rfl (by simp) rfl (by decide) (by decide) (fun V' cv => ⟨rfl, rfl⟩)
theorem ef_iw (m : MethodId) (oa : Addr) (X : Nat) : entryFrame m #[(.ref oa), (.int (Int32.ofNat (X + 1)))] 2 = mkF m 0 #[.val (.ref oa), .val (.int (Int32.ofNat (X + 1)))] [] := by first | (simp [entryFrame, mkF, argsToLocals, Value.category]; done) | rfl
set_option maxRecDepth 65536 in
set_option maxHeartbeats 40000000 in
theorem iw (l : Launch) (Z : State) (a0 : Array Value) (n0 : Nat) (hw : ∀ d ∈ tables_1, d.before a0 Z = true) (hEL : EW Z a0 []) (O1 : Sta Z Z.heap "java/util/BitSet" "$assertionsDisabled" "Z" (.int (1 : Int32))) (oa : Addr) (X : Nat) (h0 : Heap) (hO : Old Z n0 h0) (E_oa : Exa Z h0 oa "java/util/BitSet") (F_oa_words : Fld Z h0 oa "java/util/BitSet" "words" "[J" .null) (F_oa_wordsInUse : Fld Z h0 oa "java/util/BitSet" "wordsInUse" "I" (.int (0 : Int32))) (F_oa_sizeIsSticky : Fld Z h0 oa "java/util/BitSet" "sizeIsSticky" "Z" (.int (0 : Int32))) (hX : X < 1114112) (g_oa : n0 ≤ oa) :
    Con l Z [] n0 (⟨"java/util/BitSet", "initWords", "(I)V"⟩ : MethodName) jdk_92_method_6_code 2 none ({ frames := 1, cells := 1, slots := 17408, locals := 13 } : Room) #[(.ref oa), (.int (Int32.ofNat (X + 1)))] h0 [oa] (fun v h V' => ∃ (wa : Addr) (k : ClassId), v = none ∧ Exa Z h oa "java/util/BitSet" ∧ Fld Z h oa "java/util/BitSet" "words" "[J" (.ref wa) ∧ Fld Z h oa "java/util/BitSet" "wordsInUse" "I" (.int (0 : Int32)) ∧ Fld Z h oa "java/util/BitSet" "sizeIsSticky" "Z" (.int (0 : Int32)) ∧ Arv Z h wa k .long (Int32.ofNat ((X / 64) + 1)) (lst ((X / 64) + 1) zf) (.long (0 : Int64)) ∧ Exa Z h wa "[J" ∧ h0.size ≤ wa) [] := by
  refine Con.of (a0 := a0) pf2 (fun m => ef_iw m oa X) (allS g_oa all0) hO hEL ?_
  intro p e s m below meth c S0 hnm hsf W
  replace W := W.aloadN (pc' := 1) djdk_92_6_0 rfl rfl rfl
  replace W := W.iloadN (pc' := 2) djdk_92_6_1 rfl rfl
  replace W := W.iconst (pc' := 3) (v := (1 : Int32)) djdk_92_6_2 rfl rfl
  replace W := W.isub (pc' := 4) (v := (Int32.ofNat X)) djdk_92_6_3 (own_sub1 _) rfl
  obtain ⟨V1, h1, r1, W1, K1, hQ1, SF1⟩ := W.callS (pc' := 7) (argsL := [(.int (Int32.ofNat X))]) (rest := [(.ref oa)]) (Wd := 1) (cells' := 0) (slots' := 0) (y := (⟨"java/util/BitSet", "wordIndex", "(I)I"⟩ : MethodName)) djdk_92_6_4 (wix l Z a0 n0 hw hEL O1 X h0 W.old (by omega)) (w28 hw) (w29 hw) (w12 hw) (w30 hw) (by decide) (lenOf pd0 rfl) rfl rfl (by decide) (by decide) rfl sf0 all0 rfl rfl rfl (by decide) (by decide)
  clear W
  obtain ⟨_, rfl, hs1⟩ := hQ1
  subst hs1
  replace W1 := W1.cast (st' := [(.int (Int32.ofNat (X / 64))), (.ref oa)]) rfl
  replace W1 := W1.iconst (pc' := 8) (v := (1 : Int32)) djdk_92_6_7 rfl rfl
  replace W1 := W1.iadd (pc' := 9) (v := (Int32.ofNat ((X / 64) + 1))) djdk_92_6_8 (own_add1 _) rfl
  obtain ⟨h2, a2, W2, E2, g2, ⟨⟨k2, A2⟩, B2⟩, sf2, SF2⟩ := W1.newarrE (pc' := 11) (ad := "[J") (cap := 17408) (cells' := 1) (slots' := 17408) djdk_92_6_9 (w31 hw) (by decide) (own_nn (by omega)) (by rw [own_clamp (by omega)]; omega) (by decide) rfl rfl rfl (by decide) (by decide)
  clear W1
  rw [← g2] at A2 B2
  have z2 : h0.size ≤ h2.size := E2.1
  have v2 : Arv Z h2 a2 k2 .long (Int32.ofNat ((X / 64) + 1)) (lst ((X / 64) + 1) zf) (.long (0 : Int64)) := own_lst0 A2
  have f3 := (F_oa_words.ext E2)
  have e4 := (E_oa.ext E2)
  obtain ⟨h5, W5, w5, SF5⟩ := W2.putf (pc' := 14) (ty := (.array .long)) djdk_92_6_11 (w32 hw) Via.refl f3 e4 (Or.inl (w33 hw)) (w11 hw) (by decide) rfl rfl safe0 (Or.inl (List.mem_of_getElem? (i := 0) rfl)) rfl
  clear W2
  have z5 : h2.size ≤ h5.size := Nat.le_of_eq w5.size.symm
  have f5 := f3.same w5
  have e6 := (e4.wr w5)
  have f7 := ((F_oa_wordsInUse.ext E2).other w5 (Or.inr (slot_ne (C := "java/util/BitSet") (Or.inl (w20 hw)) (Or.inl (w33 hw)) (by decide) (t := .int) (t' := (.array .long)) (by decide) (by decide))))
  have f8 := ((F_oa_sizeIsSticky.ext E2).other w5 (Or.inr (slot_ne (C := "java/util/BitSet") (Or.inl (w22 hw)) (Or.inl (w33 hw)) (by decide) (t := .boolean) (t' := (.array .long)) (by decide) (by decide))))
  have v9 := (v2.other w5 (Nat.ne_of_gt (Nat.lt_of_lt_of_le E_oa.lt (Nat.le_of_eq g2.symm))))
  have e10 := (B2.wr w5)
  exact W5.vret djdk_92_6_14 rfl (by decide) (by decide) (fun V' cv => ⟨a2, k2, rfl, e6, f5, f7, f8, v9, e10, (Nat.le_of_eq g2.symm)⟩)
theorem ef_bsi (m : MethodId) (oa : Addr) (X : Nat) : entryFrame m #[(.ref oa), (.int (Int32.ofNat (X + 1)))] 2 = mkF m 0 #[.val (.ref oa), .val (.int (Int32.ofNat (X + 1)))] [] := by first | (simp [entryFrame, mkF, argsToLocals, Value.category]; done) | rfl
set_option maxRecDepth 65536 in
set_option maxHeartbeats 40000000 in
theorem bsi (l : Launch) (Z : State) (a0 : Array Value) (n0 : Nat) (hw : ∀ d ∈ tables_1, d.before a0 Z = true) (hEL : EW Z a0 []) (O1 : Sta Z Z.heap "java/util/BitSet" "$assertionsDisabled" "Z" (.int (1 : Int32))) (oa : Addr) (X : Nat) (h0 : Heap) (hO : Old Z n0 h0) (E_oa : Exa Z h0 oa "java/util/BitSet") (F_oa_words : Fld Z h0 oa "java/util/BitSet" "words" "[J" .null) (F_oa_wordsInUse : Fld Z h0 oa "java/util/BitSet" "wordsInUse" "I" (.int (0 : Int32))) (F_oa_sizeIsSticky : Fld Z h0 oa "java/util/BitSet" "sizeIsSticky" "Z" (.int (0 : Int32))) (hX : X < 1114112) (g_oa : n0 ≤ oa) :
    Con l Z [] n0 (⟨"java/util/BitSet", "<init>", "(I)V"⟩ : MethodName) jdk_92_method_5_code 2 none ({ frames := 2, cells := 1, slots := 17408, locals := 26 } : Room) #[(.ref oa), (.int (Int32.ofNat (X + 1)))] h0 [oa] (fun v h V' => ∃ (wa : Addr) (k : ClassId), v = none ∧ Exa Z h oa "java/util/BitSet" ∧ Fld Z h oa "java/util/BitSet" "words" "[J" (.ref wa) ∧ Fld Z h oa "java/util/BitSet" "wordsInUse" "I" (.int (0 : Int32)) ∧ Arv Z h wa k .long (Int32.ofNat ((X / 64) + 1)) (lst ((X / 64) + 1) zf) (.long (0 : Int64)) ∧ Exa Z h wa "[J" ∧ h0.size ≤ wa) [] := by
  refine Con.of (a0 := a0) pf3 (fun m => ef_bsi m oa X) (allS g_oa all0) hO hEL ?_
  intro p e s m below meth c S0 hnm hsf W
  replace W := W.aloadN (pc' := 1) djdk_92_5_0 rfl rfl rfl
  replace W := W.initO (pc' := 4) (Wd := 0) djdk_92_5_1 (w16 hw) (w17 hw) (w18 hw) rfl rfl (by decide) (by decide) rfl
  replace W := W.aloadN (pc' := 5) djdk_92_5_4 rfl rfl rfl
  replace W := W.iconst (pc' := 6) (v := (0 : Int32)) djdk_92_5_5 rfl rfl
  obtain ⟨h1, W1, w1, SF1⟩ := W.putf (pc' := 9) (ty := .int) djdk_92_5_6 (w19 hw) Via.refl F_oa_wordsInUse E_oa (Or.inl (w20 hw)) (w11 hw) (by decide) rfl rfl safe0 (Or.inl (List.mem_of_getElem? (i := 0) rfl)) rfl
  clear W
  have z1 : h0.size ≤ h1.size := Nat.le_of_eq w1.size.symm
  have f1 := F_oa_wordsInUse.same w1
  replace W1 := W1.aloadN (pc' := 10) djdk_92_5_9 rfl rfl rfl
  replace W1 := W1.iconst (pc' := 11) (v := (0 : Int32)) djdk_92_5_10 rfl rfl
  have f2 := (F_oa_sizeIsSticky.other w1 (Or.inr (slot_ne (C := "java/util/BitSet") (Or.inl (w22 hw)) (Or.inl (w20 hw)) (by decide) (t := .boolean) (t' := .int) (by decide) (by decide))))
  have e3 := (E_oa.wr w1)
  obtain ⟨h4, W4, w4, SF4⟩ := W1.putf (pc' := 14) (ty := .boolean) djdk_92_5_11 (w21 hw) Via.refl f2 e3 (Or.inl (w22 hw)) (w11 hw) (by decide) rfl rfl safe0 (Or.inl (List.mem_of_getElem? (i := 0) rfl)) rfl
  clear W1
  have z4 : h1.size ≤ h4.size := Nat.le_of_eq w4.size.symm
  have f4 := f2.same w4
  replace W4 := W4.iloadN (pc' := 15) djdk_92_5_14 rfl rfl
  replace W4 := W4.ifT (pc' := 45) djdk_92_5_15 (flt (own_nn (by omega))).2.1 (by decide) (by decide)
  replace W4 := W4.aloadN (pc' := 46) djdk_92_5_45 rfl rfl rfl
  replace W4 := W4.iloadN (pc' := 47) djdk_92_5_46 rfl rfl
  have e5 := (e3.wr w4)
  have f6 := ((F_oa_words.other w1 (Or.inr (slot_ne (C := "java/util/BitSet") (Or.inl (w33 hw)) (Or.inl (w20 hw)) (by decide) (t := (.array .long)) (t' := .int) (by decide) (by decide)))).other w4 (Or.inr (slot_ne (C := "java/util/BitSet") (Or.inl (w33 hw)) (Or.inl (w22 hw)) (by decide) (t := (.array .long)) (t' := .boolean) (by decide) (by decide))))
  have f7 := (f1.other w4 (Or.inr (slot_ne (C := "java/util/BitSet") (Or.inl (w20 hw)) (Or.inl (w22 hw)) (by decide) (t := .int) (t' := .boolean) (by decide) (by decide))))
  obtain ⟨V8, h8, r8, W8, K8, hQ8, SF8⟩ := W4.callP (pc' := 50) (argsL := [(.int (Int32.ofNat (X + 1)))]) (rest := []) (Wd := 0) (cells' := 1) (slots' := 17408) (a := oa) (C := "java/util/BitSet") (y := (⟨"java/util/BitSet", "initWords", "(I)V"⟩ : MethodName)) djdk_92_5_47 (iw l Z a0 n0 hw hEL O1 oa X h4 W4.old e5 f6 f7 f4 (by omega) g_oa) e5 (w23 hw) (w24 hw) (w26 hw) (w25 hw) (w12 hw) (w27 hw) (by decide) (lenOf pd1 rfl) rfl rfl (by decide) (by decide) rfl (sfS safe0 sf0) (allS (Or.inl (List.mem_of_getElem? (i := 0) rfl)) all0) rfl rfl rfl (by decide) (by decide)
  clear W4
  obtain ⟨_, wa8, k8, rfl, q8_1, q8_2, q8_3, q8_4, q8_5, q8_6, q8_7⟩ := hQ8
  have z8 : h4.size ≤ h8.size := K8.1
  replace W8 := W8.cast (st' := []) rfl
  replace W8 := W8.aloadN (pc' := 51) djdk_92_5_50 rfl rfl rfl
  replace W8 := W8.iconst (pc' := 52) (v := (1 : Int32)) djdk_92_5_51 rfl rfl
  obtain ⟨h9, W9, w9, SF9⟩ := W8.putf (pc' := 55) (ty := .boolean) djdk_92_5_52 (w21 hw) Via.refl q8_4 q8_1 (Or.inl (w22 hw)) (w11 hw) (by decide) rfl rfl safe0 (Or.inl (List.mem_of_getElem? (i := 0) rfl)) rfl
  clear W8
  have z9 : h8.size ≤ h9.size := Nat.le_of_eq w9.size.symm
  have f9 := q8_4.same w9
  have e10 := (q8_1.wr w9)
  have f11 := (q8_2.other w9 (Or.inr (slot_ne (C := "java/util/BitSet") (Or.inl (w33 hw)) (Or.inl (w22 hw)) (by decide) (t := (.array .long)) (t' := .boolean) (by decide) (by decide))))
  have f12 := (q8_3.other w9 (Or.inr (slot_ne (C := "java/util/BitSet") (Or.inl (w20 hw)) (Or.inl (w22 hw)) (by decide) (t := .int) (t' := .boolean) (by decide) (by decide))))
  have v13 := (q8_5.other w9 (Nat.ne_of_gt (Nat.lt_of_lt_of_le E_oa.lt (Nat.le_trans (Nat.le_trans z1 z4) q8_7))))
  have e14 := (q8_6.wr w9)
  exact W9.vret djdk_92_5_55 rfl (by decide) (by decide) (fun V' cv => ⟨wa8, k8, rfl, e10, f11, f12, v13, e14, (Nat.le_trans (Nat.le_trans z1 z4) q8_7)⟩)
theorem ef_ckr (m : MethodId) (F : Nat) (G : Nat) : entryFrame m #[(.int (Int32.ofNat F)), (.int (Int32.ofNat (G + 1)))] 2 = mkF m 0 #[.val (.int (Int32.ofNat F)), .val (.int (Int32.ofNat (G + 1)))] [] := by first | (simp [entryFrame, mkF, argsToLocals, Value.category]; done) | rfl
set_option maxRecDepth 65536 in
set_option maxHeartbeats 40000000 in
theorem ckr (l : Launch) (Z : State) (a0 : Array Value) (n0 : Nat) (hw : ∀ d ∈ tables_1, d.before a0 Z = true) (hEL : EW Z a0 []) (O1 : Sta Z Z.heap "java/util/BitSet" "$assertionsDisabled" "Z" (.int (1 : Int32))) (F : Nat) (G : Nat) (h0 : Heap) (hO : Old Z n0 h0) (hFG : F ≤ G) (hG : G < 1114112) :
    Con l Z [] n0 (⟨"java/util/BitSet", "checkRange", "(II)V"⟩ : MethodName) jdk_92_method_16_code 2 none ({ frames := 0, cells := 0, slots := 0, locals := 0 } : Room) #[(.int (Int32.ofNat F)), (.int (Int32.ofNat (G + 1)))] h0 [] (fun v h V' => v = none ∧ h0 = h) [] := by
  refine Con.of (a0 := a0) pf4 (fun m => ef_ckr m F G) all0 hO hEL ?_
  intro p e s m below meth c S0 hnm hsf W
  replace W := W.iloadN (pc' := 1) djdk_92_16_0 rfl rfl
  replace W := W.ifT (pc' := 31) djdk_92_16_1 (flt (own_nn (by omega))).2.1 (by decide) (by decide)
  replace W := W.iloadN (pc' := 32) djdk_92_16_31 rfl rfl
  replace W := W.ifT (pc' := 62) djdk_92_16_32 (flt (own_nn (by omega))).2.1 (by decide) (by decide)
  replace W := W.iloadN (pc' := 63) djdk_92_16_62 rfl rfl
  replace W := W.iloadN (pc' := 64) djdk_92_16_63 rfl rfl
  replace W := W.icmpT (pc' := 103) djdk_92_16_64 (flt (own_nlt (by omega) (by omega) (by omega))).2.2.2 (by decide) (by decide)
  exact W.vret djdk_92_16_103 rfl (by decide) (by decide) (fun V' cv => ⟨rfl, rfl⟩)
theorem ef_ens (m : MethodId) (oa : Addr) (wa : Addr) (k : ClassId) (Y : Nat) (g : Nat → Int64) : entryFrame m #[(.ref oa), (.int (Int32.ofNat (Y + 1)))] 3 = mkF m 0 #[.val (.ref oa), .val (.int (Int32.ofNat (Y + 1))), .unset] [] := by first | (simp [entryFrame, mkF, argsToLocals, Value.category]; done) | rfl
set_option maxRecDepth 65536 in
set_option maxHeartbeats 40000000 in
theorem ens (l : Launch) (Z : State) (a0 : Array Value) (n0 : Nat) (hw : ∀ d ∈ tables_1, d.before a0 Z = true) (hEL : EW Z a0 []) (O1 : Sta Z Z.heap "java/util/BitSet" "$assertionsDisabled" "Z" (.int (1 : Int32))) (oa : Addr) (wa : Addr) (k : ClassId) (Y : Nat) (g : Nat → Int64) (h0 : Heap) (hO : Old Z n0 h0) (F_oa_words : Fld Z h0 oa "java/util/BitSet" "words" "[J" (.ref wa)) (V_wa : Arv Z h0 wa k .long (Int32.ofNat (Y + 1)) (lst (Y + 1) g) (.long (0 : Int64))) :
    Con l Z [] n0 (⟨"java/util/BitSet", "ensureCapacity", "(I)V"⟩ : MethodName) jdk_92_method_14_code 3 none ({ frames := 0, cells := 0, slots := 0, locals := 0 } : Room) #[(.ref oa), (.int (Int32.ofNat (Y + 1)))] h0 [] (fun v h V' => v = none ∧ h0 = h) [] := by
  refine Con.of (a0 := a0) pf5 (fun m => ef_ens m oa wa k Y g) all0 hO hEL ?_
  intro p e s m below meth c S0 hnm hsf W
  replace W := W.aloadN (pc' := 1) djdk_92_14_0 rfl rfl rfl
  replace W := W.getf (pc' := 4) djdk_92_14_1 (w32 hw) Via.refl F_oa_words rfl
  replace W := W.alen (pc' := 5) djdk_92_14_4 V_wa rfl
  replace W := W.iloadN (pc' := 6) djdk_92_14_5 rfl rfl
  replace W := W.icmpT (pc' := 38) djdk_92_14_6 (flt (own_irr _)).2.1 (by decide) (by decide)
  exact W.vret djdk_92_14_38 rfl (by decide) (by decide) (fun V' cv => ⟨rfl, rfl⟩)
theorem ef_exp (m : MethodId) (oa : Addr) (wa : Addr) (k : ClassId) (Y : Nat) (g : Nat → Int64) : entryFrame m #[(.ref oa), (.int (Int32.ofNat Y))] 3 = mkF m 0 #[.val (.ref oa), .val (.int (Int32.ofNat Y)), .unset] [] := by first | (simp [entryFrame, mkF, argsToLocals, Value.category]; done) | rfl
set_option maxRecDepth 65536 in
set_option maxHeartbeats 40000000 in
theorem exp (l : Launch) (Z : State) (a0 : Array Value) (n0 : Nat) (hw : ∀ d ∈ tables_1, d.before a0 Z = true) (hEL : EW Z a0 []) (O1 : Sta Z Z.heap "java/util/BitSet" "$assertionsDisabled" "Z" (.int (1 : Int32))) (oa : Addr) (wa : Addr) (k : ClassId) (Y : Nat) (g : Nat → Int64) (h0 : Heap) (hO : Old Z n0 h0) (E_oa : Exa Z h0 oa "java/util/BitSet") (F_oa_words : Fld Z h0 oa "java/util/BitSet" "words" "[J" (.ref wa)) (F_oa_wordsInUse : Fld Z h0 oa "java/util/BitSet" "wordsInUse" "I" (.int (0 : Int32))) (V_wa : Arv Z h0 wa k .long (Int32.ofNat (Y + 1)) (lst (Y + 1) g) (.long (0 : Int64))) (hY : Y + 1 < 2147483648) (g_oa : n0 ≤ oa) :
    Con l Z [] n0 (⟨"java/util/BitSet", "expandTo", "(I)V"⟩ : MethodName) jdk_92_method_15_code 3 none ({ frames := 1, cells := 0, slots := 0, locals := 14 } : Room) #[(.ref oa), (.int (Int32.ofNat Y))] h0 [oa] (fun v h V' => v = none ∧ Exa Z h oa "java/util/BitSet" ∧ Fld Z h oa "java/util/BitSet" "words" "[J" (.ref wa) ∧ Fld Z h oa "java/util/BitSet" "wordsInUse" "I" (.int (Int32.ofNat (Y + 1)))) [] := by
  refine Con.of (a0 := a0) pf6 (fun m => ef_exp m oa wa k Y g) (allS g_oa all0) hO hEL ?_
  intro p e s m below meth c S0 hnm hsf W
  replace W := W.iloadN (pc' := 1) djdk_92_15_0 rfl rfl
  replace W := W.iconst (pc' := 2) (v := (1 : Int32)) djdk_92_15_1 rfl rfl
  replace W := W.iadd (pc' := 3) (v := (Int32.ofNat (Y + 1))) djdk_92_15_2 (own_add1 _) rfl
  replace W := W.istoreN (pc' := 4) (L' := #[.val (.ref oa), .val (.int (Int32.ofNat Y)), .val (.int (Int32.ofNat (Y + 1)))]) djdk_92_15_3 rfl rfl
  replace W := W.aloadN (pc' := 5) djdk_92_15_4 rfl rfl rfl
  replace W := W.getf (pc' := 8) djdk_92_15_5 (w19 hw) Via.refl F_oa_wordsInUse rfl
  replace W := W.iloadN (pc' := 9) djdk_92_15_8 rfl rfl
  replace W := W.icmpF (pc' := 12) djdk_92_15_9 (tlt (own_pos hY)).2.1 rfl
  replace W := W.aloadN (pc' := 13) djdk_92_15_12 rfl rfl rfl
  replace W := W.iloadN (pc' := 14) djdk_92_15_13 rfl rfl
  obtain ⟨V1, h1, r1, W1, K1, hQ1, SF1⟩ := W.callP (pc' := 17) (argsL := [(.int (Int32.ofNat (Y + 1)))]) (rest := []) (Wd := 0) (cells' := 0) (slots' := 0) (a := oa) (C := "java/util/BitSet") (y := (⟨"java/util/BitSet", "ensureCapacity", "(I)V"⟩ : MethodName)) djdk_92_15_14 (ens l Z a0 n0 hw hEL O1 oa wa k Y g h0 W.old F_oa_words V_wa) E_oa (w47 hw) (w48 hw) (w50 hw) (w49 hw) (w12 hw) (w51 hw) (by decide) (lenOf pd1 rfl) rfl rfl (by decide) (by decide) rfl sf0 all0 rfl rfl rfl (by decide) (by decide)
  clear W
  obtain ⟨_, rfl, hs1⟩ := hQ1
  subst hs1
  replace W1 := W1.cast (st' := []) rfl
  replace W1 := W1.aloadN (pc' := 18) djdk_92_15_17 rfl rfl rfl
  replace W1 := W1.iloadN (pc' := 19) djdk_92_15_18 rfl rfl
  obtain ⟨h2, W2, w2, SF2⟩ := W1.putf (pc' := 22) (ty := .int) djdk_92_15_19 (w19 hw) Via.refl F_oa_wordsInUse E_oa (Or.inl (w20 hw)) (w11 hw) (by decide) rfl rfl safe0 (Or.inl (List.mem_of_getElem? (i := 0) rfl)) rfl
  clear W1
  have z2 : h0.size ≤ h2.size := Nat.le_of_eq w2.size.symm
  have f2 := F_oa_wordsInUse.same w2
  have e3 := (E_oa.wr w2)
  have f4 := (F_oa_words.other w2 (Or.inr (slot_ne (C := "java/util/BitSet") (Or.inl (w33 hw)) (Or.inl (w20 hw)) (by decide) (t := (.array .long)) (t' := .int) (by decide) (by decide))))
  exact W2.vret djdk_92_15_22 rfl (by decide) (by decide) (fun V' cv => ⟨rfl, e3, f4, f2⟩)
theorem ef_cki (m : MethodId) (oa : Addr) : entryFrame m #[(.ref oa)] 1 = mkF m 0 #[.val (.ref oa)] [] := by first | (simp [entryFrame, mkF, argsToLocals, Value.category]; done) | rfl
set_option maxRecDepth 65536 in
set_option maxHeartbeats 40000000 in
theorem cki (l : Launch) (Z : State) (a0 : Array Value) (n0 : Nat) (hw : ∀ d ∈ tables_1, d.before a0 Z = true) (hEL : EW Z a0 []) (O1 : Sta Z Z.heap "java/util/BitSet" "$assertionsDisabled" "Z" (.int (1 : Int32))) (oa : Addr) (h0 : Heap) (hO : Old Z n0 h0)  :
    Con l Z [] n0 (⟨"java/util/BitSet", "checkInvariants", "()V"⟩ : MethodName) jdk_92_method_2_code 1 none ({ frames := 0, cells := 0, slots := 0, locals := 0 } : Room) #[(.ref oa)] h0 [] (fun v h V' => v = none ∧ h0 = h) [] := by
  refine Con.of (a0 := a0) pf7 (fun m => ef_cki m oa) all0 hO hEL ?_
  intro p e s m below meth c S0 hnm hsf W
  replace W := W.gets (pc' := 3) djdk_92_2_0 (w58 hw) O1 rfl
  replace W := W.ifT (pc' := 37) djdk_92_2_3 (feq (by decide : ¬ ((1 : Int32) = (0 : Int32)))).2 (by decide) (by decide)
  replace W := W.gets (pc' := 40) djdk_92_2_37 (w58 hw) O1 rfl
  replace W := W.ifT (pc' := 70) djdk_92_2_40 (feq (by decide : ¬ ((1 : Int32) = (0 : Int32)))).2 (by decide) (by decide)
  replace W := W.gets (pc' := 73) djdk_92_2_70 (w58 hw) O1 rfl
  replace W := W.ifT (pc' := 110) djdk_92_2_73 (feq (by decide : ¬ ((1 : Int32) = (0 : Int32)))).2 (by decide) (by decide)
  exact W.vret djdk_92_2_110 rfl (by decide) (by decide) (fun V' cv => ⟨rfl, rfl⟩)
set_option maxRecDepth 65536 in
set_option maxHeartbeats 40000000 in
theorem set_lp (l : Launch) (Z : State) (a0 : Array Value) (n0 : Nat) (hw : ∀ d ∈ tables_1, d.before a0 Z = true) (hEL : EW Z a0 []) (O1 : Sta Z Z.heap "java/util/BitSet" "$assertionsDisabled" "Z" (.int (1 : Int32))) (oa : Addr) (wa : Addr) (k : ClassId) (F : Nat) (G : Nat) (t : Nat) (p : Program) (e : Env) (s : State) (m : MethodId) (below : List Frame) (meth : Method) (c : Code) (S0 : State) (V : Vm) (h0 h : Heap) (hO0 : Old Z n0 h0) (E_oa : Exa Z h oa "java/util/BitSet") (F_oa_words : Fld Z h oa "java/util/BitSet" "words" "[J" (.ref wa)) (F_oa_wordsInUse : Fld Z h oa "java/util/BitSet" "wordsInUse" "I" (.int (Int32.ofNat ((G / 64) + 1)))) (V_wa : Arv Z h wa k .long (Int32.ofNat ((G / 64) + 1)) (lst ((G / 64) + 1) (fl F t)) (.long (0 : Int64))) (E_wa : Exa Z h wa "[J") (hFG : F ≤ G) (hG : G < 1114112) (hat : F / 64 < t) (ht : t ≤ G / 64) (g_oa : n0 ≤ oa) (g_wa : n0 ≤ wa) (hnm : meth.name = "set") (W : Wk p l e ({ frames := 2, cells := 0, slots := 0, locals := 28 } : Room) s m #[(.ref oa), (.int (Int32.ofNat F)), (.int (Int32.ofNat (G + 1)))] below meth c jdk_92_method_21_code 10 none Z a0 [] "java/util/BitSet" n0 h0 [oa, wa] S0 V h 0 0 (mkF m 84 #[.val (.ref oa), .val (.int (Int32.ofNat F)), .val (.int (Int32.ofNat (G + 1))), .val (.int (Int32.ofNat (F / 64))), .val (.int (Int32.ofNat (G / 64))), .val (.long (lom F)), .second, .val (.long (him G)), .second, .val (.int (Int32.ofNat t))] [])) : Done p e below S0 s Z [] n0 h0 [oa, wa] ({ frames := 2, cells := 0, slots := 0, locals := 28 } : Room) (fun v h V' => v = none ∧ Exa Z h oa "java/util/BitSet" ∧ Fld Z h oa "java/util/BitSet" "words" "[J" (.ref wa) ∧ Fld Z h oa "java/util/BitSet" "wordsInUse" "I" (.int (Int32.ofNat ((G / 64) + 1))) ∧ Arv Z h wa k .long (Int32.ofNat ((G / 64) + 1)) (lst ((G / 64) + 1) (wf F G)) (.long (0 : Int64)) ∧ Exa Z h wa "[J") := by
  have z0 : h0.size ≤ h.size := W.kept.1
  clear z0
  obtain ⟨d, hd⟩ : ∃ d, t + d = G / 64 := ⟨_, Nat.add_sub_of_le ht⟩
  clear ht
  induction d generalizing t V h with
  | zero =>
    obtain rfl : t = G / 64 := hd
    have z0 : h0.size ≤ h.size := W.kept.1
    replace W := W.iload (pc' := 86) djdk_92_21_84 rfl rfl
    replace W := W.iload (pc' := 88) djdk_92_21_86 rfl rfl
    replace W := W.icmpT (pc' := 107) djdk_92_21_88 (flt (own_irr _)).2.1 (by decide) (by decide)
    replace W := W.aloadN (pc' := 108) djdk_92_21_107 rfl rfl rfl
    replace W := W.getf (pc' := 111) djdk_92_21_108 (w32 hw) Via.refl F_oa_words rfl
    replace W := W.iload (pc' := 113) djdk_92_21_111 rfl rfl
    replace W := W.dup2 (pc' := 114) djdk_92_21_113 rfl rfl rfl
    replace W := W.laload (pc' := 115) (w := (.long (0 : Int64))) djdk_92_21_114 V_wa ⟨own_nn (by omega), own_lt (by omega) (by omega) (by omega)⟩ (by rw [own_clamp (by omega), own_lst_get (by omega)]; exact congrArg Value.long (own_fl_at hat)) rfl
    replace W := W.lload (pc' := 117) djdk_92_21_115 rfl rfl
    replace W := W.lor (pc' := 118) (v := ((0 : Int64) ||| (him G))) djdk_92_21_117 rfl rfl
    obtain ⟨h1, W1, w1, A1, SF1⟩ := W.lastore (pc' := 119) (i := (G / 64)) (x' := ((0 : Int64) ||| (him G))) djdk_92_21_118 V_wa ⟨own_nn (by omega), own_lt (by omega) (by omega) (by omega)⟩ (own_clamp (by omega)) (by rw [own_lst_len]; omega) rfl safe0 (Or.inl (List.mem_of_getElem? (i := 1) rfl)) rfl
    clear W
    have z1 : h.size ≤ h1.size := Nat.le_of_eq w1.size.symm
    have v1 : Arv Z h1 wa k .long (Int32.ofNat ((G / 64) + 1)) (lst ((G / 64) + 1) (upd (fl F (G / 64)) (G / 64) ((0 : Int64) ||| (him G)))) (.long (0 : Int64)) := (by rw [← own_lst_set]; exact A1)
    replace W1 := W1.aloadN (pc' := 120) djdk_92_21_119 rfl rfl rfl
    have e3 := (E_oa.wr w1)
    obtain ⟨V2, h2, r2, W2, K2, hQ2, SF2⟩ := W1.callP (pc' := 123) (argsL := []) (rest := []) (Wd := 0) (cells' := 0) (slots' := 0) (a := oa) (C := "java/util/BitSet") (y := (⟨"java/util/BitSet", "checkInvariants", "()V"⟩ : MethodName)) djdk_92_21_120 (cki l Z a0 n0 hw hEL O1 oa h1 W1.old) e3 (w53 hw) (w54 hw) (w56 hw) (w55 hw) (w12 hw) (w57 hw) (by decide) (lenOf pd2 rfl) rfl rfl (by decide) (by decide) rfl sf0 all0 rfl rfl rfl (by decide) (by decide)
    clear W1
    obtain ⟨_, rfl, hs2⟩ := hQ2
    subst hs2
    replace W2 := W2.cast (st' := []) rfl
    have f4 := (F_oa_words.other w1 (Or.inl (Exa.ne e3 (E_wa.wr w1) (by decide))))
    have f5 := (F_oa_wordsInUse.other w1 (Or.inl (Exa.ne e3 (E_wa.wr w1) (by decide))))
    have e6 := (E_wa.wr w1)
    exact W2.vret djdk_92_21_123 rfl (by decide) (by decide) (fun V' cv => ⟨rfl, e3, f4, f5, (own_cg v1 (own_flX hat)), e6⟩)
  | succ d ih =>
    have z0 : h0.size ≤ h.size := W.kept.1
    replace W := W.iload (pc' := 86) djdk_92_21_84 rfl rfl
    replace W := W.iload (pc' := 88) djdk_92_21_86 rfl rfl
    replace W := W.icmpF (pc' := 91) djdk_92_21_88 (tlt (own_lt (by omega) (by omega) (by omega))).2.1 rfl
    replace W := W.aloadN (pc' := 92) djdk_92_21_91 rfl rfl rfl
    replace W := W.getf (pc' := 95) djdk_92_21_92 (w32 hw) Via.refl F_oa_words rfl
    replace W := W.iload (pc' := 97) djdk_92_21_95 rfl rfl
    replace W := W.ldc2 (pc' := 100) djdk_92_21_97 (w52 hw) rfl
    obtain ⟨h7, W7, w7, A7, SF7⟩ := W.lastore (pc' := 101) (i := t) (x' := (-1 : Int64)) djdk_92_21_100 V_wa ⟨own_nn (by omega), own_lt (by omega) (by omega) (by omega)⟩ (own_clamp (by omega)) (by rw [own_lst_len]; omega) rfl safe0 (Or.inl (List.mem_of_getElem? (i := 1) rfl)) rfl
    clear W
    have z7 : h.size ≤ h7.size := Nat.le_of_eq w7.size.symm
    have v7 : Arv Z h7 wa k .long (Int32.ofNat ((G / 64) + 1)) (lst ((G / 64) + 1) (upd (fl F t) t (-1 : Int64))) (.long (0 : Int64)) := (by rw [← own_lst_set]; exact A7)
    replace W7 := W7.iinc (pc' := 104) (v := (Int32.ofNat (t + 1))) (L' := #[.val (.ref oa), .val (.int (Int32.ofNat F)), .val (.int (Int32.ofNat (G + 1))), .val (.int (Int32.ofNat (F / 64))), .val (.int (Int32.ofNat (G / 64))), .val (.long (lom F)), .second, .val (.long (him G)), .second, .val (.int (Int32.ofNat (t + 1)))]) djdk_92_21_101 rfl (own_add1 _) rfl rfl
    replace W7 := W7.goto (pc' := 84) djdk_92_21_104 (by decide) (by decide)
    have e8 := (E_oa.wr w7)
    have f9 := (F_oa_words.other w7 (Or.inl (Exa.ne e8 (E_wa.wr w7) (by decide))))
    have f10 := (F_oa_wordsInUse.other w7 (Or.inl (Exa.ne e8 (E_wa.wr w7) (by decide))))
    have e11 := (E_wa.wr w7)
    exact ih (t + 1) _ _ e8 f9 f10 (own_cg v7 (own_flS hat)) e11 (by omega) W7 (by omega)
theorem ef_set_c (m : MethodId) (oa : Addr) (wa : Addr) (k : ClassId) (F : Nat) (G : Nat) : entryFrame m #[(.ref oa), (.int (Int32.ofNat F)), (.int (Int32.ofNat (G + 1)))] 10 = mkF m 0 #[.val (.ref oa), .val (.int (Int32.ofNat F)), .val (.int (Int32.ofNat (G + 1))), .unset, .unset, .unset, .unset, .unset, .unset, .unset] [] := by first | (simp [entryFrame, mkF, argsToLocals, Value.category]; done) | rfl
set_option maxRecDepth 65536 in
set_option maxHeartbeats 40000000 in
theorem set_c (l : Launch) (Z : State) (a0 : Array Value) (n0 : Nat) (hw : ∀ d ∈ tables_1, d.before a0 Z = true) (hEL : EW Z a0 []) (O1 : Sta Z Z.heap "java/util/BitSet" "$assertionsDisabled" "Z" (.int (1 : Int32))) (oa : Addr) (wa : Addr) (k : ClassId) (F : Nat) (G : Nat) (h0 : Heap) (hO : Old Z n0 h0) (E_oa : Exa Z h0 oa "java/util/BitSet") (F_oa_words : Fld Z h0 oa "java/util/BitSet" "words" "[J" (.ref wa)) (F_oa_wordsInUse : Fld Z h0 oa "java/util/BitSet" "wordsInUse" "I" (.int (0 : Int32))) (V_wa : Arv Z h0 wa k .long (Int32.ofNat ((G / 64) + 1)) (lst ((G / 64) + 1) zf) (.long (0 : Int64))) (E_wa : Exa Z h0 wa "[J") (hFG : F ≤ G) (hG : G < 1114112) (g_oa : n0 ≤ oa) (g_wa : n0 ≤ wa) :
    Con l Z [] n0 (⟨"java/util/BitSet", "set", "(II)V"⟩ : MethodName) jdk_92_method_21_code 10 none ({ frames := 2, cells := 0, slots := 0, locals := 28 } : Room) #[(.ref oa), (.int (Int32.ofNat F)), (.int (Int32.ofNat (G + 1)))] h0 [oa, wa] (fun v h V' => v = none ∧ Exa Z h oa "java/util/BitSet" ∧ Fld Z h oa "java/util/BitSet" "words" "[J" (.ref wa) ∧ Fld Z h oa "java/util/BitSet" "wordsInUse" "I" (.int (Int32.ofNat ((G / 64) + 1))) ∧ Arv Z h wa k .long (Int32.ofNat ((G / 64) + 1)) (lst ((G / 64) + 1) (wf F G)) (.long (0 : Int64)) ∧ Exa Z h wa "[J") [] := by
  refine Con.of (a0 := a0) pf8 (fun m => ef_set_c m oa wa k F G) (allS g_oa (allS g_wa all0)) hO hEL ?_
  intro p e s m below meth c S0 hnm hsf W
  replace W := W.iloadN (pc' := 1) djdk_92_21_0 rfl rfl
  replace W := W.iloadN (pc' := 2) djdk_92_21_1 rfl rfl
  obtain ⟨V1, h1, r1, W1, K1, hQ1, SF1⟩ := W.callS (pc' := 5) (argsL := [(.int (Int32.ofNat F)), (.int (Int32.ofNat (G + 1)))]) (rest := []) (Wd := 0) (cells' := 0) (slots' := 0) (y := (⟨"java/util/BitSet", "checkRange", "(II)V"⟩ : MethodName)) djdk_92_21_2 (ckr l Z a0 n0 hw hEL O1 F G h0 W.old (by omega) (by omega)) (w39 hw) (w40 hw) (w12 hw) (w41 hw) (by decide) (lenOf pd3 rfl) rfl rfl (by decide) (by decide) rfl sf0 all0 rfl rfl rfl (by decide) (by decide)
  clear W
  obtain ⟨_, rfl, hs1⟩ := hQ1
  subst hs1
  replace W1 := W1.cast (st' := []) rfl
  replace W1 := W1.iloadN (pc' := 6) djdk_92_21_5 rfl rfl
  replace W1 := W1.iloadN (pc' := 7) djdk_92_21_6 rfl rfl
  replace W1 := W1.icmpT (pc' := 11) djdk_92_21_7 (feq (own_ne (by omega) (by omega) (by omega))).2 (by decide) (by decide)
  replace W1 := W1.iloadN (pc' := 12) djdk_92_21_11 rfl rfl
  obtain ⟨V2, h2, r2, W2, K2, hQ2, SF2⟩ := W1.callS (pc' := 15) (argsL := [(.int (Int32.ofNat F))]) (rest := []) (Wd := 0) (cells' := 0) (slots' := 0) (y := (⟨"java/util/BitSet", "wordIndex", "(I)I"⟩ : MethodName)) djdk_92_21_12 (wix l Z a0 n0 hw hEL O1 F h0 W1.old (by omega)) (w28 hw) (w29 hw) (w12 hw) (w30 hw) (by decide) (lenOf pd0 rfl) rfl rfl (by decide) (by decide) rfl sf0 all0 rfl rfl rfl (by decide) (by decide)
  clear W1
  obtain ⟨_, rfl, hs2⟩ := hQ2
  subst hs2
  replace W2 := W2.cast (st' := [(.int (Int32.ofNat (F / 64)))]) rfl
  replace W2 := W2.istoreN (pc' := 16) (L' := #[.val (.ref oa), .val (.int (Int32.ofNat F)), .val (.int (Int32.ofNat (G + 1))), .val (.int (Int32.ofNat (F / 64))), .unset, .unset, .unset, .unset, .unset, .unset]) djdk_92_21_15 rfl rfl
  replace W2 := W2.iloadN (pc' := 17) djdk_92_21_16 rfl rfl
  replace W2 := W2.iconst (pc' := 18) (v := (1 : Int32)) djdk_92_21_17 rfl rfl
  replace W2 := W2.isub (pc' := 19) (v := (Int32.ofNat G)) djdk_92_21_18 (own_sub1 _) rfl
  obtain ⟨V3, h3, r3, W3, K3, hQ3, SF3⟩ := W2.callS (pc' := 22) (argsL := [(.int (Int32.ofNat G))]) (rest := []) (Wd := 0) (cells' := 0) (slots' := 0) (y := (⟨"java/util/BitSet", "wordIndex", "(I)I"⟩ : MethodName)) djdk_92_21_19 (wix l Z a0 n0 hw hEL O1 G h0 W2.old (by omega)) (w28 hw) (w29 hw) (w12 hw) (w30 hw) (by decide) (lenOf pd0 rfl) rfl rfl (by decide) (by decide) rfl sf0 all0 rfl rfl rfl (by decide) (by decide)
  clear W2
  obtain ⟨_, rfl, hs3⟩ := hQ3
  subst hs3
  replace W3 := W3.cast (st' := [(.int (Int32.ofNat (G / 64)))]) rfl
  replace W3 := W3.istore (pc' := 24) (L' := #[.val (.ref oa), .val (.int (Int32.ofNat F)), .val (.int (Int32.ofNat (G + 1))), .val (.int (Int32.ofNat (F / 64))), .val (.int (Int32.ofNat (G / 64))), .unset, .unset, .unset, .unset, .unset]) djdk_92_21_22 rfl rfl
  replace W3 := W3.aloadN (pc' := 25) djdk_92_21_24 rfl rfl rfl
  replace W3 := W3.iload (pc' := 27) djdk_92_21_25 rfl rfl
  obtain ⟨V4, h4, r4, W4, K4, hQ4, SF4⟩ := W3.callP (pc' := 30) (argsL := [(.int (Int32.ofNat (G / 64)))]) (rest := []) (Wd := 0) (cells' := 0) (slots' := 0) (a := oa) (C := "java/util/BitSet") (y := (⟨"java/util/BitSet", "expandTo", "(I)V"⟩ : MethodName)) djdk_92_21_27 (exp l Z a0 n0 hw hEL O1 oa wa k (G / 64) zf h0 W3.old E_oa F_oa_words F_oa_wordsInUse V_wa (by omega) g_oa) E_oa (w42 hw) (w43 hw) (w45 hw) (w44 hw) (w12 hw) (w46 hw) (by decide) (lenOf pd1 rfl) rfl rfl (by decide) (by decide) rfl (sfS safe0 sf0) (allS (Or.inl (List.mem_of_getElem? (i := 0) rfl)) all0) rfl rfl rfl (by decide) (by decide)
  clear W3
  obtain ⟨_, rfl, q4_1, q4_2, q4_3⟩ := hQ4
  have z4 : h0.size ≤ h4.size := K4.1
  replace W4 := W4.cast (st' := []) rfl
  replace W4 := W4.ldc2 (pc' := 33) djdk_92_21_30 (w52 hw) rfl
  replace W4 := W4.iloadN (pc' := 34) djdk_92_21_33 rfl rfl
  replace W4 := W4.lshl (pc' := 35) (v := (lom F)) djdk_92_21_34 rfl rfl
  replace W4 := W4.lstore (pc' := 37) (L' := #[.val (.ref oa), .val (.int (Int32.ofNat F)), .val (.int (Int32.ofNat (G + 1))), .val (.int (Int32.ofNat (F / 64))), .val (.int (Int32.ofNat (G / 64))), .val (.long (lom F)), .second, .unset, .unset, .unset]) djdk_92_21_35 rfl rfl
  replace W4 := W4.ldc2 (pc' := 40) djdk_92_21_37 (w52 hw) rfl
  replace W4 := W4.iloadN (pc' := 41) djdk_92_21_40 rfl rfl
  replace W4 := W4.ineg (pc' := 42) (v := (-(Int32.ofNat (G + 1)))) djdk_92_21_41 rfl rfl
  replace W4 := W4.lushr (pc' := 43) (v := (him G)) djdk_92_21_42 rfl rfl
  replace W4 := W4.lstore (pc' := 45) (L' := #[.val (.ref oa), .val (.int (Int32.ofNat F)), .val (.int (Int32.ofNat (G + 1))), .val (.int (Int32.ofNat (F / 64))), .val (.int (Int32.ofNat (G / 64))), .val (.long (lom F)), .second, .val (.long (him G)), .second, .unset]) djdk_92_21_43 rfl rfl
  replace W4 := W4.iloadN (pc' := 46) djdk_92_21_45 rfl rfl
  replace W4 := W4.iload (pc' := 48) djdk_92_21_46 rfl rfl
  by_cases c5 : (Int32.ofNat (F / 64)) = (Int32.ofNat (G / 64))
  · replace W4 := W4.icmpF (pc' := 51) djdk_92_21_48 (teq c5).2 rfl
    replace W4 := W4.aloadN (pc' := 52) djdk_92_21_51 rfl rfl rfl
    replace W4 := W4.getf (pc' := 55) djdk_92_21_52 (w32 hw) Via.refl q4_2 rfl
    replace W4 := W4.iloadN (pc' := 56) djdk_92_21_55 rfl rfl
    replace W4 := W4.dup2 (pc' := 57) djdk_92_21_56 rfl rfl rfl
    have v6 := (V_wa.keep K4 (ninS (Exa.ne (E_wa.keep K4) q4_1 (by decide)) nin0))
    replace W4 := W4.laload (pc' := 58) (w := (.long (0 : Int64))) djdk_92_21_57 v6 ⟨own_nn (by omega), own_lt (by omega) (by omega) (by omega)⟩ (by rw [own_clamp (by omega), own_lst_get (by omega)]; exact congrArg Value.long rfl) rfl
    replace W4 := W4.lload (pc' := 60) djdk_92_21_58 rfl rfl
    replace W4 := W4.lload (pc' := 62) djdk_92_21_60 rfl rfl
    replace W4 := W4.land (pc' := 63) (v := ((lom F) &&& (him G))) djdk_92_21_62 rfl rfl
    replace W4 := W4.lor (pc' := 64) (v := ((0 : Int64) ||| ((lom F) &&& (him G)))) djdk_92_21_63 rfl rfl
    obtain ⟨h7, W7, w7, A7, SF7⟩ := W4.lastore (pc' := 65) (i := (F / 64)) (x' := ((0 : Int64) ||| ((lom F) &&& (him G)))) djdk_92_21_64 v6 ⟨own_nn (by omega), own_lt (by omega) (by omega) (by omega)⟩ (own_clamp (by omega)) (by rw [own_lst_len]; omega) rfl safe0 (Or.inl (List.mem_of_getElem? (i := 1) rfl)) rfl
    clear W4
    have z7 : h4.size ≤ h7.size := Nat.le_of_eq w7.size.symm
    have v7 : Arv Z h7 wa k .long (Int32.ofNat ((G / 64) + 1)) (lst ((G / 64) + 1) (upd zf (F / 64) ((0 : Int64) ||| ((lom F) &&& (him G))))) (.long (0 : Int64)) := (by rw [← own_lst_set]; exact A7)
    replace W7 := W7.goto (pc' := 119) djdk_92_21_65 (by decide) (by decide)
    replace W7 := W7.aloadN (pc' := 120) djdk_92_21_119 rfl rfl rfl
    have e9 := (q4_1.wr w7)
    obtain ⟨V8, h8, r8, W8, K8, hQ8, SF8⟩ := W7.callP (pc' := 123) (argsL := []) (rest := []) (Wd := 0) (cells' := 0) (slots' := 0) (a := oa) (C := "java/util/BitSet") (y := (⟨"java/util/BitSet", "checkInvariants", "()V"⟩ : MethodName)) djdk_92_21_120 (cki l Z a0 n0 hw hEL O1 oa h7 W7.old) e9 (w53 hw) (w54 hw) (w56 hw) (w55 hw) (w12 hw) (w57 hw) (by decide) (lenOf pd2 rfl) rfl rfl (by decide) (by decide) rfl sf0 all0 rfl rfl rfl (by decide) (by decide)
    clear W7
    obtain ⟨_, rfl, hs8⟩ := hQ8
    subst hs8
    replace W8 := W8.cast (st' := []) rfl
    have f10 := (q4_2.other w7 (Or.inl (Exa.ne e9 ((E_wa.keep K4).wr w7) (by decide))))
    have f11 := (q4_3.other w7 (Or.inl (Exa.ne e9 ((E_wa.keep K4).wr w7) (by decide))))
    have e12 := ((E_wa.keep K4).wr w7)
    exact W8.vret djdk_92_21_123 rfl (by decide) (by decide) (fun V' cv => ⟨rfl, e9, f10, f11, (own_cg v7 (own_w1 (own_ofNat_inj (by omega) (by omega) c5))), e12⟩)
  · replace W4 := W4.icmpT (pc' := 68) djdk_92_21_48 (feq c5).2 (by decide) (by decide)
    replace W4 := W4.aloadN (pc' := 69) djdk_92_21_68 rfl rfl rfl
    replace W4 := W4.getf (pc' := 72) djdk_92_21_69 (w32 hw) Via.refl q4_2 rfl
    replace W4 := W4.iloadN (pc' := 73) djdk_92_21_72 rfl rfl
    replace W4 := W4.dup2 (pc' := 74) djdk_92_21_73 rfl rfl rfl
    have v13 := (V_wa.keep K4 (ninS (Exa.ne (E_wa.keep K4) q4_1 (by decide)) nin0))
    replace W4 := W4.laload (pc' := 75) (w := (.long (0 : Int64))) djdk_92_21_74 v13 ⟨own_nn (by omega), own_lt (by omega) (by omega) (by omega)⟩ (by rw [own_clamp (by omega), own_lst_get (by omega)]; exact congrArg Value.long rfl) rfl
    replace W4 := W4.lload (pc' := 77) djdk_92_21_75 rfl rfl
    replace W4 := W4.lor (pc' := 78) (v := ((0 : Int64) ||| (lom F))) djdk_92_21_77 rfl rfl
    obtain ⟨h14, W14, w14, A14, SF14⟩ := W4.lastore (pc' := 79) (i := (F / 64)) (x' := ((0 : Int64) ||| (lom F))) djdk_92_21_78 v13 ⟨own_nn (by omega), own_lt (by omega) (by omega) (by omega)⟩ (own_clamp (by omega)) (by rw [own_lst_len]; omega) rfl safe0 (Or.inl (List.mem_of_getElem? (i := 1) rfl)) rfl
    clear W4
    have z14 : h4.size ≤ h14.size := Nat.le_of_eq w14.size.symm
    have v14 : Arv Z h14 wa k .long (Int32.ofNat ((G / 64) + 1)) (lst ((G / 64) + 1) (upd zf (F / 64) ((0 : Int64) ||| (lom F)))) (.long (0 : Int64)) := (by rw [← own_lst_set]; exact A14)
    replace W14 := W14.iloadN (pc' := 80) djdk_92_21_79 rfl rfl
    replace W14 := W14.iconst (pc' := 81) (v := (1 : Int32)) djdk_92_21_80 rfl rfl
    replace W14 := W14.iadd (pc' := 82) (v := (Int32.ofNat ((F / 64) + 1))) djdk_92_21_81 (own_add1 _) rfl
    replace W14 := W14.istore (pc' := 84) (L' := #[.val (.ref oa), .val (.int (Int32.ofNat F)), .val (.int (Int32.ofNat (G + 1))), .val (.int (Int32.ofNat (F / 64))), .val (.int (Int32.ofNat (G / 64))), .val (.long (lom F)), .second, .val (.long (him G)), .second, .val (.int (Int32.ofNat ((F / 64) + 1)))]) djdk_92_21_82 rfl rfl
    have c_ne : F / 64 < G / 64 := by
      have hdd := Nat.div_le_div_right (c := 64) hFG
      have hne : ¬ F / 64 = G / 64 := fun q => c5 (by rw [q])
      omega
    have v15 := own_cg v14 own_fl0
    have e16 := (q4_1.wr w14)
    have f17 := (q4_2.other w14 (Or.inl (Exa.ne e16 ((E_wa.keep K4).wr w14) (by decide))))
    have f18 := (q4_3.other w14 (Or.inl (Exa.ne e16 ((E_wa.keep K4).wr w14) (by decide))))
    have e19 := ((E_wa.keep K4).wr w14)
    exact set_lp l Z a0 n0 hw hEL O1 oa wa k F G ((F / 64) + 1) p e s m below meth c S0 V4 h0 h14 hO e16 f17 f18 v15 e19 hFG hG (by omega) (by have := c_ne; omega) g_oa g_wa hnm W14
theorem ef_cpy (m : MethodId) (wa : Addr) (k : ClassId) (N : Nat) (g : Nat → Int64) : entryFrame m #[(.ref wa), (.int (Int32.ofNat N))] 3 = mkF m 0 #[.val (.ref wa), .val (.int (Int32.ofNat N)), .unset] [] := by first | (simp [entryFrame, mkF, argsToLocals, Value.category]; done) | rfl
set_option maxRecDepth 65536 in
set_option maxHeartbeats 40000000 in
theorem cpy (l : Launch) (Z : State) (a0 : Array Value) (n0 : Nat) (hw : ∀ d ∈ tables_1, d.before a0 Z = true) (hEL : EW Z a0 []) (O1 : Sta Z Z.heap "java/util/BitSet" "$assertionsDisabled" "Z" (.int (1 : Int32))) (wa : Addr) (k : ClassId) (N : Nat) (g : Nat → Int64) (h0 : Heap) (hO : Old Z n0 h0) (V_wa : Arv Z h0 wa k .long (Int32.ofNat N) (lst N g) (.long (0 : Int64))) (E_wa : Exa Z h0 wa "[J") (hN : N ≤ 17408) :
    Con l Z [] n0 (⟨"java/util/Arrays", "copyOf", "([JI)[J"⟩ : MethodName) jdk_65_method_124_code 3 (some (.array .long)) ({ frames := 1, cells := 1, slots := 17408, locals := 14 } : Room) #[(.ref wa), (.int (Int32.ofNat N))] h0 [] (fun v h V' => ∃ (r : Addr), v = some (.ref r) ∧ Arv Z h r k .long (Int32.ofNat N) (lst N g) (.long (0 : Int64)) ∧ Exa Z h r "[J" ∧ h0.size ≤ r) [] := by
  refine Con.of (a0 := a0) pf9 (fun m => ef_cpy m wa k N g) all0 hO hEL ?_
  intro p e s m below meth c S0 hnm hsf W
  replace W := W.iloadN (pc' := 1) djdk_65_124_0 rfl rfl
  replace W := W.aloadN (pc' := 2) djdk_65_124_1 rfl rfl rfl
  replace W := W.alen (pc' := 3) djdk_65_124_2 V_wa rfl
  replace W := W.icmpF (pc' := 6) djdk_65_124_3 (teq rfl).2 rfl
  replace W := W.aloadN (pc' := 7) djdk_65_124_6 rfl rfl rfl
  obtain ⟨h1, a1, W1, E1, g1, ⟨A1, B1⟩, sf1, SF1⟩ := W.clone (pc' := 10) (ad := "[J") (cap := 17408) (Wd := 0) (cells' := 1) (slots' := 17408) djdk_65_124_7 (w73 hw) (w74 hw) (w78 hw) (w76 hw) (w77 hw) (w79 hw) V_wa E_wa rfl rfl (by decide) (by decide) (by rw [own_clamp (by omega)]; exact hN) rfl rfl rfl (by decide) (by decide)
  clear W
  rw [← g1] at A1 B1
  have z1 : h0.size ≤ h1.size := E1.1
  replace W1 := W1.castY (pc' := 13) djdk_65_124_10 (w80 hw) (Ins.self B1) rfl
  exact W1.aret (t := (.array .long)) djdk_65_124_13 rfl rfl rfl rfl (by decide) (by decide) (fun V' cv => ⟨a1, rfl, A1, B1, (Nat.le_of_eq g1.symm)⟩)
theorem ef_tla (m : MethodId) (oa : Addr) (wa : Addr) (k : ClassId) (N : Nat) (g : Nat → Int64) : entryFrame m #[(.ref oa)] 1 = mkF m 0 #[.val (.ref oa)] [] := by first | (simp [entryFrame, mkF, argsToLocals, Value.category]; done) | rfl
set_option maxRecDepth 65536 in
set_option maxHeartbeats 40000000 in
theorem tla (l : Launch) (Z : State) (a0 : Array Value) (n0 : Nat) (hw : ∀ d ∈ tables_1, d.before a0 Z = true) (hEL : EW Z a0 []) (O1 : Sta Z Z.heap "java/util/BitSet" "$assertionsDisabled" "Z" (.int (1 : Int32))) (oa : Addr) (wa : Addr) (k : ClassId) (N : Nat) (g : Nat → Int64) (h0 : Heap) (hO : Old Z n0 h0) (F_oa_words : Fld Z h0 oa "java/util/BitSet" "words" "[J" (.ref wa)) (F_oa_wordsInUse : Fld Z h0 oa "java/util/BitSet" "wordsInUse" "I" (.int (Int32.ofNat N))) (V_wa : Arv Z h0 wa k .long (Int32.ofNat N) (lst N g) (.long (0 : Int64))) (E_wa : Exa Z h0 wa "[J") (hN : N ≤ 17408) :
    Con l Z [] n0 (⟨"java/util/BitSet", "toLongArray", "()[J"⟩ : MethodName) jdk_92_method_13_code 1 (some (.array .long)) ({ frames := 2, cells := 1, slots := 17408, locals := 28 } : Room) #[(.ref oa)] h0 [] (fun v h V' => ∃ (r : Addr), v = some (.ref r) ∧ Arv Z h r k .long (Int32.ofNat N) (lst N g) (.long (0 : Int64)) ∧ Exa Z h r "[J" ∧ h0.size ≤ r) [] := by
  refine Con.of (a0 := a0) pf10 (fun m => ef_tla m oa wa k N g) all0 hO hEL ?_
  intro p e s m below meth c S0 hnm hsf W
  replace W := W.aloadN (pc' := 1) djdk_92_13_0 rfl rfl rfl
  replace W := W.getf (pc' := 4) djdk_92_13_1 (w32 hw) Via.refl F_oa_words rfl
  replace W := W.aloadN (pc' := 5) djdk_92_13_4 rfl rfl rfl
  replace W := W.getf (pc' := 8) djdk_92_13_5 (w19 hw) Via.refl F_oa_wordsInUse rfl
  obtain ⟨V1, h1, r1, W1, K1, hQ1, SF1⟩ := W.callS (pc' := 11) (argsL := [(.ref wa), (.int (Int32.ofNat N))]) (rest := []) (Wd := 0) (cells' := 1) (slots' := 17408) (y := (⟨"java/util/Arrays", "copyOf", "([JI)[J"⟩ : MethodName)) djdk_92_13_8 (cpy l Z a0 n0 hw hEL O1 wa k N g h0 W.old V_wa E_wa (by omega)) (w69 hw) (w70 hw) (w71 hw) (w72 hw) (by decide) (lenOf pd4 rfl) rfl rfl (by decide) (by decide) rfl sf0 all0 rfl rfl rfl (by decide) (by decide)
  clear W
  obtain ⟨_, r1, rfl, q1_1, q1_2, q1_3⟩ := hQ1
  have z1 : h0.size ≤ h1.size := K1.1
  replace W1 := W1.cast (st' := [(.ref r1)]) rfl
  exact W1.aret (t := (.array .long)) djdk_92_13_11 rfl rfl rfl rfl (by decide) (by decide) (fun V' cv => ⟨r1, rfl, q1_1, q1_2, q1_3⟩)
theorem ef_cpi (m : MethodId) (sa : Addr) (wa : Addr) : entryFrame m #[(.ref sa), (.ref wa)] 2 = mkF m 0 #[.val (.ref sa), .val (.ref wa)] [] := by first | (simp [entryFrame, mkF, argsToLocals, Value.category]; done) | rfl
set_option maxRecDepth 65536 in
set_option maxHeartbeats 40000000 in
theorem cpi (l : Launch) (Z : State) (a0 : Array Value) (n0 : Nat) (hw : ∀ d ∈ tables_1, d.before a0 Z = true) (hEL : EW Z a0 []) (O1 : Sta Z Z.heap "java/util/BitSet" "$assertionsDisabled" "Z" (.int (1 : Int32))) (sa : Addr) (wa : Addr) (h0 : Heap) (hO : Old Z n0 h0) (E_sa : Exa Z h0 sa "com/example/input_under_constraint/inputunderconstraint/CodePointSet") (F_sa_words : Fld Z h0 sa "com/example/input_under_constraint/inputunderconstraint/CodePointSet" "words" "[J" .null) (g_sa : n0 ≤ sa) :
    Con l Z [] n0 (⟨"com/example/input_under_constraint/inputunderconstraint/CodePointSet", "<init>", "([J)V"⟩ : MethodName) prog_8_method_2_code 2 none ({ frames := 1, cells := 0, slots := 0, locals := 12 } : Room) #[(.ref sa), (.ref wa)] h0 [sa] (fun v h V' => v = none ∧ Exa Z h sa "com/example/input_under_constraint/inputunderconstraint/CodePointSet" ∧ Fld Z h sa "com/example/input_under_constraint/inputunderconstraint/CodePointSet" "words" "[J" (.ref wa)) [] := by
  refine Con.of (a0 := a0) pf11 (fun m => ef_cpi m sa wa) (allS g_sa all0) hO hEL ?_
  intro p e s m below meth c S0 hnm hsf W
  replace W := W.aloadN (pc' := 1) dprog_8_2_0 rfl rfl rfl
  replace W := W.initO (pc' := 4) (Wd := 0) dprog_8_2_1 (w85 hw) (w17 hw) (w18 hw) rfl rfl (by decide) (by decide) rfl
  replace W := W.aloadN (pc' := 5) dprog_8_2_4 rfl rfl rfl
  replace W := W.aloadN (pc' := 6) dprog_8_2_5 rfl rfl rfl
  obtain ⟨h1, W1, w1, SF1⟩ := W.putf (pc' := 9) (ty := (.array .long)) dprog_8_2_6 (w86 hw) Via.refl F_sa_words E_sa (Or.inr ⟨(w87 hw), rfl, hnm⟩) (w60 hw) (by decide) rfl rfl safe0 (Or.inl (List.mem_of_getElem? (i := 0) rfl)) rfl
  clear W
  have z1 : h0.size ≤ h1.size := Nat.le_of_eq w1.size.symm
  have f1 := F_sa_words.same w1
  have e2 := (E_sa.wr w1)
  exact W1.vret dprog_8_2_9 rfl (by decide) (by decide) (fun V' cv => ⟨rfl, e2, f1⟩)
theorem ef_cpb (m : MethodId) (sa : Addr) (oa : Addr) (wa : Addr) (k : ClassId) (N : Nat) (g : Nat → Int64) : entryFrame m #[(.ref sa), (.ref oa)] 2 = mkF m 0 #[.val (.ref sa), .val (.ref oa)] [] := by first | (simp [entryFrame, mkF, argsToLocals, Value.category]; done) | rfl
set_option maxRecDepth 65536 in
set_option maxHeartbeats 40000000 in
theorem cpb (l : Launch) (Z : State) (a0 : Array Value) (n0 : Nat) (hw : ∀ d ∈ tables_1, d.before a0 Z = true) (hEL : EW Z a0 []) (O1 : Sta Z Z.heap "java/util/BitSet" "$assertionsDisabled" "Z" (.int (1 : Int32))) (sa : Addr) (oa : Addr) (wa : Addr) (k : ClassId) (N : Nat) (g : Nat → Int64) (h0 : Heap) (hO : Old Z n0 h0) (E_sa : Exa Z h0 sa "com/example/input_under_constraint/inputunderconstraint/CodePointSet") (F_sa_words : Fld Z h0 sa "com/example/input_under_constraint/inputunderconstraint/CodePointSet" "words" "[J" .null) (E_oa : Exa Z h0 oa "java/util/BitSet") (F_oa_words : Fld Z h0 oa "java/util/BitSet" "words" "[J" (.ref wa)) (F_oa_wordsInUse : Fld Z h0 oa "java/util/BitSet" "wordsInUse" "I" (.int (Int32.ofNat N))) (V_wa : Arv Z h0 wa k .long (Int32.ofNat N) (lst N g) (.long (0 : Int64))) (E_wa : Exa Z h0 wa "[J") (hN : N ≤ 17408) (g_sa : n0 ≤ sa) :
    Con l Z [] n0 (⟨"com/example/input_under_constraint/inputunderconstraint/CodePointSet", "<init>", "(Ljava/util/BitSet;)V"⟩ : MethodName) prog_8_method_1_code 2 none ({ frames := 3, cells := 1, slots := 17408, locals := 41 } : Room) #[(.ref sa), (.ref oa)] h0 [sa] (fun v h V' => ∃ (r : Addr), v = none ∧ Exa Z h sa "com/example/input_under_constraint/inputunderconstraint/CodePointSet" ∧ Fld Z h sa "com/example/input_under_constraint/inputunderconstraint/CodePointSet" "words" "[J" (.ref r) ∧ Arv Z h r k .long (Int32.ofNat N) (lst N g) (.long (0 : Int64))) [] := by
  refine Con.of (a0 := a0) pf12 (fun m => ef_cpb m sa oa wa k N g) (allS g_sa all0) hO hEL ?_
  intro p e s m below meth c S0 hnm hsf W
  replace W := W.aloadN (pc' := 1) dprog_8_1_0 rfl rfl rfl
  replace W := W.aloadN (pc' := 2) dprog_8_1_1 rfl rfl rfl
  obtain ⟨V1, h1, r1, W1, K1, hQ1, SF1⟩ := W.callV (pc' := 5) (argsL := []) (rest := [(.ref sa)]) (Wd := 1) (cells' := 1) (slots' := 17408) (a := oa) (C := "java/util/BitSet") (y := (⟨"java/util/BitSet", "toLongArray", "()[J"⟩ : MethodName)) (z := (⟨"java/util/BitSet", "toLongArray", "()[J"⟩ : MethodName)) dprog_8_1_2 (tla l Z a0 n0 hw hEL O1 oa wa k N g h0 W.old F_oa_words F_oa_wordsInUse V_wa E_wa (by omega)) E_oa (w64 hw) (w65 hw) (Or.inl (w67 hw)) (w67 hw) (w66 hw) (w12 hw) (w68 hw) (by decide) (lenOf pd5 rfl) rfl rfl (by decide) (by decide) rfl sf0 all0 rfl rfl rfl (by decide) (by decide)
  clear W
  obtain ⟨_, r1, rfl, q1_1, q1_2, q1_3⟩ := hQ1
  have z1 : h0.size ≤ h1.size := K1.1
  replace W1 := W1.cast (st' := [(.ref r1), (.ref sa)]) rfl
  have e2 := (E_sa.keep K1)
  have f3 := (F_sa_words.keep K1 nin0)
  obtain ⟨V4, h4, r4, W4, K4, hQ4, SF4⟩ := W1.callI (pc' := 8) (argsL := [(.ref r1)]) (rest := []) (Wd := 0) (cells' := 1) (slots' := 17408) (a := sa) (y := (⟨"com/example/input_under_constraint/inputunderconstraint/CodePointSet", "<init>", "([J)V"⟩ : MethodName)) dprog_8_1_5 (cpi l Z a0 n0 hw hEL O1 sa r1 h1 W1.old e2 f3 g_sa) rfl (w82 hw) (w83 hw) (w4 hw) (w84 hw) (by decide) (lenOf pd6 rfl) rfl rfl (by decide) (by decide) rfl (sfS safe0 sf0) (allS (Or.inl (List.mem_of_getElem? (i := 0) rfl)) all0) rfl rfl rfl (by decide) (by decide)
  clear W1
  obtain ⟨_, rfl, q4_1, q4_2⟩ := hQ4
  have z4 : h1.size ≤ h4.size := K4.1
  replace W4 := W4.cast (st' := []) rfl
  have v5 := (q1_1.keep K4 (ninS (Nat.ne_of_gt (Nat.lt_of_lt_of_le E_sa.lt q1_3)) nin0))
  exact W4.vret dprog_8_1_8 rfl (by decide) (by decide) (fun V' cv => ⟨r1, rfl, q4_1, q4_2, v5⟩)
theorem ef_rng (m : MethodId) (F : Nat) (G : Nat) : entryFrame m #[(.int (Int32.ofNat F)), (.int (Int32.ofNat G))] 3 = mkF m 0 #[.val (.int (Int32.ofNat F)), .val (.int (Int32.ofNat G)), .unset] [] := by first | (simp [entryFrame, mkF, argsToLocals, Value.category]; done) | rfl
set_option maxRecDepth 65536 in
set_option maxHeartbeats 40000000 in
theorem rng (l : Launch) (Z : State) (a0 : Array Value) (n0 : Nat) (hw : ∀ d ∈ tables_1, d.before a0 Z = true) (hEL : EW Z a0 []) (O1 : Sta Z Z.heap "java/util/BitSet" "$assertionsDisabled" "Z" (.int (1 : Int32))) (F : Nat) (G : Nat) (h0 : Heap) (hO : Old Z n0 h0) (hFG : F ≤ G) (hG : G < 1114112) :
    Con l Z [] n0 (⟨"com/example/input_under_constraint/inputunderconstraint/CodePointSet", "range", "(II)Lcom/example/input_under_constraint/inputunderconstraint/CodePointSet;"⟩ : MethodName) prog_8_method_4_code 3 (some (.object "com/example/input_under_constraint/inputunderconstraint/CodePointSet")) ({ frames := 4, cells := 4, slots := 34821, locals := 55 } : Room) #[(.int (Int32.ofNat F)), (.int (Int32.ofNat G))] h0 [] (fun v h V' => ∃ (r : Addr) (w : Addr) (k : ClassId), v = some (.ref r) ∧ Exa Z h r "com/example/input_under_constraint/inputunderconstraint/CodePointSet" ∧ Fld Z h r "com/example/input_under_constraint/inputunderconstraint/CodePointSet" "words" "[J" (.ref w) ∧ Arv Z h w k .long (Int32.ofNat ((G / 64) + 1)) (lst ((G / 64) + 1) (wf F G)) (.long (0 : Int64))) [] := by
  refine Con.of (a0 := a0) pf13 (fun m => ef_rng m F G) all0 hO hEL ?_
  intro p e s m below meth c S0 hnm hsf W
  replace W := W.iloadN (pc' := 1) dprog_8_4_0 rfl rfl
  obtain ⟨V1, h1, r1, W1, K1, hQ1, SF1⟩ := W.callS (pc' := 4) (argsL := [(.int (Int32.ofNat F))]) (rest := []) (Wd := 0) (cells' := 0) (slots' := 0) (y := (⟨"java/lang/Character", "isValidCodePoint", "(I)Z"⟩ : MethodName)) dprog_8_4_1 (ivc l Z a0 n0 hw hEL O1 F h0 W.old (by omega)) (w6 hw) (w7 hw) (w8 hw) (w9 hw) (by decide) (lenOf pd7 rfl) rfl rfl (by decide) (by decide) rfl sf0 all0 rfl rfl rfl (by decide) (by decide)
  clear W
  obtain ⟨_, rfl, hs1⟩ := hQ1
  subst hs1
  replace W1 := W1.cast (st' := [(.int (1 : Int32))]) rfl
  replace W1 := W1.ifF (pc' := 7) dprog_8_4_4 (feq (by decide : ¬ ((1 : Int32) = (0 : Int32)))).1 rfl
  replace W1 := W1.iloadN (pc' := 8) dprog_8_4_7 rfl rfl
  obtain ⟨V2, h2, r2, W2, K2, hQ2, SF2⟩ := W1.callS (pc' := 11) (argsL := [(.int (Int32.ofNat G))]) (rest := []) (Wd := 0) (cells' := 0) (slots' := 0) (y := (⟨"java/lang/Character", "isValidCodePoint", "(I)Z"⟩ : MethodName)) dprog_8_4_8 (ivc l Z a0 n0 hw hEL O1 G h0 W1.old (by omega)) (w6 hw) (w7 hw) (w8 hw) (w9 hw) (by decide) (lenOf pd7 rfl) rfl rfl (by decide) (by decide) rfl sf0 all0 rfl rfl rfl (by decide) (by decide)
  clear W1
  obtain ⟨_, rfl, hs2⟩ := hQ2
  subst hs2
  replace W2 := W2.cast (st' := [(.int (1 : Int32))]) rfl
  replace W2 := W2.ifT (pc' := 35) dprog_8_4_11 (feq (by decide : ¬ ((1 : Int32) = (0 : Int32)))).2 (by decide) (by decide)
  replace W2 := W2.iloadN (pc' := 36) dprog_8_4_35 rfl rfl
  replace W2 := W2.iloadN (pc' := 37) dprog_8_4_36 rfl rfl
  replace W2 := W2.icmpT (pc' := 61) dprog_8_4_37 (flt (own_nlt (by omega) (by omega) (by omega))).2.2.2 (by decide) (by decide)
  obtain ⟨h3, a3, W3, E3, g3, ⟨A3, D3, U3⟩, sf3, SF3⟩ := W2.new (pc' := 64) (cells' := 1) (slots' := 3) dprog_8_4_61 (w10 hw) (w11 hw) (w12 hw) rfl rfl rfl (by decide) (by decide)
  clear W2
  rw [← g3] at A3 D3 U3
  have z3 : h0.size ≤ h3.size := E3.1
  replace W3 := W3.dup (pc' := 65) dprog_8_4_64 rfl rfl
  replace W3 := W3.iloadN (pc' := 66) dprog_8_4_65 rfl rfl
  replace W3 := W3.iconst (pc' := 67) (v := (1 : Int32)) dprog_8_4_66 rfl rfl
  replace W3 := W3.iadd (pc' := 68) (v := (Int32.ofNat (G + 1))) dprog_8_4_67 (own_add1 _) rfl
  obtain ⟨V4, h4, r4, W4, K4, hQ4, SF4⟩ := W3.callI (pc' := 71) (argsL := [(.int (Int32.ofNat (G + 1)))]) (rest := [(.ref a3)]) (Wd := 1) (cells' := 2) (slots' := 17411) (a := a3) (y := (⟨"java/util/BitSet", "<init>", "(I)V"⟩ : MethodName)) dprog_8_4_68 (bsi l Z a0 n0 hw hEL O1 a3 G h3 W3.old A3 (D3 (Or.inl (w33 hw)) (ty := (.array .long)) (by decide) : Fld Z h3 a3 "java/util/BitSet" "words" "[J" .null) (D3 (Or.inl (w20 hw)) (ty := .int) (by decide) : Fld Z h3 a3 "java/util/BitSet" "wordsInUse" "I" (.int (0 : Int32))) (D3 (Or.inl (w22 hw)) (ty := .boolean) (by decide) : Fld Z h3 a3 "java/util/BitSet" "sizeIsSticky" "Z" (.int (0 : Int32))) (by omega) (Nat.le_trans W3.1.2.2.2.2.2.2.2.1 (Nat.le_of_eq g3.symm))) rfl (w13 hw) (w14 hw) (w12 hw) (w15 hw) (by decide) (lenOf pd1 rfl) rfl rfl (by decide) (by decide) rfl (sfS safe0 sf0) (allS (Or.inr (Nat.le_of_eq g3.symm)) all0) rfl rfl rfl (by decide) (by decide)
  clear W3
  obtain ⟨_, wa4, k4, rfl, q4_1, q4_2, q4_3, q4_4, q4_5, q4_6⟩ := hQ4
  have z4 : h3.size ≤ h4.size := K4.1
  replace W4 := W4.cast (st' := [(.ref a3)]) rfl
  replace W4 := W4.astoreN (pc' := 72) (L' := #[.val (.int (Int32.ofNat F)), .val (.int (Int32.ofNat G)), .val (.ref a3)]) dprog_8_4_71 rfl rfl rfl
  replace W4 := W4.aloadN (pc' := 73) dprog_8_4_72 rfl rfl rfl
  replace W4 := W4.iloadN (pc' := 74) dprog_8_4_73 rfl rfl
  replace W4 := W4.iloadN (pc' := 75) dprog_8_4_74 rfl rfl
  replace W4 := W4.iconst (pc' := 76) (v := (1 : Int32)) dprog_8_4_75 rfl rfl
  replace W4 := W4.iadd (pc' := 77) (v := (Int32.ofNat (G + 1))) dprog_8_4_76 (own_add1 _) rfl
  obtain ⟨V5, h5, r5, W5, K5, hQ5, SF5⟩ := W4.callV (pc' := 80) (argsL := [(.int (Int32.ofNat F)), (.int (Int32.ofNat (G + 1)))]) (rest := []) (Wd := 0) (cells' := 2) (slots' := 17411) (a := a3) (C := "java/util/BitSet") (y := (⟨"java/util/BitSet", "set", "(II)V"⟩ : MethodName)) (z := (⟨"java/util/BitSet", "set", "(II)V"⟩ : MethodName)) dprog_8_4_77 (set_c l Z a0 n0 hw hEL O1 a3 wa4 k4 F G h4 W4.old q4_1 q4_2 q4_3 q4_4 q4_5 (by omega) (by omega) (Nat.le_trans W4.1.2.2.2.2.2.2.2.1 (Nat.le_of_eq g3.symm)) (Nat.le_trans W4.1.2.2.2.2.2.2.2.1 (Nat.le_trans z3 q4_6))) q4_1 (w34 hw) (w35 hw) (Or.inl (w37 hw)) (w37 hw) (w36 hw) (w12 hw) (w38 hw) (by decide) (lenOf pd3 rfl) rfl rfl (by decide) (by decide) rfl (sfS safe0 (sfS safe0 sf0)) (allS (Or.inr (Nat.le_of_eq g3.symm)) (allS (Or.inr (Nat.le_trans z3 q4_6)) all0)) rfl rfl rfl (by decide) (by decide)
  clear W4
  obtain ⟨_, rfl, q5_1, q5_2, q5_3, q5_4, q5_5⟩ := hQ5
  have z5 : h4.size ≤ h5.size := K5.1
  replace W5 := W5.cast (st' := []) rfl
  obtain ⟨h6, a6, W6, E6, g6, ⟨A6, D6, U6⟩, sf6, SF6⟩ := W5.new (pc' := 83) (cells' := 3) (slots' := 17413) dprog_8_4_80 (w59 hw) (w60 hw) (w4 hw) rfl rfl rfl (by decide) (by decide)
  clear W5
  rw [← g6] at A6 D6 U6
  have z6 : h5.size ≤ h6.size := E6.1
  replace W6 := W6.dup (pc' := 84) dprog_8_4_83 rfl rfl
  replace W6 := W6.aloadN (pc' := 85) dprog_8_4_84 rfl rfl rfl
  have e7 := (q5_1.ext E6)
  have f8 := (q5_2.ext E6)
  have f9 := (q5_3.ext E6)
  have v10 := (q5_4.ext E6)
  have e11 := (q5_5.ext E6)
  obtain ⟨V12, h12, r12, W12, K12, hQ12, SF12⟩ := W6.callI (pc' := 88) (argsL := [(.ref a3)]) (rest := [(.ref a6)]) (Wd := 1) (cells' := 4) (slots' := 34821) (a := a6) (y := (⟨"com/example/input_under_constraint/inputunderconstraint/CodePointSet", "<init>", "(Ljava/util/BitSet;)V"⟩ : MethodName)) dprog_8_4_85 (cpb l Z a0 n0 hw hEL O1 a6 a3 wa4 k4 ((G / 64) + 1) (wf F G) h6 W6.old A6 (D6 (Or.inr (w87 hw)) (ty := (.array .long)) (by decide) : Fld Z h6 a6 "com/example/input_under_constraint/inputunderconstraint/CodePointSet" "words" "[J" .null) e7 f8 f9 v10 e11 (by omega) (Nat.le_trans W6.1.2.2.2.2.2.2.2.1 (Nat.le_trans (Nat.le_trans (Nat.le_trans z3 z4) z5) (Nat.le_of_eq g6.symm)))) rfl (w61 hw) (w62 hw) (w4 hw) (w63 hw) (by decide) (lenOf pd8 rfl) rfl rfl (by decide) (by decide) rfl (sfS safe0 sf0) (allS (Or.inr (Nat.le_trans (Nat.le_trans (Nat.le_trans z3 z4) z5) (Nat.le_of_eq g6.symm))) all0) rfl rfl rfl (by decide) (by decide)
  clear W6
  obtain ⟨_, r12, rfl, q12_1, q12_2, q12_3⟩ := hQ12
  have z12 : h6.size ≤ h12.size := K12.1
  replace W12 := W12.cast (st' := [(.ref a6)]) rfl
  exact W12.aret (t := (.object "com/example/input_under_constraint/inputunderconstraint/CodePointSet")) dprog_8_4_88 rfl rfl rfl rfl (by decide) (by decide) (fun V' cv => ⟨a6, r12, k4, rfl, q12_1, q12_2, q12_3⟩)
theorem ef_ctn_c (m : MethodId) (sa : Addr) (wa : Addr) (k : ClassId) (N : Nat) (g : Nat → Int64) (x : Int32) : entryFrame m #[(.ref sa), (.int x)] 3 = mkF m 0 #[.val (.ref sa), .val (.int x), .unset] [] := by first | (simp [entryFrame, mkF, argsToLocals, Value.category]; done) | rfl
set_option maxRecDepth 65536 in
set_option maxHeartbeats 40000000 in
theorem ctn_c (l : Launch) (Z : State) (a0 : Array Value) (n0 : Nat) (hw : ∀ d ∈ tables_1, d.before a0 Z = true) (hEL : EW Z a0 []) (O1 : Sta Z Z.heap "java/util/BitSet" "$assertionsDisabled" "Z" (.int (1 : Int32))) (sa : Addr) (wa : Addr) (k : ClassId) (N : Nat) (g : Nat → Int64) (x : Int32) (h0 : Heap) (hO : Old Z n0 h0) (F_sa_words : Fld Z h0 sa "com/example/input_under_constraint/inputunderconstraint/CodePointSet" "words" "[J" (.ref wa)) (V_wa : Arv Z h0 wa k .long (Int32.ofNat N) (lst N g) (.long (0 : Int64))) (hN : N ≤ 17408) :
    Con l Z [] n0 (⟨"com/example/input_under_constraint/inputunderconstraint/CodePointSet", "contains", "(I)Z"⟩ : MethodName) prog_8_method_6_code 3 (some .boolean) ({ frames := 0, cells := 0, slots := 0, locals := 0 } : Room) #[(.ref sa), (.int x)] h0 [] (fun v h V' => v = some (.int (ctn N g x)) ∧ h0 = h) [] := by
  refine Con.of (a0 := a0) pf14 (fun m => ef_ctn_c m sa wa k N g x) all0 hO hEL ?_
  intro p e s m below meth c S0 hnm hsf W
  replace W := W.iloadN (pc' := 1) dprog_8_6_0 rfl rfl
  replace W := W.bipush (pc' := 3) (v := (6 : Int32)) dprog_8_6_1 rfl rfl
  replace W := W.iushr (pc' := 4) (v := (Jvm.Free.XT.ushr x (6 : Int32))) dprog_8_6_3 rfl rfl
  replace W := W.istoreN (pc' := 5) (L' := #[.val (.ref sa), .val (.int x), .val (.int (Jvm.Free.XT.ushr x (6 : Int32)))]) dprog_8_6_4 rfl rfl
  replace W := W.iloadN (pc' := 6) dprog_8_6_5 rfl rfl
  replace W := W.aloadN (pc' := 7) dprog_8_6_6 rfl rfl rfl
  replace W := W.getf (pc' := 10) dprog_8_6_7 (w86 hw) Via.refl F_sa_words rfl
  replace W := W.alen (pc' := 11) dprog_8_6_10 V_wa rfl
  by_cases c1 : (Jvm.Free.XT.ushr x (6 : Int32)) < (Int32.ofNat N)
  · replace W := W.icmpF (pc' := 14) dprog_8_6_11 (tlt c1).2.1 rfl
    replace W := W.aloadN (pc' := 15) dprog_8_6_14 rfl rfl rfl
    replace W := W.getf (pc' := 18) dprog_8_6_15 (w86 hw) Via.refl F_sa_words rfl
    replace W := W.iloadN (pc' := 19) dprog_8_6_18 rfl rfl
    replace W := W.laload (pc' := 20) (w := (.long (g (Jvm.Free.XT.ushr x (6 : Int32)).toNatClampNeg))) dprog_8_6_19 V_wa ⟨own_ushr6_nn x, c1⟩ (own_lst_get (own_ushr6_in (by omega) c1)) rfl
    replace W := W.lconst (pc' := 21) (v := (1 : Int64)) dprog_8_6_20 rfl rfl
    replace W := W.iloadN (pc' := 22) dprog_8_6_21 rfl rfl
    replace W := W.lshl (pc' := 23) (v := ((1 : Int64) <<< (x.toInt64 &&& 63))) dprog_8_6_22 rfl rfl
    replace W := W.land (pc' := 24) (v := ((g (Jvm.Free.XT.ushr x (6 : Int32)).toNatClampNeg) &&& ((1 : Int64) <<< (x.toInt64 &&& 63)))) dprog_8_6_23 rfl rfl
    replace W := W.lconst (pc' := 25) (v := (0 : Int64)) dprog_8_6_24 rfl rfl
    replace W := W.lcmp (pc' := 26) (v := (Jvm.Free.XT.cmpL ((g (Jvm.Free.XT.ushr x (6 : Int32)).toNatClampNeg) &&& ((1 : Int64) <<< (x.toInt64 &&& 63))) (0 : Int64))) dprog_8_6_25 rfl rfl
    by_cases c2 : (Jvm.Free.XT.cmpL ((g (Jvm.Free.XT.ushr x (6 : Int32)).toNatClampNeg) &&& ((1 : Int64) <<< (x.toInt64 &&& 63))) (0 : Int64)) = (0 : Int32)
    · replace W := W.ifT (pc' := 33) dprog_8_6_26 (teq c2).1 (by decide) (by decide)
      replace W := W.iconst (pc' := 34) (v := (0 : Int32)) dprog_8_6_33 rfl rfl
      exact W.iret (t := .boolean) dprog_8_6_34 rfl (by simp) (by decide) (by decide) (by decide) (fun V' cv => ⟨(congrArg (fun z => some (Value.int z)) (by unfold ctn; rw [if_pos c1]; rw [if_pos c2])), rfl⟩)
    · replace W := W.ifF (pc' := 29) dprog_8_6_26 (feq c2).1 rfl
      replace W := W.iconst (pc' := 30) (v := (1 : Int32)) dprog_8_6_29 rfl rfl
      replace W := W.goto (pc' := 34) dprog_8_6_30 (by decide) (by decide)
      exact W.iret (t := .boolean) dprog_8_6_34 rfl (by simp) (by decide) (by decide) (by decide) (fun V' cv => ⟨(congrArg (fun z => some (Value.int z)) (by unfold ctn; rw [if_pos c1]; rw [if_neg c2])), rfl⟩)
  · replace W := W.icmpT (pc' := 33) dprog_8_6_11 (flt c1).2.1 (by decide) (by decide)
    replace W := W.iconst (pc' := 34) (v := (0 : Int32)) dprog_8_6_33 rfl rfl
    exact W.iret (t := .boolean) dprog_8_6_34 rfl (by simp) (by decide) (by decide) (by decide) (fun V' cv => ⟨(congrArg (fun z => some (Value.int z)) (by unfold ctn; rw [if_neg c1])), rfl⟩)
theorem ef_inr_c (m : MethodId) (f : Int32) (q : Int32) (x : Int32) : entryFrame m #[(.int f), (.int q), (.int x)] 3 = mkF m 0 #[.val (.int f), .val (.int q), .val (.int x)] [] := by first | (simp [entryFrame, mkF, argsToLocals, Value.category]; done) | rfl
set_option maxRecDepth 65536 in
set_option maxHeartbeats 40000000 in
theorem inr_c (l : Launch) (Z : State) (a0 : Array Value) (n0 : Nat) (hw : ∀ d ∈ tables_1, d.before a0 Z = true) (hEL : EW Z a0 []) (O1 : Sta Z Z.heap "java/util/BitSet" "$assertionsDisabled" "Z" (.int (1 : Int32))) (f : Int32) (q : Int32) (x : Int32) (h0 : Heap) (hO : Old Z n0 h0)  :
    Con l Z [] n0 (⟨"com/example/input_under_constraint/inputunderconstraint/CodePointSetRangePinLaw", "inRange", "(III)Z"⟩ : MethodName) method_2_code 3 (some .boolean) ({ frames := 0, cells := 0, slots := 0, locals := 0 } : Room) #[(.int f), (.int q), (.int x)] h0 [] (fun v h V' => v = some (.int (inr f q x)) ∧ h0 = h) [] := by
  refine Con.of (a0 := a0) pf15 (fun m => ef_inr_c m f q x) all0 hO hEL ?_
  intro p e s m below meth c S0 hnm hsf W
  replace W := W.iloadN (pc' := 1) dm_2_0 rfl rfl
  replace W := W.iloadN (pc' := 2) dm_2_1 rfl rfl
  by_cases c1 : x < f
  · replace W := W.icmpT (pc' := 14) dm_2_2 (tlt c1).2.2.1 (by decide) (by decide)
    replace W := W.iconst (pc' := 15) (v := (0 : Int32)) dm_2_14 rfl rfl
    exact W.iret (t := .boolean) dm_2_15 rfl (by simp) (by decide) (by decide) (by decide) (fun V' cv => ⟨(congrArg (fun z => some (Value.int z)) (by unfold inr; rw [if_pos c1])), rfl⟩)
  · replace W := W.icmpF (pc' := 5) dm_2_2 (flt c1).2.2.1 rfl
    replace W := W.iloadN (pc' := 6) dm_2_5 rfl rfl
    replace W := W.iloadN (pc' := 7) dm_2_6 rfl rfl
    by_cases c2 : q < x
    · replace W := W.icmpT (pc' := 14) dm_2_7 (tlt c2).2.2.1 (by decide) (by decide)
      replace W := W.iconst (pc' := 15) (v := (0 : Int32)) dm_2_14 rfl rfl
      exact W.iret (t := .boolean) dm_2_15 rfl (by simp) (by decide) (by decide) (by decide) (fun V' cv => ⟨(congrArg (fun z => some (Value.int z)) (by unfold inr; rw [if_neg c1]; rw [if_pos c2])), rfl⟩)
    · replace W := W.icmpF (pc' := 10) dm_2_7 (flt c2).2.2.1 rfl
      replace W := W.iconst (pc' := 11) (v := (1 : Int32)) dm_2_10 rfl rfl
      replace W := W.goto (pc' := 15) dm_2_11 (by decide) (by decide)
      exact W.iret (t := .boolean) dm_2_15 rfl (by simp) (by decide) (by decide) (by decide) (fun V' cv => ⟨(congrArg (fun z => some (Value.int z)) (by unfold inr; rw [if_neg c1]; rw [if_neg c2])), rfl⟩)
theorem ef_bc_c (m : MethodId) (x : Int64) : entryFrame m #[(.long x)] 2 = mkF m 0 #[.val (.long x), .second] [] := by first | (simp [entryFrame, mkF, argsToLocals, Value.category]; done) | rfl
set_option maxRecDepth 65536 in
set_option maxHeartbeats 40000000 in
theorem bc_c (l : Launch) (Z : State) (a0 : Array Value) (n0 : Nat) (hw : ∀ d ∈ tables_1, d.before a0 Z = true) (hEL : EW Z a0 []) (O1 : Sta Z Z.heap "java/util/BitSet" "$assertionsDisabled" "Z" (.int (1 : Int32))) (x : Int64) (h0 : Heap) (hO : Old Z n0 h0)  :
    Con l Z [] n0 (⟨"java/lang/Long", "bitCount", "(J)I"⟩ : MethodName) jdk_35_method_50_code 2 (some .int) ({ frames := 0, cells := 0, slots := 0, locals := 0 } : Room) #[(.long x)] h0 [] (fun v h V' => v = some (.int (bcf x)) ∧ h0 = h) [] := by
  refine Con.of (a0 := a0) pf16 (fun m => ef_bc_c m x) all0 hO hEL ?_
  intro p e s m below meth c S0 hnm hsf W
  replace W := W.lloadN (pc' := 1) djdk_35_50_0 rfl rfl
  replace W := W.lloadN (pc' := 2) djdk_35_50_1 rfl rfl
  replace W := W.iconst (pc' := 3) (v := (1 : Int32)) djdk_35_50_2 rfl rfl
  replace W := W.lushr (pc' := 4) (v := (Jvm.Free.XT.ushrL x (1 : Int32))) djdk_35_50_3 rfl rfl
  replace W := W.ldc2 (pc' := 7) djdk_35_50_4 (w106 hw) rfl
  replace W := W.land (pc' := 8) (v := ((Jvm.Free.XT.ushrL x (1 : Int32)) &&& (6148914691236517205 : Int64))) djdk_35_50_7 rfl rfl
  replace W := W.lsub (pc' := 9) (v := (bc1 x)) djdk_35_50_8 rfl rfl
  replace W := W.lstoreN (pc' := 10) (L' := #[.val (.long (bc1 x)), .second]) djdk_35_50_9 rfl rfl
  replace W := W.lloadN (pc' := 11) djdk_35_50_10 rfl rfl
  replace W := W.ldc2 (pc' := 14) djdk_35_50_11 (w107 hw) rfl
  replace W := W.land (pc' := 15) (v := ((bc1 x) &&& (3689348814741910323 : Int64))) djdk_35_50_14 rfl rfl
  replace W := W.lloadN (pc' := 16) djdk_35_50_15 rfl rfl
  replace W := W.iconst (pc' := 17) (v := (2 : Int32)) djdk_35_50_16 rfl rfl
  replace W := W.lushr (pc' := 18) (v := (Jvm.Free.XT.ushrL (bc1 x) (2 : Int32))) djdk_35_50_17 rfl rfl
  replace W := W.ldc2 (pc' := 21) djdk_35_50_18 (w107 hw) rfl
  replace W := W.land (pc' := 22) (v := ((Jvm.Free.XT.ushrL (bc1 x) (2 : Int32)) &&& (3689348814741910323 : Int64))) djdk_35_50_21 rfl rfl
  replace W := W.ladd (pc' := 23) (v := (bc2 (bc1 x))) djdk_35_50_22 rfl rfl
  replace W := W.lstoreN (pc' := 24) (L' := #[.val (.long (bc2 (bc1 x))), .second]) djdk_35_50_23 rfl rfl
  replace W := W.lloadN (pc' := 25) djdk_35_50_24 rfl rfl
  replace W := W.lloadN (pc' := 26) djdk_35_50_25 rfl rfl
  replace W := W.iconst (pc' := 27) (v := (4 : Int32)) djdk_35_50_26 rfl rfl
  replace W := W.lushr (pc' := 28) (v := (Jvm.Free.XT.ushrL (bc2 (bc1 x)) (4 : Int32))) djdk_35_50_27 rfl rfl
  replace W := W.ladd (pc' := 29) (v := ((bc2 (bc1 x)) + (Jvm.Free.XT.ushrL (bc2 (bc1 x)) (4 : Int32)))) djdk_35_50_28 rfl rfl
  replace W := W.ldc2 (pc' := 32) djdk_35_50_29 (w108 hw) rfl
  replace W := W.land (pc' := 33) (v := (bc3 (bc2 (bc1 x)))) djdk_35_50_32 rfl rfl
  replace W := W.lstoreN (pc' := 34) (L' := #[.val (.long (bc3 (bc2 (bc1 x)))), .second]) djdk_35_50_33 rfl rfl
  replace W := W.lloadN (pc' := 35) djdk_35_50_34 rfl rfl
  replace W := W.lloadN (pc' := 36) djdk_35_50_35 rfl rfl
  replace W := W.bipush (pc' := 38) (v := (8 : Int32)) djdk_35_50_36 rfl rfl
  replace W := W.lushr (pc' := 39) (v := (Jvm.Free.XT.ushrL (bc3 (bc2 (bc1 x))) (8 : Int32))) djdk_35_50_38 rfl rfl
  replace W := W.ladd (pc' := 40) (v := (bc4 (bc3 (bc2 (bc1 x))))) djdk_35_50_39 rfl rfl
  replace W := W.lstoreN (pc' := 41) (L' := #[.val (.long (bc4 (bc3 (bc2 (bc1 x))))), .second]) djdk_35_50_40 rfl rfl
  replace W := W.lloadN (pc' := 42) djdk_35_50_41 rfl rfl
  replace W := W.lloadN (pc' := 43) djdk_35_50_42 rfl rfl
  replace W := W.bipush (pc' := 45) (v := (16 : Int32)) djdk_35_50_43 rfl rfl
  replace W := W.lushr (pc' := 46) (v := (Jvm.Free.XT.ushrL (bc4 (bc3 (bc2 (bc1 x)))) (16 : Int32))) djdk_35_50_45 rfl rfl
  replace W := W.ladd (pc' := 47) (v := (bc5 (bc4 (bc3 (bc2 (bc1 x)))))) djdk_35_50_46 rfl rfl
  replace W := W.lstoreN (pc' := 48) (L' := #[.val (.long (bc5 (bc4 (bc3 (bc2 (bc1 x)))))), .second]) djdk_35_50_47 rfl rfl
  replace W := W.lloadN (pc' := 49) djdk_35_50_48 rfl rfl
  replace W := W.lloadN (pc' := 50) djdk_35_50_49 rfl rfl
  replace W := W.bipush (pc' := 52) (v := (32 : Int32)) djdk_35_50_50 rfl rfl
  replace W := W.lushr (pc' := 53) (v := (Jvm.Free.XT.ushrL (bc5 (bc4 (bc3 (bc2 (bc1 x))))) (32 : Int32))) djdk_35_50_52 rfl rfl
  replace W := W.ladd (pc' := 54) (v := (bc6 (bc5 (bc4 (bc3 (bc2 (bc1 x))))))) djdk_35_50_53 rfl rfl
  replace W := W.lstoreN (pc' := 55) (L' := #[.val (.long (bc6 (bc5 (bc4 (bc3 (bc2 (bc1 x))))))), .second]) djdk_35_50_54 rfl rfl
  replace W := W.lloadN (pc' := 56) djdk_35_50_55 rfl rfl
  replace W := W.l2i (pc' := 57) (v := ((bc6 (bc5 (bc4 (bc3 (bc2 (bc1 x)))))).toInt32)) djdk_35_50_56 rfl rfl
  replace W := W.bipush (pc' := 59) (v := (127 : Int32)) djdk_35_50_57 rfl rfl
  replace W := W.iand (pc' := 60) (v := (bcf x)) djdk_35_50_59 rfl rfl
  exact W.iret (t := .int) djdk_35_50_60 rfl (by simp) rfl (by decide) (by decide) (fun V' cv => ⟨rfl, rfl⟩)
set_option maxRecDepth 65536 in
set_option maxHeartbeats 40000000 in
theorem size_lp (l : Launch) (Z : State) (a0 : Array Value) (n0 : Nat) (hw : ∀ d ∈ tables_1, d.before a0 Z = true) (hEL : EW Z a0 []) (O1 : Sta Z Z.heap "java/util/BitSet" "$assertionsDisabled" "Z" (.int (1 : Int32))) (sa : Addr) (wa : Addr) (k : ClassId) (N : Nat) (g : Nat → Int64) (t : Nat) (xv : Int64) (p : Program) (e : Env) (s : State) (m : MethodId) (below : List Frame) (meth : Method) (c : Code) (S0 : State) (V : Vm) (h0 h : Heap) (hO0 : Old Z n0 h0) (V_wa : Arv Z h wa k .long (Int32.ofNat N) (lst N g) (.long (0 : Int64))) (hN : N ≤ 17408) (h1 : 1 ≤ t) (ht : t ≤ N) (hnm : meth.name = "size") (W : Wk p l e ({ frames := 1, cells := 0, slots := 0, locals := 14 } : Room) s m #[(.ref sa)] below meth c prog_8_method_7_code 7 (some .int) Z a0 [] "com/example/input_under_constraint/inputunderconstraint/CodePointSet" n0 h0 [] S0 V h 0 0 (mkF m 13 #[.val (.ref sa), .val (.int (szf g t)), .val (.ref wa), .val (.int (Int32.ofNat N)), .val (.int (Int32.ofNat t)), .val (.long xv), .second] [])) : Done p e below S0 s Z [] n0 h0 [] ({ frames := 1, cells := 0, slots := 0, locals := 14 } : Room) (fun v h V' => v = some (.int (szf g N))) := by
  have z0 : h0.size ≤ h.size := W.kept.1
  clear z0
  obtain ⟨d, hd⟩ : ∃ d, t + d = N := ⟨_, Nat.add_sub_of_le ht⟩
  clear ht
  induction d generalizing t xv V h with
  | zero =>
    obtain rfl : t = N := hd
    have z0 : h0.size ≤ h.size := W.kept.1
    replace W := W.iload (pc' := 15) dprog_8_7_13 rfl rfl
    replace W := W.iloadN (pc' := 16) dprog_8_7_15 rfl rfl
    replace W := W.icmpT (pc' := 39) dprog_8_7_16 (flt (own_irr _)).2.1 (by decide) (by decide)
    replace W := W.iloadN (pc' := 40) dprog_8_7_39 rfl rfl
    exact W.iret (t := .int) dprog_8_7_40 rfl (by simp) rfl (by decide) (by decide) (fun V' cv => rfl)
  | succ d ih =>
    have z0 : h0.size ≤ h.size := W.kept.1
    replace W := W.iload (pc' := 15) dprog_8_7_13 rfl rfl
    replace W := W.iloadN (pc' := 16) dprog_8_7_15 rfl rfl
    replace W := W.icmpF (pc' := 19) dprog_8_7_16 (tlt (own_lt (by omega) (by omega) (by omega))).2.1 rfl
    replace W := W.aloadN (pc' := 20) dprog_8_7_19 rfl rfl rfl
    replace W := W.iload (pc' := 22) dprog_8_7_20 rfl rfl
    replace W := W.laload (pc' := 23) (w := (.long (g t))) dprog_8_7_22 V_wa ⟨own_nn (by omega), own_lt (by omega) (by omega) (by omega)⟩ (by rw [own_clamp (by omega), own_lst_get (by omega)]) rfl
    replace W := W.lstore (pc' := 25) (L' := #[.val (.ref sa), .val (.int (szf g t)), .val (.ref wa), .val (.int (Int32.ofNat N)), .val (.int (Int32.ofNat t)), .val (.long (g t)), .second]) dprog_8_7_23 rfl rfl
    replace W := W.iloadN (pc' := 26) dprog_8_7_25 rfl rfl
    replace W := W.lload (pc' := 28) dprog_8_7_26 rfl rfl
    obtain ⟨V1, h1, r1, W1, K1, hQ1, SF1⟩ := W.callS (pc' := 31) (argsL := [(.long (g t))]) (rest := [(.int (szf g t))]) (Wd := 1) (cells' := 0) (slots' := 0) (y := (⟨"java/lang/Long", "bitCount", "(J)I"⟩ : MethodName)) dprog_8_7_28 (bc_c l Z a0 n0 hw hEL O1 (g t) h W.old) (w102 hw) (w103 hw) (w104 hw) (w105 hw) (by decide) (lenOf pd9 rfl) rfl rfl (by decide) (by decide) rfl sf0 all0 rfl rfl rfl (by decide) (by decide)
    clear W
    obtain ⟨_, rfl, hs1⟩ := hQ1
    subst hs1
    replace W1 := W1.cast (st' := [(.int (bcf (g t))), (.int (szf g t))]) rfl
    replace W1 := W1.iadd (pc' := 32) (v := (szf g (t + 1))) dprog_8_7_31 rfl rfl
    replace W1 := W1.istoreN (pc' := 33) (L' := #[.val (.ref sa), .val (.int (szf g (t + 1))), .val (.ref wa), .val (.int (Int32.ofNat N)), .val (.int (Int32.ofNat t)), .val (.long (g t)), .second]) dprog_8_7_32 rfl rfl
    replace W1 := W1.iinc (pc' := 36) (v := (Int32.ofNat (t + 1))) (L' := #[.val (.ref sa), .val (.int (szf g (t + 1))), .val (.ref wa), .val (.int (Int32.ofNat N)), .val (.int (Int32.ofNat (t + 1))), .val (.long (g t)), .second]) dprog_8_7_33 rfl (own_add1 _) rfl rfl
    replace W1 := W1.goto (pc' := 13) dprog_8_7_36 (by decide) (by decide)
    exact ih (t + 1) _ _ _ V_wa (by omega) W1 (by omega)
theorem ef_size_c (m : MethodId) (sa : Addr) (wa : Addr) (k : ClassId) (N : Nat) (g : Nat → Int64) : entryFrame m #[(.ref sa)] 7 = mkF m 0 #[.val (.ref sa), .unset, .unset, .unset, .unset, .unset, .unset] [] := by first | (simp [entryFrame, mkF, argsToLocals, Value.category]; done) | rfl
set_option maxRecDepth 65536 in
set_option maxHeartbeats 40000000 in
theorem size_c (l : Launch) (Z : State) (a0 : Array Value) (n0 : Nat) (hw : ∀ d ∈ tables_1, d.before a0 Z = true) (hEL : EW Z a0 []) (O1 : Sta Z Z.heap "java/util/BitSet" "$assertionsDisabled" "Z" (.int (1 : Int32))) (sa : Addr) (wa : Addr) (k : ClassId) (N : Nat) (g : Nat → Int64) (h0 : Heap) (hO : Old Z n0 h0) (F_sa_words : Fld Z h0 sa "com/example/input_under_constraint/inputunderconstraint/CodePointSet" "words" "[J" (.ref wa)) (V_wa : Arv Z h0 wa k .long (Int32.ofNat N) (lst N g) (.long (0 : Int64))) (hN : N ≤ 17408) (hN1 : 1 ≤ N) :
    Con l Z [] n0 (⟨"com/example/input_under_constraint/inputunderconstraint/CodePointSet", "size", "()I"⟩ : MethodName) prog_8_method_7_code 7 (some .int) ({ frames := 1, cells := 0, slots := 0, locals := 14 } : Room) #[(.ref sa)] h0 [] (fun v h V' => v = some (.int (szf g N))) [] := by
  refine Con.of (a0 := a0) pf17 (fun m => ef_size_c m sa wa k N g) all0 hO hEL ?_
  intro p e s m below meth c S0 hnm hsf W
  replace W := W.iconst (pc' := 1) (v := (0 : Int32)) dprog_8_7_0 rfl rfl
  replace W := W.istoreN (pc' := 2) (L' := #[.val (.ref sa), .val (.int (0 : Int32)), .unset, .unset, .unset, .unset, .unset]) dprog_8_7_1 rfl rfl
  replace W := W.aloadN (pc' := 3) dprog_8_7_2 rfl rfl rfl
  replace W := W.getf (pc' := 6) dprog_8_7_3 (w86 hw) Via.refl F_sa_words rfl
  replace W := W.astoreN (pc' := 7) (L' := #[.val (.ref sa), .val (.int (0 : Int32)), .val (.ref wa), .unset, .unset, .unset, .unset]) dprog_8_7_6 rfl rfl rfl
  replace W := W.aloadN (pc' := 8) dprog_8_7_7 rfl rfl rfl
  replace W := W.alen (pc' := 9) dprog_8_7_8 V_wa rfl
  replace W := W.istoreN (pc' := 10) (L' := #[.val (.ref sa), .val (.int (0 : Int32)), .val (.ref wa), .val (.int (Int32.ofNat N)), .unset, .unset, .unset]) dprog_8_7_9 rfl rfl
  replace W := W.iconst (pc' := 11) (v := (0 : Int32)) dprog_8_7_10 rfl rfl
  replace W := W.istore (pc' := 13) (L' := #[.val (.ref sa), .val (.int (0 : Int32)), .val (.ref wa), .val (.int (Int32.ofNat N)), .val (.int (0 : Int32)), .unset, .unset]) dprog_8_7_11 rfl rfl
  replace W := W.iload (pc' := 15) dprog_8_7_13 rfl rfl
  replace W := W.iloadN (pc' := 16) dprog_8_7_15 rfl rfl
  replace W := W.icmpF (pc' := 19) dprog_8_7_16 (tlt (own_lt (X := 0) (by omega) (by omega) (by omega))).2.1 rfl
  replace W := W.aloadN (pc' := 20) dprog_8_7_19 rfl rfl rfl
  replace W := W.iload (pc' := 22) dprog_8_7_20 rfl rfl
  replace W := W.laload (pc' := 23) (w := (.long (g 0))) dprog_8_7_22 V_wa ⟨by decide, own_lt (X := 0) (by omega) (by omega) (by omega)⟩ (own_lst_get (i := 0) (by omega)) rfl
  replace W := W.lstore (pc' := 25) (L' := #[.val (.ref sa), .val (.int (0 : Int32)), .val (.ref wa), .val (.int (Int32.ofNat N)), .val (.int (0 : Int32)), .val (.long (g 0)), .second]) dprog_8_7_23 rfl rfl
  replace W := W.iloadN (pc' := 26) dprog_8_7_25 rfl rfl
  replace W := W.lload (pc' := 28) dprog_8_7_26 rfl rfl
  obtain ⟨V1, h1, r1, W1, K1, hQ1, SF1⟩ := W.callS (pc' := 31) (argsL := [(.long (g 0))]) (rest := [(.int (0 : Int32))]) (Wd := 1) (cells' := 0) (slots' := 0) (y := (⟨"java/lang/Long", "bitCount", "(J)I"⟩ : MethodName)) dprog_8_7_28 (bc_c l Z a0 n0 hw hEL O1 (g 0) h0 W.old) (w102 hw) (w103 hw) (w104 hw) (w105 hw) (by decide) (lenOf pd9 rfl) rfl rfl (by decide) (by decide) rfl sf0 all0 rfl rfl rfl (by decide) (by decide)
  clear W
  obtain ⟨_, rfl, hs1⟩ := hQ1
  subst hs1
  replace W1 := W1.cast (st' := [(.int (bcf (g 0))), (.int (0 : Int32))]) rfl
  replace W1 := W1.iadd (pc' := 32) (v := (szf g 1)) dprog_8_7_31 rfl rfl
  replace W1 := W1.istoreN (pc' := 33) (L' := #[.val (.ref sa), .val (.int (szf g 1)), .val (.ref wa), .val (.int (Int32.ofNat N)), .val (.int (0 : Int32)), .val (.long (g 0)), .second]) dprog_8_7_32 rfl rfl
  replace W1 := W1.iinc (pc' := 36) (v := (1 : Int32)) (L' := #[.val (.ref sa), .val (.int (szf g 1)), .val (.ref wa), .val (.int (Int32.ofNat N)), .val (.int (1 : Int32)), .val (.long (g 0)), .second]) dprog_8_7_33 rfl (by decide) rfl rfl
  replace W1 := W1.goto (pc' := 13) dprog_8_7_36 (by decide) (by decide)
  replace W1 := W1.castL (L' := #[.val (.ref sa), .val (.int (szf g 1)), .val (.ref wa), .val (.int (Int32.ofNat N)), .val (.int (Int32.ofNat 1)), .val (.long (g 0)), .second]) rfl
  exact size_lp l Z a0 n0 hw hEL O1 sa wa k N g 1 (g 0) p e s m below meth c S0 V1 h0 h0 hO V_wa hN (by omega) hN1 hnm W1
theorem ef_law_c (m : MethodId) (p0 : Int32) (p1 : Int32) (p2 : Int32) (p3 : Int32) (p4 : Int32) : entryFrame m #[(.int p0), (.int p1), (.int p2), (.int p3), (.int p4)] maxLocals = mkF m 0 #[.val (.int p0), .val (.int p1), .val (.int p2), .val (.int p3), .val (.int p4), .unset, .unset, .unset, .unset, .unset, .unset, .unset, .unset, .unset] [] := by first | (simp [entryFrame, mkF, argsToLocals, Value.category, maxLocals]; done) | rfl
set_option maxRecDepth 65536 in
set_option maxHeartbeats 40000000 in
theorem law_c (l : Launch) (Z : State) (a0 : Array Value) (n0 : Nat) (hw : ∀ d ∈ tables_1, d.before a0 Z = true) (hEL : EW Z a0 []) (O1 : Sta Z Z.heap "java/util/BitSet" "$assertionsDisabled" "Z" (.int (1 : Int32))) (p0 : Int32) (p1 : Int32) (p2 : Int32) (p3 : Int32) (p4 : Int32) (h0 : Heap) (hO : Old Z n0 h0)  (wds : List Jvm.Cond) :
    Con l Z [] n0 x code maxLocals ret room_1 #[(.int p0), (.int p1), (.int p2), (.int p3), (.int p4)] h0 [] (fun v h V' => v = some (.int (1 : Int32))) wds := by
  refine Con.of (a0 := a0) pf18 (fun m => ef_law_c m p0 p1 p2 p3 p4) all0 hO hEL ?_
  intro p e s m below meth c S0 hnm hsf W
  replace W := W.iloadN (pc' := 1) at_0 rfl rfl
  replace W := W.ldcI (pc' := 3) at_1 (w0 hw) rfl
  replace W := W.iand (pc' := 4) (v := (p0 &&& (2147483647 : Int32))) at_3 rfl rfl
  replace W := W.ldcI (pc' := 6) at_4 (w1 hw) rfl
  obtain ⟨F, hF, eF⟩ := own_rem1 p0
  replace W := W.irem (pc' := 7) (v := (Int32.ofNat F)) at_6 (by decide) eF rfl
  replace W := W.istore (pc' := 9) (L' := #[.val (.int p0), .val (.int p1), .val (.int p2), .val (.int p3), .val (.int p4), .val (.int (Int32.ofNat F)), .unset, .unset, .unset, .unset, .unset, .unset, .unset, .unset]) at_7 rfl rfl
  replace W := W.iload (pc' := 11) at_9 rfl rfl
  replace W := W.iloadN (pc' := 12) at_11 rfl rfl
  replace W := W.ldcI (pc' := 14) at_12 (w0 hw) rfl
  replace W := W.iand (pc' := 15) (v := (p1 &&& (2147483647 : Int32))) at_14 rfl rfl
  replace W := W.ldcI (pc' := 17) at_15 (w1 hw) rfl
  replace W := W.iload (pc' := 19) at_17 rfl rfl
  replace W := W.isub (pc' := 20) (v := (Int32.ofNat (1114112 - F))) at_19 (own_subF hF) rfl
  obtain ⟨D, hD, eD⟩ := own_rem (a := p1) (m := 1114112 - F) (by omega) (by omega)
  replace W := W.irem (pc' := 21) (v := (Int32.ofNat D)) at_20 (own_nz hF) eD rfl
  obtain ⟨G, hFG, hG, eG⟩ := own_sum hF hD
  replace W := W.iadd (pc' := 22) (v := (Int32.ofNat G)) at_21 eG rfl
  replace W := W.istore (pc' := 24) (L' := #[.val (.int p0), .val (.int p1), .val (.int p2), .val (.int p3), .val (.int p4), .val (.int (Int32.ofNat F)), .val (.int (Int32.ofNat G)), .unset, .unset, .unset, .unset, .unset, .unset, .unset]) at_22 rfl rfl
  replace W := W.iload (pc' := 26) at_24 rfl rfl
  replace W := W.iloadN (pc' := 27) at_26 rfl rfl
  replace W := W.bipush (pc' := 29) (v := (7 : Int32)) at_27 rfl rfl
  replace W := W.iand (pc' := 30) (v := (p3 &&& (7 : Int32))) at_29 rfl rfl
  replace W := W.iadd (pc' := 31) (v := ((Int32.ofNat F) + (p3 &&& (7 : Int32)))) at_30 rfl rfl
  replace W := W.iconst (pc' := 32) (v := (3 : Int32)) at_31 rfl rfl
  replace W := W.isub (pc' := 33) (v := (((Int32.ofNat F) + (p3 &&& (7 : Int32))) - (3 : Int32))) at_32 rfl rfl
  replace W := W.istore (pc' := 35) (L' := #[.val (.int p0), .val (.int p1), .val (.int p2), .val (.int p3), .val (.int p4), .val (.int (Int32.ofNat F)), .val (.int (Int32.ofNat G)), .val (.int (((Int32.ofNat F) + (p3 &&& (7 : Int32))) - (3 : Int32))), .unset, .unset, .unset, .unset, .unset, .unset]) at_33 rfl rfl
  replace W := W.iload (pc' := 37) at_35 rfl rfl
  replace W := W.iload (pc' := 39) at_37 rfl rfl
  replace W := W.bipush (pc' := 41) (v := (7 : Int32)) at_39 rfl rfl
  replace W := W.iand (pc' := 42) (v := (p4 &&& (7 : Int32))) at_41 rfl rfl
  replace W := W.iadd (pc' := 43) (v := ((Int32.ofNat G) + (p4 &&& (7 : Int32)))) at_42 rfl rfl
  replace W := W.iconst (pc' := 44) (v := (3 : Int32)) at_43 rfl rfl
  replace W := W.isub (pc' := 45) (v := (((Int32.ofNat G) + (p4 &&& (7 : Int32))) - (3 : Int32))) at_44 rfl rfl
  replace W := W.istore (pc' := 47) (L' := #[.val (.int p0), .val (.int p1), .val (.int p2), .val (.int p3), .val (.int p4), .val (.int (Int32.ofNat F)), .val (.int (Int32.ofNat G)), .val (.int (((Int32.ofNat F) + (p3 &&& (7 : Int32))) - (3 : Int32))), .val (.int (((Int32.ofNat G) + (p4 &&& (7 : Int32))) - (3 : Int32))), .unset, .unset, .unset, .unset, .unset]) at_45 rfl rfl
  replace W := W.iload (pc' := 49) at_47 rfl rfl
  replace W := W.iload (pc' := 51) at_49 rfl rfl
  obtain ⟨V1, h1, r1, W1, K1, hQ1, SF1⟩ := W.callS (pc' := 54) (argsL := [(.int (Int32.ofNat F)), (.int (Int32.ofNat G))]) (rest := []) (Wd := 0) (cells' := 4) (slots' := 34821) (y := (⟨"com/example/input_under_constraint/inputunderconstraint/CodePointSet", "range", "(II)Lcom/example/input_under_constraint/inputunderconstraint/CodePointSet;"⟩ : MethodName)) at_51 (rng l Z a0 n0 hw hEL O1 F G h0 W.old (by omega) (by omega)) (w2 hw) (w3 hw) (w4 hw) (w5 hw) (by decide) (lenOf pd10 rfl) rfl rfl (by decide) (by decide) rfl sf0 all0 rfl rfl rfl (by decide) (by decide)
  clear W
  obtain ⟨_, r1, w1, k1, rfl, q1_1, q1_2, q1_3⟩ := hQ1
  have z1 : h0.size ≤ h1.size := K1.1
  replace W1 := W1.cast (st' := [(.ref r1)]) rfl
  replace W1 := W1.astore (pc' := 56) (L' := #[.val (.int p0), .val (.int p1), .val (.int p2), .val (.int p3), .val (.int p4), .val (.int (Int32.ofNat F)), .val (.int (Int32.ofNat G)), .val (.int (((Int32.ofNat F) + (p3 &&& (7 : Int32))) - (3 : Int32))), .val (.int (((Int32.ofNat G) + (p4 &&& (7 : Int32))) - (3 : Int32))), .val (.ref r1), .unset, .unset, .unset, .unset]) at_54 rfl rfl rfl
  replace W1 := W1.aload (pc' := 58) at_56 rfl rfl rfl
  replace W1 := W1.iloadN (pc' := 59) at_58 rfl rfl
  obtain ⟨V2, h2, r2, W2, K2, hQ2, SF2⟩ := W1.callV (pc' := 62) (argsL := [(.int p2)]) (rest := []) (Wd := 0) (cells' := 4) (slots' := 34821) (a := r1) (C := "com/example/input_under_constraint/inputunderconstraint/CodePointSet") (y := (⟨"com/example/input_under_constraint/inputunderconstraint/CodePointSet", "contains", "(I)Z"⟩ : MethodName)) (z := (⟨"com/example/input_under_constraint/inputunderconstraint/CodePointSet", "contains", "(I)Z"⟩ : MethodName)) at_59 (ctn_c l Z a0 n0 hw hEL O1 r1 w1 k1 ((G / 64) + 1) (wf F G) p2 h1 W1.old q1_2 q1_3 (by omega)) q1_1 (w88 hw) (w89 hw) (Or.inl (w91 hw)) (w91 hw) (w90 hw) (w4 hw) (w92 hw) (by decide) (lenOf pd7 rfl) rfl rfl (by decide) (by decide) rfl sf0 all0 rfl rfl rfl (by decide) (by decide)
  clear W1
  obtain ⟨_, rfl, hs2⟩ := hQ2
  subst hs2
  replace W2 := W2.cast (st' := [(.int (ctn ((G / 64) + 1) (wf F G) p2))]) rfl
  replace W2 := W2.iload (pc' := 64) at_62 rfl rfl
  replace W2 := W2.iload (pc' := 66) at_64 rfl rfl
  replace W2 := W2.iloadN (pc' := 67) at_66 rfl rfl
  obtain ⟨V3, h3, r3, W3, K3, hQ3, SF3⟩ := W2.callS (pc' := 70) (argsL := [(.int (Int32.ofNat F)), (.int (Int32.ofNat G)), (.int p2)]) (rest := [(.int (ctn ((G / 64) + 1) (wf F G) p2))]) (Wd := 1) (cells' := 4) (slots' := 34821) (y := (⟨"com/example/input_under_constraint/inputunderconstraint/CodePointSetRangePinLaw", "inRange", "(III)Z"⟩ : MethodName)) at_67 (inr_c l Z a0 n0 hw hEL O1 (Int32.ofNat F) (Int32.ofNat G) p2 h1 W2.old) (w93 hw) (w94 hw) (w95 hw) (w96 hw) (by decide) (lenOf pd11 rfl) rfl rfl (by decide) (by decide) rfl sf0 all0 rfl rfl rfl (by decide) (by decide)
  clear W2
  obtain ⟨_, rfl, hs3⟩ := hQ3
  subst hs3
  replace W3 := W3.cast (st' := [(.int (inr (Int32.ofNat F) (Int32.ofNat G) p2)), (.int (ctn ((G / 64) + 1) (wf F G) p2))]) rfl
  replace W3 := W3.icmpF (pc' := 73) at_70 (teq (own_ctn hFG hG _)).2 rfl
  replace W3 := W3.iconst (pc' := 74) (v := (1 : Int32)) at_73 rfl rfl
  replace W3 := W3.goto (pc' := 78) at_74 (by decide) (by decide)
  replace W3 := W3.istore (pc' := 80) (L' := #[.val (.int p0), .val (.int p1), .val (.int p2), .val (.int p3), .val (.int p4), .val (.int (Int32.ofNat F)), .val (.int (Int32.ofNat G)), .val (.int (((Int32.ofNat F) + (p3 &&& (7 : Int32))) - (3 : Int32))), .val (.int (((Int32.ofNat G) + (p4 &&& (7 : Int32))) - (3 : Int32))), .val (.ref r1), .val (.int (1 : Int32)), .unset, .unset, .unset]) at_78 rfl rfl
  replace W3 := W3.aload (pc' := 82) at_80 rfl rfl rfl
  replace W3 := W3.iload (pc' := 84) at_82 rfl rfl
  obtain ⟨V4, h4, r4, W4, K4, hQ4, SF4⟩ := W3.callV (pc' := 87) (argsL := [(.int (((Int32.ofNat F) + (p3 &&& (7 : Int32))) - (3 : Int32)))]) (rest := []) (Wd := 0) (cells' := 4) (slots' := 34821) (a := r1) (C := "com/example/input_under_constraint/inputunderconstraint/CodePointSet") (y := (⟨"com/example/input_under_constraint/inputunderconstraint/CodePointSet", "contains", "(I)Z"⟩ : MethodName)) (z := (⟨"com/example/input_under_constraint/inputunderconstraint/CodePointSet", "contains", "(I)Z"⟩ : MethodName)) at_84 (ctn_c l Z a0 n0 hw hEL O1 r1 w1 k1 ((G / 64) + 1) (wf F G) (((Int32.ofNat F) + (p3 &&& (7 : Int32))) - (3 : Int32)) h1 W3.old q1_2 q1_3 (by omega)) q1_1 (w88 hw) (w89 hw) (Or.inl (w91 hw)) (w91 hw) (w90 hw) (w4 hw) (w92 hw) (by decide) (lenOf pd7 rfl) rfl rfl (by decide) (by decide) rfl sf0 all0 rfl rfl rfl (by decide) (by decide)
  clear W3
  obtain ⟨_, rfl, hs4⟩ := hQ4
  subst hs4
  replace W4 := W4.cast (st' := [(.int (ctn ((G / 64) + 1) (wf F G) (((Int32.ofNat F) + (p3 &&& (7 : Int32))) - (3 : Int32))))]) rfl
  replace W4 := W4.iload (pc' := 89) at_87 rfl rfl
  replace W4 := W4.iload (pc' := 91) at_89 rfl rfl
  replace W4 := W4.iload (pc' := 93) at_91 rfl rfl
  obtain ⟨V5, h5, r5, W5, K5, hQ5, SF5⟩ := W4.callS (pc' := 96) (argsL := [(.int (Int32.ofNat F)), (.int (Int32.ofNat G)), (.int (((Int32.ofNat F) + (p3 &&& (7 : Int32))) - (3 : Int32)))]) (rest := [(.int (ctn ((G / 64) + 1) (wf F G) (((Int32.ofNat F) + (p3 &&& (7 : Int32))) - (3 : Int32))))]) (Wd := 1) (cells' := 4) (slots' := 34821) (y := (⟨"com/example/input_under_constraint/inputunderconstraint/CodePointSetRangePinLaw", "inRange", "(III)Z"⟩ : MethodName)) at_93 (inr_c l Z a0 n0 hw hEL O1 (Int32.ofNat F) (Int32.ofNat G) (((Int32.ofNat F) + (p3 &&& (7 : Int32))) - (3 : Int32)) h1 W4.old) (w93 hw) (w94 hw) (w95 hw) (w96 hw) (by decide) (lenOf pd11 rfl) rfl rfl (by decide) (by decide) rfl sf0 all0 rfl rfl rfl (by decide) (by decide)
  clear W4
  obtain ⟨_, rfl, hs5⟩ := hQ5
  subst hs5
  replace W5 := W5.cast (st' := [(.int (inr (Int32.ofNat F) (Int32.ofNat G) (((Int32.ofNat F) + (p3 &&& (7 : Int32))) - (3 : Int32)))), (.int (ctn ((G / 64) + 1) (wf F G) (((Int32.ofNat F) + (p3 &&& (7 : Int32))) - (3 : Int32))))]) rfl
  replace W5 := W5.icmpF (pc' := 99) at_96 (teq (own_ctn hFG hG _)).2 rfl
  replace W5 := W5.iconst (pc' := 100) (v := (1 : Int32)) at_99 rfl rfl
  replace W5 := W5.goto (pc' := 104) at_100 (by decide) (by decide)
  replace W5 := W5.istore (pc' := 106) (L' := #[.val (.int p0), .val (.int p1), .val (.int p2), .val (.int p3), .val (.int p4), .val (.int (Int32.ofNat F)), .val (.int (Int32.ofNat G)), .val (.int (((Int32.ofNat F) + (p3 &&& (7 : Int32))) - (3 : Int32))), .val (.int (((Int32.ofNat G) + (p4 &&& (7 : Int32))) - (3 : Int32))), .val (.ref r1), .val (.int (1 : Int32)), .val (.int (1 : Int32)), .unset, .unset]) at_104 rfl rfl
  replace W5 := W5.aload (pc' := 108) at_106 rfl rfl rfl
  replace W5 := W5.iload (pc' := 110) at_108 rfl rfl
  obtain ⟨V6, h6, r6, W6, K6, hQ6, SF6⟩ := W5.callV (pc' := 113) (argsL := [(.int (((Int32.ofNat G) + (p4 &&& (7 : Int32))) - (3 : Int32)))]) (rest := []) (Wd := 0) (cells' := 4) (slots' := 34821) (a := r1) (C := "com/example/input_under_constraint/inputunderconstraint/CodePointSet") (y := (⟨"com/example/input_under_constraint/inputunderconstraint/CodePointSet", "contains", "(I)Z"⟩ : MethodName)) (z := (⟨"com/example/input_under_constraint/inputunderconstraint/CodePointSet", "contains", "(I)Z"⟩ : MethodName)) at_110 (ctn_c l Z a0 n0 hw hEL O1 r1 w1 k1 ((G / 64) + 1) (wf F G) (((Int32.ofNat G) + (p4 &&& (7 : Int32))) - (3 : Int32)) h1 W5.old q1_2 q1_3 (by omega)) q1_1 (w88 hw) (w89 hw) (Or.inl (w91 hw)) (w91 hw) (w90 hw) (w4 hw) (w92 hw) (by decide) (lenOf pd7 rfl) rfl rfl (by decide) (by decide) rfl sf0 all0 rfl rfl rfl (by decide) (by decide)
  clear W5
  obtain ⟨_, rfl, hs6⟩ := hQ6
  subst hs6
  replace W6 := W6.cast (st' := [(.int (ctn ((G / 64) + 1) (wf F G) (((Int32.ofNat G) + (p4 &&& (7 : Int32))) - (3 : Int32))))]) rfl
  replace W6 := W6.iload (pc' := 115) at_113 rfl rfl
  replace W6 := W6.iload (pc' := 117) at_115 rfl rfl
  replace W6 := W6.iload (pc' := 119) at_117 rfl rfl
  obtain ⟨V7, h7, r7, W7, K7, hQ7, SF7⟩ := W6.callS (pc' := 122) (argsL := [(.int (Int32.ofNat F)), (.int (Int32.ofNat G)), (.int (((Int32.ofNat G) + (p4 &&& (7 : Int32))) - (3 : Int32)))]) (rest := [(.int (ctn ((G / 64) + 1) (wf F G) (((Int32.ofNat G) + (p4 &&& (7 : Int32))) - (3 : Int32))))]) (Wd := 1) (cells' := 4) (slots' := 34821) (y := (⟨"com/example/input_under_constraint/inputunderconstraint/CodePointSetRangePinLaw", "inRange", "(III)Z"⟩ : MethodName)) at_119 (inr_c l Z a0 n0 hw hEL O1 (Int32.ofNat F) (Int32.ofNat G) (((Int32.ofNat G) + (p4 &&& (7 : Int32))) - (3 : Int32)) h1 W6.old) (w93 hw) (w94 hw) (w95 hw) (w96 hw) (by decide) (lenOf pd11 rfl) rfl rfl (by decide) (by decide) rfl sf0 all0 rfl rfl rfl (by decide) (by decide)
  clear W6
  obtain ⟨_, rfl, hs7⟩ := hQ7
  subst hs7
  replace W7 := W7.cast (st' := [(.int (inr (Int32.ofNat F) (Int32.ofNat G) (((Int32.ofNat G) + (p4 &&& (7 : Int32))) - (3 : Int32)))), (.int (ctn ((G / 64) + 1) (wf F G) (((Int32.ofNat G) + (p4 &&& (7 : Int32))) - (3 : Int32))))]) rfl
  replace W7 := W7.icmpF (pc' := 125) at_122 (teq (own_ctn hFG hG _)).2 rfl
  replace W7 := W7.iconst (pc' := 126) (v := (1 : Int32)) at_125 rfl rfl
  replace W7 := W7.goto (pc' := 130) at_126 (by decide) (by decide)
  replace W7 := W7.istore (pc' := 132) (L' := #[.val (.int p0), .val (.int p1), .val (.int p2), .val (.int p3), .val (.int p4), .val (.int (Int32.ofNat F)), .val (.int (Int32.ofNat G)), .val (.int (((Int32.ofNat F) + (p3 &&& (7 : Int32))) - (3 : Int32))), .val (.int (((Int32.ofNat G) + (p4 &&& (7 : Int32))) - (3 : Int32))), .val (.ref r1), .val (.int (1 : Int32)), .val (.int (1 : Int32)), .val (.int (1 : Int32)), .unset]) at_130 rfl rfl
  replace W7 := W7.aload (pc' := 134) at_132 rfl rfl rfl
  obtain ⟨V8, h8, r8, W8, K8, hQ8, SF8⟩ := W7.callV (pc' := 137) (argsL := []) (rest := []) (Wd := 0) (cells' := 4) (slots' := 34821) (a := r1) (C := "com/example/input_under_constraint/inputunderconstraint/CodePointSet") (y := (⟨"com/example/input_under_constraint/inputunderconstraint/CodePointSet", "size", "()I"⟩ : MethodName)) (z := (⟨"com/example/input_under_constraint/inputunderconstraint/CodePointSet", "size", "()I"⟩ : MethodName)) at_134 (size_c l Z a0 n0 hw hEL O1 r1 w1 k1 ((G / 64) + 1) (wf F G) h1 W7.old q1_2 q1_3 (by omega) (by omega)) q1_1 (w97 hw) (w98 hw) (Or.inl (w100 hw)) (w100 hw) (w99 hw) (w4 hw) (w101 hw) (by decide) (lenOf pd12 rfl) rfl rfl (by decide) (by decide) rfl sf0 all0 rfl rfl rfl (by decide) (by decide)
  clear W7
  obtain ⟨_, rfl⟩ := hQ8
  have z8 : h1.size ≤ h8.size := K8.1
  replace W8 := W8.cast (st' := [(.int (szf (wf F G) ((G / 64) + 1)))]) rfl
  replace W8 := W8.iload (pc' := 139) at_137 rfl rfl
  replace W8 := W8.iload (pc' := 141) at_139 rfl rfl
  replace W8 := W8.isub (pc' := 142) (v := ((Int32.ofNat G) - (Int32.ofNat F))) at_141 rfl rfl
  replace W8 := W8.iconst (pc' := 143) (v := (1 : Int32)) at_142 rfl rfl
  replace W8 := W8.iadd (pc' := 144) (v := (((Int32.ofNat G) - (Int32.ofNat F)) + (1 : Int32))) at_143 rfl rfl
  replace W8 := W8.icmpF (pc' := 147) at_144 (teq (own_size hFG hG)).2 rfl
  replace W8 := W8.iconst (pc' := 148) (v := (1 : Int32)) at_147 rfl rfl
  replace W8 := W8.goto (pc' := 152) at_148 (by decide) (by decide)
  replace W8 := W8.istore (pc' := 154) (L' := #[.val (.int p0), .val (.int p1), .val (.int p2), .val (.int p3), .val (.int p4), .val (.int (Int32.ofNat F)), .val (.int (Int32.ofNat G)), .val (.int (((Int32.ofNat F) + (p3 &&& (7 : Int32))) - (3 : Int32))), .val (.int (((Int32.ofNat G) + (p4 &&& (7 : Int32))) - (3 : Int32))), .val (.ref r1), .val (.int (1 : Int32)), .val (.int (1 : Int32)), .val (.int (1 : Int32)), .val (.int (1 : Int32))]) at_152 rfl rfl
  replace W8 := W8.iload (pc' := 156) at_154 rfl rfl
  replace W8 := W8.ifF (pc' := 159) at_156 (feq (by decide : ¬ ((1 : Int32) = (0 : Int32)))).1 rfl
  replace W8 := W8.iload (pc' := 161) at_159 rfl rfl
  replace W8 := W8.ifF (pc' := 164) at_161 (feq (by decide : ¬ ((1 : Int32) = (0 : Int32)))).1 rfl
  replace W8 := W8.iload (pc' := 166) at_164 rfl rfl
  replace W8 := W8.ifF (pc' := 169) at_166 (feq (by decide : ¬ ((1 : Int32) = (0 : Int32)))).1 rfl
  replace W8 := W8.iload (pc' := 171) at_169 rfl rfl
  replace W8 := W8.ifF (pc' := 174) at_171 (feq (by decide : ¬ ((1 : Int32) = (0 : Int32)))).1 rfl
  replace W8 := W8.iconst (pc' := 175) (v := (1 : Int32)) at_174 rfl rfl
  replace W8 := W8.goto (pc' := 179) at_175 (by decide) (by decide)
  exact W8.iret (t := .boolean) at_179 rfl (by simp) (by decide) (by decide) (by decide) (fun V' cv => rfl)
set_option maxRecDepth 65536 in
set_option maxHeartbeats 40000000 in
theorem comes_1 {Post : Tables → Env → Array Value → State → Outcome → State → Prop} (hpost : ∀ tb e args s v u, (limb_1_1.after args s (.returned v) u = true ∧ limb_1_2.after args s (.returned v) u = true ∧ True) → Framed s (.returned v) u (Jvm.fieldLocs frame_1_writes args s ++ Jvm.arrayLocs frame_1_arrays args s ++ Jvm.staticLocs frame_1_statics s) 16 69696 → Post tb e args s (.returned v) u) :
    ArmFor flags0 classFile x code maxLocals ret World_1 tables_1 room_1 Calls_1 rest_1 Pre_1 Post := by
  intro l hfl _ _ p e ha hc hk s m args below hf hA hF happ hP
  obtain ⟨hcalls, hrest, hpre⟩ := hP
  obtain ⟨-, -, -, hnamed, -, -, -, hat⟩ := (Spec.applies_iff hf).mp happ
  obtain ⟨hg, hn⟩ := and_e (Cond.before_iff.mp (show (Jvm.Cond.and given_1 narrow_1).before args s = true from hpre))
  obtain ⟨hcount, hr0⟩ := and_e hg
  obtain ⟨ha0, hr1⟩ := and_e hr0
  obtain ⟨ha1, hr2⟩ := and_e hr1
  obtain ⟨ha2, hr3⟩ := and_e hr2
  obtain ⟨ha3, hr4⟩ := and_e hr3
  have ha4 := hr4
  obtain ⟨w0, w1, w2, w3, w4, rfl⟩ : ∃ w0 w1 w2 w3 w4 : Value, args = #[w0, w1, w2, w3, w4] := by
    have hs : args.size = 5 := by simpa [Cond.value, given_1] using hcount
    obtain ⟨L⟩ := args
    match L, hs with
    | [w0, w1, w2, w3, w4], _ => exact ⟨w0, w1, w2, w3, w4, rfl⟩
  have hw := fun d (hd : d ∈ tables_1) => atoms_spec (ws := Jvm.Cond.code x code maxLocals ret :: tables_1) hat d (List.mem_cons_of_mem _ hd)
  obtain ⟨hsets, hown0⟩ := atoms_of _ (rest_1_c_eq ▸ (show rest_1_c.before _ s = true from hrest))
  obtain ⟨i0, ei0⟩ := is_v ha0
  obtain rfl : w0 = (.int i0) := Option.some.inj ei0
  obtain ⟨i1, ei1⟩ := is_v ha1
  obtain rfl : w1 = (.int i1) := Option.some.inj ei1
  obtain ⟨i2, ei2⟩ := is_v ha2
  obtain rfl : w2 = (.int i2) := Option.some.inj ei2
  obtain ⟨i3, ei3⟩ := is_v ha3
  obtain rfl : w3 = (.int i3) := Option.some.inj ei3
  obtain ⟨i4, ei4⟩ := is_v ha4
  obtain rfl : w4 = (.int i4) := Option.some.inj ei4
  have q10 := Cond.before_iff.mp (hsets _ (List.mem_of_getElem? (i := 2) rfl))
  obtain ⟨x10, y10, e10, f10, -, k10⟩ := cmp_v (Or.inl q10)
  obtain rfl : (.int (1 : Int32)) = y10 := Option.some.inj ((Term.int_eval (1)).symm.trans f10)
  obtain ⟨z10, rfl⟩ := k10
  have g10 : z10 = (1 : Int32) := gotT (Cond.eq_ints e10 (Term.int_eval (1))) q10
  subst g10
  have S12 : Sta s s.heap "java/util/BitSet" "$assertionsDisabled" "Z" (.int (1 : Int32)) := Sta.start e10 (Or.inl (hsets _ (List.mem_of_getElem? (i := 1) rfl)))
  have hCH : CHv s [] s.vm s.heap := fun _ hp => by cases hp
  obtain ⟨n, o, h1, h2, h3, v, L, rfl, ⟨N, -, rfl⟩, -, r1, r2, r4⟩ := law_c l s _ s.heap.size hw EW.nil S12 i0 i1 i2 i3 i4 s.heap (Old.start s) tables_1 p e ha hc hk s m _ below hf ((Spec.applies_iff_loose hf).mp happ).1 ⟨rfl, State.Warmed39.refl s, rfl, hCH, sf0⟩ trivial
  exact ⟨n, _, h1, h2, h3, hpost _ _ _ _ _ _ ⟨Cond.after_iff.mpr rfl, Cond.after_iff.mpr (eq_i res_at (Term.int_eval (1)) rfl), trivial⟩ ⟨r1, r2, (r4.sift fun y hy => Or.inr (N y hy)).mono (by decide) (by decide)⟩⟩
theorem main_1_1 : Claimed_1_1 := comes_1 fun _ _ _ _ _ _ h hF => ⟨h.1, hF⟩
theorem main_1_2 : Claimed_1_2 := comes_1 fun _ _ _ _ _ _ h hF => ⟨h.2.1, hF⟩
end Jvm.Pilot.@@N@@
namespace Jvm.Pilot.@@N@@
open Jvm Jvm.ClassFile Sem Op Lib Jvm.Free Jvm.Stand Jvm.Pilot.@@N@@.Jvm.D
/-! MADE BY PROGRAM (witnessworld.py) out of the Statement's table words and the real class files: 19 classes; the members and pool entries that the words name. The judged class is class 1, her method 2. -/
namespace start1
open Jvm.ClassFile
def u (s : String) : CpInfo := .utf8 (stringToUtf16 s)
/-- a pool by its gaps: so many unusable entries, then the entry; so many at the end -/
def gap : Nat → List CpInfo → List CpInfo
  | 0, r => r
  | n + 1, r => .unusable :: gap n r
def poolList (es : List (Nat × CpInfo)) (last : Nat) : List CpInfo := es.foldr (fun e r => gap e.1 (e.2 :: r)) (gap last [])
def pool (es : List (Nat × CpInfo)) (last : Nat) : Array CpInfo := ⟨poolList es last⟩
def fileOf (pool : Array CpInfo) (this : Nat) (attrs : Array Attribute := #[]) (ms : Array MethodInfo := #[]) (fl : Nat := 33) (sup : Nat := 0) (ifs : Array Nat := #[]) (fds : Array FieldInfo := #[]) : ClassFile where
  minorVersion := 0
  majorVersion := 65
  constantPool := pool
  accessFlags := fl
  thisClass := this
  superClass := sup
  interfaces := ifs
  fields := fds
  methods := ms
  attributes := attrs
def plain (name : String) (sup : Option ClassId) : Class where
  name := name
  kind := .ordinary
  loader := none
  accessFlags := 33
  super := sup
  interfaces := #[]
  cf := none
  fields := #[]
  methods := #[]
  instanceTypes := #[]
  staticTypes := #[]
  resolved := #[]
  callSites := []
  init := .initialized
  statics := none
  mirror := none

def pool0 : Array CpInfo := pool [(5, u "<init>"), (0, u "()V"), (1, .class_ 10), (1, u "java/lang/Object"), (85, u "clone"), (0, u "()Ljava/lang/Object;")] 26

def k0c0 : Code := { maxStack := 0, maxLocals := 1, code := object_method_1_code, exceptionTable := #[], attributes := #[] }
def k0m0 : Method := { name := "<init>", desc := "()V", sig := { parameters := [], returnType := none }, accessFlags := 1, code := some k0c0 }
def k0m1 : Method := { name := "clone", desc := "()Ljava/lang/Object;", sig := { parameters := [], returnType := some (.object "java/lang/Object") }, accessFlags := 260, code := none }
/-- java/lang/Object -/
def k0 : Class := { plain "java/lang/Object" none with
  accessFlags := 33
  interfaces := #[]
  cf := some (fileOf pool0 8 #[] #[{ accessFlags := 1, nameIndex := 5, descriptorIndex := 6, attributes := #[] }, { accessFlags := 260, nameIndex := 96, descriptorIndex := 97, attributes := #[] }] 33 0 #[] #[])
  fields := #[]
  methods := #[k0m0, k0m1]
  instanceTypes := #[]
  staticTypes := #[]
  resolved := Array.replicate 124 none
  statics := none }

def pool1 : Array CpInfo := pool [(2, .class_ 4), (1, u "java/lang/Object"), (0, u "<init>"), (0, u "()V"), (0, .integer 2147483647), (0, .integer 1114112), (0, .methodref 10 11), (0, .class_ 12), (0, .nameAndType 13 14), (0, u "com/example/input_under_constraint/inputunderconstraint/CodePointSet"), (0, u "range"), (0, u "(II)Lcom/example/input_under_constraint/inputunderconstraint/CodePointSet;"), (0, .methodref 10 16), (0, .nameAndType 17 18), (0, u "contains"), (0, u "(I)Z"), (0, .methodref 20 21), (0, .class_ 22), (0, .nameAndType 23 24), (0, u "com/example/input_under_constraint/inputunderconstraint/CodePointSetRangePinLaw"), (0, u "inRange"), (0, u "(III)Z"), (0, .methodref 10 26), (0, .nameAndType 27 28), (0, u "size"), (0, u "()I"), (3, u "law"), (0, u "(IIIII)Z")] 2

def k1m0 : Method := { name := "<init>", desc := "()V", sig := { parameters := [], returnType := none }, accessFlags := 1, code := none }
def k1c1 : Code := { maxStack := 2, maxLocals := 3, code := method_2_code, exceptionTable := #[], attributes := #[] }
def k1m1 : Method := { name := "inRange", desc := "(III)Z", sig := { parameters := [.int, .int, .int], returnType := some .boolean }, accessFlags := 10, code := some k1c1 }
def k1c2 : Code := { maxStack := 4, maxLocals := 14, code := code, exceptionTable := #[], attributes := #[] }
def k1m2 : Method := { name := "law", desc := "(IIIII)Z", sig := { parameters := [.int, .int, .int, .int, .int], returnType := some .boolean }, accessFlags := 9, code := some k1c2 }
/-- com/example/input_under_constraint/inputunderconstraint/CodePointSetRangePinLaw -/
def k1 : Class := { plain "com/example/input_under_constraint/inputunderconstraint/CodePointSetRangePinLaw" (some 0) with
  accessFlags := 49
  interfaces := #[]
  cf := some (fileOf pool1 20 #[] #[{ accessFlags := 1, nameIndex := 5, descriptorIndex := 6, attributes := #[] }, { accessFlags := 10, nameIndex := 23, descriptorIndex := 24, attributes := #[] }, { accessFlags := 9, nameIndex := 32, descriptorIndex := 33, attributes := #[] }] 49 2 #[] #[])
  fields := #[]
  methods := #[k1m0, k1m1, k1m2]
  instanceTypes := #[]
  staticTypes := #[]
  resolved := Array.replicate 36 none
  statics := none }

def pool2 : Array CpInfo := pool [(1, .methodref 2 3), (0, .class_ 4), (0, .nameAndType 5 6), (0, u "java/util/BitSet"), (0, u "toLongArray"), (0, u "()[J"), (0, .methodref 8 9), (0, .class_ 10), (0, .nameAndType 11 12), (0, u "com/example/input_under_constraint/inputunderconstraint/CodePointSet"), (0, u "<init>"), (0, u "([J)V"), (0, .methodref 14 15), (0, .class_ 16), (0, .nameAndType 11 17), (0, u "java/lang/Object"), (0, u "()V"), (0, .fieldref 8 19), (0, .nameAndType 20 21), (0, u "words"), (0, u "[J"), (28, .methodref 8 51), (0, .nameAndType 11 52), (0, u "(Ljava/util/BitSet;)V"), (0, .methodref 54 55), (0, .class_ 56), (0, .nameAndType 57 58), (0, u "java/lang/Character"), (0, u "isValidCodePoint"), (0, u "(I)Z"), (14, .methodref 2 74), (0, .nameAndType 11 75), (0, u "(I)V"), (0, .methodref 2 77), (0, .nameAndType 78 79), (0, u "set"), (0, u "(II)V"), (10, .methodref 91 92), (0, .class_ 93), (0, .nameAndType 94 95), (0, u "java/lang/Long"), (0, u "bitCount"), (0, u "(J)I"), (2, u "units"), (6, u "()I"), (17, u "contains"), (5, u "[B"), (25, u "range"), (0, u "(II)Lcom/example/input_under_constraint/inputunderconstraint/CodePointSet;"), (6, u "size")] 33

def k2c0 : Code := { maxStack := 2, maxLocals := 2, code := prog_8_method_1_code, exceptionTable := #[], attributes := #[] }
def k2m0 : Method := { name := "<init>", desc := "(Ljava/util/BitSet;)V", sig := { parameters := [(.object "java/util/BitSet")], returnType := none }, accessFlags := 2, code := some k2c0 }
def k2c1 : Code := { maxStack := 2, maxLocals := 2, code := prog_8_method_2_code, exceptionTable := #[], attributes := #[] }
def k2m1 : Method := { name := "<init>", desc := "([J)V", sig := { parameters := [(.array .long)], returnType := none }, accessFlags := 2, code := some k2c1 }
def k2c2 : Code := { maxStack := 4, maxLocals := 3, code := prog_8_method_4_code, exceptionTable := #[], attributes := #[] }
def k2m2 : Method := { name := "range", desc := "(II)Lcom/example/input_under_constraint/inputunderconstraint/CodePointSet;", sig := { parameters := [.int, .int], returnType := some (.object "com/example/input_under_constraint/inputunderconstraint/CodePointSet") }, accessFlags := 9, code := some k2c2 }
def k2c3 : Code := { maxStack := 5, maxLocals := 3, code := prog_8_method_6_code, exceptionTable := #[], attributes := #[] }
def k2m3 : Method := { name := "contains", desc := "(I)Z", sig := { parameters := [.int], returnType := some .boolean }, accessFlags := 1, code := some k2c3 }
def k2c4 : Code := { maxStack := 3, maxLocals := 7, code := prog_8_method_7_code, exceptionTable := #[], attributes := #[] }
def k2m4 : Method := { name := "size", desc := "()I", sig := { parameters := [], returnType := some .int }, accessFlags := 1, code := some k2c4 }
/-- com/example/input_under_constraint/inputunderconstraint/CodePointSet -/
def k2 : Class := { plain "com/example/input_under_constraint/inputunderconstraint/CodePointSet" (some 0) with
  accessFlags := 49
  interfaces := #[]
  cf := some (fileOf pool2 8 #[] #[{ accessFlags := 2, nameIndex := 11, descriptorIndex := 52, attributes := #[] }, { accessFlags := 2, nameIndex := 11, descriptorIndex := 12, attributes := #[] }, { accessFlags := 9, nameIndex := 155, descriptorIndex := 156, attributes := #[] }, { accessFlags := 1, nameIndex := 123, descriptorIndex := 58, attributes := #[] }, { accessFlags := 1, nameIndex := 163, descriptorIndex := 105, attributes := #[] }] 49 14 #[] #[{ accessFlags := 18, nameIndex := 20, descriptorIndex := 21, attributes := #[] }, { accessFlags := 66, nameIndex := 98, descriptorIndex := 129, attributes := #[] }])
  fields := #[{ name := "words", type := (.array .long), accessFlags := 18, slot := 0, constantValue := 0 }, { name := "units", type := (.array .byte), accessFlags := 66, slot := 1, constantValue := 0 }]
  methods := #[k2m0, k2m1, k2m2, k2m3, k2m4]
  instanceTypes := #[(.array .long), (.array .byte)]
  staticTypes := #[]
  resolved := Array.replicate 197 none
  statics := none }

def pool3 : Array CpInfo := pool [(1, .class_ 2), (0, u "java/io/Serializable"), (0, .class_ 4), (0, u "java/lang/Object")] 2

/-- java/io/Serializable -/
def k3 : Class := { plain "java/io/Serializable" (some 0) with
  accessFlags := 1537
  interfaces := #[]
  cf := some (fileOf pool3 1 #[] #[] 1537 3 #[] #[])
  fields := #[]
  methods := #[]
  instanceTypes := #[]
  staticTypes := #[]
  resolved := Array.replicate 7 none
  statics := none }

def pool4 : Array CpInfo := pool [(1, .class_ 2), (0, u "java/lang/Comparable"), (0, .class_ 4), (0, u "java/lang/Object")] 7

/-- java/lang/Comparable -/
def k4 : Class := { plain "java/lang/Comparable" (some 0) with
  accessFlags := 1537
  interfaces := #[]
  cf := some (fileOf pool4 1 #[] #[] 1537 3 #[] #[])
  fields := #[]
  methods := #[]
  instanceTypes := #[]
  staticTypes := #[]
  resolved := Array.replicate 12 none
  statics := none }

def pool5 : Array CpInfo := pool [(1, .class_ 2), (0, u "java/lang/constant/Constable"), (0, .class_ 4), (0, u "java/lang/Object")] 6

/-- java/lang/constant/Constable -/
def k5 : Class := { plain "java/lang/constant/Constable" (some 0) with
  accessFlags := 1537
  interfaces := #[]
  cf := some (fileOf pool5 1 #[] #[] 1537 3 #[] #[])
  fields := #[]
  methods := #[]
  instanceTypes := #[]
  staticTypes := #[]
  resolved := Array.replicate 11 none
  statics := none }

def pool6 : Array CpInfo := pool [(1, .class_ 2), (0, u "java/lang/Character"), (18, u "value"), (0, u "C"), (19, .class_ 44), (1, u "java/lang/Object"), (3, .class_ 50), (1, u "java/lang/Character$CharacterCache"), (63, u "(I)Z"), (2, u "isValidCodePoint"), (166, u "$assertionsDisabled"), (0, u "Z"), (21, .class_ 309), (1, u "java/lang/Character$UnicodeBlock"), (73, u "TYPE"), (0, u "Ljava/lang/Class;"), (0, .class_ 386), (0, u "java/io/Serializable"), (0, .class_ 388), (0, u "java/lang/Comparable"), (0, .class_ 390), (0, u "java/lang/constant/Constable"), (0, u "MIN_RADIX"), (0, u "I"), (2, u "MAX_RADIX"), (1, u "MIN_VALUE"), (1, u "MAX_VALUE"), (3, u "UNASSIGNED"), (0, u "B"), (0, u "UPPERCASE_LETTER"), (1, u "LOWERCASE_LETTER"), (0, u "TITLECASE_LETTER"), (1, u "MODIFIER_LETTER"), (1, u "OTHER_LETTER"), (1, u "NON_SPACING_MARK"), (1, u "ENCLOSING_MARK"), (1, u "COMBINING_SPACING_MARK"), (1, u "DECIMAL_DIGIT_NUMBER"), (1, u "LETTER_NUMBER"), (1, u "OTHER_NUMBER"), (1, u "SPACE_SEPARATOR"), (1, u "LINE_SEPARATOR"), (1, u "PARAGRAPH_SEPARATOR"), (1, u "CONTROL"), (1, u "FORMAT"), (1, u "PRIVATE_USE"), (1, u "SURROGATE"), (1, u "DASH_PUNCTUATION"), (1, u "START_PUNCTUATION"), (1, u "END_PUNCTUATION"), (1, u "CONNECTOR_PUNCTUATION"), (1, u "OTHER_PUNCTUATION"), (1, u "MATH_SYMBOL"), (1, u "CURRENCY_SYMBOL"), (1, u "MODIFIER_SYMBOL"), (1, u "OTHER_SYMBOL"), (1, u "INITIAL_QUOTE_PUNCTUATION"), (1, u "FINAL_QUOTE_PUNCTUATION"), (1, u "ERROR"), (1, u "DIRECTIONALITY_UNDEFINED"), (0, u "DIRECTIONALITY_LEFT_TO_RIGHT"), (0, u "DIRECTIONALITY_RIGHT_TO_LEFT"), (0, u "DIRECTIONALITY_RIGHT_TO_LEFT_ARABIC"), (0, u "DIRECTIONALITY_EUROPEAN_NUMBER"), (0, u "DIRECTIONALITY_EUROPEAN_NUMBER_SEPARATOR"), (0, u "DIRECTIONALITY_EUROPEAN_NUMBER_TERMINATOR"), (0, u "DIRECTIONALITY_ARABIC_NUMBER"), (0, u "DIRECTIONALITY_COMMON_NUMBER_SEPARATOR"), (0, u "DIRECTIONALITY_NONSPACING_MARK"), (0, u "DIRECTIONALITY_BOUNDARY_NEUTRAL"), (0, u "DIRECTIONALITY_PARAGRAPH_SEPARATOR"), (0, u "DIRECTIONALITY_SEGMENT_SEPARATOR"), (0, u "DIRECTIONALITY_WHITESPACE"), (0, u "DIRECTIONALITY_OTHER_NEUTRALS"), (0, u "DIRECTIONALITY_LEFT_TO_RIGHT_EMBEDDING"), (0, u "DIRECTIONALITY_LEFT_TO_RIGHT_OVERRIDE"), (0, u "DIRECTIONALITY_RIGHT_TO_LEFT_EMBEDDING"), (0, u "DIRECTIONALITY_RIGHT_TO_LEFT_OVERRIDE"), (1, u "DIRECTIONALITY_POP_DIRECTIONAL_FORMAT"), (0, u "DIRECTIONALITY_LEFT_TO_RIGHT_ISOLATE"), (0, u "DIRECTIONALITY_RIGHT_TO_LEFT_ISOLATE"), (0, u "DIRECTIONALITY_FIRST_STRONG_ISOLATE"), (0, u "DIRECTIONALITY_POP_DIRECTIONAL_ISOLATE"), (0, u "MIN_HIGH_SURROGATE"), (0, u "MAX_HIGH_SURROGATE"), (1, u "MIN_LOW_SURROGATE"), (0, u "MAX_LOW_SURROGATE"), (1, u "MIN_SURROGATE"), (0, u "MAX_SURROGATE"), (0, u "MIN_SUPPLEMENTARY_CODE_POINT"), (0, u "MIN_CODE_POINT"), (0, u "MAX_CODE_POINT"), (1, u "serialVersionUID"), (0, u "J"), (2, u "SIZE"), (0, u "BYTES"), (88, .class_ 596), (0, u "java/lang/Character$UnicodeScript"), (0, .class_ 598), (0, u "java/lang/Character$Subset")] 5

def k6c0 : Code := { maxStack := 2, maxLocals := 2, code := jdk_89_method_11_code, exceptionTable := #[], attributes := #[] }
def k6m0 : Method := { name := "isValidCodePoint", desc := "(I)Z", sig := { parameters := [.int], returnType := some .boolean }, accessFlags := 9, code := some k6c0 }
/-- java/lang/Character -/
def k6 : Class := { plain "java/lang/Character" (some 0) with
  accessFlags := 49
  interfaces := #[3, 4, 5]
  cf := some (fileOf pool6 1 #[.nestMembers #[48, 595, 307, 597]] #[{ accessFlags := 9, nameIndex := 117, descriptorIndex := 114, attributes := #[] }] 49 42 #[385, 387, 389] #[{ accessFlags := 25, nameIndex := 391, descriptorIndex := 392, attributes := #[] }, { accessFlags := 25, nameIndex := 395, descriptorIndex := 392, attributes := #[] }, { accessFlags := 25, nameIndex := 397, descriptorIndex := 22, attributes := #[] }, { accessFlags := 25, nameIndex := 399, descriptorIndex := 22, attributes := #[] }, { accessFlags := 25, nameIndex := 383, descriptorIndex := 384, attributes := #[] }, { accessFlags := 25, nameIndex := 403, descriptorIndex := 404, attributes := #[] }, { accessFlags := 25, nameIndex := 405, descriptorIndex := 404, attributes := #[] }, { accessFlags := 25, nameIndex := 407, descriptorIndex := 404, attributes := #[] }, { accessFlags := 25, nameIndex := 408, descriptorIndex := 404, attributes := #[] }, { accessFlags := 25, nameIndex := 410, descriptorIndex := 404, attributes := #[] }, { accessFlags := 25, nameIndex := 412, descriptorIndex := 404, attributes := #[] }, { accessFlags := 25, nameIndex := 414, descriptorIndex := 404, attributes := #[] }, { accessFlags := 25, nameIndex := 416, descriptorIndex := 404, attributes := #[] }, { accessFlags := 25, nameIndex := 418, descriptorIndex := 404, attributes := #[] }, { accessFlags := 25, nameIndex := 420, descriptorIndex := 404, attributes := #[] }, { accessFlags := 25, nameIndex := 422, descriptorIndex := 404, attributes := #[] }, { accessFlags := 25, nameIndex := 424, descriptorIndex := 404, attributes := #[] }, { accessFlags := 25, nameIndex := 426, descriptorIndex := 404, attributes := #[] }, { accessFlags := 25, nameIndex := 428, descriptorIndex := 404, attributes := #[] }, { accessFlags := 25, nameIndex := 430, descriptorIndex := 404, attributes := #[] }, { accessFlags := 25, nameIndex := 432, descriptorIndex := 404, attributes := #[] }, { accessFlags := 25, nameIndex := 434, descriptorIndex := 404, attributes := #[] }, { accessFlags := 25, nameIndex := 436, descriptorIndex := 404, attributes := #[] }, { accessFlags := 25, nameIndex := 438, descriptorIndex := 404, attributes := #[] }, { accessFlags := 25, nameIndex := 440, descriptorIndex := 404, attributes := #[] }, { accessFlags := 25, nameIndex := 442, descriptorIndex := 404, attributes := #[] }, { accessFlags := 25, nameIndex := 444, descriptorIndex := 404, attributes := #[] }, { accessFlags := 25, nameIndex := 446, descriptorIndex := 404, attributes := #[] }, { accessFlags := 25, nameIndex := 448, descriptorIndex := 404, attributes := #[] }, { accessFlags := 25, nameIndex := 450, descriptorIndex := 404, attributes := #[] }, { accessFlags := 25, nameIndex := 452, descriptorIndex := 404, attributes := #[] }, { accessFlags := 25, nameIndex := 454, descriptorIndex := 404, attributes := #[] }, { accessFlags := 25, nameIndex := 456, descriptorIndex := 404, attributes := #[] }, { accessFlags := 25, nameIndex := 458, descriptorIndex := 404, attributes := #[] }, { accessFlags := 25, nameIndex := 460, descriptorIndex := 404, attributes := #[] }, { accessFlags := 24, nameIndex := 462, descriptorIndex := 392, attributes := #[] }, { accessFlags := 25, nameIndex := 464, descriptorIndex := 404, attributes := #[] }, { accessFlags := 25, nameIndex := 465, descriptorIndex := 404, attributes := #[] }, { accessFlags := 25, nameIndex := 466, descriptorIndex := 404, attributes := #[] }, { accessFlags := 25, nameIndex := 467, descriptorIndex := 404, attributes := #[] }, { accessFlags := 25, nameIndex := 468, descriptorIndex := 404, attributes := #[] }, { accessFlags := 25, nameIndex := 469, descriptorIndex := 404, attributes := #[] }, { accessFlags := 25, nameIndex := 470, descriptorIndex := 404, attributes := #[] }, { accessFlags := 25, nameIndex := 471, descriptorIndex := 404, attributes := #[] }, { accessFlags := 25, nameIndex := 472, descriptorIndex := 404, attributes := #[] }, { accessFlags := 25, nameIndex := 473, descriptorIndex := 404, attributes := #[] }, { accessFlags := 25, nameIndex := 474, descriptorIndex := 404, attributes := #[] }, { accessFlags := 25, nameIndex := 475, descriptorIndex := 404, attributes := #[] }, { accessFlags := 25, nameIndex := 476, descriptorIndex := 404, attributes := #[] }, { accessFlags := 25, nameIndex := 477, descriptorIndex := 404, attributes := #[] }, { accessFlags := 25, nameIndex := 478, descriptorIndex := 404, attributes := #[] }, { accessFlags := 25, nameIndex := 479, descriptorIndex := 404, attributes := #[] }, { accessFlags := 25, nameIndex := 480, descriptorIndex := 404, attributes := #[] }, { accessFlags := 25, nameIndex := 481, descriptorIndex := 404, attributes := #[] }, { accessFlags := 25, nameIndex := 482, descriptorIndex := 404, attributes := #[] }, { accessFlags := 25, nameIndex := 484, descriptorIndex := 404, attributes := #[] }, { accessFlags := 25, nameIndex := 485, descriptorIndex := 404, attributes := #[] }, { accessFlags := 25, nameIndex := 486, descriptorIndex := 404, attributes := #[] }, { accessFlags := 25, nameIndex := 487, descriptorIndex := 404, attributes := #[] }, { accessFlags := 25, nameIndex := 488, descriptorIndex := 404, attributes := #[] }, { accessFlags := 25, nameIndex := 489, descriptorIndex := 22, attributes := #[] }, { accessFlags := 25, nameIndex := 490, descriptorIndex := 22, attributes := #[] }, { accessFlags := 25, nameIndex := 492, descriptorIndex := 22, attributes := #[] }, { accessFlags := 25, nameIndex := 493, descriptorIndex := 22, attributes := #[] }, { accessFlags := 25, nameIndex := 495, descriptorIndex := 22, attributes := #[] }, { accessFlags := 25, nameIndex := 496, descriptorIndex := 22, attributes := #[] }, { accessFlags := 25, nameIndex := 497, descriptorIndex := 392, attributes := #[] }, { accessFlags := 25, nameIndex := 498, descriptorIndex := 392, attributes := #[] }, { accessFlags := 25, nameIndex := 499, descriptorIndex := 392, attributes := #[] }, { accessFlags := 18, nameIndex := 21, descriptorIndex := 22, attributes := #[] }, { accessFlags := 26, nameIndex := 501, descriptorIndex := 502, attributes := #[] }, { accessFlags := 25, nameIndex := 505, descriptorIndex := 392, attributes := #[] }, { accessFlags := 25, nameIndex := 506, descriptorIndex := 392, attributes := #[] }, { accessFlags := 4120, nameIndex := 284, descriptorIndex := 285, attributes := #[] }])
  fields := #[{ name := "MIN_RADIX", type := .int, accessFlags := 25, slot := 0, constantValue := 0 }, { name := "MAX_RADIX", type := .int, accessFlags := 25, slot := 1, constantValue := 0 }, { name := "MIN_VALUE", type := .char, accessFlags := 25, slot := 2, constantValue := 0 }, { name := "MAX_VALUE", type := .char, accessFlags := 25, slot := 3, constantValue := 0 }, { name := "TYPE", type := (.object "java/lang/Class"), accessFlags := 25, slot := 4, constantValue := 0 }, { name := "UNASSIGNED", type := .byte, accessFlags := 25, slot := 5, constantValue := 0 }, { name := "UPPERCASE_LETTER", type := .byte, accessFlags := 25, slot := 6, constantValue := 0 }, { name := "LOWERCASE_LETTER", type := .byte, accessFlags := 25, slot := 7, constantValue := 0 }, { name := "TITLECASE_LETTER", type := .byte, accessFlags := 25, slot := 8, constantValue := 0 }, { name := "MODIFIER_LETTER", type := .byte, accessFlags := 25, slot := 9, constantValue := 0 }, { name := "OTHER_LETTER", type := .byte, accessFlags := 25, slot := 10, constantValue := 0 }, { name := "NON_SPACING_MARK", type := .byte, accessFlags := 25, slot := 11, constantValue := 0 }, { name := "ENCLOSING_MARK", type := .byte, accessFlags := 25, slot := 12, constantValue := 0 }, { name := "COMBINING_SPACING_MARK", type := .byte, accessFlags := 25, slot := 13, constantValue := 0 }, { name := "DECIMAL_DIGIT_NUMBER", type := .byte, accessFlags := 25, slot := 14, constantValue := 0 }, { name := "LETTER_NUMBER", type := .byte, accessFlags := 25, slot := 15, constantValue := 0 }, { name := "OTHER_NUMBER", type := .byte, accessFlags := 25, slot := 16, constantValue := 0 }, { name := "SPACE_SEPARATOR", type := .byte, accessFlags := 25, slot := 17, constantValue := 0 }, { name := "LINE_SEPARATOR", type := .byte, accessFlags := 25, slot := 18, constantValue := 0 }, { name := "PARAGRAPH_SEPARATOR", type := .byte, accessFlags := 25, slot := 19, constantValue := 0 }, { name := "CONTROL", type := .byte, accessFlags := 25, slot := 20, constantValue := 0 }, { name := "FORMAT", type := .byte, accessFlags := 25, slot := 21, constantValue := 0 }, { name := "PRIVATE_USE", type := .byte, accessFlags := 25, slot := 22, constantValue := 0 }, { name := "SURROGATE", type := .byte, accessFlags := 25, slot := 23, constantValue := 0 }, { name := "DASH_PUNCTUATION", type := .byte, accessFlags := 25, slot := 24, constantValue := 0 }, { name := "START_PUNCTUATION", type := .byte, accessFlags := 25, slot := 25, constantValue := 0 }, { name := "END_PUNCTUATION", type := .byte, accessFlags := 25, slot := 26, constantValue := 0 }, { name := "CONNECTOR_PUNCTUATION", type := .byte, accessFlags := 25, slot := 27, constantValue := 0 }, { name := "OTHER_PUNCTUATION", type := .byte, accessFlags := 25, slot := 28, constantValue := 0 }, { name := "MATH_SYMBOL", type := .byte, accessFlags := 25, slot := 29, constantValue := 0 }, { name := "CURRENCY_SYMBOL", type := .byte, accessFlags := 25, slot := 30, constantValue := 0 }, { name := "MODIFIER_SYMBOL", type := .byte, accessFlags := 25, slot := 31, constantValue := 0 }, { name := "OTHER_SYMBOL", type := .byte, accessFlags := 25, slot := 32, constantValue := 0 }, { name := "INITIAL_QUOTE_PUNCTUATION", type := .byte, accessFlags := 25, slot := 33, constantValue := 0 }, { name := "FINAL_QUOTE_PUNCTUATION", type := .byte, accessFlags := 25, slot := 34, constantValue := 0 }, { name := "ERROR", type := .int, accessFlags := 24, slot := 35, constantValue := 0 }, { name := "DIRECTIONALITY_UNDEFINED", type := .byte, accessFlags := 25, slot := 36, constantValue := 0 }, { name := "DIRECTIONALITY_LEFT_TO_RIGHT", type := .byte, accessFlags := 25, slot := 37, constantValue := 0 }, { name := "DIRECTIONALITY_RIGHT_TO_LEFT", type := .byte, accessFlags := 25, slot := 38, constantValue := 0 }, { name := "DIRECTIONALITY_RIGHT_TO_LEFT_ARABIC", type := .byte, accessFlags := 25, slot := 39, constantValue := 0 }, { name := "DIRECTIONALITY_EUROPEAN_NUMBER", type := .byte, accessFlags := 25, slot := 40, constantValue := 0 }, { name := "DIRECTIONALITY_EUROPEAN_NUMBER_SEPARATOR", type := .byte, accessFlags := 25, slot := 41, constantValue := 0 }, { name := "DIRECTIONALITY_EUROPEAN_NUMBER_TERMINATOR", type := .byte, accessFlags := 25, slot := 42, constantValue := 0 }, { name := "DIRECTIONALITY_ARABIC_NUMBER", type := .byte, accessFlags := 25, slot := 43, constantValue := 0 }, { name := "DIRECTIONALITY_COMMON_NUMBER_SEPARATOR", type := .byte, accessFlags := 25, slot := 44, constantValue := 0 }, { name := "DIRECTIONALITY_NONSPACING_MARK", type := .byte, accessFlags := 25, slot := 45, constantValue := 0 }, { name := "DIRECTIONALITY_BOUNDARY_NEUTRAL", type := .byte, accessFlags := 25, slot := 46, constantValue := 0 }, { name := "DIRECTIONALITY_PARAGRAPH_SEPARATOR", type := .byte, accessFlags := 25, slot := 47, constantValue := 0 }, { name := "DIRECTIONALITY_SEGMENT_SEPARATOR", type := .byte, accessFlags := 25, slot := 48, constantValue := 0 }, { name := "DIRECTIONALITY_WHITESPACE", type := .byte, accessFlags := 25, slot := 49, constantValue := 0 }, { name := "DIRECTIONALITY_OTHER_NEUTRALS", type := .byte, accessFlags := 25, slot := 50, constantValue := 0 }, { name := "DIRECTIONALITY_LEFT_TO_RIGHT_EMBEDDING", type := .byte, accessFlags := 25, slot := 51, constantValue := 0 }, { name := "DIRECTIONALITY_LEFT_TO_RIGHT_OVERRIDE", type := .byte, accessFlags := 25, slot := 52, constantValue := 0 }, { name := "DIRECTIONALITY_RIGHT_TO_LEFT_EMBEDDING", type := .byte, accessFlags := 25, slot := 53, constantValue := 0 }, { name := "DIRECTIONALITY_RIGHT_TO_LEFT_OVERRIDE", type := .byte, accessFlags := 25, slot := 54, constantValue := 0 }, { name := "DIRECTIONALITY_POP_DIRECTIONAL_FORMAT", type := .byte, accessFlags := 25, slot := 55, constantValue := 0 }, { name := "DIRECTIONALITY_LEFT_TO_RIGHT_ISOLATE", type := .byte, accessFlags := 25, slot := 56, constantValue := 0 }, { name := "DIRECTIONALITY_RIGHT_TO_LEFT_ISOLATE", type := .byte, accessFlags := 25, slot := 57, constantValue := 0 }, { name := "DIRECTIONALITY_FIRST_STRONG_ISOLATE", type := .byte, accessFlags := 25, slot := 58, constantValue := 0 }, { name := "DIRECTIONALITY_POP_DIRECTIONAL_ISOLATE", type := .byte, accessFlags := 25, slot := 59, constantValue := 0 }, { name := "MIN_HIGH_SURROGATE", type := .char, accessFlags := 25, slot := 60, constantValue := 0 }, { name := "MAX_HIGH_SURROGATE", type := .char, accessFlags := 25, slot := 61, constantValue := 0 }, { name := "MIN_LOW_SURROGATE", type := .char, accessFlags := 25, slot := 62, constantValue := 0 }, { name := "MAX_LOW_SURROGATE", type := .char, accessFlags := 25, slot := 63, constantValue := 0 }, { name := "MIN_SURROGATE", type := .char, accessFlags := 25, slot := 64, constantValue := 0 }, { name := "MAX_SURROGATE", type := .char, accessFlags := 25, slot := 65, constantValue := 0 }, { name := "MIN_SUPPLEMENTARY_CODE_POINT", type := .int, accessFlags := 25, slot := 66, constantValue := 0 }, { name := "MIN_CODE_POINT", type := .int, accessFlags := 25, slot := 67, constantValue := 0 }, { name := "MAX_CODE_POINT", type := .int, accessFlags := 25, slot := 68, constantValue := 0 }, { name := "value", type := .char, accessFlags := 18, slot := 0, constantValue := 0 }, { name := "serialVersionUID", type := .long, accessFlags := 26, slot := 69, constantValue := 0 }, { name := "SIZE", type := .int, accessFlags := 25, slot := 70, constantValue := 0 }, { name := "BYTES", type := .int, accessFlags := 25, slot := 71, constantValue := 0 }, { name := "$assertionsDisabled", type := .boolean, accessFlags := 4120, slot := 72, constantValue := 0 }]
  methods := #[k6m0]
  instanceTypes := #[.char]
  staticTypes := #[.int, .int, .char, .char, (.object "java/lang/Class"), .byte, .byte, .byte, .byte, .byte, .byte, .byte, .byte, .byte, .byte, .byte, .byte, .byte, .byte, .byte, .byte, .byte, .byte, .byte, .byte, .byte, .byte, .byte, .byte, .byte, .byte, .byte, .byte, .byte, .byte, .int, .byte, .byte, .byte, .byte, .byte, .byte, .byte, .byte, .byte, .byte, .byte, .byte, .byte, .byte, .byte, .byte, .byte, .byte, .byte, .byte, .byte, .byte, .byte, .byte, .char, .char, .char, .char, .char, .char, .int, .int, .int, .long, .int, .int, .boolean]
  resolved := Array.replicate 604 none
  statics := none }

def pool7 : Array CpInfo := pool [(1, .class_ 2), (0, u "java/lang/Cloneable"), (0, .class_ 4), (0, u "java/lang/Object")] 2

/-- java/lang/Cloneable -/
def k7 : Class := { plain "java/lang/Cloneable" (some 0) with
  accessFlags := 1537
  interfaces := #[]
  cf := some (fileOf pool7 1 #[] #[] 1537 3 #[] #[])
  fields := #[]
  methods := #[]
  instanceTypes := #[]
  staticTypes := #[]
  resolved := Array.replicate 7 none
  statics := none }

def pool8 : Array CpInfo := pool [(1, .class_ 2), (0, u "java/util/BitSet"), (0, .fieldref 1 4), (0, .nameAndType 5 6), (0, u "$assertionsDisabled"), (0, u "Z"), (0, .fieldref 1 8), (0, .nameAndType 9 10), (0, u "wordsInUse"), (0, u "I"), (0, .fieldref 1 12), (0, .nameAndType 13 14), (0, u "words"), (0, u "[J"), (3, .nameAndType 19 20), (0, u "<init>"), (0, u "()V"), (0, .methodref 22 18), (0, .class_ 23), (0, u "java/lang/Object"), (0, .fieldref 1 25), (0, .nameAndType 26 6), (0, u "sizeIsSticky"), (0, .methodref 1 28), (0, .nameAndType 29 30), (0, u "initWords"), (0, u "(I)V"), (21, .methodref 1 53), (0, .nameAndType 54 55), (0, u "wordIndex"), (0, u "(I)I"), (0, .methodref 1 57), (0, .nameAndType 58 20), (0, u "checkInvariants"), (0, .methodref 60 61), (0, .class_ 62), (0, .nameAndType 63 64), (0, u "java/util/Arrays"), (0, u "copyOf"), (0, u "([JI)[J"), (74, .methodref 1 140), (0, .nameAndType 141 30), (0, u "ensureCapacity"), (13, .methodref 1 156), (0, .nameAndType 157 30), (0, u "expandTo"), (3, .methodref 1 162), (0, .nameAndType 163 164), (0, u "checkRange"), (0, u "(II)V"), (0, .long 18446744073709551615), (3, u "set"), (99, .class_ 270), (0, u "java/util/BitSet$1BitSetSpliterator"), (22, u "serialPersistentFields"), (0, u "[Ljava/io/ObjectStreamField;"), (0, .class_ 296), (0, u "java/lang/Cloneable"), (0, .class_ 298), (0, u "java/io/Serializable"), (0, u "ADDRESS_BITS_PER_WORD"), (2, u "BITS_PER_WORD"), (1, u "BIT_INDEX_MASK"), (1, u "WORD_MASK"), (0, u "J"), (0, u "serialVersionUID"), (28, u "toLongArray"), (0, u "()[J")] 78

def k8c0 : Code := { maxStack := 2, maxLocals := 1, code := jdk_92_method_1_code, exceptionTable := #[], attributes := #[] }
def k8m0 : Method := { name := "wordIndex", desc := "(I)I", sig := { parameters := [.int], returnType := some .int }, accessFlags := 10, code := some k8c0 }
def k8c1 : Code := { maxStack := 4, maxLocals := 1, code := jdk_92_method_2_code, exceptionTable := #[], attributes := #[] }
def k8m1 : Method := { name := "checkInvariants", desc := "()V", sig := { parameters := [], returnType := none }, accessFlags := 2, code := some k8c1 }
def k8m2 : Method := { name := "<init>", desc := "()V", sig := { parameters := [], returnType := none }, accessFlags := 1, code := none }
def k8c3 : Code := { maxStack := 4, maxLocals := 2, code := jdk_92_method_5_code, exceptionTable := #[], attributes := #[] }
def k8m3 : Method := { name := "<init>", desc := "(I)V", sig := { parameters := [.int], returnType := none }, accessFlags := 1, code := some k8c3 }
def k8c4 : Code := { maxStack := 3, maxLocals := 2, code := jdk_92_method_6_code, exceptionTable := #[], attributes := #[] }
def k8m4 : Method := { name := "initWords", desc := "(I)V", sig := { parameters := [.int], returnType := none }, accessFlags := 2, code := some k8c4 }
def k8c5 : Code := { maxStack := 2, maxLocals := 1, code := jdk_92_method_13_code, exceptionTable := #[], attributes := #[] }
def k8m5 : Method := { name := "toLongArray", desc := "()[J", sig := { parameters := [], returnType := some (.array .long) }, accessFlags := 1, code := some k8c5 }
def k8c6 : Code := { maxStack := 3, maxLocals := 3, code := jdk_92_method_14_code, exceptionTable := #[], attributes := #[] }
def k8m6 : Method := { name := "ensureCapacity", desc := "(I)V", sig := { parameters := [.int], returnType := none }, accessFlags := 2, code := some k8c6 }
def k8c7 : Code := { maxStack := 2, maxLocals := 3, code := jdk_92_method_15_code, exceptionTable := #[], attributes := #[] }
def k8m7 : Method := { name := "expandTo", desc := "(I)V", sig := { parameters := [.int], returnType := none }, accessFlags := 2, code := some k8c7 }
def k8c8 : Code := { maxStack := 4, maxLocals := 2, code := jdk_92_method_16_code, exceptionTable := #[], attributes := #[] }
def k8m8 : Method := { name := "checkRange", desc := "(II)V", sig := { parameters := [.int, .int], returnType := none }, accessFlags := 10, code := some k8c8 }
def k8c9 : Code := { maxStack := 8, maxLocals := 10, code := jdk_92_method_21_code, exceptionTable := #[], attributes := #[] }
def k8m9 : Method := { name := "set", desc := "(II)V", sig := { parameters := [.int, .int], returnType := none }, accessFlags := 1, code := some k8c9 }
/-- java/util/BitSet -/
def k8 : Class := { plain "java/util/BitSet" (some 0) with
  accessFlags := 33
  interfaces := #[7, 3]
  cf := some (fileOf pool8 1 #[.nestMembers #[269]] #[{ accessFlags := 10, nameIndex := 54, descriptorIndex := 55, attributes := #[] }, { accessFlags := 2, nameIndex := 58, descriptorIndex := 20, attributes := #[] }, { accessFlags := 1, nameIndex := 19, descriptorIndex := 20, attributes := #[] }, { accessFlags := 1, nameIndex := 19, descriptorIndex := 30, attributes := #[] }, { accessFlags := 2, nameIndex := 29, descriptorIndex := 30, attributes := #[] }, { accessFlags := 1, nameIndex := 337, descriptorIndex := 338, attributes := #[] }, { accessFlags := 2, nameIndex := 141, descriptorIndex := 30, attributes := #[] }, { accessFlags := 2, nameIndex := 157, descriptorIndex := 30, attributes := #[] }, { accessFlags := 10, nameIndex := 163, descriptorIndex := 164, attributes := #[] }, { accessFlags := 1, nameIndex := 169, descriptorIndex := 164, attributes := #[] }] 33 22 #[295, 297] #[{ accessFlags := 26, nameIndex := 299, descriptorIndex := 10, attributes := #[] }, { accessFlags := 26, nameIndex := 302, descriptorIndex := 10, attributes := #[] }, { accessFlags := 26, nameIndex := 304, descriptorIndex := 10, attributes := #[] }, { accessFlags := 26, nameIndex := 306, descriptorIndex := 307, attributes := #[] }, { accessFlags := 26, nameIndex := 293, descriptorIndex := 294, attributes := #[] }, { accessFlags := 2, nameIndex := 13, descriptorIndex := 14, attributes := #[] }, { accessFlags := 130, nameIndex := 9, descriptorIndex := 10, attributes := #[] }, { accessFlags := 130, nameIndex := 26, descriptorIndex := 6, attributes := #[] }, { accessFlags := 26, nameIndex := 308, descriptorIndex := 307, attributes := #[] }, { accessFlags := 4120, nameIndex := 5, descriptorIndex := 6, attributes := #[] }])
  fields := #[{ name := "ADDRESS_BITS_PER_WORD", type := .int, accessFlags := 26, slot := 0, constantValue := 0 }, { name := "BITS_PER_WORD", type := .int, accessFlags := 26, slot := 1, constantValue := 0 }, { name := "BIT_INDEX_MASK", type := .int, accessFlags := 26, slot := 2, constantValue := 0 }, { name := "WORD_MASK", type := .long, accessFlags := 26, slot := 3, constantValue := 0 }, { name := "serialPersistentFields", type := (.array (.object "java/io/ObjectStreamField")), accessFlags := 26, slot := 4, constantValue := 0 }, { name := "words", type := (.array .long), accessFlags := 2, slot := 0, constantValue := 0 }, { name := "wordsInUse", type := .int, accessFlags := 130, slot := 1, constantValue := 0 }, { name := "sizeIsSticky", type := .boolean, accessFlags := 130, slot := 2, constantValue := 0 }, { name := "serialVersionUID", type := .long, accessFlags := 26, slot := 5, constantValue := 0 }, { name := "$assertionsDisabled", type := .boolean, accessFlags := 4120, slot := 6, constantValue := 0 }]
  methods := #[k8m0, k8m1, k8m2, k8m3, k8m4, k8m5, k8m6, k8m7, k8m8, k8m9]
  instanceTypes := #[(.array .long), .int, .boolean]
  staticTypes := #[.int, .int, .int, .long, (.array (.object "java/io/ObjectStreamField")), .long, .boolean]
  resolved := Array.replicate 417 none
  statics := some 0 }

def pool9 : Array CpInfo := pool [(2, .class_ 4), (1, u "java/lang/Object"), (0, u "<init>"), (0, u "()V"), (7, .class_ 16), (1, u "java/util/Arrays"), (57, .class_ 76), (1, u "java/util/Arrays$NaturalOrder"), (32, u "()Ljava/lang/Object;"), (3, .class_ 115), (1, u "java/util/Arrays$LegacyMergeSort"), (1, u "Z"), (10, .nameAndType 129 109), (0, u "clone"), (172, u "copyOf"), (16, .methodref 320 128), (0, .class_ 321), (0, u "[J"), (53, .class_ 376), (0, u "java/util/Arrays$ArrayList"), (68, u "$assertionsDisabled"), (269, u "MIN_ARRAY_SORT_GRAN"), (0, u "I"), (2, u "INSERTIONSORT_THRESHOLD"), (152, u "([JI)[J"), (102, .class_ 976), (0, u "java/util/Arrays$ArrayItr")] 52

def k9m0 : Method := { name := "<init>", desc := "()V", sig := { parameters := [], returnType := none }, accessFlags := 2, code := none }
def k9c1 : Code := { maxStack := 6, maxLocals := 3, code := jdk_65_method_124_code, exceptionTable := #[], attributes := #[] }
def k9m1 : Method := { name := "copyOf", desc := "([JI)[J", sig := { parameters := [(.array .long), .int], returnType := some (.array .long) }, accessFlags := 9, code := some k9c1 }
/-- java/util/Arrays -/
def k9 : Class := { plain "java/util/Arrays" (some 0) with
  accessFlags := 49
  interfaces := #[]
  cf := some (fileOf pool9 14 #[.nestMembers #[975, 375, 113, 74]] #[{ accessFlags := 2, nameIndex := 5, descriptorIndex := 6, attributes := #[] }, { accessFlags := 9, nameIndex := 302, descriptorIndex := 872, attributes := #[] }] 49 2 #[] #[{ accessFlags := 26, nameIndex := 715, descriptorIndex := 716, attributes := #[] }, { accessFlags := 26, nameIndex := 719, descriptorIndex := 716, attributes := #[] }, { accessFlags := 4120, nameIndex := 445, descriptorIndex := 117, attributes := #[] }])
  fields := #[{ name := "MIN_ARRAY_SORT_GRAN", type := .int, accessFlags := 26, slot := 0, constantValue := 0 }, { name := "INSERTIONSORT_THRESHOLD", type := .int, accessFlags := 26, slot := 1, constantValue := 0 }, { name := "$assertionsDisabled", type := .boolean, accessFlags := 4120, slot := 2, constantValue := 0 }]
  methods := #[k9m0, k9m1]
  instanceTypes := #[]
  staticTypes := #[.int, .int, .boolean]
  resolved := Array.replicate 1029 none
  statics := none }

def pool10 : Array CpInfo := pool [(2, .class_ 4), (1, u "java/lang/Object"), (0, u "<init>"), (0, u "()V"), (1, .class_ 10), (1, u "java/lang/Number"), (2, .class_ 14), (0, u "java/io/Serializable"), (0, u "serialVersionUID"), (0, u "J")] 20

def k10m0 : Method := { name := "<init>", desc := "()V", sig := { parameters := [], returnType := none }, accessFlags := 1, code := none }
/-- java/lang/Number -/
def k10 : Class := { plain "java/lang/Number" (some 0) with
  accessFlags := 1057
  interfaces := #[3]
  cf := some (fileOf pool10 8 #[] #[{ accessFlags := 1, nameIndex := 5, descriptorIndex := 6, attributes := #[] }] 1057 2 #[13] #[{ accessFlags := 26, nameIndex := 15, descriptorIndex := 16, attributes := #[] }])
  fields := #[{ name := "serialVersionUID", type := .long, accessFlags := 26, slot := 0, constantValue := 0 }]
  methods := #[k10m0]
  instanceTypes := #[]
  staticTypes := #[.long]
  resolved := Array.replicate 37 none
  statics := none }

def pool11 : Array CpInfo := pool [(1, .class_ 2), (0, u "java/lang/constant/ConstantDesc"), (0, .class_ 4), (0, u "java/lang/Object")] 32

/-- java/lang/constant/ConstantDesc -/
def k11 : Class := { plain "java/lang/constant/ConstantDesc" (some 0) with
  accessFlags := 1537
  interfaces := #[]
  cf := some (fileOf pool11 1 #[] #[] 1537 3 #[] #[])
  fields := #[]
  methods := #[]
  instanceTypes := #[]
  staticTypes := #[]
  resolved := Array.replicate 37 none
  statics := none }

def pool12 : Array CpInfo := pool [(1, .class_ 2), (0, u "java/lang/Long"), (98, u "(J)I"), (133, .class_ 237), (1, u "java/lang/Long$LongCache"), (33, .class_ 272), (0, u "java/lang/Number"), (2, u "value"), (0, u "J"), (37, .long 6148914691236517205), (1, .long 3689348814741910323), (1, .long 1085102592571150095), (42, u "TYPE"), (0, u "Ljava/lang/Class;"), (0, .class_ 364), (0, u "java/lang/Comparable"), (0, .class_ 366), (0, u "java/lang/constant/Constable"), (0, .class_ 368), (0, u "java/lang/constant/ConstantDesc"), (0, u "MIN_VALUE"), (1, u "MAX_VALUE"), (4, u "SIZE"), (0, u "I"), (1, u "BYTES"), (1, u "serialVersionUID"), (94, u "bitCount")] 47

def k12c0 : Code := { maxStack := 6, maxLocals := 2, code := jdk_35_method_50_code, exceptionTable := #[], attributes := #[] }
def k12m0 : Method := { name := "bitCount", desc := "(J)I", sig := { parameters := [.long], returnType := some .int }, accessFlags := 9, code := some k12c0 }
/-- java/lang/Long -/
def k12 : Class := { plain "java/lang/Long" (some 10) with
  accessFlags := 49
  interfaces := #[4, 5, 11]
  cf := some (fileOf pool12 1 #[.nestMembers #[235]] #[{ accessFlags := 9, nameIndex := 476, descriptorIndex := 101, attributes := #[] }] 49 271 #[363, 365, 367] #[{ accessFlags := 25, nameIndex := 369, descriptorIndex := 276, attributes := #[] }, { accessFlags := 25, nameIndex := 371, descriptorIndex := 276, attributes := #[] }, { accessFlags := 25, nameIndex := 361, descriptorIndex := 362, attributes := #[] }, { accessFlags := 18, nameIndex := 275, descriptorIndex := 276, attributes := #[] }, { accessFlags := 25, nameIndex := 376, descriptorIndex := 377, attributes := #[] }, { accessFlags := 25, nameIndex := 379, descriptorIndex := 377, attributes := #[] }, { accessFlags := 26, nameIndex := 381, descriptorIndex := 276, attributes := #[] }])
  fields := #[{ name := "MIN_VALUE", type := .long, accessFlags := 25, slot := 0, constantValue := 0 }, { name := "MAX_VALUE", type := .long, accessFlags := 25, slot := 1, constantValue := 0 }, { name := "TYPE", type := (.object "java/lang/Class"), accessFlags := 25, slot := 2, constantValue := 0 }, { name := "value", type := .long, accessFlags := 18, slot := 0, constantValue := 0 }, { name := "SIZE", type := .int, accessFlags := 25, slot := 3, constantValue := 0 }, { name := "BYTES", type := .int, accessFlags := 25, slot := 4, constantValue := 0 }, { name := "serialVersionUID", type := .long, accessFlags := 26, slot := 5, constantValue := 0 }]
  methods := #[k12m0]
  instanceTypes := #[.long]
  staticTypes := #[.long, .long, (.object "java/lang/Class"), .int, .int, .long]
  resolved := Array.replicate 524 none
  statics := none }

/-- the primitive byte -/
def k13 : Class := { plain "byte" none with kind := .primitive 'B', accessFlags := 0x411 }
/-- [B -/
def k14 : Class := { plain "[B" (some 0) with kind := .array 13 .byte, interfaces := #[7, 3], accessFlags := 1041 }

/-- the primitive int -/
def k15 : Class := { plain "int" none with kind := .primitive 'I', accessFlags := 0x411 }
/-- [I -/
def k16 : Class := { plain "[I" (some 0) with kind := .array 15 .int, interfaces := #[7, 3], accessFlags := 1041 }

/-- the primitive long -/
def k17 : Class := { plain "long" none with kind := .primitive 'J', accessFlags := 0x411 }
/-- [J -/
def k18 : Class := { plain "[J" (some 0) with kind := .array 17 .long, interfaces := #[7, 3], accessFlags := 1041 }

def heap : Heap := #[{ cls := 8, slots := #[.int 0, .int 0, .int 0, .long 0, .null, .long 0, .int 1], vm := .statics 8 }]
def classes : Array Class := #[k0, k1, k2, k3, k4, k5, k6, k7, k8, k9, k10, k11, k12, k13, k14, k15, k16, k17, k18]
def interned : List (Array UInt16 × Addr) := []
def slotsUsed : Nat := 7
def theMethod : MethodId := ⟨1, 2⟩
def args0 : Array Value := #[.int 5, .int 5, .int 5, .int 5, .int 5]
def aboutOver (below : List Frame) : State where
  vm := { classes := classes, interned := interned.toArray }
  heap := heap
  slotsUsed := slotsUsed
  threads := #[{ frames := .invoking theMethod args0 :: below }]
def below0 : List Frame := [.native { method := ⟨0, 0⟩, args := #[] }]
def about1 : State := aboutOver below0
def p0 : Program := .bare "" "" ""
def e0 : Env := launch0.env 0 0 0
theorem w_frames : about1.frames = Frame.invoking theMethod args0 :: below0 := rfl
set_option maxRecDepth 65536 in
theorem w_args : argsFit about1.vm theMethod args0 = true := by decide +kernel
set_option maxRecDepth 65536 in
theorem w_heap : heapFits about1 = true := by decide +kernel
set_option maxRecDepth 65536 in
theorem w_runnable : about1.curStatus? = some .runnable := by decide +kernel
set_option maxRecDepth 65536 in
theorem w_alone : about1.alone = true := by decide +kernel
set_option maxRecDepth 65536 in
theorem w_named : about1.methodNamed? x = some theMethod := by decide +kernel
set_option maxRecDepth 65536 in
theorem w_hears : about1.hears theMethod below0 = true := by decide +kernel
set_option maxRecDepth 65536 in
theorem w_ripe : about1.ripe theMethod args0 below0 = true := by decide +kernel
theorem w_running : about1.status = .running := rfl
set_option maxRecDepth 65536 in
theorem w_room : about1.hasRoom e0.platform room_1 = true :=
  launch0.hasRoom_least _ room_1 (by decide +kernel) (by decide +kernel) (by decide +kernel) (by decide +kernel) (by decide +kernel) (by decide +kernel)
theorem allAtoms_all (ts : List Jvm.Cond) (a : Array Jvm.Value) (st : Jvm.State) : (allAtoms ts).before a st = ts.all (fun c => c.before a st) := by
  induction ts with
  | nil => rfl
  | cons c t ih =>
    show (Jvm.Cond.and c (allAtoms t)).before a st = _
    rw [Jvm.Cond.before_and, ih, List.all_cons]
def words1 : List Jvm.Cond := Jvm.Cond.code x code maxLocals ret :: tables_1
/-- a 'code' word, met by the world's own term for the bytes: nothing is compared byte by byte -/
theorem code_word {y : MethodName} {bytes : ByteArray} {mx : Nat} {rt : Option FieldType} {a : Array Value} {s : State} {m : MethodId} {meth : Method} {c : Code} (h1 : s.methodNamed? y = some m) (h2 : s.vm.method? m = some meth) (h3 : meth.code = some c) (h4 : c.code = bytes)
    (h5 : (c.maxLocals == mx && c.exceptionTable.isEmpty && decide (c.maxStack ≤ mostOperands) && decide (meth.sig.returnType = rt) && !meth.locks && decide (parseMethodDescriptor y.desc = some meth.sig)) = true) : (Jvm.Cond.code y bytes mx rt).before a s = true := by
  simp only [Bool.and_eq_true, beq_iff_eq, Bool.not_eq_true', decide_eq_true_eq] at h5
  obtain ⟨⟨⟨⟨⟨g1, g2⟩, g3⟩, g4⟩, g5⟩, g6⟩ := h5
  simp [Cond.before, Cond.holds, Cond.value, h1, h2, h3, h4, g1, g2, g3, g4, g5, g6]
def isCode : Jvm.Cond → Bool
  | .code _ _ _ _ => true
  | _ => false
theorem all_split {L : List Jvm.Cond} {P : Jvm.Cond → Bool} (h1 : L.all (fun c => isCode c || P c) = true) (h2 : ∀ c ∈ L.filter isCode, P c = true) : L.all P = true := by
  refine List.all_eq_true.mpr fun c hc => ?_
  have h := List.all_eq_true.mp h1 c hc
  rcases Bool.eq_false_or_eq_true (isCode c) with hi | hi
  · exact h2 c (List.mem_filter.mpr ⟨hc, hi⟩)
  · simpa [hi] using h
set_option maxRecDepth 65536 in
theorem w_c0 : (Jvm.Cond.code x code maxLocals ret).before args0 about1 = true := code_word (m := ⟨1, 2⟩) (meth := k1m2) (c := k1c2) (by decide +kernel) rfl rfl rfl (by decide +kernel)
set_option maxRecDepth 65536 in
theorem w_c1 : (Jvm.Cond.code ({ cls := "com/example/input_under_constraint/inputunderconstraint/CodePointSet", name := "range", desc := "(II)Lcom/example/input_under_constraint/inputunderconstraint/CodePointSet;" } : Jvm.MethodName) prog_8_method_4_code (3 : Nat) (Option.some (Jvm.ClassFile.FieldType.object "com/example/input_under_constraint/inputunderconstraint/CodePointSet"))).before args0 about1 = true := code_word (m := ⟨2, 2⟩) (meth := k2m2) (c := k2c2) (by decide +kernel) rfl rfl rfl (by decide +kernel)
set_option maxRecDepth 65536 in
theorem w_c2 : (Jvm.Cond.code ({ cls := "java/lang/Character", name := "isValidCodePoint", desc := "(I)Z" } : Jvm.MethodName) jdk_89_method_11_code (2 : Nat) (Option.some Jvm.ClassFile.FieldType.boolean)).before args0 about1 = true := code_word (m := ⟨6, 0⟩) (meth := k6m0) (c := k6c0) (by decide +kernel) rfl rfl rfl (by decide +kernel)
set_option maxRecDepth 65536 in
theorem w_c3 : (Jvm.Cond.code ({ cls := "java/util/BitSet", name := "<init>", desc := "(I)V" } : Jvm.MethodName) jdk_92_method_5_code (2 : Nat) (Option.none : Option Jvm.ClassFile.FieldType)).before args0 about1 = true := code_word (m := ⟨8, 3⟩) (meth := k8m3) (c := k8c3) (by decide +kernel) rfl rfl rfl (by decide +kernel)
set_option maxRecDepth 65536 in
theorem w_c4 : (Jvm.Cond.code ({ cls := "java/lang/Object", name := "<init>", desc := "()V" } : Jvm.MethodName) object_method_1_code (1 : Nat) (Option.none : Option Jvm.ClassFile.FieldType)).before args0 about1 = true := code_word (m := ⟨0, 0⟩) (meth := k0m0) (c := k0c0) (by decide +kernel) rfl rfl rfl (by decide +kernel)
set_option maxRecDepth 65536 in
theorem w_c5 : (Jvm.Cond.code ({ cls := "java/util/BitSet", name := "initWords", desc := "(I)V" } : Jvm.MethodName) jdk_92_method_6_code (2 : Nat) (Option.none : Option Jvm.ClassFile.FieldType)).before args0 about1 = true := code_word (m := ⟨8, 4⟩) (meth := k8m4) (c := k8c4) (by decide +kernel) rfl rfl rfl (by decide +kernel)
set_option maxRecDepth 65536 in
theorem w_c6 : (Jvm.Cond.code ({ cls := "java/util/BitSet", name := "wordIndex", desc := "(I)I" } : Jvm.MethodName) jdk_92_method_1_code (1 : Nat) (Option.some Jvm.ClassFile.FieldType.int)).before args0 about1 = true := code_word (m := ⟨8, 0⟩) (meth := k8m0) (c := k8c0) (by decide +kernel) rfl rfl rfl (by decide +kernel)
set_option maxRecDepth 65536 in
theorem w_c7 : (Jvm.Cond.code ({ cls := "java/util/BitSet", name := "set", desc := "(II)V" } : Jvm.MethodName) jdk_92_method_21_code (10 : Nat) (Option.none : Option Jvm.ClassFile.FieldType)).before args0 about1 = true := code_word (m := ⟨8, 9⟩) (meth := k8m9) (c := k8c9) (by decide +kernel) rfl rfl rfl (by decide +kernel)
set_option maxRecDepth 65536 in
theorem w_c8 : (Jvm.Cond.code ({ cls := "java/util/BitSet", name := "checkRange", desc := "(II)V" } : Jvm.MethodName) jdk_92_method_16_code (2 : Nat) (Option.none : Option Jvm.ClassFile.FieldType)).before args0 about1 = true := code_word (m := ⟨8, 8⟩) (meth := k8m8) (c := k8c8) (by decide +kernel) rfl rfl rfl (by decide +kernel)
set_option maxRecDepth 65536 in
theorem w_c9 : (Jvm.Cond.code ({ cls := "java/util/BitSet", name := "expandTo", desc := "(I)V" } : Jvm.MethodName) jdk_92_method_15_code (3 : Nat) (Option.none : Option Jvm.ClassFile.FieldType)).before args0 about1 = true := code_word (m := ⟨8, 7⟩) (meth := k8m7) (c := k8c7) (by decide +kernel) rfl rfl rfl (by decide +kernel)
set_option maxRecDepth 65536 in
theorem w_c10 : (Jvm.Cond.code ({ cls := "java/util/BitSet", name := "ensureCapacity", desc := "(I)V" } : Jvm.MethodName) jdk_92_method_14_code (3 : Nat) (Option.none : Option Jvm.ClassFile.FieldType)).before args0 about1 = true := code_word (m := ⟨8, 6⟩) (meth := k8m6) (c := k8c6) (by decide +kernel) rfl rfl rfl (by decide +kernel)
set_option maxRecDepth 65536 in
theorem w_c11 : (Jvm.Cond.code ({ cls := "java/util/BitSet", name := "checkInvariants", desc := "()V" } : Jvm.MethodName) jdk_92_method_2_code (1 : Nat) (Option.none : Option Jvm.ClassFile.FieldType)).before args0 about1 = true := code_word (m := ⟨8, 1⟩) (meth := k8m1) (c := k8c1) (by decide +kernel) rfl rfl rfl (by decide +kernel)
set_option maxRecDepth 65536 in
theorem w_c12 : (Jvm.Cond.code ({ cls := "com/example/input_under_constraint/inputunderconstraint/CodePointSet", name := "<init>", desc := "(Ljava/util/BitSet;)V" } : Jvm.MethodName) prog_8_method_1_code (2 : Nat) (Option.none : Option Jvm.ClassFile.FieldType)).before args0 about1 = true := code_word (m := ⟨2, 0⟩) (meth := k2m0) (c := k2c0) (by decide +kernel) rfl rfl rfl (by decide +kernel)
set_option maxRecDepth 65536 in
theorem w_c13 : (Jvm.Cond.code ({ cls := "java/util/BitSet", name := "toLongArray", desc := "()[J" } : Jvm.MethodName) jdk_92_method_13_code (1 : Nat) (Option.some (Jvm.ClassFile.FieldType.array Jvm.ClassFile.FieldType.long))).before args0 about1 = true := code_word (m := ⟨8, 5⟩) (meth := k8m5) (c := k8c5) (by decide +kernel) rfl rfl rfl (by decide +kernel)
set_option maxRecDepth 65536 in
theorem w_c14 : (Jvm.Cond.code ({ cls := "java/util/Arrays", name := "copyOf", desc := "([JI)[J" } : Jvm.MethodName) jdk_65_method_124_code (3 : Nat) (Option.some (Jvm.ClassFile.FieldType.array Jvm.ClassFile.FieldType.long))).before args0 about1 = true := code_word (m := ⟨9, 1⟩) (meth := k9m1) (c := k9c1) (by decide +kernel) rfl rfl rfl (by decide +kernel)
set_option maxRecDepth 65536 in
theorem w_c15 : (Jvm.Cond.code ({ cls := "com/example/input_under_constraint/inputunderconstraint/CodePointSet", name := "<init>", desc := "([J)V" } : Jvm.MethodName) prog_8_method_2_code (2 : Nat) (Option.none : Option Jvm.ClassFile.FieldType)).before args0 about1 = true := code_word (m := ⟨2, 1⟩) (meth := k2m1) (c := k2c1) (by decide +kernel) rfl rfl rfl (by decide +kernel)
set_option maxRecDepth 65536 in
theorem w_c16 : (Jvm.Cond.code ({ cls := "com/example/input_under_constraint/inputunderconstraint/CodePointSet", name := "contains", desc := "(I)Z" } : Jvm.MethodName) prog_8_method_6_code (3 : Nat) (Option.some Jvm.ClassFile.FieldType.boolean)).before args0 about1 = true := code_word (m := ⟨2, 3⟩) (meth := k2m3) (c := k2c3) (by decide +kernel) rfl rfl rfl (by decide +kernel)
set_option maxRecDepth 65536 in
theorem w_c17 : (Jvm.Cond.code ({ cls := "com/example/input_under_constraint/inputunderconstraint/CodePointSetRangePinLaw", name := "inRange", desc := "(III)Z" } : Jvm.MethodName) method_2_code (3 : Nat) (Option.some Jvm.ClassFile.FieldType.boolean)).before args0 about1 = true := code_word (m := ⟨1, 1⟩) (meth := k1m1) (c := k1c1) (by decide +kernel) rfl rfl rfl (by decide +kernel)
set_option maxRecDepth 65536 in
theorem w_c18 : (Jvm.Cond.code ({ cls := "com/example/input_under_constraint/inputunderconstraint/CodePointSet", name := "size", desc := "()I" } : Jvm.MethodName) prog_8_method_7_code (7 : Nat) (Option.some Jvm.ClassFile.FieldType.int)).before args0 about1 = true := code_word (m := ⟨2, 4⟩) (meth := k2m4) (c := k2c4) (by decide +kernel) rfl rfl rfl (by decide +kernel)
set_option maxRecDepth 65536 in
theorem w_c19 : (Jvm.Cond.code ({ cls := "java/lang/Long", name := "bitCount", desc := "(J)I" } : Jvm.MethodName) jdk_35_method_50_code (2 : Nat) (Option.some Jvm.ClassFile.FieldType.int)).before args0 about1 = true := code_word (m := ⟨12, 0⟩) (meth := k12m0) (c := k12c0) (by decide +kernel) rfl rfl rfl (by decide +kernel)
def codes1 : List Jvm.Cond := [Jvm.Cond.code x code maxLocals ret, Jvm.Cond.code ({ cls := "com/example/input_under_constraint/inputunderconstraint/CodePointSet", name := "range", desc := "(II)Lcom/example/input_under_constraint/inputunderconstraint/CodePointSet;" } : Jvm.MethodName) prog_8_method_4_code (3 : Nat) (Option.some (Jvm.ClassFile.FieldType.object "com/example/input_under_constraint/inputunderconstraint/CodePointSet")), Jvm.Cond.code ({ cls := "java/lang/Character", name := "isValidCodePoint", desc := "(I)Z" } : Jvm.MethodName) jdk_89_method_11_code (2 : Nat) (Option.some Jvm.ClassFile.FieldType.boolean), Jvm.Cond.code ({ cls := "java/util/BitSet", name := "<init>", desc := "(I)V" } : Jvm.MethodName) jdk_92_method_5_code (2 : Nat) (Option.none : Option Jvm.ClassFile.FieldType), Jvm.Cond.code ({ cls := "java/lang/Object", name := "<init>", desc := "()V" } : Jvm.MethodName) object_method_1_code (1 : Nat) (Option.none : Option Jvm.ClassFile.FieldType), Jvm.Cond.code ({ cls := "java/util/BitSet", name := "initWords", desc := "(I)V" } : Jvm.MethodName) jdk_92_method_6_code (2 : Nat) (Option.none : Option Jvm.ClassFile.FieldType), Jvm.Cond.code ({ cls := "java/util/BitSet", name := "wordIndex", desc := "(I)I" } : Jvm.MethodName) jdk_92_method_1_code (1 : Nat) (Option.some Jvm.ClassFile.FieldType.int), Jvm.Cond.code ({ cls := "java/util/BitSet", name := "set", desc := "(II)V" } : Jvm.MethodName) jdk_92_method_21_code (10 : Nat) (Option.none : Option Jvm.ClassFile.FieldType), Jvm.Cond.code ({ cls := "java/util/BitSet", name := "checkRange", desc := "(II)V" } : Jvm.MethodName) jdk_92_method_16_code (2 : Nat) (Option.none : Option Jvm.ClassFile.FieldType), Jvm.Cond.code ({ cls := "java/util/BitSet", name := "expandTo", desc := "(I)V" } : Jvm.MethodName) jdk_92_method_15_code (3 : Nat) (Option.none : Option Jvm.ClassFile.FieldType), Jvm.Cond.code ({ cls := "java/util/BitSet", name := "ensureCapacity", desc := "(I)V" } : Jvm.MethodName) jdk_92_method_14_code (3 : Nat) (Option.none : Option Jvm.ClassFile.FieldType), Jvm.Cond.code ({ cls := "java/util/BitSet", name := "checkInvariants", desc := "()V" } : Jvm.MethodName) jdk_92_method_2_code (1 : Nat) (Option.none : Option Jvm.ClassFile.FieldType), Jvm.Cond.code ({ cls := "com/example/input_under_constraint/inputunderconstraint/CodePointSet", name := "<init>", desc := "(Ljava/util/BitSet;)V" } : Jvm.MethodName) prog_8_method_1_code (2 : Nat) (Option.none : Option Jvm.ClassFile.FieldType), Jvm.Cond.code ({ cls := "java/util/BitSet", name := "toLongArray", desc := "()[J" } : Jvm.MethodName) jdk_92_method_13_code (1 : Nat) (Option.some (Jvm.ClassFile.FieldType.array Jvm.ClassFile.FieldType.long)), Jvm.Cond.code ({ cls := "java/util/Arrays", name := "copyOf", desc := "([JI)[J" } : Jvm.MethodName) jdk_65_method_124_code (3 : Nat) (Option.some (Jvm.ClassFile.FieldType.array Jvm.ClassFile.FieldType.long)), Jvm.Cond.code ({ cls := "com/example/input_under_constraint/inputunderconstraint/CodePointSet", name := "<init>", desc := "([J)V" } : Jvm.MethodName) prog_8_method_2_code (2 : Nat) (Option.none : Option Jvm.ClassFile.FieldType), Jvm.Cond.code ({ cls := "com/example/input_under_constraint/inputunderconstraint/CodePointSet", name := "contains", desc := "(I)Z" } : Jvm.MethodName) prog_8_method_6_code (3 : Nat) (Option.some Jvm.ClassFile.FieldType.boolean), Jvm.Cond.code ({ cls := "com/example/input_under_constraint/inputunderconstraint/CodePointSetRangePinLaw", name := "inRange", desc := "(III)Z" } : Jvm.MethodName) method_2_code (3 : Nat) (Option.some Jvm.ClassFile.FieldType.boolean), Jvm.Cond.code ({ cls := "com/example/input_under_constraint/inputunderconstraint/CodePointSet", name := "size", desc := "()I" } : Jvm.MethodName) prog_8_method_7_code (7 : Nat) (Option.some Jvm.ClassFile.FieldType.int), Jvm.Cond.code ({ cls := "java/lang/Long", name := "bitCount", desc := "(J)I" } : Jvm.MethodName) jdk_35_method_50_code (2 : Nat) (Option.some Jvm.ClassFile.FieldType.int)]
set_option maxRecDepth 65536 in
theorem codes_eq : words1.filter isCode = codes1 := rfl
theorem w_codes : ∀ c ∈ words1.filter isCode, c.before args0 about1 = true := by
  rw [codes_eq]
  intro c hc
  simp only [codes1, List.mem_cons, List.not_mem_nil, or_false] at hc
  rcases hc with rfl | rfl | rfl | rfl | rfl | rfl | rfl | rfl | rfl | rfl | rfl | rfl | rfl | rfl | rfl | rfl | rfl | rfl | rfl | rfl
  · exact w_c0
  · exact w_c1
  · exact w_c2
  · exact w_c3
  · exact w_c4
  · exact w_c5
  · exact w_c6
  · exact w_c7
  · exact w_c8
  · exact w_c9
  · exact w_c10
  · exact w_c11
  · exact w_c12
  · exact w_c13
  · exact w_c14
  · exact w_c15
  · exact w_c16
  · exact w_c17
  · exact w_c18
  · exact w_c19
set_option maxRecDepth 65536 in
theorem w_t1 : (words1.take 24).all (fun c => isCode c || c.before args0 about1) = true := by decide +kernel
set_option maxRecDepth 65536 in
theorem w_t2 : ((words1.drop 24).take 24).all (fun c => isCode c || c.before args0 about1) = true := by decide +kernel
set_option maxRecDepth 65536 in
theorem w_t3 : (((words1.drop 24).drop 24).take 24).all (fun c => isCode c || c.before args0 about1) = true := by decide +kernel
set_option maxRecDepth 65536 in
theorem w_t4 : ((((words1.drop 24).drop 24).drop 24).take 24).all (fun c => isCode c || c.before args0 about1) = true := by decide +kernel
set_option maxRecDepth 65536 in
theorem w_t5 : ((((words1.drop 24).drop 24).drop 24).drop 24).all (fun c => isCode c || c.before args0 about1) = true := by decide +kernel
theorem w_tables : (allAtoms (Jvm.Cond.code x code maxLocals ret :: tables_1)).before args0 about1 = true := by
  rw [allAtoms_all]
  show words1.all (fun c => c.before args0 about1) = true
  refine all_split ?_ w_codes
  rw [← List.take_append_drop 24 words1, List.all_append, w_t1, ← List.take_append_drop 24 (words1.drop 24), List.all_append, w_t2, ← List.take_append_drop 24 ((words1.drop 24).drop 24), List.all_append, w_t3, ← List.take_append_drop 24 (((words1.drop 24).drop 24).drop 24), List.all_append, w_t4, w_t5]
  rfl
set_option maxRecDepth 65536 in
theorem w_rest : rest_1_c.before args0 about1 = true := by decide +kernel
set_option maxRecDepth 65536 in
theorem w_case : (Jvm.Cond.and given_1 narrow_1).before args0 about1 = true := by decide +kernel
theorem w_applies : (headSpec (Jvm.Cond.code x code maxLocals ret :: tables_1) room_1).applies x e0.platform about1 = true :=
  (Spec.applies_iff w_frames).mpr ⟨w_running, w_runnable, w_alone, w_named, w_hears, w_ripe, w_room, w_tables⟩
theorem atStart : AtStart classFile x code maxLocals ret World_1 tables_1 room_1 Calls_1 rest_1 Pre_1 launch0 p0 e0 about1 theMethod args0 below0 :=
  ⟨lists_1, trivial, launch0.admits_env _ _ _, launch0.least_env, fairChoices_fair.cas, fairChoices_fair.clock, w_frames, w_args, w_heap, w_applies, trivial, w_rest, w_case⟩
end start1
theorem witness_1 : WitnessClaimed_1 := ⟨start1.p0, start1.e0, start1.about1, start1.theMethod, start1.args0, start1.below0, start1.atStart⟩
end Jvm.Pilot.@@N@@
