import JvmDerived
import JvmDerived.Pilot.@@N@@Statement
import JvmDerived.Pilot.@@N@@Code
set_option linter.unusedVariables false
set_option linter.unusedSimpArgs false
namespace Jvm.Pilot.@@N@@
open Jvm Jvm.ClassFile Sem Op Lib Jvm.Free Jvm.Stand Jvm.LawKit Jvm.RoadKit Bundle Jvm.Pilot.@@N@@.Jvm.D

section Layer
variable {p : Program} {l : Launch} {e : Env} {R : Room} {s : State} {m : MethodId} {args : Array Value} {below : List Frame} {meth : Method} {c : Code} {bytes : ByteArray} {mxl : Nat} {rt : Option FieldType} {Z : State} {a0 : Array Value} {EL : List (String × Nat)} {own : String} {n0 : Nat} {h0 : Heap} {ws : List Addr} {S0 : State} {V : Vm} {h : Heap} {cells slots pc pc' : Nat} {L : Array Slot} {st : List Value}
/-- where a walk stands: V the tables on which it is based, h its heap, g its frame -/
def Wk (p : Program) (l : Launch) (e : Env) (R : Room) (s : State) (m : MethodId) (args : Array Value) (below : List Frame) (meth : Method) (c : Code) (bytes : ByteArray) (mxl : Nat) (rt : Option FieldType) (Z : State) (a0 : Array Value) (EL : List (String × Nat)) (own : String) (n0 : Nat) (h0 : Heap) (ws : List Addr) (S0 : State) (V : Vm) (h : Heap) (cells slots : Nat) (g : JFrame) : Prop :=
  (p.tables.exec = Jvm.exec ∧ c.code = bytes ∧ c.maxLocals = mxl ∧ meth.sig.returnType = rt ∧ meth.locks = false ∧ EW Z a0 EL ∧ (∀ x ∈ ws, n0 ≤ x) ∧ n0 ≤ h0.size ∧ s.heap = h0 ∧ Old Z n0 h0) ∧
  (Z.Warmed39 V ∧ V.findClass own = some m.cls ∧ (∃ k, s.Since V k ∧ k ≤ h.size) ∧ Old Z n0 h ∧ CHr Z EL s.vm h0 V h ∧ Keep h0 h ws) ∧
  ∃ (T : State) (locs : List Loc), Stand p l e R (s.setVm V) m args below meth c T locs cells slots ∧ T.heap = h ∧ Fr n0 locs ∧ ∀ t, Steps p.tables e below (T.setTop g) t → Steps p.tables e below S0 t
theorem Wk.plain {g g' : JFrame} (W : Wk p l e R s m args below meth c bytes mxl rt Z a0 EL own n0 h0 ws S0 V h cells slots g) (f : ∀ (T : State), At T m c below → p.tables.exec = Jvm.exec → c.code = bytes → ∀ t, Steps p.tables e below (T.setTop g') t → Steps p.tables e below (T.setTop g) t) : Wk p l e R s m args below meth c bytes mxl rt Z a0 EL own n0 h0 ws S0 V h cells slots g' := by
  obtain ⟨a, b, T, locs, X, eT, N, k⟩ := W
  exact ⟨a, b, T, locs, X, eT, N, fun t q => k t (f T X.here a.1 a.2.1 t q)⟩
/-- a step that reads the tables and leaves the heap -/
theorem Wk.reads {g g' : JFrame} (W : Wk p l e R s m args below meth c bytes mxl rt Z a0 EL own n0 h0 ws S0 V h cells slots g) (f : ∀ (T : State) (locs : List Loc), Stand p l e R (s.setVm V) m args below meth c T locs cells slots → T.heap = h → p.tables.exec = Jvm.exec → c.code = bytes → Z.Warmed39 (s.setVm V).vm → (s.setVm V).vm.findClass own = some m.cls → ∃ T', Stand p l e R (s.setVm V) m args below meth c T' locs cells slots ∧ T'.heap = h ∧ ∀ t, Steps p.tables e below (T'.setTop g') t → Steps p.tables e below (T.setTop g) t) : Wk p l e R s m args below meth c bytes mxl rt Z a0 EL own n0 h0 ws S0 V h cells slots g' := by
  obtain ⟨a, b, T, locs, X, eT, N, k⟩ := W
  obtain ⟨T', X', eT', q⟩ := f T locs X eT a.1 a.2.1 b.1 b.2.1
  exact ⟨a, b, T', locs, X', eT', N, fun t z => k t (q t z)⟩
theorem Wk.cast {st' : List Value} (W : Wk p l e R s m args below meth c bytes mxl rt Z a0 EL own n0 h0 ws S0 V h cells slots (mkF m pc L st)) (q : st = st') : Wk p l e R s m args below meth c bytes mxl rt Z a0 EL own n0 h0 ws S0 V h cells slots (mkF m pc L st') := by subst q; exact W
theorem Wk.castL {L' : Array Slot} (W : Wk p l e R s m args below meth c bytes mxl rt Z a0 EL own n0 h0 ws S0 V h cells slots (mkF m pc L st)) (q : L = L') : Wk p l e R s m args below meth c bytes mxl rt Z a0 EL own n0 h0 ws S0 V h cells slots (mkF m pc L' st) := by subst q; exact W
theorem Wk.more {g : JFrame} {cells' slots' : Nat} (W : Wk p l e R s m args below meth c bytes mxl rt Z a0 EL own n0 h0 ws S0 V h cells slots g) (hc : cells ≤ cells') (hs : slots ≤ slots') : Wk p l e R s m args below meth c bytes mxl rt Z a0 EL own n0 h0 ws S0 V h cells' slots' g := by
  obtain ⟨a, b, T, locs, X, eT, N, k⟩ := W
  exact ⟨a, b, T, locs, X.mono hc hs, eT, N, k⟩
theorem Wk.alike {g : JFrame} (W : Wk p l e R s m args below meth c bytes mxl rt Z a0 EL own n0 h0 ws S0 V h cells slots g) : Z.vm.Alike V := W.2.1.1.alike
theorem Wk.old {g : JFrame} (W : Wk p l e R s m args below meth c bytes mxl rt Z a0 EL own n0 h0 ws S0 V h cells slots g) : Old Z n0 h := W.2.1.2.2.2.1
theorem Wk.n0le {g : JFrame} (W : Wk p l e R s m args below meth c bytes mxl rt Z a0 EL own n0 h0 ws S0 V h cells slots g) : n0 ≤ h.size := by have q := W.old; rw [← q.1]; exact q.2.1
theorem Wk.kept {g : JFrame} (W : Wk p l e R s m args below meth c bytes mxl rt Z a0 EL own n0 h0 ws S0 V h cells slots g) : Keep h0 h ws := W.2.1.2.2.2.2.2
theorem Wk.chv {g : JFrame} (W : Wk p l e R s m args below meth c bytes mxl rt Z a0 EL own n0 h0 ws S0 V h cells slots g) : CHv Z EL V h := W.2.1.2.2.2.2.1.1
theorem Wk.el {g : JFrame} (W : Wk p l e R s m args below meth c bytes mxl rt Z a0 EL own n0 h0 ws S0 V h cells slots g) : EW Z a0 EL := W.1.2.2.2.2.2.1
theorem Wk.sta {g : JFrame} (W : Wk p l e R s m args below meth c bytes mxl rt Z a0 EL own n0 h0 ws S0 V h cells slots g) {C n d : String} {v : Value} (S : Sta Z Z.heap C n d v) : Sta Z h C n d v := S.ext W.old.2
/-- an object of a class that no constant is of -/
theorem Wk.safeE {g : JFrame} (W : Wk p l e R s m args below meth c bytes mxl rt Z a0 EL own n0 h0 ws S0 V h cells slots g) {a : Addr} {C : String} (E : Exa Z h a C) (h1 : C ≠ "java/lang/String") (h2 : C ≠ "[B") : Safe Z EL V h a := Safe.exa W.alike E h1 h2
theorem Wk.safeA {g : JFrame} (W : Wk p l e R s m args below meth c bytes mxl rt Z a0 EL own n0 h0 ws S0 V h cells slots g) {a : Addr} {k : ClassId} {ty : FieldType} {z : Int32} {vs : List Value} {dv : Value} (A : Arv Z h a k ty z vs dv) (ht : ty ≠ .byte) : Safe Z EL V h a := Safe.arv W.alike A ht
/-- a write has been made at a -/
theorem Wk.wrote {g g' : JFrame} {h' : Heap} {a : Addr} {sl : Nat} {v : Value} {cells' slots' : Nat} (W : Wk p l e R s m args below meth c bytes mxl rt Z a0 EL own n0 h0 ws S0 V h cells slots g) (sf : Safe Z EL V h a) (q : a ∈ ws ∨ h0.size ≤ a) (f : ∀ (T : State) (locs : List Loc), Stand p l e R (s.setVm V) m args below meth c T locs cells slots → T.heap = h → p.tables.exec = Jvm.exec → c.code = bytes → Z.Warmed39 (s.setVm V).vm → (s.setVm V).vm.findClass own = some m.cls → ∃ T' h', Stand p l e R (s.setVm V) m args below meth c T' (locs ++ [⟨a, sl⟩]) cells slots ∧ T'.heap = h' ∧ Wr h h' a sl v ∧ ∀ t, Steps p.tables e below (T'.setTop g') t → Steps p.tables e below (T.setTop g) t) :
    ∃ h', Wk p l e R s m args below meth c bytes mxl rt Z a0 EL own n0 h0 ws S0 V h' cells slots g' ∧ Wr h h' a sl v ∧ ∀ x, Safe Z EL V h x → Safe Z EL V h' x := by
  obtain ⟨a1, b, T, locs, X, eT, N, k⟩ := W
  obtain ⟨T', h', X', eT', w, st⟩ := f T locs X eT a1.1 a1.2.1 b.1 b.2.1
  have hge : n0 ≤ a := q.elim (fun z => a1.2.2.2.2.2.2.1 a z) (fun z => Nat.le_trans a1.2.2.2.2.2.2.2.1 z)
  obtain ⟨k0, hS, hk⟩ := b.2.2.1
  have hsz : h.size ≤ h'.size := Nat.le_of_eq w.size.symm
  refine ⟨h', ⟨a1, ⟨b.1, b.2.1, ⟨k0, hS, Nat.le_trans hk hsz⟩, b.2.2.2.1.wr w hge, b.2.2.2.2.1.trans (CHr.wr w sf b.2.2.2.2.1.1), b.2.2.2.2.2.wr w q⟩, T', _, X', eT', Fr.snoc X' N hge, fun t z => k t (st t z)⟩, w, fun x sx => Safe.wr w sf b.2.2.2.2.1.1 sx⟩
/-- something has been made at the heap's end -/
theorem Wk.grew {g : JFrame} {G : Addr → JFrame} {cells' slots' : Nat} {Q : Heap → Prop} (W : Wk p l e R s m args below meth c bytes mxl rt Z a0 EL own n0 h0 ws S0 V h cells slots g) (f : ∀ (T : State) (locs : List Loc), Stand p l e R (s.setVm V) m args below meth c T locs cells slots → T.heap = h → p.tables.exec = Jvm.exec → c.code = bytes → Z.Warmed39 (s.setVm V).vm → (s.setVm V).vm.findClass own = some m.cls → ∃ T' h', Stand p l e R (s.setVm V) m args below meth c T' locs cells' slots' ∧ T'.heap = h' ∧ Ext h h' ∧ Q h' ∧ ∀ t, Steps p.tables e below (T'.setTop (G h.size)) t → Steps p.tables e below (T.setTop g) t) :
    ∃ h' a, Wk p l e R s m args below meth c bytes mxl rt Z a0 EL own n0 h0 ws S0 V h' cells' slots' (G a) ∧ Ext h h' ∧ a = h.size ∧ Q h' ∧ Safe Z EL V h' a ∧ ∀ x, Safe Z EL V h x → Safe Z EL V h' x := by
  obtain ⟨a1, b, T, locs, X, eT, N, k⟩ := W
  obtain ⟨T', h', X', eT', E, q, st⟩ := f T locs X eT a1.1 a1.2.1 b.1 b.2.1
  obtain ⟨k0, hS, hk⟩ := b.2.2.1
  have H := b.2.2.2.2.1.1
  exact ⟨h', h.size, ⟨a1, ⟨b.1, b.2.1, ⟨k0, hS, Nat.le_trans hk E.1⟩, b.2.2.2.1.ext E, b.2.2.2.2.1.trans (CHr.ext E H), b.2.2.2.2.2.ext E⟩, T', _, X', eT', N, fun t z => k t (st t z)⟩, E, rfl, q, Safe.ext E H (Safe.new (Nat.le_refl _)), fun x sx => Safe.ext E H sx⟩

theorem Wk.aloadN {k : Fin 4} {v : Value} (W : Wk p l e R s m args below meth c bytes mxl rt Z a0 EL own n0 h0 ws S0 V h cells slots (mkF m pc L st)) (hd : decode bytes pc = .ok (.aload_n k, 1)) (hl : L[k.val]? = some (.val v)) (hv : v.isRef = true) (hp : pc + 1 = pc') : Wk p l e R s m args below meth c bytes mxl rt Z a0 EL own n0 h0 ws S0 V h cells slots (mkF m pc' L (v :: st)) := by
  subst hp
  exact W.plain fun T hq hx hby t k => XS.aloadN hq hx rfl (hb hby hd) hl hv k
theorem Wk.aload {k : Nat} {v : Value} (W : Wk p l e R s m args below meth c bytes mxl rt Z a0 EL own n0 h0 ws S0 V h cells slots (mkF m pc L st)) (hd : decode bytes pc = .ok (.aload k, 2)) (hl : L[k]? = some (.val v)) (hv : v.isRef = true) (hp : pc + 2 = pc') : Wk p l e R s m args below meth c bytes mxl rt Z a0 EL own n0 h0 ws S0 V h cells slots (mkF m pc' L (v :: st)) := by
  subst hp
  exact W.plain fun T hq hx hby t k => XS.aload hq hx rfl (hb hby hd) hl hv k
theorem Wk.iloadN {k : Fin 4} {v : Int32} (W : Wk p l e R s m args below meth c bytes mxl rt Z a0 EL own n0 h0 ws S0 V h cells slots (mkF m pc L st)) (hd : decode bytes pc = .ok (.iload_n k, 1)) (hl : L[k.val]? = some (.val (.int v))) (hp : pc + 1 = pc') : Wk p l e R s m args below meth c bytes mxl rt Z a0 EL own n0 h0 ws S0 V h cells slots (mkF m pc' L (.int v :: st)) := by
  subst hp
  exact W.plain fun T hq hx hby t k => XS.iloadN hq hx rfl (hb hby hd) hl k
theorem Wk.iload {k : Nat} {v : Int32} (W : Wk p l e R s m args below meth c bytes mxl rt Z a0 EL own n0 h0 ws S0 V h cells slots (mkF m pc L st)) (hd : decode bytes pc = .ok (.iload k, 2)) (hl : L[k]? = some (.val (.int v))) (hp : pc + 2 = pc') : Wk p l e R s m args below meth c bytes mxl rt Z a0 EL own n0 h0 ws S0 V h cells slots (mkF m pc' L (.int v :: st)) := by
  subst hp
  exact W.plain fun T hq hx hby t k => XS.iload hq hx rfl (hb hby hd) hl k
theorem Wk.lloadN {k : Fin 4} {v : Int64} (W : Wk p l e R s m args below meth c bytes mxl rt Z a0 EL own n0 h0 ws S0 V h cells slots (mkF m pc L st)) (hd : decode bytes pc = .ok (.lload_n k, 1)) (hl : L[k.val]? = some (.val (.long v))) (hp : pc + 1 = pc') : Wk p l e R s m args below meth c bytes mxl rt Z a0 EL own n0 h0 ws S0 V h cells slots (mkF m pc' L (.long v :: st)) := by
  subst hp
  exact W.plain fun T hq hx hby t k => Jvm.Free.XT.lloadN hq hx rfl (hb hby hd) hl k
theorem Wk.lload {k : Nat} {v : Int64} (W : Wk p l e R s m args below meth c bytes mxl rt Z a0 EL own n0 h0 ws S0 V h cells slots (mkF m pc L st)) (hd : decode bytes pc = .ok (.lload k, 2)) (hl : L[k]? = some (.val (.long v))) (hp : pc + 2 = pc') : Wk p l e R s m args below meth c bytes mxl rt Z a0 EL own n0 h0 ws S0 V h cells slots (mkF m pc' L (.long v :: st)) := by
  subst hp
  exact W.plain fun T hq hx hby t k => Jvm.Free.XT.lload hq hx rfl (hb hby hd) hl k
theorem Wk.iconst {i : Int} {v : Int32} (W : Wk p l e R s m args below meth c bytes mxl rt Z a0 EL own n0 h0 ws S0 V h cells slots (mkF m pc L st)) (hd : decode bytes pc = .ok (.iconst i, 1)) (hv : Int32.ofInt i = v) (hp : pc + 1 = pc') : Wk p l e R s m args below meth c bytes mxl rt Z a0 EL own n0 h0 ws S0 V h cells slots (mkF m pc' L (.int v :: st)) := by
  subst hv hp
  exact W.plain fun T hq hx hby t k => XS.iconst hq hx rfl (hb hby hd)  k
theorem Wk.bipush {i : Int} {v : Int32} (W : Wk p l e R s m args below meth c bytes mxl rt Z a0 EL own n0 h0 ws S0 V h cells slots (mkF m pc L st)) (hd : decode bytes pc = .ok (.bipush i, 2)) (hv : (Int8.ofInt i).toInt32 = v) (hp : pc + 2 = pc') : Wk p l e R s m args below meth c bytes mxl rt Z a0 EL own n0 h0 ws S0 V h cells slots (mkF m pc' L (.int v :: st)) := by
  subst hv hp
  exact W.plain fun T hq hx hby t k => XS.bipush hq hx rfl (hb hby hd)  k
theorem Wk.sipush {i : Int} {v : Int32} (W : Wk p l e R s m args below meth c bytes mxl rt Z a0 EL own n0 h0 ws S0 V h cells slots (mkF m pc L st)) (hd : decode bytes pc = .ok (.sipush i, 3)) (hv : (Int16.ofInt i).toInt32 = v) (hp : pc + 3 = pc') : Wk p l e R s m args below meth c bytes mxl rt Z a0 EL own n0 h0 ws S0 V h cells slots (mkF m pc' L (.int v :: st)) := by
  subst hv hp
  exact W.plain fun T hq hx hby t k => XS.sipush hq hx rfl (hb hby hd)  k
theorem Wk.lconst {k : Fin 2} {v : Int64} (W : Wk p l e R s m args below meth c bytes mxl rt Z a0 EL own n0 h0 ws S0 V h cells slots (mkF m pc L st)) (hd : decode bytes pc = .ok (.lconst k, 1)) (hv : Int64.ofNat k = v) (hp : pc + 1 = pc') : Wk p l e R s m args below meth c bytes mxl rt Z a0 EL own n0 h0 ws S0 V h cells slots (mkF m pc' L (.long v :: st)) := by
  subst hv hp
  exact W.plain fun T hq hx hby t k => Jvm.Free.XT.lconst hq hx rfl (hb hby hd)  k
theorem Wk.aconstNull  (W : Wk p l e R s m args below meth c bytes mxl rt Z a0 EL own n0 h0 ws S0 V h cells slots (mkF m pc L st)) (hd : decode bytes pc = .ok (.aconst_null, 1))  (hp : pc + 1 = pc') : Wk p l e R s m args below meth c bytes mxl rt Z a0 EL own n0 h0 ws S0 V h cells slots (mkF m pc' L (.null :: st)) := by
  subst hp
  exact W.plain fun T hq hx hby t k => XS.aconstNull hq hx rfl (hb hby hd)  k
theorem Wk.iadd {x y v : Int32} (W : Wk p l e R s m args below meth c bytes mxl rt Z a0 EL own n0 h0 ws S0 V h cells slots (mkF m pc L (.int y :: .int x :: st))) (hd : decode bytes pc = .ok (.iadd, 1)) (hv : x + y = v) (hp : pc + 1 = pc') : Wk p l e R s m args below meth c bytes mxl rt Z a0 EL own n0 h0 ws S0 V h cells slots (mkF m pc' L (.int v :: st)) := by
  subst hv hp
  exact W.plain fun T hq hx hby t k => XS.iadd hq hx rfl (hb hby hd) rfl k
theorem Wk.isub {x y v : Int32} (W : Wk p l e R s m args below meth c bytes mxl rt Z a0 EL own n0 h0 ws S0 V h cells slots (mkF m pc L (.int y :: .int x :: st))) (hd : decode bytes pc = .ok (.isub, 1)) (hv : x - y = v) (hp : pc + 1 = pc') : Wk p l e R s m args below meth c bytes mxl rt Z a0 EL own n0 h0 ws S0 V h cells slots (mkF m pc' L (.int v :: st)) := by
  subst hv hp
  exact W.plain fun T hq hx hby t k => XS.isub hq hx rfl (hb hby hd) rfl k
theorem Wk.imul {x y v : Int32} (W : Wk p l e R s m args below meth c bytes mxl rt Z a0 EL own n0 h0 ws S0 V h cells slots (mkF m pc L (.int y :: .int x :: st))) (hd : decode bytes pc = .ok (.imul, 1)) (hv : x * y = v) (hp : pc + 1 = pc') : Wk p l e R s m args below meth c bytes mxl rt Z a0 EL own n0 h0 ws S0 V h cells slots (mkF m pc' L (.int v :: st)) := by
  subst hv hp
  exact W.plain fun T hq hx hby t k => XS.imul hq hx rfl (hb hby hd) rfl k
theorem Wk.iand {x y v : Int32} (W : Wk p l e R s m args below meth c bytes mxl rt Z a0 EL own n0 h0 ws S0 V h cells slots (mkF m pc L (.int y :: .int x :: st))) (hd : decode bytes pc = .ok (.iand, 1)) (hv : x &&& y = v) (hp : pc + 1 = pc') : Wk p l e R s m args below meth c bytes mxl rt Z a0 EL own n0 h0 ws S0 V h cells slots (mkF m pc' L (.int v :: st)) := by
  subst hv hp
  exact W.plain fun T hq hx hby t k => XS.iand hq hx rfl (hb hby hd) rfl k
theorem Wk.ior {x y v : Int32} (W : Wk p l e R s m args below meth c bytes mxl rt Z a0 EL own n0 h0 ws S0 V h cells slots (mkF m pc L (.int y :: .int x :: st))) (hd : decode bytes pc = .ok (.ior, 1)) (hv : x ||| y = v) (hp : pc + 1 = pc') : Wk p l e R s m args below meth c bytes mxl rt Z a0 EL own n0 h0 ws S0 V h cells slots (mkF m pc' L (.int v :: st)) := by
  subst hv hp
  exact W.plain fun T hq hx hby t k => Jvm.Free.XT.ior hq hx rfl (hb hby hd) rfl k
theorem Wk.ixor {x y v : Int32} (W : Wk p l e R s m args below meth c bytes mxl rt Z a0 EL own n0 h0 ws S0 V h cells slots (mkF m pc L (.int y :: .int x :: st))) (hd : decode bytes pc = .ok (.ixor, 1)) (hv : x ^^^ y = v) (hp : pc + 1 = pc') : Wk p l e R s m args below meth c bytes mxl rt Z a0 EL own n0 h0 ws S0 V h cells slots (mkF m pc' L (.int v :: st)) := by
  subst hv hp
  exact W.plain fun T hq hx hby t k => Jvm.Free.XT.ixor hq hx rfl (hb hby hd) rfl k
theorem Wk.ishl {x y v : Int32} (W : Wk p l e R s m args below meth c bytes mxl rt Z a0 EL own n0 h0 ws S0 V h cells slots (mkF m pc L (.int y :: .int x :: st))) (hd : decode bytes pc = .ok (.ishl, 1)) (hv : x <<< (y &&& 31) = v) (hp : pc + 1 = pc') : Wk p l e R s m args below meth c bytes mxl rt Z a0 EL own n0 h0 ws S0 V h cells slots (mkF m pc' L (.int v :: st)) := by
  subst hv hp
  exact W.plain fun T hq hx hby t k => Jvm.Free.XT.ishl hq hx rfl (hb hby hd) rfl k
theorem Wk.ishr {x y v : Int32} (W : Wk p l e R s m args below meth c bytes mxl rt Z a0 EL own n0 h0 ws S0 V h cells slots (mkF m pc L (.int y :: .int x :: st))) (hd : decode bytes pc = .ok (.ishr, 1)) (hv : x >>> (y &&& 31) = v) (hp : pc + 1 = pc') : Wk p l e R s m args below meth c bytes mxl rt Z a0 EL own n0 h0 ws S0 V h cells slots (mkF m pc' L (.int v :: st)) := by
  subst hv hp
  exact W.plain fun T hq hx hby t k => Jvm.Free.XT.ishr hq hx rfl (hb hby hd) rfl k
theorem Wk.iushr {x y v : Int32} (W : Wk p l e R s m args below meth c bytes mxl rt Z a0 EL own n0 h0 ws S0 V h cells slots (mkF m pc L (.int y :: .int x :: st))) (hd : decode bytes pc = .ok (.iushr, 1)) (hv : Jvm.Free.XT.ushr x y = v) (hp : pc + 1 = pc') : Wk p l e R s m args below meth c bytes mxl rt Z a0 EL own n0 h0 ws S0 V h cells slots (mkF m pc' L (.int v :: st)) := by
  subst hv hp
  exact W.plain fun T hq hx hby t k => Jvm.Free.XT.iushr hq hx rfl (hb hby hd) rfl k
theorem Wk.idiv {x y v : Int32} (W : Wk p l e R s m args below meth c bytes mxl rt Z a0 EL own n0 h0 ws S0 V h cells slots (mkF m pc L (.int y :: .int x :: st))) (hd : decode bytes pc = .ok (.idiv, 1)) (hy : y ≠ 0) (hv : x / y = v) (hp : pc + 1 = pc') : Wk p l e R s m args below meth c bytes mxl rt Z a0 EL own n0 h0 ws S0 V h cells slots (mkF m pc' L (.int v :: st)) := by
  subst hv hp
  exact W.plain fun T hq hx hby t k => XS.idiv hq hx rfl (hb hby hd) rfl hy k
theorem Wk.irem {x y v : Int32} (W : Wk p l e R s m args below meth c bytes mxl rt Z a0 EL own n0 h0 ws S0 V h cells slots (mkF m pc L (.int y :: .int x :: st))) (hd : decode bytes pc = .ok (.irem, 1)) (hy : y ≠ 0) (hv : x - (x / y) * y = v) (hp : pc + 1 = pc') : Wk p l e R s m args below meth c bytes mxl rt Z a0 EL own n0 h0 ws S0 V h cells slots (mkF m pc' L (.int v :: st)) := by
  subst hv hp
  exact W.plain fun T hq hx hby t k => XS.irem hq hx rfl (hb hby hd) rfl hy k
theorem Wk.ineg {x v : Int32} (W : Wk p l e R s m args below meth c bytes mxl rt Z a0 EL own n0 h0 ws S0 V h cells slots (mkF m pc L (.int x :: st))) (hd : decode bytes pc = .ok (.ineg, 1)) (hv : -x = v) (hp : pc + 1 = pc') : Wk p l e R s m args below meth c bytes mxl rt Z a0 EL own n0 h0 ws S0 V h cells slots (mkF m pc' L (.int v :: st)) := by
  subst hv hp
  exact W.plain fun T hq hx hby t k => XS.ineg hq hx rfl (hb hby hd) rfl k
theorem Wk.i2b {x v : Int32} (W : Wk p l e R s m args below meth c bytes mxl rt Z a0 EL own n0 h0 ws S0 V h cells slots (mkF m pc L (.int x :: st))) (hd : decode bytes pc = .ok (.i2b, 1)) (hv : x.toInt8.toInt32 = v) (hp : pc + 1 = pc') : Wk p l e R s m args below meth c bytes mxl rt Z a0 EL own n0 h0 ws S0 V h cells slots (mkF m pc' L (.int v :: st)) := by
  subst hv hp
  exact W.plain fun T hq hx hby t k => Jvm.Free.XT.i2b hq hx rfl (hb hby hd) rfl k
theorem Wk.i2c {x v : Int32} (W : Wk p l e R s m args below meth c bytes mxl rt Z a0 EL own n0 h0 ws S0 V h cells slots (mkF m pc L (.int x :: st))) (hd : decode bytes pc = .ok (.i2c, 1)) (hv : x.toUInt32.toUInt16.toUInt32.toInt32 = v) (hp : pc + 1 = pc') : Wk p l e R s m args below meth c bytes mxl rt Z a0 EL own n0 h0 ws S0 V h cells slots (mkF m pc' L (.int v :: st)) := by
  subst hv hp
  exact W.plain fun T hq hx hby t k => Jvm.Free.XT.i2c hq hx rfl (hb hby hd) rfl k
theorem Wk.i2s {x v : Int32} (W : Wk p l e R s m args below meth c bytes mxl rt Z a0 EL own n0 h0 ws S0 V h cells slots (mkF m pc L (.int x :: st))) (hd : decode bytes pc = .ok (.i2s, 1)) (hv : x.toInt16.toInt32 = v) (hp : pc + 1 = pc') : Wk p l e R s m args below meth c bytes mxl rt Z a0 EL own n0 h0 ws S0 V h cells slots (mkF m pc' L (.int v :: st)) := by
  subst hv hp
  exact W.plain fun T hq hx hby t k => Jvm.Free.XT.i2s hq hx rfl (hb hby hd) rfl k
theorem Wk.ladd {x y v : Int64} (W : Wk p l e R s m args below meth c bytes mxl rt Z a0 EL own n0 h0 ws S0 V h cells slots (mkF m pc L (.long y :: .long x :: st))) (hd : decode bytes pc = .ok (.ladd, 1)) (hv : x + y = v) (hp : pc + 1 = pc') : Wk p l e R s m args below meth c bytes mxl rt Z a0 EL own n0 h0 ws S0 V h cells slots (mkF m pc' L (.long v :: st)) := by
  subst hv hp
  exact W.plain fun T hq hx hby t k => Jvm.Free.XT.ladd hq hx rfl (hb hby hd) rfl k
theorem Wk.lsub {x y v : Int64} (W : Wk p l e R s m args below meth c bytes mxl rt Z a0 EL own n0 h0 ws S0 V h cells slots (mkF m pc L (.long y :: .long x :: st))) (hd : decode bytes pc = .ok (.lsub, 1)) (hv : x - y = v) (hp : pc + 1 = pc') : Wk p l e R s m args below meth c bytes mxl rt Z a0 EL own n0 h0 ws S0 V h cells slots (mkF m pc' L (.long v :: st)) := by
  subst hv hp
  exact W.plain fun T hq hx hby t k => Jvm.Free.XT.lsub hq hx rfl (hb hby hd) rfl k
theorem Wk.lmul {x y v : Int64} (W : Wk p l e R s m args below meth c bytes mxl rt Z a0 EL own n0 h0 ws S0 V h cells slots (mkF m pc L (.long y :: .long x :: st))) (hd : decode bytes pc = .ok (.lmul, 1)) (hv : x * y = v) (hp : pc + 1 = pc') : Wk p l e R s m args below meth c bytes mxl rt Z a0 EL own n0 h0 ws S0 V h cells slots (mkF m pc' L (.long v :: st)) := by
  subst hv hp
  exact W.plain fun T hq hx hby t k => Jvm.Free.XT.lmul hq hx rfl (hb hby hd) rfl k
theorem Wk.land {x y v : Int64} (W : Wk p l e R s m args below meth c bytes mxl rt Z a0 EL own n0 h0 ws S0 V h cells slots (mkF m pc L (.long y :: .long x :: st))) (hd : decode bytes pc = .ok (.land, 1)) (hv : x &&& y = v) (hp : pc + 1 = pc') : Wk p l e R s m args below meth c bytes mxl rt Z a0 EL own n0 h0 ws S0 V h cells slots (mkF m pc' L (.long v :: st)) := by
  subst hv hp
  exact W.plain fun T hq hx hby t k => Jvm.Free.XT.land hq hx rfl (hb hby hd) rfl k
theorem Wk.lor {x y v : Int64} (W : Wk p l e R s m args below meth c bytes mxl rt Z a0 EL own n0 h0 ws S0 V h cells slots (mkF m pc L (.long y :: .long x :: st))) (hd : decode bytes pc = .ok (.lor, 1)) (hv : x ||| y = v) (hp : pc + 1 = pc') : Wk p l e R s m args below meth c bytes mxl rt Z a0 EL own n0 h0 ws S0 V h cells slots (mkF m pc' L (.long v :: st)) := by
  subst hv hp
  exact W.plain fun T hq hx hby t k => Jvm.Free.XT.lor hq hx rfl (hb hby hd) rfl k
theorem Wk.lxor {x y v : Int64} (W : Wk p l e R s m args below meth c bytes mxl rt Z a0 EL own n0 h0 ws S0 V h cells slots (mkF m pc L (.long y :: .long x :: st))) (hd : decode bytes pc = .ok (.lxor, 1)) (hv : x ^^^ y = v) (hp : pc + 1 = pc') : Wk p l e R s m args below meth c bytes mxl rt Z a0 EL own n0 h0 ws S0 V h cells slots (mkF m pc' L (.long v :: st)) := by
  subst hv hp
  exact W.plain fun T hq hx hby t k => Jvm.Free.XT.lxor hq hx rfl (hb hby hd) rfl k
theorem Wk.ldiv {x y v : Int64} (W : Wk p l e R s m args below meth c bytes mxl rt Z a0 EL own n0 h0 ws S0 V h cells slots (mkF m pc L (.long y :: .long x :: st))) (hd : decode bytes pc = .ok (.ldiv, 1)) (hy : y ≠ 0) (hv : x / y = v) (hp : pc + 1 = pc') : Wk p l e R s m args below meth c bytes mxl rt Z a0 EL own n0 h0 ws S0 V h cells slots (mkF m pc' L (.long v :: st)) := by
  subst hv hp
  exact W.plain fun T hq hx hby t k => Jvm.Free.XT.ldiv hq hx rfl (hb hby hd) rfl hy k
theorem Wk.lrem {x y v : Int64} (W : Wk p l e R s m args below meth c bytes mxl rt Z a0 EL own n0 h0 ws S0 V h cells slots (mkF m pc L (.long y :: .long x :: st))) (hd : decode bytes pc = .ok (.lrem, 1)) (hy : y ≠ 0) (hv : x - (x / y) * y = v) (hp : pc + 1 = pc') : Wk p l e R s m args below meth c bytes mxl rt Z a0 EL own n0 h0 ws S0 V h cells slots (mkF m pc' L (.long v :: st)) := by
  subst hv hp
  exact W.plain fun T hq hx hby t k => Jvm.Free.XT.lrem hq hx rfl (hb hby hd) rfl hy k
theorem Wk.lshl {x v : Int64} {y : Int32} (W : Wk p l e R s m args below meth c bytes mxl rt Z a0 EL own n0 h0 ws S0 V h cells slots (mkF m pc L (.int y :: .long x :: st))) (hd : decode bytes pc = .ok (.lshl, 1)) (hv : x <<< (y.toInt64 &&& 63) = v) (hp : pc + 1 = pc') : Wk p l e R s m args below meth c bytes mxl rt Z a0 EL own n0 h0 ws S0 V h cells slots (mkF m pc' L (.long v :: st)) := by
  subst hv hp
  exact W.plain fun T hq hx hby t k => Jvm.Free.XT.lshl hq hx rfl (hb hby hd) rfl k
theorem Wk.lshr {x v : Int64} {y : Int32} (W : Wk p l e R s m args below meth c bytes mxl rt Z a0 EL own n0 h0 ws S0 V h cells slots (mkF m pc L (.int y :: .long x :: st))) (hd : decode bytes pc = .ok (.lshr, 1)) (hv : x >>> (y.toInt64 &&& 63) = v) (hp : pc + 1 = pc') : Wk p l e R s m args below meth c bytes mxl rt Z a0 EL own n0 h0 ws S0 V h cells slots (mkF m pc' L (.long v :: st)) := by
  subst hv hp
  exact W.plain fun T hq hx hby t k => Jvm.Free.XT.lshr hq hx rfl (hb hby hd) rfl k
theorem Wk.lushr {x v : Int64} {y : Int32} (W : Wk p l e R s m args below meth c bytes mxl rt Z a0 EL own n0 h0 ws S0 V h cells slots (mkF m pc L (.int y :: .long x :: st))) (hd : decode bytes pc = .ok (.lushr, 1)) (hv : Jvm.Free.XT.ushrL x y = v) (hp : pc + 1 = pc') : Wk p l e R s m args below meth c bytes mxl rt Z a0 EL own n0 h0 ws S0 V h cells slots (mkF m pc' L (.long v :: st)) := by
  subst hv hp
  exact W.plain fun T hq hx hby t k => Jvm.Free.XT.lushr hq hx rfl (hb hby hd) rfl k
theorem Wk.lneg {x v : Int64} (W : Wk p l e R s m args below meth c bytes mxl rt Z a0 EL own n0 h0 ws S0 V h cells slots (mkF m pc L (.long x :: st))) (hd : decode bytes pc = .ok (.lneg, 1)) (hv : -x = v) (hp : pc + 1 = pc') : Wk p l e R s m args below meth c bytes mxl rt Z a0 EL own n0 h0 ws S0 V h cells slots (mkF m pc' L (.long v :: st)) := by
  subst hv hp
  exact W.plain fun T hq hx hby t k => Jvm.Free.XT.lneg hq hx rfl (hb hby hd) rfl k
theorem Wk.i2l {x : Int32} {v : Int64} (W : Wk p l e R s m args below meth c bytes mxl rt Z a0 EL own n0 h0 ws S0 V h cells slots (mkF m pc L (.int x :: st))) (hd : decode bytes pc = .ok (.i2l, 1)) (hv : x.toInt64 = v) (hp : pc + 1 = pc') : Wk p l e R s m args below meth c bytes mxl rt Z a0 EL own n0 h0 ws S0 V h cells slots (mkF m pc' L (.long v :: st)) := by
  subst hv hp
  exact W.plain fun T hq hx hby t k => Jvm.Free.XT.i2l hq hx rfl (hb hby hd) rfl k
theorem Wk.l2i {x : Int64} {v : Int32} (W : Wk p l e R s m args below meth c bytes mxl rt Z a0 EL own n0 h0 ws S0 V h cells slots (mkF m pc L (.long x :: st))) (hd : decode bytes pc = .ok (.l2i, 1)) (hv : x.toInt32 = v) (hp : pc + 1 = pc') : Wk p l e R s m args below meth c bytes mxl rt Z a0 EL own n0 h0 ws S0 V h cells slots (mkF m pc' L (.int v :: st)) := by
  subst hv hp
  exact W.plain fun T hq hx hby t k => Jvm.Free.XT.l2i hq hx rfl (hb hby hd) rfl k
theorem Wk.lcmp {x y : Int64} {v : Int32} (W : Wk p l e R s m args below meth c bytes mxl rt Z a0 EL own n0 h0 ws S0 V h cells slots (mkF m pc L (.long y :: .long x :: st))) (hd : decode bytes pc = .ok (.lcmp, 1)) (hv : Jvm.Free.XT.cmpL x y = v) (hp : pc + 1 = pc') : Wk p l e R s m args below meth c bytes mxl rt Z a0 EL own n0 h0 ws S0 V h cells slots (mkF m pc' L (.int v :: st)) := by
  subst hv hp
  exact W.plain fun T hq hx hby t k => Jvm.Free.XT.lcmp hq hx rfl (hb hby hd) rfl k
theorem Wk.dup {x : Value} (W : Wk p l e R s m args below meth c bytes mxl rt Z a0 EL own n0 h0 ws S0 V h cells slots (mkF m pc L (x :: st))) (hd : decode bytes pc = .ok (.dup, 1)) (hc : x.category = 1) (hp : pc + 1 = pc') : Wk p l e R s m args below meth c bytes mxl rt Z a0 EL own n0 h0 ws S0 V h cells slots (mkF m pc' L (x :: x :: st)) := by
  subst hp
  exact W.plain fun T hq hx hby t k => XS.dup hq hx rfl (hb hby hd) rfl hc k
theorem Wk.pop {x : Value} (W : Wk p l e R s m args below meth c bytes mxl rt Z a0 EL own n0 h0 ws S0 V h cells slots (mkF m pc L (x :: st))) (hd : decode bytes pc = .ok (.pop, 1)) (hc : x.category = 1) (hp : pc + 1 = pc') : Wk p l e R s m args below meth c bytes mxl rt Z a0 EL own n0 h0 ws S0 V h cells slots (mkF m pc' L st) := by
  subst hp
  exact W.plain fun T hq hx hby t k => Jvm.Free.XT.pop hq hx rfl (hb hby hd) rfl hc k
theorem Wk.dupX1 {x y : Value} (W : Wk p l e R s m args below meth c bytes mxl rt Z a0 EL own n0 h0 ws S0 V h cells slots (mkF m pc L (x :: y :: st))) (hd : decode bytes pc = .ok (.dup_x1, 1)) (hc : x.category = 1) (hc' : y.category = 1) (hp : pc + 1 = pc') : Wk p l e R s m args below meth c bytes mxl rt Z a0 EL own n0 h0 ws S0 V h cells slots (mkF m pc' L (x :: y :: x :: st)) := by
  subst hp
  exact W.plain fun T hq hx hby t k => Jvm.Free.XT.dupX1 hq hx rfl (hb hby hd) rfl hc hc' k
theorem Wk.dup2 {x y : Value} (W : Wk p l e R s m args below meth c bytes mxl rt Z a0 EL own n0 h0 ws S0 V h cells slots (mkF m pc L (x :: y :: st))) (hd : decode bytes pc = .ok (.dup2, 1)) (hc : x.category = 1) (hc' : y.category = 1) (hp : pc + 1 = pc') : Wk p l e R s m args below meth c bytes mxl rt Z a0 EL own n0 h0 ws S0 V h cells slots (mkF m pc' L (x :: y :: x :: y :: st)) := by
  subst hp
  exact W.plain fun T hq hx hby t k => Jvm.Free.XT.dup2 hq hx rfl (hb hby hd) rfl hc hc' k
theorem Wk.dup2L {x : Int64} (W : Wk p l e R s m args below meth c bytes mxl rt Z a0 EL own n0 h0 ws S0 V h cells slots (mkF m pc L (.long x :: st))) (hd : decode bytes pc = .ok (.dup2, 1))  (hp : pc + 1 = pc') : Wk p l e R s m args below meth c bytes mxl rt Z a0 EL own n0 h0 ws S0 V h cells slots (mkF m pc' L (.long x :: .long x :: st)) := by
  subst hp
  exact W.plain fun T hq hx hby t k => Jvm.Free.XT.dup2L hq hx rfl (hb hby hd) rfl k
theorem Wk.istoreN {k : Fin 4} {x : Int32} {L' : Array Slot} (W : Wk p l e R s m args below meth c bytes mxl rt Z a0 EL own n0 h0 ws S0 V h cells slots (mkF m pc L (.int x :: st))) (hd : decode bytes pc = .ok (.istore_n k, 1)) (hl : storeLocals L k.val (.int x) = some L') (hp : pc + 1 = pc') : Wk p l e R s m args below meth c bytes mxl rt Z a0 EL own n0 h0 ws S0 V h cells slots (mkF m pc' L' st) := by
  subst hp
  exact W.plain fun T hq hx hby t k => XS.istoreN hq hx rfl (hb hby hd) rfl hl k
theorem Wk.istore {k : Nat} {x : Int32} {L' : Array Slot} (W : Wk p l e R s m args below meth c bytes mxl rt Z a0 EL own n0 h0 ws S0 V h cells slots (mkF m pc L (.int x :: st))) (hd : decode bytes pc = .ok (.istore k, 2)) (hl : storeLocals L k (.int x) = some L') (hp : pc + 2 = pc') : Wk p l e R s m args below meth c bytes mxl rt Z a0 EL own n0 h0 ws S0 V h cells slots (mkF m pc' L' st) := by
  subst hp
  exact W.plain fun T hq hx hby t k => XS.istore hq hx rfl (hb hby hd) rfl hl k
theorem Wk.astoreN {k : Fin 4} {x : Value} {L' : Array Slot} (W : Wk p l e R s m args below meth c bytes mxl rt Z a0 EL own n0 h0 ws S0 V h cells slots (mkF m pc L (x :: st))) (hd : decode bytes pc = .ok (.astore_n k, 1)) (hr : x.isRef = true) (hl : storeLocals L k.val x = some L') (hp : pc + 1 = pc') : Wk p l e R s m args below meth c bytes mxl rt Z a0 EL own n0 h0 ws S0 V h cells slots (mkF m pc' L' st) := by
  subst hp
  exact W.plain fun T hq hx hby t k => XS.astoreN hq hx rfl (hb hby hd) rfl hr hl k
theorem Wk.astore {k : Nat} {x : Value} {L' : Array Slot} (W : Wk p l e R s m args below meth c bytes mxl rt Z a0 EL own n0 h0 ws S0 V h cells slots (mkF m pc L (x :: st))) (hd : decode bytes pc = .ok (.astore k, 2)) (hr : x.isRef = true) (hl : storeLocals L k x = some L') (hp : pc + 2 = pc') : Wk p l e R s m args below meth c bytes mxl rt Z a0 EL own n0 h0 ws S0 V h cells slots (mkF m pc' L' st) := by
  subst hp
  exact W.plain fun T hq hx hby t k => XS.astore hq hx rfl (hb hby hd) rfl hr hl k
theorem Wk.lstoreN {k : Fin 4} {x : Int64} {L' : Array Slot} (W : Wk p l e R s m args below meth c bytes mxl rt Z a0 EL own n0 h0 ws S0 V h cells slots (mkF m pc L (.long x :: st))) (hd : decode bytes pc = .ok (.lstore_n k, 1)) (hl : storeLocals L k.val (.long x) = some L') (hp : pc + 1 = pc') : Wk p l e R s m args below meth c bytes mxl rt Z a0 EL own n0 h0 ws S0 V h cells slots (mkF m pc' L' st) := by
  subst hp
  exact W.plain fun T hq hx hby t k => Jvm.Free.XT.lstoreN hq hx rfl (hb hby hd) rfl hl k
theorem Wk.lstore {k : Nat} {x : Int64} {L' : Array Slot} (W : Wk p l e R s m args below meth c bytes mxl rt Z a0 EL own n0 h0 ws S0 V h cells slots (mkF m pc L (.long x :: st))) (hd : decode bytes pc = .ok (.lstore k, 2)) (hl : storeLocals L k (.long x) = some L') (hp : pc + 2 = pc') : Wk p l e R s m args below meth c bytes mxl rt Z a0 EL own n0 h0 ws S0 V h cells slots (mkF m pc' L' st) := by
  subst hp
  exact W.plain fun T hq hx hby t k => Jvm.Free.XT.lstore hq hx rfl (hb hby hd) rfl hl k
theorem Wk.iinc {k : Nat} {cst : Int} {x v : Int32} {L' : Array Slot} (W : Wk p l e R s m args below meth c bytes mxl rt Z a0 EL own n0 h0 ws S0 V h cells slots (mkF m pc L st)) (hd : decode bytes pc = .ok (.iinc k cst, 3)) (hl : L[k]? = some (.val (.int x))) (hv : x + Int32.ofInt cst = v) (hl' : storeLocals L k (.int v) = some L') (hp : pc + 3 = pc') : Wk p l e R s m args below meth c bytes mxl rt Z a0 EL own n0 h0 ws S0 V h cells slots (mkF m pc' L' st) := by
  subst hv hp
  exact W.plain fun T hq hx hby t k => XS.iinc hq hx rfl (hb hby hd) hl hl' k
theorem Wk.goto {o : Int} (W : Wk p l e R s m args below meth c bytes mxl rt Z a0 EL own n0 h0 ws S0 V h cells slots (mkF m pc L st)) (hd : decode bytes pc = .ok (.goto o, 3))  (ho : 0 ≤ (pc : Int) + o) (hp : ((pc : Int) + o).toNat = pc') : Wk p l e R s m args below meth c bytes mxl rt Z a0 EL own n0 h0 ws S0 V h cells slots (mkF m pc' L st) := by
  exact W.plain fun T hq hx hby t k => XS.goto hq hx rfl (pc0 := pc) rfl (hb hby hd)  ho hp k
theorem Wk.ifT {cd : ClassFile.Cond} {x : Int32} {o : Int} (W : Wk p l e R s m args below meth c bytes mxl rt Z a0 EL own n0 h0 ws S0 V h cells slots (mkF m pc L (.int x :: st))) (hd : decode bytes pc = .ok (.ifCond cd o, 3)) (hc : if_icmp.holds cd x 0 = true) (ho : 0 ≤ (pc : Int) + o) (hp : ((pc : Int) + o).toNat = pc') : Wk p l e R s m args below meth c bytes mxl rt Z a0 EL own n0 h0 ws S0 V h cells slots (mkF m pc' L st) := by
  exact W.plain fun T hq hx hby t k => XS.ifYes hq hx rfl (pc0 := pc) rfl (hb hby hd) rfl ((if0 cd x).trans hc) ho hp k
theorem Wk.ifF {cd : ClassFile.Cond} {x : Int32} {o : Int} (W : Wk p l e R s m args below meth c bytes mxl rt Z a0 EL own n0 h0 ws S0 V h cells slots (mkF m pc L (.int x :: st))) (hd : decode bytes pc = .ok (.ifCond cd o, 3)) (hc : if_icmp.holds cd x 0 = false) (hp : pc + 3 = pc') : Wk p l e R s m args below meth c bytes mxl rt Z a0 EL own n0 h0 ws S0 V h cells slots (mkF m pc' L st) := by
  subst hp
  exact W.plain fun T hq hx hby t k => XS.ifNo hq hx rfl (hb hby hd) rfl ((if0 cd x).trans hc) k
theorem Wk.icmpT {cd : ClassFile.Cond} {x y : Int32} {o : Int} (W : Wk p l e R s m args below meth c bytes mxl rt Z a0 EL own n0 h0 ws S0 V h cells slots (mkF m pc L (.int y :: .int x :: st))) (hd : decode bytes pc = .ok (.if_icmp cd o, 3)) (hc : if_icmp.holds cd x y = true) (ho : 0 ≤ (pc : Int) + o) (hp : ((pc : Int) + o).toNat = pc') : Wk p l e R s m args below meth c bytes mxl rt Z a0 EL own n0 h0 ws S0 V h cells slots (mkF m pc' L st) := by
  exact W.plain fun T hq hx hby t k => XS.icmpYes hq hx rfl (pc0 := pc) rfl (hb hby hd) rfl hc ho hp k
theorem Wk.icmpF {cd : ClassFile.Cond} {x y : Int32} {o : Int} (W : Wk p l e R s m args below meth c bytes mxl rt Z a0 EL own n0 h0 ws S0 V h cells slots (mkF m pc L (.int y :: .int x :: st))) (hd : decode bytes pc = .ok (.if_icmp cd o, 3)) (hc : if_icmp.holds cd x y = false) (hp : pc + 3 = pc') : Wk p l e R s m args below meth c bytes mxl rt Z a0 EL own n0 h0 ws S0 V h cells slots (mkF m pc' L st) := by
  subst hp
  exact W.plain fun T hq hx hby t k => XS.icmpNo hq hx rfl (hb hby hd) rfl hc k
theorem Wk.ifnullT {o : Int} (W : Wk p l e R s m args below meth c bytes mxl rt Z a0 EL own n0 h0 ws S0 V h cells slots (mkF m pc L (.null :: st))) (hd : decode bytes pc = .ok (.ifnull o, 3))  (ho : 0 ≤ (pc : Int) + o) (hp : ((pc : Int) + o).toNat = pc') : Wk p l e R s m args below meth c bytes mxl rt Z a0 EL own n0 h0 ws S0 V h cells slots (mkF m pc' L st) := by
  exact W.plain fun T hq hx hby t k => XS.ifnullYes hq hx rfl (pc0 := pc) rfl (hb hby hd) rfl ho hp k
theorem Wk.ifnullF {o : Int} {b : Addr} (W : Wk p l e R s m args below meth c bytes mxl rt Z a0 EL own n0 h0 ws S0 V h cells slots (mkF m pc L (.ref b :: st))) (hd : decode bytes pc = .ok (.ifnull o, 3))  (hp : pc + 3 = pc') : Wk p l e R s m args below meth c bytes mxl rt Z a0 EL own n0 h0 ws S0 V h cells slots (mkF m pc' L st) := by
  subst hp
  exact W.plain fun T hq hx hby t k => XS.ifnullNo hq hx rfl (hb hby hd) rfl k
theorem Wk.ifnonnullT {o : Int} {b : Addr} (W : Wk p l e R s m args below meth c bytes mxl rt Z a0 EL own n0 h0 ws S0 V h cells slots (mkF m pc L (.ref b :: st))) (hd : decode bytes pc = .ok (.ifnonnull o, 3))  (ho : 0 ≤ (pc : Int) + o) (hp : ((pc : Int) + o).toNat = pc') : Wk p l e R s m args below meth c bytes mxl rt Z a0 EL own n0 h0 ws S0 V h cells slots (mkF m pc' L st) := by
  exact W.plain fun T hq hx hby t k => Jvm.Free.XT.ifnonnullYes hq hx rfl (pc0 := pc) rfl (hb hby hd) rfl ho hp k
theorem Wk.ifnonnullF {o : Int} (W : Wk p l e R s m args below meth c bytes mxl rt Z a0 EL own n0 h0 ws S0 V h cells slots (mkF m pc L (.null :: st))) (hd : decode bytes pc = .ok (.ifnonnull o, 3))  (hp : pc + 3 = pc') : Wk p l e R s m args below meth c bytes mxl rt Z a0 EL own n0 h0 ws S0 V h cells slots (mkF m pc' L st) := by
  subst hp
  exact W.plain fun T hq hx hby t k => Jvm.Free.XT.ifnonnullNo hq hx rfl (hb hby hd) rfl k
theorem Wk.acmpT {cd : ClassFile.ACond} {x y : Value} {o : Int} (W : Wk p l e R s m args below meth c bytes mxl rt Z a0 EL own n0 h0 ws S0 V h cells slots (mkF m pc L (y :: x :: st))) (hd : decode bytes pc = .ok (.if_acmp cd o, 3)) (hx' : x.isRef = true) (hy' : y.isRef = true) (hc : Jvm.Free.XT.acmp cd x y = true) (ho : 0 ≤ (pc : Int) + o) (hp : ((pc : Int) + o).toNat = pc') : Wk p l e R s m args below meth c bytes mxl rt Z a0 EL own n0 h0 ws S0 V h cells slots (mkF m pc' L st) := by
  exact W.plain fun T hq hx hby t k => Jvm.Free.XT.acmpYes hq hx rfl (pc0 := pc) rfl (hb hby hd) rfl hx' hy' hc ho hp k
theorem Wk.acmpF {cd : ClassFile.ACond} {x y : Value} {o : Int} (W : Wk p l e R s m args below meth c bytes mxl rt Z a0 EL own n0 h0 ws S0 V h cells slots (mkF m pc L (y :: x :: st))) (hd : decode bytes pc = .ok (.if_acmp cd o, 3)) (hx' : x.isRef = true) (hy' : y.isRef = true) (hc : Jvm.Free.XT.acmp cd x y = false) (hp : pc + 3 = pc') : Wk p l e R s m args below meth c bytes mxl rt Z a0 EL own n0 h0 ws S0 V h cells slots (mkF m pc' L st) := by
  subst hp
  exact W.plain fun T hq hx hby t k => Jvm.Free.XT.acmpNo hq hx rfl (hb hby hd) rfl hx' hy' hc k
theorem Wk.new {C : String} {index n cells' slots' : Nat} (W : Wk p l e R s m args below meth c bytes mxl rt Z a0 EL own n0 h0 ws S0 V h cells slots (mkF m pc L st)) (hd : decode bytes pc = .ok (.new index, 3)) (w : (Jvm.Cond.classLink own index C).before a0 Z = true) (wi : (Jvm.Cond.instantiable C n).before a0 Z = true) (wz : (Jvm.Cond.initialized C).before a0 Z = true) (hp : pc + 3 = pc') (hc : cells + 1 = cells') (hs : slots + n = slots') (hc' : cells' ≤ R.cells) (hs' : slots' ≤ R.slots) :
    ∃ h' a, Wk p l e R s m args below meth c bytes mxl rt Z a0 EL own n0 h0 ws S0 V h' cells' slots' (mkF m pc' L (.ref a :: st)) ∧ Ext h h' ∧ a = h.size ∧ (Exa Z h' h.size C ∧ (∀ {O nm d : String} {ty : FieldType}, Laid Z a0 C O nm d → parseFieldDescriptor d = some ty → Fld Z h' h.size O nm d (defaultValue ty)) ∧ Unt h' h.size) ∧ Safe Z EL V h' a ∧ ∀ x, Safe Z EL V h x → Safe Z EL V h' x := by
  subst hp hc hs
  refine W.grew (G := fun a => mkF m (pc + 3) L (.ref a :: st)) (Q := fun h' => Exa Z h' h.size C ∧ (∀ {O nm d : String} {ty : FieldType}, Laid Z a0 C O nm d → parseFieldDescriptor d = some ty → Fld Z h' h.size O nm d (defaultValue ty)) ∧ Unt h' h.size) fun T locs X eT hx hby hZ hown => ?_
  obtain ⟨T', h', X', e', E, A, D, U, st'⟩ := newO X hx hZ hown w wi wz eT (g := mkF m pc L st) rfl (hb hby hd) hc' hs'
  exact ⟨T', h', X', e', E, ⟨A, D, U⟩, st'⟩
theorem Wk.newarr {aty : ArrayType} {z : Int32} {cap cells' slots' : Nat} (W : Wk p l e R s m args below meth c bytes mxl rt Z a0 EL own n0 h0 ws S0 V h cells slots (mkF m pc L (.int z :: st))) (hd : decode bytes pc = .ok (.newarray aty, 2)) (w : (Jvm.Cond.arrayClass (newarray.typeOf aty)).before a0 Z = true) (hn : ¬ z < 0) (hcap : z.toNatClampNeg ≤ cap) (hbig : cap * 8 ≤ 536870912) (hp : pc + 2 = pc') (hc : cells + 1 = cells') (hs : slots + cap = slots') (hc' : cells' ≤ R.cells) (hs' : slots' ≤ R.slots) :
    ∃ h' a, Wk p l e R s m args below meth c bytes mxl rt Z a0 EL own n0 h0 ws S0 V h' cells' slots' (mkF m pc' L (.ref a :: st)) ∧ Ext h h' ∧ a = h.size ∧ (∃ k, Arv Z h' h.size k (newarray.typeOf aty) z [] (defaultValue (newarray.typeOf aty))) ∧ Safe Z EL V h' a ∧ ∀ x, Safe Z EL V h x → Safe Z EL V h' x := by
  subst hp hc hs
  refine W.grew (G := fun a => mkF m (pc + 2) L (.ref a :: st)) (Q := fun h' => ∃ k, Arv Z h' h.size k (newarray.typeOf aty) z [] (defaultValue (newarray.typeOf aty))) fun T locs X eT hx hby hZ hown => ?_
  obtain ⟨T', h', k, X', e', E, A, st'⟩ := newP X hx hZ w eT (g := mkF m pc L (.int z :: st)) rfl (hb hby hd) rfl hn (cap := cap) hcap hbig hc' hs'
  exact ⟨T', h', X', e', E, ⟨k, Arv.new A hn⟩, st'⟩
theorem Wk.newarrE {aty : ArrayType} {z : Int32} {ad : String} {cap cells' slots' : Nat} (W : Wk p l e R s m args below meth c bytes mxl rt Z a0 EL own n0 h0 ws S0 V h cells slots (mkF m pc L (.int z :: st))) (hd : decode bytes pc = .ok (.newarray aty, 2)) (w : (Jvm.Cond.arrayClass (newarray.typeOf aty)).before a0 Z = true) (had : "[" ++ (newarray.typeOf aty).toString = ad) (hn : ¬ z < 0) (hcap : z.toNatClampNeg ≤ cap) (hbig : cap * 8 ≤ 536870912) (hp : pc + 2 = pc') (hc : cells + 1 = cells') (hs : slots + cap = slots') (hc' : cells' ≤ R.cells) (hs' : slots' ≤ R.slots) :
    ∃ h' a, Wk p l e R s m args below meth c bytes mxl rt Z a0 EL own n0 h0 ws S0 V h' cells' slots' (mkF m pc' L (.ref a :: st)) ∧ Ext h h' ∧ a = h.size ∧ ((∃ k, Arv Z h' h.size k (newarray.typeOf aty) z [] (defaultValue (newarray.typeOf aty))) ∧ Exa Z h' h.size ad) ∧ Safe Z EL V h' a ∧ ∀ x, Safe Z EL V h x → Safe Z EL V h' x := by
  subst hp hc hs
  refine W.grew (G := fun a => mkF m (pc + 2) L (.ref a :: st)) (Q := fun h' => (∃ k, Arv Z h' h.size k (newarray.typeOf aty) z [] (defaultValue (newarray.typeOf aty))) ∧ Exa Z h' h.size ad) fun T locs X eT hx hby hZ hown => ?_
  obtain ⟨T', h', k, X', e', E, A, B, st'⟩ := newPE X hx hZ w eT (g := mkF m pc L (.int z :: st)) rfl (hb hby hd) rfl hn (cap := cap) hcap hbig hc' hs' had
  exact ⟨T', h', X', e', E, ⟨⟨k, Arv.new A hn⟩, B⟩, st'⟩
theorem Wk.clone {index : Nat} {ad : String} {a : Addr} {k : ClassId} {ty : FieldType} {z : Int32} {vs : List Value} {dv : Value} {cap Wd cells' slots' : Nat} (W : Wk p l e R s m args below meth c bytes mxl rt Z a0 EL own n0 h0 ws S0 V h cells slots (mkF m pc L (.ref a :: st))) (hd : decode bytes pc = .ok (.invokevirtual index, 3)) (w1 : (Jvm.Cond.methodLink own index ⟨ad, "clone", "()Ljava/lang/Object;"⟩).before a0 Z = true) (w2 : (Jvm.Cond.sameMethod ad "java/lang/Object" "clone" "()Ljava/lang/Object;").before a0 Z = true) (w3 : (Jvm.Cond.native ⟨"java/lang/Object", "clone", "()Ljava/lang/Object;"⟩).before a0 Z = true) (w4 : (Jvm.Cond.instanceMethod ⟨"java/lang/Object", "clone", "()Ljava/lang/Object;"⟩).before a0 Z = true) (w5 : (Jvm.Cond.selects ad ⟨ad, "clone", "()Ljava/lang/Object;"⟩ ⟨"java/lang/Object", "clone", "()Ljava/lang/Object;"⟩).before a0 Z = true) (w6 : (Jvm.Cond.castable ad "java/lang/Cloneable").before a0 Z = true) (A : Arv Z h a k ty z vs dv) (E : Exa Z h a ad) (hL : L.size = mxl) (hW : (st.map fun v => v.category).sum = Wd) (hf : 1 ≤ R.frames) (hl : Wd + 14 ≤ R.locals) (hcap : z.toNatClampNeg ≤ cap) (hp : pc + 3 = pc') (hc : cells + 1 = cells') (hs : slots + cap = slots') (hc' : cells' ≤ R.cells) (hs' : slots' ≤ R.slots) :
    ∃ h' a, Wk p l e R s m args below meth c bytes mxl rt Z a0 EL own n0 h0 ws S0 V h' cells' slots' (mkF m pc' L (.ref a :: st)) ∧ Ext h h' ∧ a = h.size ∧ (Arv Z h' h.size k ty z vs dv ∧ Exa Z h' h.size ad) ∧ Safe Z EL V h' a ∧ ∀ x, Safe Z EL V h x → Safe Z EL V h' x := by
  subst hp hc hs hW
  have hml := W.1.2.2.1
  refine W.grew (G := fun b => mkF m (pc + 3) L (.ref b :: st)) (Q := fun h' => Arv Z h' h.size k ty z vs dv ∧ Exa Z h' h.size ad) fun T locs X eT hx hby hZ hown => ?_
  obtain ⟨T', h', X', e', E', ⟨c', B1, B2, B3, B4, B5, B6⟩, C, st'⟩ := cloneH X hx hZ hown w1 w2 w3 w4 w5 w6 eT (Arv.arh A) E (g := mkF m pc L (.ref a :: st)) rfl (hL.trans hml.symm) rfl (hb hby hd) hf (by show 2 * 0 + _ ≤ _; exact Nat.le_of_eq (Nat.zero_add _)) hl hcap hc' hs'
  exact ⟨T', h', X', e', E', ⟨⟨c', B1, B2, B3, B4, B5, B6⟩, C⟩, st'⟩
theorem Wk.getf {index : Nat} {R0 O n d : String} {a : Addr} {v : Value} (W : Wk p l e R s m args below meth c bytes mxl rt Z a0 EL own n0 h0 ws S0 V h cells slots (mkF m pc L (.ref a :: st))) (hd : decode bytes pc = .ok (.getfield index, 3)) (w : (Jvm.Cond.fieldLink own index R0 n d).before a0 Z = true) (via : Via Z R0 O n d) (F : Fld Z h a O n d v) (hp : pc + 3 = pc') : Wk p l e R s m args below meth c bytes mxl rt Z a0 EL own n0 h0 ws S0 V h cells slots (mkF m pc' L (v :: st)) := by
  subst hp
  exact W.reads fun T locs X eT hx hby hZ hown => getF X hx hZ hown (host := "") (Or.inl w) via eT F (g := mkF m pc L (.ref a :: st)) rfl rfl (hb hby hd)
theorem Wk.gets {index : Nat} {O n d : String} {v : Value} (W : Wk p l e R s m args below meth c bytes mxl rt Z a0 EL own n0 h0 ws S0 V h cells slots (mkF m pc L st)) (hd : decode bytes pc = .ok (.getstatic index, 3)) (w : (Jvm.Cond.fieldLink own index O n d).before a0 Z = true) (S : Sta Z Z.heap O n d v) (hp : pc + 3 = pc') : Wk p l e R s m args below meth c bytes mxl rt Z a0 EL own n0 h0 ws S0 V h cells slots (mkF m pc' L (v :: st)) := by
  subst hp
  have S' := W.sta S
  exact W.reads fun T locs X eT hx hby hZ hown => getS (host := "") X hx hZ hown w Via.refl eT S' (g := mkF m pc L st) rfl (hb hby hd)
theorem Wk.castY {index : Nat} {K : String} {a : Addr} (W : Wk p l e R s m args below meth c bytes mxl rt Z a0 EL own n0 h0 ws S0 V h cells slots (mkF m pc L (.ref a :: st))) (hd : decode bytes pc = .ok (.checkcast index, 3)) (w : (Jvm.Cond.classLink own index K).before a0 Z = true) (I : Ins Z h a K true) (hp : pc + 3 = pc') : Wk p l e R s m args below meth c bytes mxl rt Z a0 EL own n0 h0 ws S0 V h cells slots (mkF m pc' L (.ref a :: st)) := by
  subst hp
  exact W.reads fun T locs X eT hx hby hZ hown => Jvm.RoadKit.castY X hx hZ hown w eT I (g := mkF m pc L (.ref a :: st)) rfl rfl (hb hby hd)
theorem Wk.instY {index : Nat} {K : String} {a : Addr} (W : Wk p l e R s m args below meth c bytes mxl rt Z a0 EL own n0 h0 ws S0 V h cells slots (mkF m pc L (.ref a :: st))) (hd : decode bytes pc = .ok (.instanceof index, 3)) (w : (Jvm.Cond.classLink own index K).before a0 Z = true) (I : Ins Z h a K true) (hp : pc + 3 = pc') : Wk p l e R s m args below meth c bytes mxl rt Z a0 EL own n0 h0 ws S0 V h cells slots (mkF m pc' L (.int 1 :: st)) := by
  subst hp
  exact W.reads fun T locs X eT hx hby hZ hown => Jvm.RoadKit.instY X hx hZ hown w eT I (g := mkF m pc L (.ref a :: st)) rfl rfl (hb hby hd)
theorem Wk.putf {index kk : Nat} {R0 O n d C : String} {ty : FieldType} {a : Addr} {v old : Value} (W : Wk p l e R s m args below meth c bytes mxl rt Z a0 EL own n0 h0 ws S0 V h cells slots (mkF m pc L (v :: .ref a :: st))) (hd : decode bytes pc = .ok (.putfield index, 3)) (w : (Jvm.Cond.fieldLink own index R0 n d).before a0 Z = true) (via : Via Z R0 O n d) (F : Fld Z h a O n d old) (E : Exa Z h a C) (Lw : (Jvm.Cond.lays C O n d).before a0 Z = true ∨ ((Jvm.Cond.laysFinal C O n d).before a0 Z = true ∧ own = O ∧ meth.name = "<init>")) (wi : (Jvm.Cond.instantiable C kk).before a0 Z = true) (hty : parseFieldDescriptor d = some ty) (hn : narrow ty v = v) (hf : fits ty v = true) (sf : Safe Z EL V h a) (q : a ∈ ws ∨ h0.size ≤ a) (hp : pc + 3 = pc') :
    ∃ h', Wk p l e R s m args below meth c bytes mxl rt Z a0 EL own n0 h0 ws S0 V h' cells slots (mkF m pc' L st) ∧ Wr h h' a (Jvm.RoadKit.slotOf Z O n d) v ∧ ∀ x, Safe Z EL V h x → Safe Z EL V h' x := by
  subst hp
  exact W.wrote (cells' := 0) (slots' := 0) (h' := h) sf q fun T locs X eT hx hby hZ hown => putF X hx hZ hown (host := "") (Or.inl w) via eT F E Lw wi hty hn hf (g := mkF m pc L (v :: .ref a :: st)) rfl rfl (hb hby hd)
theorem Wk.initO {index : Nat} {a : Addr} {Wd : Nat} (W : Wk p l e R s m args below meth c bytes mxl rt Z a0 EL own n0 h0 ws S0 V h cells slots (mkF m pc L (.ref a :: st))) (hd : decode bytes pc = .ok (.invokespecial index, 3)) (w1 : (Jvm.Cond.methodLink own index Lib.objectInit).before a0 Z = true) (w2 : (Jvm.Cond.instanceMethod Lib.objectInit).before a0 Z = true) (w3 : (Jvm.Cond.code Lib.objectInit ⟨#[0xb1]⟩ 1 none).before a0 Z = true) (hL : L.size = mxl) (hW : (st.map fun v => v.category).sum = Wd) (hf : 1 ≤ R.frames) (hl : Wd + 12 ≤ R.locals) (hp : pc + 3 = pc') : Wk p l e R s m args below meth c bytes mxl rt Z a0 EL own n0 h0 ws S0 V h cells slots (mkF m pc' L st) := by
  subst hp hW
  have hml := W.1.2.2.1
  exact W.reads fun T locs X eT hx hby hZ hown => Jvm.RoadKit.initO X hx hZ hown w1 w2 w3 eT (g := mkF m pc L (.ref a :: st)) rfl (hL.trans hml.symm) rfl (hb hby hd) hf (by show 2 * 0 + _ ≤ _; exact Nat.le_of_eq (Nat.zero_add _)) hl
theorem Wk.ldcI {index : Nat} {v : Int32} (W : Wk p l e R s m args below meth c bytes mxl rt Z a0 EL own n0 h0 ws S0 V h cells slots (mkF m pc L st)) (hd : decode bytes pc = .ok (.ldc index, 2)) (w : (Jvm.Cond.constant own index v).before a0 Z = true) (hp : pc + 2 = pc') : Wk p l e R s m args below meth c bytes mxl rt Z a0 EL own n0 h0 ws S0 V h cells slots (mkF m pc' L (.int v :: st)) := by
  subst hp
  exact W.reads fun T locs X eT hx hby hZ hown => ⟨T, X, eT, X.ldcInt hx hown (mvT hZ w) (g := mkF m pc L st) rfl (hb hby hd)⟩
theorem Wk.ldc2 {index : Nat} {v : Int64} (W : Wk p l e R s m args below meth c bytes mxl rt Z a0 EL own n0 h0 ws S0 V h cells slots (mkF m pc L st)) (hd : decode bytes pc = .ok (.ldc2_w index, 3)) (w : (Jvm.Cond.constantLong own index v).before a0 Z = true) (hp : pc + 3 = pc') : Wk p l e R s m args below meth c bytes mxl rt Z a0 EL own n0 h0 ws S0 V h cells slots (mkF m pc' L (.long v :: st)) := by
  subst hp
  exact W.reads fun T locs X eT hx hby hZ hown => ⟨T, X, eT, X.ldc2Long hx hown (mvT hZ w) (g := mkF m pc L st) rfl (hb hby hd)⟩
section Arrays
variable {a : Addr} {k : ClassId} {z j : Int32} {vs : List Value} {dv w : Value} {ty : FieldType} {i : Nat}
theorem Wk.alen (W : Wk p l e R s m args below meth c bytes mxl rt Z a0 EL own n0 h0 ws S0 V h cells slots (mkF m pc L (.ref a :: st))) (hd : decode bytes pc = .ok (.arraylength, 1)) (A : Arv Z h a k ty z vs dv) (hp : pc + 1 = pc') : Wk p l e R s m args below meth c bytes mxl rt Z a0 EL own n0 h0 ws S0 V h cells slots (mkF m pc' L (.int z :: st)) := by
  subst hp
  obtain ⟨cl, A1, -, S, M, -, -⟩ := A
  exact W.reads fun T locs X eT hx hby hZ hown => ⟨T, X, eT, fun t q => X.arraylength hx (by rw [eT]; exact A1.1) (State.isArrayOf_alike hZ.alike A1.2.1) (g := mkF m pc L (.ref a :: st)) rfl rfl (hb hby hd) t (by rw [len_of S M]; exact q)⟩
theorem Wk.caload (W : Wk p l e R s m args below meth c bytes mxl rt Z a0 EL own n0 h0 ws S0 V h cells slots (mkF m pc L (.int j :: .ref a :: st))) (hd : decode bytes pc = .ok (.caload, 1)) (A : Arv Z h a k .char z vs dv) (hj : ¬ j < 0 ∧ j < z) (hv : vs.getD j.toNatClampNeg dv = w) (hp : pc + 1 = pc') : Wk p l e R s m args below meth c bytes mxl rt Z a0 EL own n0 h0 ws S0 V h cells slots (mkF m pc' L (w :: st)) := by
  subst hp
  obtain ⟨cl, A1, -, S, M, H, -⟩ := A
  have hin := inb_of S hj
  exact W.reads fun T locs X eT hx hby hZ hown => ⟨T, X, eT, X.caload hx (by rw [eT]; exact A1.1) (State.isArrayOf_alike hZ.alike A1.2.1) A1.2.2 hin (H.at hin hv) (g := mkF m pc L (.int j :: .ref a :: st)) rfl rfl (hb hby hd)⟩
theorem Wk.baload (W : Wk p l e R s m args below meth c bytes mxl rt Z a0 EL own n0 h0 ws S0 V h cells slots (mkF m pc L (.int j :: .ref a :: st))) (hd : decode bytes pc = .ok (.baload, 1)) (A : Arv Z h a k .byte z vs dv) (hj : ¬ j < 0 ∧ j < z) (hv : vs.getD j.toNatClampNeg dv = w) (hp : pc + 1 = pc') : Wk p l e R s m args below meth c bytes mxl rt Z a0 EL own n0 h0 ws S0 V h cells slots (mkF m pc' L (w :: st)) := by
  subst hp
  obtain ⟨cl, A1, -, S, M, H, -⟩ := A
  have hin := inb_of S hj
  exact W.reads fun T locs X eT hx hby hZ hown => ⟨T, X, eT, X.baloadBytes hx (by rw [eT]; exact A1.1) (State.isArrayOf_alike hZ.alike A1.2.1) A1.2.2 hin (H.at hin hv) (g := mkF m pc L (.int j :: .ref a :: st)) rfl rfl (hb hby hd)⟩
theorem Wk.iaload (W : Wk p l e R s m args below meth c bytes mxl rt Z a0 EL own n0 h0 ws S0 V h cells slots (mkF m pc L (.int j :: .ref a :: st))) (hd : decode bytes pc = .ok (.iaload, 1)) (A : Arv Z h a k .int z vs dv) (hj : ¬ j < 0 ∧ j < z) (hv : vs.getD j.toNatClampNeg dv = w) (hp : pc + 1 = pc') : Wk p l e R s m args below meth c bytes mxl rt Z a0 EL own n0 h0 ws S0 V h cells slots (mkF m pc' L (w :: st)) := by
  subst hp
  obtain ⟨cl, A1, -, S, M, H, -⟩ := A
  have hin := inb_of S hj
  exact W.reads fun T locs X eT hx hby hZ hown => ⟨T, X, eT, X.iaload hx (by rw [eT]; exact A1.1) (State.isArrayOf_alike hZ.alike A1.2.1) A1.2.2 hin (H.at hin hv) (g := mkF m pc L (.int j :: .ref a :: st)) rfl rfl (hb hby hd)⟩
theorem Wk.laload (W : Wk p l e R s m args below meth c bytes mxl rt Z a0 EL own n0 h0 ws S0 V h cells slots (mkF m pc L (.int j :: .ref a :: st))) (hd : decode bytes pc = .ok (.laload, 1)) (A : Arv Z h a k .long z vs dv) (hj : ¬ j < 0 ∧ j < z) (hv : vs.getD j.toNatClampNeg dv = w) (hp : pc + 1 = pc') : Wk p l e R s m args below meth c bytes mxl rt Z a0 EL own n0 h0 ws S0 V h cells slots (mkF m pc' L (w :: st)) := by
  subst hp
  obtain ⟨cl, A1, -, S, M, H, -⟩ := A
  have hin := inb_of S hj
  exact W.reads fun T locs X eT hx hby hZ hown => ⟨T, X, eT, X.laload hx (by rw [eT]; exact A1.1) (State.isArrayOf_alike hZ.alike A1.2.1) A1.2.2 hin (H.at hin hv) (g := mkF m pc L (.int j :: .ref a :: st)) rfl rfl (hb hby hd)⟩
theorem Wk.saload (W : Wk p l e R s m args below meth c bytes mxl rt Z a0 EL own n0 h0 ws S0 V h cells slots (mkF m pc L (.int j :: .ref a :: st))) (hd : decode bytes pc = .ok (.saload, 1)) (A : Arv Z h a k .short z vs dv) (hj : ¬ j < 0 ∧ j < z) (hv : vs.getD j.toNatClampNeg dv = w) (hp : pc + 1 = pc') : Wk p l e R s m args below meth c bytes mxl rt Z a0 EL own n0 h0 ws S0 V h cells slots (mkF m pc' L (w :: st)) := by
  subst hp
  obtain ⟨cl, A1, -, S, M, H, -⟩ := A
  have hin := inb_of S hj
  exact W.reads fun T locs X eT hx hby hZ hown => ⟨T, X, eT, X.saload hx (by rw [eT]; exact A1.1) (State.isArrayOf_alike hZ.alike A1.2.1) A1.2.2 hin (H.at hin hv) (g := mkF m pc L (.int j :: .ref a :: st)) rfl rfl (hb hby hd)⟩
theorem Wk.aaload (W : Wk p l e R s m args below meth c bytes mxl rt Z a0 EL own n0 h0 ws S0 V h cells slots (mkF m pc L (.int j :: .ref a :: st))) (hd : decode bytes pc = .ok (.aaload, 1)) (A : Arv Z h a k ty z vs dv) (ht : ty.isReference = true) (hj : ¬ j < 0 ∧ j < z) (hv : vs.getD j.toNatClampNeg dv = w) (hp : pc + 1 = pc') : Wk p l e R s m args below meth c bytes mxl rt Z a0 EL own n0 h0 ws S0 V h cells slots (mkF m pc' L (w :: st)) := by
  subst hp
  obtain ⟨cl, A1, -, S, M, H, -⟩ := A
  have hin := inb_of S hj
  exact W.reads fun T locs X eT hx hby hZ hown => ⟨T, X, eT, X.aaload hx (by rw [eT]; exact A1.1) (State.isArrayOf_alike hZ.alike A1.2.1) ht A1.2.2 hin (H.at hin hv) (g := mkF m pc L (.int j :: .ref a :: st)) rfl rfl (hb hby hd)⟩
theorem Wk.castore {x x' : Int32} (W : Wk p l e R s m args below meth c bytes mxl rt Z a0 EL own n0 h0 ws S0 V h cells slots (mkF m pc L (.int x :: .int j :: .ref a :: st))) (hd : decode bytes pc = .ok (.castore, 1)) (A : Arv Z h a k .char z vs dv) (hj : ¬ j < 0 ∧ j < z) (hi : j.toNatClampNeg = i) (hlt : i < vs.length) (hx' : nar .char x = x') (sf : Safe Z EL V h a) (q : a ∈ ws ∨ h0.size ≤ a) (hp : pc + 1 = pc') :
    ∃ h', Wk p l e R s m args below meth c bytes mxl rt Z a0 EL own n0 h0 ws S0 V h' cells slots (mkF m pc' L st) ∧ Wr h h' a j.toNatClampNeg (.int x') ∧ Arv Z h' a k .char z (vs.set i (.int x')) dv ∧ ∀ x, Safe Z EL V h x → Safe Z EL V h' x := by
  subst hp hx'
  obtain ⟨cl, A1, q1, S, M, H, G⟩ := A
  have hin := inb_of S hj
  obtain ⟨h', W', w', sf'⟩ := W.wrote (cells' := 0) (slots' := 0) (h' := h) sf q fun T locs X eT hx hby hZ hown => stC X hx hZ eT A1 hin (g := mkF m pc L (.int x :: .int j :: .ref a :: st)) rfl rfl (hb hby hd)
  exact ⟨h', W', w', Arv.set A1 q1 S M H G (fits_nar_char _) w' i hi hlt, sf'⟩
theorem Wk.bastore {x x' : Int32} (W : Wk p l e R s m args below meth c bytes mxl rt Z a0 EL own n0 h0 ws S0 V h cells slots (mkF m pc L (.int x :: .int j :: .ref a :: st))) (hd : decode bytes pc = .ok (.bastore, 1)) (A : Arv Z h a k .byte z vs dv) (hj : ¬ j < 0 ∧ j < z) (hi : j.toNatClampNeg = i) (hlt : i < vs.length) (hx' : nar .byte x = x') (sf : Safe Z EL V h a) (q : a ∈ ws ∨ h0.size ≤ a) (hp : pc + 1 = pc') :
    ∃ h', Wk p l e R s m args below meth c bytes mxl rt Z a0 EL own n0 h0 ws S0 V h' cells slots (mkF m pc' L st) ∧ Wr h h' a j.toNatClampNeg (.int x') ∧ Arv Z h' a k .byte z (vs.set i (.int x')) dv ∧ ∀ x, Safe Z EL V h x → Safe Z EL V h' x := by
  subst hp hx'
  obtain ⟨cl, A1, q1, S, M, H, G⟩ := A
  have hin := inb_of S hj
  obtain ⟨h', W', w', sf'⟩ := W.wrote (cells' := 0) (slots' := 0) (h' := h) sf q fun T locs X eT hx hby hZ hown => stB X hx hZ eT A1 hin (g := mkF m pc L (.int x :: .int j :: .ref a :: st)) rfl rfl (hb hby hd)
  exact ⟨h', W', w', Arv.set A1 q1 S M H G (fits_nar_byte _) w' i hi hlt, sf'⟩
theorem Wk.iastore {x x' : Int32} (W : Wk p l e R s m args below meth c bytes mxl rt Z a0 EL own n0 h0 ws S0 V h cells slots (mkF m pc L (.int x :: .int j :: .ref a :: st))) (hd : decode bytes pc = .ok (.iastore, 1)) (A : Arv Z h a k .int z vs dv) (hj : ¬ j < 0 ∧ j < z) (hi : j.toNatClampNeg = i) (hlt : i < vs.length) (hx' : x = x') (sf : Safe Z EL V h a) (q : a ∈ ws ∨ h0.size ≤ a) (hp : pc + 1 = pc') :
    ∃ h', Wk p l e R s m args below meth c bytes mxl rt Z a0 EL own n0 h0 ws S0 V h' cells slots (mkF m pc' L st) ∧ Wr h h' a j.toNatClampNeg (.int x') ∧ Arv Z h' a k .int z (vs.set i (.int x')) dv ∧ ∀ x, Safe Z EL V h x → Safe Z EL V h' x := by
  subst hp hx'
  obtain ⟨cl, A1, q1, S, M, H, G⟩ := A
  have hin := inb_of S hj
  obtain ⟨h', W', w', sf'⟩ := W.wrote (cells' := 0) (slots' := 0) (h' := h) sf q fun T locs X eT hx hby hZ hown => stI X hx hZ eT A1 hin (g := mkF m pc L (.int x :: .int j :: .ref a :: st)) rfl rfl (hb hby hd)
  exact ⟨h', W', w', Arv.set A1 q1 S M H G rfl w' i hi hlt, sf'⟩
theorem Wk.lastore {x x' : Int64} (W : Wk p l e R s m args below meth c bytes mxl rt Z a0 EL own n0 h0 ws S0 V h cells slots (mkF m pc L (.long x :: .int j :: .ref a :: st))) (hd : decode bytes pc = .ok (.lastore, 1)) (A : Arv Z h a k .long z vs dv) (hj : ¬ j < 0 ∧ j < z) (hi : j.toNatClampNeg = i) (hlt : i < vs.length) (hx' : x = x') (sf : Safe Z EL V h a) (q : a ∈ ws ∨ h0.size ≤ a) (hp : pc + 1 = pc') :
    ∃ h', Wk p l e R s m args below meth c bytes mxl rt Z a0 EL own n0 h0 ws S0 V h' cells slots (mkF m pc' L st) ∧ Wr h h' a j.toNatClampNeg (.long x') ∧ Arv Z h' a k .long z (vs.set i (.long x')) dv ∧ ∀ x, Safe Z EL V h x → Safe Z EL V h' x := by
  subst hp hx'
  obtain ⟨cl, A1, q1, S, M, H, G⟩ := A
  have hin := inb_of S hj
  obtain ⟨h', W', w', sf'⟩ := W.wrote (cells' := 0) (slots' := 0) (h' := h) sf q fun T locs X eT hx hby hZ hown => stJ X hx hZ eT A1 hin (g := mkF m pc L (.long x :: .int j :: .ref a :: st)) rfl rfl (hb hby hd)
  exact ⟨h', W', w', Arv.set A1 q1 S M H G rfl w' i hi hlt, sf'⟩
end Arrays

/-- what a walk owes at its end -/
def Done (p : Program) (e : Env) (below : List Frame) (S0 s : State) (Z : State) (EL : List (String × Nat)) (n0 : Nat) (h0 : Heap) (ws : List Addr) (R : Room) (Q : Option Value → Heap → Vm → Prop) : Prop :=
  ∃ s₂ o, Steps p.tables e below S0 s₂ ∧ s₂.status = .running ∧ Ended s₂ below o ∧ ∃ v L, o = .returned v ∧ (Fr n0 L ∧ Keep h0 s₂.heap ws ∧ Q v s₂.heap s₂.vm) ∧ CHr Z EL s.vm h0 s₂.vm s₂.heap ∧ ReturnedEndW s o s₂ L R.cells R.slots
theorem Wk.fin {g : JFrame} (W : Wk p l e R s m args below meth c bytes mxl rt Z a0 EL own n0 h0 ws S0 V h cells slots g) {v : Option Value} {Q : Option Value → Heap → Vm → Prop} (hv : rt = none → v = none) (hc : cells ≤ R.cells) (hs : slots ≤ R.slots) (hQ : ∀ V', (∀ x, x < h.size → Safe Z EL V h x → Safe Z EL V' h x) → Q v h V')
    (f : ∀ (T : State) (locs : List Loc) (fs : List Frame), Stand p l e R (s.setVm V) m args below meth c T locs cells slots → p.tables.exec = Jvm.exec → c.code = bytes → (∀ (f : JFrame) (acts : List Action), f.method = m → f.locked = none → f.entered = [] → (doReturn e (T.setTop f) acts v).1 = T.setFrames fs) → Steps p.tables e below (T.setTop g) (T.setFrames fs)) : Done p e below S0 s Z EL n0 h0 ws R Q := by
  obtain ⟨a1, b, T, locs, X, eT, N, k⟩ := W
  obtain ⟨k0, hS, hk⟩ := b.2.2.1
  obtain ⟨fs, hr, hrun, hended, r1, r2, r3, r4⟩ := X.leaveW hS (by rw [eT]; exact hk) (v := v) (fun z => hv (by rw [← a1.2.2.2.1]; exact z)) a1.2.2.2.2.1
  have hh : (T.setFrames fs).heap = h := eT
  have hC2 := CHv.at X b.1 a1.2.2.2.2.2.1 b.2.2.2.2.1.1
  have hC : CHr Z EL s.vm h0 (T.setFrames fs).vm (T.setFrames fs).heap := by
    rw [hh]
    exact b.2.2.2.2.1.trans hC2
  refine ⟨_, _, k _ (f T locs fs X a1.1 a1.2.1 hr), hrun, hended, v, locs, rfl, ⟨N, by rw [hh]; exact b.2.2.2.2.2, by rw [hh]; exact hQ _ fun x hx sx => hC2.safe hx sx⟩, hC, r1, r2, r3, r4.mono hc hs⟩
theorem Wk.vret (W : Wk p l e R s m args below meth c bytes mxl rt Z a0 EL own n0 h0 ws S0 V h cells slots (mkF m pc L [])) (hd : decode bytes pc = .ok (.return_, 1)) (hr : rt = none) {Q : Option Value → Heap → Vm → Prop} (hc : cells ≤ R.cells) (hs : slots ≤ R.slots) (hQ : ∀ V', (∀ x, x < h.size → Safe Z EL V h x → Safe Z EL V' h x) → Q none h V') : Done p e below S0 s Z EL n0 h0 ws R Q := by
  have hrt := W.1.2.2.2.1
  exact W.fin (v := none) (fun _ => rfl) hc hs hQ fun T locs fs X hx hby hr' => X.returnOut hx (hrt.trans hr) (hb hby hd) hr'
theorem Wk.aret {w : Value} {t : FieldType} (W : Wk p l e R s m args below meth c bytes mxl rt Z a0 EL own n0 h0 ws S0 V h cells slots (mkF m pc L (w :: st))) (hd : decode bytes pc = .ok (.areturn, 1)) (hr : rt = some t) (ht : t.isReference = true) (hw : w.isRef = true) (hn : narrow t w = w) {Q : Option Value → Heap → Vm → Prop} (hc : cells ≤ R.cells) (hs : slots ≤ R.slots) (hQ : ∀ V', (∀ x, x < h.size → Safe Z EL V h x → Safe Z EL V' h x) → Q (some w) h V') : Done p e below S0 s Z EL n0 h0 ws R Q := by
  have hrt := W.1.2.2.2.1
  exact W.fin (v := some w) (fun z => by rw [hr] at z; cases z) hc hs hQ fun T locs fs X hx hby hr' => retOut X hx (hrt.trans hr) hn (Or.inr (Or.inr (Or.inr (Or.inr ⟨rfl, ht, hw⟩)))) (hb hby hd) hr'
theorem Wk.iret {z : Int32} {t : FieldType} (W : Wk p l e R s m args below meth c bytes mxl rt Z a0 EL own n0 h0 ws S0 V h cells slots (mkF m pc L (.int z :: st))) (hd : decode bytes pc = .ok (.ireturn, 1)) (hr : rt = some t) (ht : t = .int ∨ t = .boolean ∨ t = .byte ∨ t = .char ∨ t = .short) (hn : narrow t (.int z) = .int z) {Q : Option Value → Heap → Vm → Prop} (hc : cells ≤ R.cells) (hs : slots ≤ R.slots) (hQ : ∀ V', (∀ x, x < h.size → Safe Z EL V h x → Safe Z EL V' h x) → Q (some (.int z)) h V') : Done p e below S0 s Z EL n0 h0 ws R Q := by
  have hrt := W.1.2.2.2.1
  exact W.fin (v := some (.int z)) (fun z => by rw [hr] at z; cases z) hc hs hQ fun T locs fs X hx hby hr' => retOut X hx (hrt.trans hr) hn (Or.inl ⟨rfl, ht, z, rfl⟩) (hb hby hd) hr'
theorem Wk.lret {z : Int64} (W : Wk p l e R s m args below meth c bytes mxl rt Z a0 EL own n0 h0 ws S0 V h cells slots (mkF m pc L (.long z :: st))) (hd : decode bytes pc = .ok (.lreturn, 1)) (hr : rt = some .long) {Q : Option Value → Heap → Vm → Prop} (hc : cells ≤ R.cells) (hs : slots ≤ R.slots) (hQ : ∀ V', (∀ x, x < h.size → Safe Z EL V h x → Safe Z EL V' h x) → Q (some (.long z)) h V') : Done p e below S0 s Z EL n0 h0 ws R Q := by
  have hrt := W.1.2.2.2.1
  exact W.fin (v := some (.long z)) (fun z => by rw [hr] at z; cases z) hc hs hQ fun T locs fs X hx hby hr' => retOut X hx (hrt.trans hr) rfl (Or.inr (Or.inl ⟨rfl, rfl, z, rfl⟩)) (hb hby hd) hr'
/-- a body's contract: called with as', on the heap h, it comes back; it has written at most the cells ws and new ones; Q holds of what it returned and of the heap -/
def Con (l : Launch) (Z : State) (EL : List (String × Nat)) (n0 : Nat) (y : MethodName) (bytes : ByteArray) (mxl : Nat) (rt : Option FieldType) (rm : Room) (as' : Array Value) (h : Heap) (ws : List Addr) (Q : Option Value → Heap → Vm → Prop) (wds : List Jvm.Cond) : Prop :=
  MetFree l y (head1 (Jvm.Cond.code y bytes mxl rt :: wds) rm) (fun a U => a = as' ∧ Z.Warmed39 U.vm ∧ U.heap = h ∧ CHv Z EL U.vm h ∧ ∀ x ∈ ws, Safe Z EL U.vm h x) (fun _ _ _ _ _ => True) (fun _ U o U' => ∃ v L, o = .returned v ∧ (Fr n0 L ∧ Keep h U'.heap ws ∧ Q v U'.heap U'.vm) ∧ CHr Z EL U.vm U.heap U'.vm U'.heap ∧ ReturnedEndW U o U' L rm.cells rm.slots)
theorem Con.of {y : MethodName} {rm : Room} {as' : Array Value} {Q : Option Value → Heap → Vm → Prop} {wds : List Jvm.Cond} {L0 : Array Slot} (hpn : plainFor y = true) (hef : ∀ m, entryFrame m as' mxl = mkF m 0 L0 []) (hws : ∀ x ∈ ws, n0 ≤ x) (hO : Old Z n0 h0) (hEL : EW Z a0 EL)
    (body : ∀ (p : Program) (e : Env) (s : State) (m : MethodId) (below : List Frame) (meth : Method) (c : Code) (S0 : State), meth.name = y.name → (∀ x ∈ ws, Safe Z EL s.vm h0 x) → Wk p l e rm s m as' below meth c bytes mxl rt Z a0 EL y.cls n0 h0 ws S0 s.vm h0 0 0 (mkF m 0 L0 []) → Done p e below S0 s Z EL n0 h0 ws rm Q) : Con l Z EL n0 y bytes mxl rt rm as' h0 ws Q wds := by
  refine MetFree.of_bodySF hpn hisR ?_
  intro p e s m args below meth c s₁ Bd hml hP hK
  obtain ⟨rfl, hZ, hh, hC, hsf⟩ := hP
  have hnm := (name_of_methodNamed Bd.named Bd.method).1
  have e0 : s₁.heap = h0 := by rw [← hh, Bd.state]; rfl
  have hn0 : n0 ≤ h0.size := by rw [← hO.1]; exact hO.2.1
  have X0 : Stand p l e rm (s.setVm s.vm) m args below meth c s₁ [] 0 0 := Stand.of_body Bd
  obtain ⟨s₂, o, g1, g2, g3, v, L, g4, g5, g6, g7⟩ := body p e s m below meth c (s₁.setTop (entryFrame m args mxl)) hnm hsf ⟨⟨Bd.exec, Bd.bytes, hml, Bd.returns, Bd.notSynchronized, hEL, hws, hn0, hh, hO⟩, ⟨hZ, findClass_of_methodNamed Bd.named, ⟨0, (State.WarmedH.refl s).since 0, Nat.zero_le _⟩, hO, CHr.refl hC, Keep.refl _ _⟩, s₁, [], X0, e0, Fr.nil n0, fun t k => castTop (hef m) k⟩
  exact ⟨s₂, o, g1, g2, g3, v, L, g4, g5, by rw [hh]; exact g6, g7⟩

theorem Con.back {y : MethodName} {bytes' : ByteArray} {mxl' : Nat} {rt' : Option FieldType} {rm : Room} {as' : Array Value} {ws' : List Addr} {Q : Option Value → Heap → Vm → Prop} {len Wd : Nat} (con : Con l Z EL n0 y bytes' mxl' rt' rm as' h ws' Q []) (hZ : Z.Warmed39 V) (wc : (Jvm.Cond.code y bytes' mxl' rt').before a0 Z = true) (wz : (Jvm.Cond.initialized y.cls).before a0 Z = true) (hf : rm.frames + 1 ≤ R.frames) (hl : Wd + (mxl' + 11) + rm.locals ≤ R.locals) (hEL : EW Z a0 EL) (H : CHv Z EL V h) (hsf : ∀ x ∈ ws', Safe Z EL V h x) :
    BackS l R p e below (s.setVm V) args y len Wd (fun A a => a = as' ∧ A.U.heap = h ∧ A.cells + rm.cells ≤ R.cells ∧ A.slots + rm.slots ≤ R.slots) (fun A _ v B => ∃ L, (Fr n0 L ∧ Keep h B.U.heap ws' ∧ Q v B.U.heap B.U.vm) ∧ B.locs = A.locs ++ L ∧ B.cells = A.cells + rm.cells ∧ B.slots = A.slots + rm.slots ∧ CHr Z EL V h B.U.vm B.U.heap) := by
  refine BackS.of_freeW (bytes := bytes') (maxL := mxl') (ret := rt') (E := fun _ first o t L k n => k = rm.cells ∧ n = rm.slots ∧ (∃ v, o = .returned v ∧ (Fr n0 L ∧ Keep h t.heap ws' ∧ Q v t.heap t.vm)) ∧ CHr Z EL first.vm first.heap t.vm t.heap) con hf hl ?_ ?_ (fun _ _ _ _ _ _ _ _ _ => trivial) ?_ ?_
  · intro m meth c A a Y hp
    have hU : Z.Warmed39 A.U.vm := wtrans (s := s.setVm V) hZ Y.warmed
    exact ⟨by show (Jvm.Cond.and _ .tt).before a A.U = true; rw [Cond.before_and, mv hU wc]; rfl, mv hU wc, mv hU wz, hp.2.2.1, hp.2.2.2⟩
  · intro m meth c A a g mk Y hp
    have q := CHv.at Y hZ hEL H
    exact ⟨hp.1, wtrans (s := s.setVm V) hZ Y.warmed, hp.2.1, q.1, fun x hx => (Nat.lt_or_ge x h.size).elim (fun z => q.safe z (hsf x hx)) (fun z => Safe.new z)⟩
  · rintro _ _ _ _ ⟨v, L, h1, h2, h3, h4⟩
    exact ⟨L, _, _, h4, rfl, rfl, ⟨v, h1, h2⟩, h3⟩
  · intro m meth c A a g mk v t L k n Y hp _ _ he
    obtain ⟨e1, e2, ⟨v', e3, e4⟩, e5⟩ := he
    cases e3; subst e1 e2
    exact ⟨L, e4, rfl, rfl, rfl, (CHv.at Y hZ hEL H).trans (by rw [← hp.2.1]; exact e5)⟩
theorem Wk.called {g : JFrame} {G : Option Value → JFrame} {rm : Room} {ws' : List Addr} {Q : Option Value → Heap → Vm → Prop} {cells' slots' : Nat} (W : Wk p l e R s m args below meth c bytes mxl rt Z a0 EL own n0 h0 ws S0 V h cells slots g) (hq : ∀ x ∈ ws', x ∈ ws ∨ h0.size ≤ x) (hc : cells + rm.cells = cells') (hs : slots + rm.slots = slots')
    (f : ∀ (T : State) (locs : List Loc), Stand p l e R (s.setVm V) m args below meth c T locs cells slots → T.heap = h → p.tables.exec = Jvm.exec → c.code = bytes → Z.Warmed39 (s.setVm V).vm → (s.setVm V).vm.findClass own = some m.cls → ∃ (v : Option Value) (vm₁ : Vm) (B : Pt), (s.setVm V).WarmedH vm₁ ∧ Stand p l e R ((s.setVm V).setVm B.U.vm) m args below meth c B.U B.locs B.cells B.slots ∧ (s.setVm V).Since B.U.vm B.U.heap.size ∧ T.heap.size ≤ B.U.heap.size ∧ (∃ L, (Fr n0 L ∧ Keep h B.U.heap ws' ∧ Q v B.U.heap B.U.vm) ∧ B.locs = locs ++ L ∧ B.cells = cells + rm.cells ∧ B.slots = slots + rm.slots ∧ CHr Z EL V h B.U.vm B.U.heap) ∧ Steps p.tables e below (T.setTop g) (B.U.setTop (G v))) :
    ∃ V' h' v, Wk p l e R s m args below meth c bytes mxl rt Z a0 EL own n0 h0 ws S0 V' h' cells' slots' (G v) ∧ Keep h h' ws' ∧ Q v h' V' ∧ ∀ x, x < h.size → Safe Z EL V h x → Safe Z EL V' h' x := by
  obtain ⟨a1, b, T, locs, X, eT, N, k⟩ := W
  obtain ⟨k0, hS, hk⟩ := b.2.2.1
  obtain ⟨v, vm₁, B, -, X', hS', hle, ⟨L', hQ, l1, l2, l3, hC⟩, stp⟩ := f T locs X eT a1.1 a1.2.1 b.1 b.2.1
  obtain ⟨X2, hS2, hZ2, hown2⟩ := rebS hS (by rw [eT]; exact hk) X' hS' hle b.1 b.2.1
  rw [l1, l2, l3, hc, hs] at X2
  have hge : ∀ x ∈ ws', n0 ≤ x := fun x hx => (hq x hx).elim (fun z => a1.2.2.2.2.2.2.1 x z) (fun z => Nat.le_trans a1.2.2.2.2.2.2.2.1 z)
  exact ⟨B.U.vm, B.U.heap, v, ⟨a1, ⟨hZ2, hown2, ⟨_, hS2, Nat.le_refl _⟩, b.2.2.2.1.keep hQ.2.1 hge, b.2.2.2.2.1.trans hC, b.2.2.2.2.2.trans hQ.2.1 hq⟩, B.U, _, X2, rfl, N.app hQ.1, fun t z => k t (stp.trans z)⟩, hQ.2.1, hQ.2.2, fun x hx sx => hC.safe hx sx⟩
section Calls
variable {y z : MethodName} {bytes' : ByteArray} {mxl' : Nat} {rt' : Option FieldType} {rm : Room} {ws' : List Addr} {Q : Option Value → Heap → Vm → Prop} {argsL rest stk : List Value} {index Wd cells' slots' : Nat}
theorem Wk.callS (W : Wk p l e R s m args below meth c bytes mxl rt Z a0 EL own n0 h0 ws S0 V h cells slots (mkF m pc L stk)) (hd : decode bytes pc = .ok (.invokestatic index, 3)) (con : Con l Z EL n0 y bytes' mxl' rt' rm argsL.toArray h ws' Q []) (w1 : (Jvm.Cond.methodLink own index y).before a0 Z = true) (w2 : (Jvm.Cond.static y).before a0 Z = true) (w3 : (Jvm.Cond.initialized y.cls).before a0 Z = true) (w4 : (Jvm.Cond.code y bytes' mxl' rt').before a0 Z = true) (hy : y.cls ≠ "java/lang/invoke/MethodHandle" ∧ y.cls ≠ "java/lang/invoke/VarHandle") (hlen : ∀ sig, parseMethodDescriptor y.desc = some sig → argsL.length = sig.parameters.length) (hstk : stk = argsL.reverse ++ rest) (hW : (rest.map fun v => v.category).sum = Wd) (hf : rm.frames + 1 ≤ R.frames) (hl : Wd + (mxl' + 11) + rm.locals ≤ R.locals) (hL : L.size = mxl) (hsf : ∀ x ∈ ws', Safe Z EL V h x) (hq : ∀ x ∈ ws', x ∈ ws ∨ h0.size ≤ x) (hp : pc + 3 = pc') (hc : cells + rm.cells = cells') (hs : slots + rm.slots = slots') (hc' : cells' ≤ R.cells) (hs' : slots' ≤ R.slots) :
    ∃ V' h' v, Wk p l e R s m args below meth c bytes mxl rt Z a0 EL own n0 h0 ws S0 V' h' cells' slots' (mkF m pc' L (v.toList ++ rest)) ∧ Keep h h' ws' ∧ Q v h' V' ∧ ∀ x, x < h.size → Safe Z EL V h x → Safe Z EL V' h' x := by
  subst hp
  have hml := W.1.2.2.1
  have hEL := W.el
  have H := W.chv
  refine W.called (G := fun v => mkF m (pc + 3) L (v.toList ++ rest)) hq hc hs fun T locs X eT hx hby hZ hown => ?_
  exact callSS X hx (y := y) hown (mvT hZ w1) (mvT hZ w2) (mvT hZ w3) (mvT hZ w4) hy (con.back hZ w4 w3 hf hl hEL H hsf) (g := mkF m pc L stk) rfl (hL.trans hml.symm) (argsL := argsL) (rest := rest) hlen hstk (by subst hW; show 2 * 0 + _ ≤ _; exact Nat.le_of_eq (Nat.zero_add _)) (hb hby hd) (fun _ _ => ⟨rfl, eT, by rw [← hc] at hc'; exact hc', by rw [← hs] at hs'; exact hs'⟩)
theorem Wk.callI {a : Addr} (W : Wk p l e R s m args below meth c bytes mxl rt Z a0 EL own n0 h0 ws S0 V h cells slots (mkF m pc L stk)) (hd : decode bytes pc = .ok (.invokespecial index, 3)) (con : Con l Z EL n0 y bytes' mxl' none rm (.ref a :: argsL).toArray h ws' Q []) (hy1 : y.name = "<init>") (w1 : (Jvm.Cond.methodLink own index y).before a0 Z = true) (w2 : (Jvm.Cond.instanceMethod y).before a0 Z = true) (w3 : (Jvm.Cond.initialized y.cls).before a0 Z = true) (w4 : (Jvm.Cond.code y bytes' mxl' none).before a0 Z = true) (hy : y.cls ≠ "java/lang/invoke/MethodHandle" ∧ y.cls ≠ "java/lang/invoke/VarHandle") (hlen : ∀ sig, parseMethodDescriptor y.desc = some sig → argsL.length = sig.parameters.length) (hstk : stk = argsL.reverse ++ .ref a :: rest) (hW : (rest.map fun v => v.category).sum = Wd) (hf : rm.frames + 1 ≤ R.frames) (hl : Wd + (mxl' + 11) + rm.locals ≤ R.locals) (hL : L.size = mxl) (hsf : ∀ x ∈ ws', Safe Z EL V h x) (hq : ∀ x ∈ ws', x ∈ ws ∨ h0.size ≤ x) (hp : pc + 3 = pc') (hc : cells + rm.cells = cells') (hs : slots + rm.slots = slots') (hc' : cells' ≤ R.cells) (hs' : slots' ≤ R.slots) :
    ∃ V' h' v, Wk p l e R s m args below meth c bytes mxl rt Z a0 EL own n0 h0 ws S0 V' h' cells' slots' (mkF m pc' L (v.toList ++ rest)) ∧ Keep h h' ws' ∧ Q v h' V' ∧ ∀ x, x < h.size → Safe Z EL V h x → Safe Z EL V' h' x := by
  subst hp
  have hml := W.1.2.2.1
  have hEL := W.el
  have H := W.chv
  refine W.called (G := fun v => mkF m (pc + 3) L (v.toList ++ rest)) hq hc hs fun T locs X eT hx hby hZ hown => ?_
  exact X.specialBackS hx (y := y) hy1 hown (mvT hZ w1) (mvT hZ w2) (mvT hZ w4) hy (con.back hZ w4 w3 hf hl hEL H hsf) (g := mkF m pc L stk) rfl (hL.trans hml.symm) (Steps.refl _) (a := a) (argsL := argsL) (rest := rest) hlen hstk (by subst hW; show 2 * 0 + _ ≤ _; exact Nat.le_of_eq (Nat.zero_add _)) (hb hby hd) (fun _ _ => ⟨rfl, eT, by rw [← hc] at hc'; exact hc', by rw [← hs] at hs'; exact hs'⟩)
theorem Wk.callV {a : Addr} {C : String} (W : Wk p l e R s m args below meth c bytes mxl rt Z a0 EL own n0 h0 ws S0 V h cells slots (mkF m pc L stk)) (hd : decode bytes pc = .ok (.invokevirtual index, 3)) (con : Con l Z EL n0 z bytes' mxl' rt' rm (.ref a :: argsL).toArray h ws' Q []) (E : Exa Z h a C) (w1 : (Jvm.Cond.methodLink own index y).before a0 Z = true) (wd : (Jvm.Cond.declares y).before a0 Z = true) (wn : (Jvm.Cond.selects C y y).before a0 Z = true ∨ ∃ S, (Jvm.Cond.superclass y.cls S).before a0 Z = true) (ws1 : (Jvm.Cond.selects C y z).before a0 Z = true) (w2 : (Jvm.Cond.instanceMethod z).before a0 Z = true) (w3 : (Jvm.Cond.initialized z.cls).before a0 Z = true) (w4 : (Jvm.Cond.code z bytes' mxl' rt').before a0 Z = true) (hy : y.cls ≠ "java/lang/invoke/MethodHandle" ∧ y.cls ≠ "java/lang/invoke/VarHandle") (hlen : ∀ sig, parseMethodDescriptor y.desc = some sig → argsL.length = sig.parameters.length) (hstk : stk = argsL.reverse ++ .ref a :: rest) (hW : (rest.map fun v => v.category).sum = Wd) (hf : rm.frames + 1 ≤ R.frames) (hl : Wd + (mxl' + 11) + rm.locals ≤ R.locals) (hL : L.size = mxl) (hsf : ∀ x ∈ ws', Safe Z EL V h x) (hq : ∀ x ∈ ws', x ∈ ws ∨ h0.size ≤ x) (hp : pc + 3 = pc') (hc : cells + rm.cells = cells') (hs : slots + rm.slots = slots') (hc' : cells' ≤ R.cells) (hs' : slots' ≤ R.slots) :
    ∃ V' h' v, Wk p l e R s m args below meth c bytes mxl rt Z a0 EL own n0 h0 ws S0 V' h' cells' slots' (mkF m pc' L (v.toList ++ rest)) ∧ Keep h h' ws' ∧ Q v h' V' ∧ ∀ x, x < h.size → Safe Z EL V h x → Safe Z EL V' h' x := by
  subst hp
  have hml := W.1.2.2.1
  have hEL := W.el
  have H := W.chv
  refine W.called (G := fun v => mkF m (pc + 3) L (v.toList ++ rest)) hq hc hs fun T locs X eT hx hby hZ hown => ?_
  obtain ⟨cB, kB, q1, q2, q3⟩ := isOf hZ eT E
  have hnf : NotFace (s.setVm V) y := wn.elim (fun w => notFace_of_selects (args := #[]) (mvT hZ w)) (fun ⟨S, w⟩ => nf_super (args := #[]) (mvT hZ w))
  exact X.virtualBackS hx (y := y) (z := z) hown (mvT hZ w1) (mvT hZ wd) hnf (mvT hZ ws1) (mvT hZ w2) hy (con.back hZ w4 w3 hf hl hEL H hsf) q1 q3 (g := mkF m pc L stk) rfl (hL.trans hml.symm) (Steps.refl _) (argsL := argsL) (rest := rest) hlen hstk (by subst hW; show 2 * 0 + _ ≤ _; exact Nat.le_of_eq (Nat.zero_add _)) (hb hby hd) (fun _ _ => ⟨rfl, eT, by rw [← hc] at hc'; exact hc', by rw [← hs] at hs'; exact hs'⟩)
/-- a private method, called by invokevirtual -/
theorem Wk.callP {a : Addr} {C : String} (W : Wk p l e R s m args below meth c bytes mxl rt Z a0 EL own n0 h0 ws S0 V h cells slots (mkF m pc L stk)) (hd : decode bytes pc = .ok (.invokevirtual index, 3)) (con : Con l Z EL n0 y bytes' mxl' rt' rm (.ref a :: argsL).toArray h ws' Q []) (E : Exa Z h a C) (w1 : (Jvm.Cond.methodLink own index y).before a0 Z = true) (w2 : (Jvm.Cond.instanceMethod y).before a0 Z = true) (ws1 : (Jvm.Cond.selects y.cls y y).before a0 Z = true) (wp : (Jvm.Cond.privateMethod y).before a0 Z = true) (w3 : (Jvm.Cond.initialized y.cls).before a0 Z = true) (w4 : (Jvm.Cond.code y bytes' mxl' rt').before a0 Z = true) (hy : y.cls ≠ "java/lang/invoke/MethodHandle" ∧ y.cls ≠ "java/lang/invoke/VarHandle") (hlen : ∀ sig, parseMethodDescriptor y.desc = some sig → argsL.length = sig.parameters.length) (hstk : stk = argsL.reverse ++ .ref a :: rest) (hW : (rest.map fun v => v.category).sum = Wd) (hf : rm.frames + 1 ≤ R.frames) (hl : Wd + (mxl' + 11) + rm.locals ≤ R.locals) (hL : L.size = mxl) (hsf : ∀ x ∈ ws', Safe Z EL V h x) (hq : ∀ x ∈ ws', x ∈ ws ∨ h0.size ≤ x) (hp : pc + 3 = pc') (hc : cells + rm.cells = cells') (hs : slots + rm.slots = slots') (hc' : cells' ≤ R.cells) (hs' : slots' ≤ R.slots) :
    ∃ V' h' v, Wk p l e R s m args below meth c bytes mxl rt Z a0 EL own n0 h0 ws S0 V' h' cells' slots' (mkF m pc' L (v.toList ++ rest)) ∧ Keep h h' ws' ∧ Q v h' V' ∧ ∀ x, x < h.size → Safe Z EL V h x → Safe Z EL V' h' x := by
  subst hp
  have hml := W.1.2.2.1
  have hEL := W.el
  have H := W.chv
  refine W.called (G := fun v => mkF m (pc + 3) L (v.toList ++ rest)) hq hc hs fun T locs X eT hx hby hZ hown => ?_
  obtain ⟨cl, q1, q2⟩ := (Ins.self E).cell
  exact X.privateBackS hx (y := y) hown (mvT hZ w1) (mvT hZ w2) (mvT hZ ws1) (Cond.privateMethod_at (mvP hZ wp (args := #[]))) (mvT hZ w4) hy (con.back hZ w4 w3 hf hl hEL H hsf) (g := mkF m pc L stk) rfl (hL.trans hml.symm) (Steps.refl _) (a := a) (by rw [eT]; exact q1) q2 (argsL := argsL) (rest := rest) hlen hstk (by subst hW; show 2 * 0 + _ ≤ _; exact Nat.le_of_eq (Nat.zero_add _)) (hb hby hd) (fun _ _ => ⟨rfl, eT, by rw [← hc] at hc'; exact hc', by rw [← hs] at hs'; exact hs'⟩)
/-- .. the entry names a subclass of the declaring one -/
theorem Wk.callU {a : Addr} {C owner : String} (W : Wk p l e R s m args below meth c bytes mxl rt Z a0 EL own n0 h0 ws S0 V h cells slots (mkF m pc L stk)) (hd : decode bytes pc = .ok (.invokevirtual index, 3)) (con : Con l Z EL n0 z bytes' mxl' rt' rm (.ref a :: argsL).toArray h ws' Q []) (E : Exa Z h a C) (w1 : (Jvm.Cond.methodLink own index y).before a0 Z = true) (wsm : (Jvm.Cond.sameMethod y.cls owner y.name y.desc).before a0 Z = true) (wd : (Jvm.Cond.declares ⟨owner, y.name, y.desc⟩).before a0 Z = true) (how : owner ≠ "java/lang/invoke/MethodHandle" ∧ owner ≠ "java/lang/invoke/VarHandle") (ws1 : (Jvm.Cond.selects C y z).before a0 Z = true) (w2 : (Jvm.Cond.instanceMethod z).before a0 Z = true) (w3 : (Jvm.Cond.initialized z.cls).before a0 Z = true) (w4 : (Jvm.Cond.code z bytes' mxl' rt').before a0 Z = true) (hlen : ∀ sig, parseMethodDescriptor y.desc = some sig → argsL.length = sig.parameters.length) (hstk : stk = argsL.reverse ++ .ref a :: rest) (hW : (rest.map fun v => v.category).sum = Wd) (hf : rm.frames + 1 ≤ R.frames) (hl : Wd + (mxl' + 11) + rm.locals ≤ R.locals) (hL : L.size = mxl) (hsf : ∀ x ∈ ws', Safe Z EL V h x) (hq : ∀ x ∈ ws', x ∈ ws ∨ h0.size ≤ x) (hp : pc + 3 = pc') (hc : cells + rm.cells = cells') (hs : slots + rm.slots = slots') (hc' : cells' ≤ R.cells) (hs' : slots' ≤ R.slots) :
    ∃ V' h' v, Wk p l e R s m args below meth c bytes mxl rt Z a0 EL own n0 h0 ws S0 V' h' cells' slots' (mkF m pc' L (v.toList ++ rest)) ∧ Keep h h' ws' ∧ Q v h' V' ∧ ∀ x, x < h.size → Safe Z EL V h x → Safe Z EL V' h' x := by
  subst hp
  have hml := W.1.2.2.1
  have hEL := W.el
  have H := W.chv
  refine W.called (G := fun v => mkF m (pc + 3) L (v.toList ++ rest)) hq hc hs fun T locs X eT hx hby hZ hown => ?_
  obtain ⟨cB, kB, q1, q2, q3⟩ := isOf hZ eT E
  exact X.virtualBackUpS hx (x := y) (y := z) hown (mvT hZ w1) (mvT hZ wsm) (mvT hZ wd) how (mvT hZ ws1) (mvT hZ w2) (con.back hZ w4 w3 hf hl hEL H hsf) q1 q3 (g := mkF m pc L stk) rfl (hL.trans hml.symm) (Steps.refl _) (argsL := argsL) (rest := rest) hlen hstk (by subst hW; show 2 * 0 + _ ≤ _; exact Nat.le_of_eq (Nat.zero_add _)) (hb hby hd) (fun _ _ => ⟨rfl, eT, by rw [← hc] at hc'; exact hc', by rw [← hs] at hs'; exact hs'⟩)
end Calls

/-- 'ldc' of a String constant of EL, its text read -/
theorem Wk.ldcT {index : Nat} {text : String} {vs : List Value} {z : Int32} {n cells' slots' : Nat} (W : Wk p l e R s m args below meth c bytes mxl rt Z a0 EL own n0 h0 ws S0 V h cells slots (mkF m pc L st)) (hd : decode bytes pc = .ok (.ldc index, 2)) (w : (Jvm.Cond.stringLink own index text).before a0 Z = true) (wS : ∀ a ∈ Bundle.stringAtoms, a.before a0 Z = true) (hmem : (own, index) ∈ EL) (ht : (∀ c ∈ text.toList, c.toNat < 256) ∧ text.toList.map (fun c => Value.int (Jvm.Lit.byteI c.toNat.toUInt16)) = vs) (hz : ¬ z < 0) (hl : z.toNatClampNeg = vs.length) (hn : 4 * text.toList.length ≤ n) (hbig : n ≤ 536870912) (hp : pc + 2 = pc') (hc : cells + 2 = cells') (hs : slots + (n + 4) = slots') (hc' : cells' ≤ R.cells) (hs' : slots' ≤ R.slots) :
    ∃ V' h' a b k, Wk p l e R s m args below meth c bytes mxl rt Z a0 EL own n0 h0 ws S0 V' h' cells' slots' (mkF m pc' L (.ref a :: st)) ∧ Ext h h' ∧ Exa Z h' a "java/lang/String" ∧ Fld Z h' a "java/lang/String" "coder" "B" (.int 0) ∧ Fld Z h' a "java/lang/String" "value" "[B" (.ref b) ∧ Arv Z h' b k .byte z vs (.int 0) ∧ Lit (s.setVm V') own index a ∧ (∀ x, Safe Z EL V' h' x → x ≠ a ∧ x ≠ b) ∧ ∀ x, x < h.size → Safe Z EL V h x → Safe Z EL V' h' x := by
  subst hp hc hs
  obtain ⟨a1, b, T, locs, X, eT, N, k⟩ := W
  obtain ⟨k0, hS, hk⟩ := b.2.2.1
  obtain ⟨a, T', h', k1, bb, kk, X', eT', E, hS', hk', hZ', hown', A1, A2, A3, A4, -, -, hC, hL, hne, stp⟩ := ldcCH X a1.1 b.1 b.2.1 w wS eT hS hk a1.2.2.2.2.2.1 hmem b.2.2.2.2.1.1 ht hz hl (g := mkF m pc L st) rfl (hb a1.2.1 hd) hn hbig hc' hs'
  exact ⟨T'.vm, h', a, bb, kk, ⟨a1, ⟨hZ', hown', ⟨k1, hS', hk'⟩, b.2.2.2.1.ext E, b.2.2.2.2.1.trans hC, b.2.2.2.2.2.ext E⟩, T', locs, X', eT', N, fun t q => k t (stp t q)⟩, E, A1, A2, A3, A4, hL, hne, fun x hx sx => hC.safe hx sx⟩
/-- 'ldc' of any String constant, handed on unread -/
theorem Wk.ldcO {index : Nat} {text : String} {n cells' slots' : Nat} (W : Wk p l e R s m args below meth c bytes mxl rt Z a0 EL own n0 h0 ws S0 V h cells slots (mkF m pc L st)) (hd : decode bytes pc = .ok (.ldc index, 2)) (w : (Jvm.Cond.stringLink own index text).before a0 Z = true) (wS : ∀ a ∈ Bundle.stringAtoms, a.before a0 Z = true) (hn : 4 * text.toList.length ≤ n) (hbig : n ≤ 536870912) (hp : pc + 2 = pc') (hc : cells + 2 = cells') (hs : slots + (n + 4) = slots') (hc' : cells' ≤ R.cells) (hs' : slots' ≤ R.slots) :
    ∃ V' h' a, Wk p l e R s m args below meth c bytes mxl rt Z a0 EL own n0 h0 ws S0 V' h' cells' slots' (mkF m pc' L (.ref a :: st)) ∧ Ext h h' ∧ Lit (s.setVm V') own index a ∧ ∀ x, x < h.size → Safe Z EL V h x → Safe Z EL V' h' x := by
  subst hp hc hs
  obtain ⟨a1, b, T, locs, X, eT, N, k⟩ := W
  obtain ⟨k0, hS, hk⟩ := b.2.2.1
  obtain ⟨a, T', h', k1, X', eT', E, hS', hk', hZ', hown', hC, hL, stp⟩ := ldcOH X a1.1 b.1 b.2.1 w wS eT hS hk a1.2.2.2.2.2.1 b.2.2.2.2.1.1 (g := mkF m pc L st) rfl (hb a1.2.1 hd) hn hbig hc' hs'
  exact ⟨T'.vm, h', a, ⟨a1, ⟨hZ', hown', ⟨k1, hS', hk'⟩, b.2.2.2.1.ext E, b.2.2.2.2.1.trans hC, b.2.2.2.2.2.ext E⟩, T', locs, X', eT', N, fun t q => k t (stp t q)⟩, E, hL, fun x hx sx => hC.safe hx sx⟩
/-- the same entry again, the tables' base being the same -/
theorem Wk.ldcA {index : Nat} {text : String} {a : Addr} (W : Wk p l e R s m args below meth c bytes mxl rt Z a0 EL own n0 h0 ws S0 V h cells slots (mkF m pc L st)) (hd : decode bytes pc = .ok (.ldc index, 2)) (w : (Jvm.Cond.stringLink own index text).before a0 Z = true) (hL : Lit (s.setVm V) own index a) (hp : pc + 2 = pc') : Wk p l e R s m args below meth c bytes mxl rt Z a0 EL own n0 h0 ws S0 V h cells slots (mkF m pc' L (.ref a :: st)) := by
  subst hp
  exact W.reads fun T locs X eT hx hby hZ hown => ⟨T, X, eT, ldcAgain X hx hZ hown w hL (g := mkF m pc L st) rfl (hb hby hd)⟩
/-- a String whose value is not yet set is no constant's -/
theorem safeNull {V : Vm} {a : Addr} (hal : Z.vm.Alike V) (E : Exa Z h a "java/lang/String") (F : Fld Z h a "java/lang/String" "value" "[B" .null) : Safe Z EL V h a := fun B => by
  obtain ⟨cell, cf, k, i, f, h1, h2, h3, h4, h5, h6, h7⟩ := F
  obtain ⟨p, -, u, b, -, q, -, G, e1 | e1⟩ := B
  · subst e1
    cases (show h[q.sa]? = some q.sC from G.ha).symm.trans h1
    obtain ⟨cS, ⟨⟨-, -, -, ⟨c1, k1, i1, f1, -⟩, -, -, -, v1, -⟩, -⟩, -⟩ := G
    obtain ⟨k', f2, -⟩ := State.fieldFound?_setVm (s := Z) hal h2
    have f2' : (Wst Z V h).fieldFound? "java/lang/String" "value" "[B" = some (cf, k', i, f) := f2
    have e4 := f2'.symm.trans f1
    simp only [Option.some.injEq, Prod.mk.injEq] at e4
    rw [e4.2.2.2, v1] at h7
    cases h7
  · subst e1
    obtain ⟨cell2, k2, e1, e2, -⟩ := E
    cases (show h[q.sd]? = some q.SA from G.hd).symm.trans e1
    obtain ⟨cS, -, -, f1, -⟩ := G
    have f1 : V.findClass "[B" = some q.SA.cls := f1
    rw [hal.findClass] at f1
    obtain ⟨k3, q1, q2⟩ := Vm.findClass_spec f1
    obtain ⟨k4, q3, q4⟩ := Vm.findClass_spec e2
    cases q1.symm.trans q3
    exact absurd (q2.symm.trans q4) (by decide)
end Layer
theorem safe0 {Z : State} {h : Heap} {V : Vm} {a : Addr} : Safe Z [] V h a := fun B => by obtain ⟨p, hp, -⟩ := B; cases hp


theorem own_small {c : Int32} (h0 : ¬ c < 0) (h1 : ¬ (255 : Int32) < c) : ∃ k : Fin 256, c = Int32.ofNat k.val := by
  rw [Int32.lt_iff_toInt_lt] at h0 h1
  have e1 : (255 : Int32).toInt = 255 := rfl
  have e0 : (0 : Int32).toInt = 0 := rfl
  refine ⟨⟨c.toInt.toNat, by omega⟩, ?_⟩
  apply Int32.toInt_inj.mp
  show c.toInt = (Int32.ofNat c.toInt.toNat).toInt
  rw [Int32.toInt_ofNat_of_lt (by omega)]
  omega
theorem own_narb (x : Int32) : nar .byte (x.toInt8.toInt32) = x.toInt8.toInt32 := by
  show (x.toInt8.toInt32).toInt8.toInt32 = x.toInt8.toInt32
  simp
theorem own_narc {c : Int32} (h : ¬ c < 0 ∧ ¬ (65535 : Int32) < c) : nar .char c = c := by
  show c.toUInt32.toUInt16.toUInt32.toInt32 = c
  have h0 := h.1
  have h1 := h.2
  rw [Int32.lt_iff_toInt_lt] at h0 h1
  have e1 : (65535 : Int32).toInt = 65535 := rfl
  have e0 : (0 : Int32).toInt = 0 := rfl
  obtain ⟨q1, q2, q3⟩ := c_i2c c
  apply Int32.toInt_inj.mp
  omega
theorem own_up {c : Int32} (h : ¬ c < 0 ∧ ¬ (255 : Int32) < c) : ¬ c < 0 ∧ ¬ (65535 : Int32) < c := by
  refine ⟨h.1, fun q => h.2 ?_⟩
  rw [Int32.lt_iff_toInt_lt] at q ⊢
  have e1 : (65535 : Int32).toInt = 65535 := rfl
  have e0 : (255 : Int32).toInt = 255 := rfl
  omega
theorem own_narrow_char {c : Int32} (h : ¬ c < 0 ∧ ¬ (65535 : Int32) < c) : narrow .char (.int c) = .int c := congrArg Value.int (own_narc h)
theorem own_and255 (x : Int32) : ¬ (x &&& (255 : Int32)) < 0 ∧ ¬ (255 : Int32) < (x &&& (255 : Int32)) := by
  obtain ⟨q1, q2⟩ := c_and x 255 (by decide)
  rw [Int32.lt_iff_toInt_lt, Int32.lt_iff_toInt_lt]
  have e1 : (255 : Int32).toInt = 255 := rfl
  have e0 : (0 : Int32).toInt = 0 := rfl
  omega
theorem own_fits_ref {t : FieldType} {v : Value} (h : v.isRef = true) (ht : t.isReference = true) : fits t v = true := by
  rcases ref_cases h with rfl | ⟨a, rfl⟩ <;> cases t <;> simp_all [fits, FieldType.isReference]
theorem own_nar_ref {t : FieldType} {v : Value} (h : v.isRef = true) (ht : t.isReference = true) : narrow t v = v := by
  rcases ref_cases h with rfl | ⟨a, rfl⟩ <;> cases t <;> simp_all [narrow, FieldType.isReference]

theorem own_shr0 (c : Int32) : (c >>> ((0 : Int32) &&& 31)) = c := by
  apply Int32.toInt_inj.mp
  rw [c_ishr c 0 0 (by decide)]
  simp
theorem own_small16 {c : Int32} (h : ¬ c < 0 ∧ ¬ (65535 : Int32) < c) : ∃ k : Nat, k < 65536 ∧ c = Int32.ofNat k := by
  obtain ⟨h0, h1⟩ := h
  rw [Int32.lt_iff_toInt_lt] at h0 h1
  have e1 : (65535 : Int32).toInt = 65535 := rfl
  have e0 : (0 : Int32).toInt = 0 := rfl
  refine ⟨c.toInt.toNat, by omega, ?_⟩
  apply Int32.toInt_inj.mp
  rw [Int32.toInt_ofNat_of_lt (by omega)]
  omega
theorem own_byte (x : Int32) : ((x.toInt8.toInt32) &&& (255 : Int32)).toInt = x.toInt % 256 := by
  rw [c_mask _ 255 8 (by decide) (by decide)]
  obtain ⟨q, -, -⟩ := c_i2b x
  omega
theorem own_pair {c : Int32} (h : ¬ c < 0 ∧ ¬ (65535 : Int32) < c) : (((((c.toInt8.toInt32) &&& (255 : Int32)) <<< ((0 : Int32) &&& 31)) ||| ((((c >>> ((8 : Int32) &&& 31)).toInt8.toInt32) &&& (255 : Int32)) <<< ((8 : Int32) &&& 31))).toUInt32.toUInt16.toUInt32.toInt32) = c := by
  have b1 := own_byte c
  have b2 := own_byte (c >>> ((8 : Int32) &&& 31))
  have s2 := c_ishr c 8 8 (by decide)
  generalize ((c.toInt8.toInt32) &&& (255 : Int32)) = u at *
  generalize (((c >>> ((8 : Int32) &&& 31)).toInt8.toInt32) &&& (255 : Int32)) = v at *
  have s1 := c_ishl u 0 0 (by decide)
  have s3 := c_ishl v 8 8 (by decide)
  have r1 := rng32 (u <<< ((0 : Int32) &&& 31))
  have r3 := rng32 (v <<< ((8 : Int32) &&& 31))
  obtain ⟨h0, h1⟩ := h
  rw [Int32.lt_iff_toInt_lt] at h0 h1
  have e1 : (65535 : Int32).toInt = 65535 := rfl
  have e0 : (0 : Int32).toInt = 0 := rfl
  have p0 : ((2 ^ 0 : Nat) : Int) = 1 := rfl
  have p8 : ((2 ^ 8 : Nat) : Int) = 256 := rfl
  rw [p0] at s1
  rw [p8] at s2 s3
  generalize (u <<< ((0 : Int32) &&& 31)) = u' at *
  generalize (v <<< ((8 : Int32) &&& 31)) = v' at *
  have o := c_or' u' v' 8 (by decide) 256 (by decide) (by omega) (by omega) (by omega)
  have r4 := rng32 (u' ||| v')
  obtain ⟨q1, q2, q3⟩ := c_i2c (u' ||| v')
  apply Int32.toInt_inj.mp
  omega
theorem own_and65535 (x : Int32) : ¬ (x &&& (65535 : Int32)) < 0 ∧ ¬ (65535 : Int32) < (x &&& (65535 : Int32)) := by
  obtain ⟨q1, q2⟩ := c_and x 65535 (by decide)
  rw [Int32.lt_iff_toInt_lt, Int32.lt_iff_toInt_lt]
  have e1 : (65535 : Int32).toInt = 65535 := rfl
  have e0 : (0 : Int32).toInt = 0 := rfl
  omega

theorem own_i2c {c : Int32} (h : ¬ c < 0 ∧ ¬ (65535 : Int32) < c) : c.toUInt32.toUInt16.toUInt32.toInt32 = c := own_narc h
theorem own_lat {c : Int32} (h : ¬ c < 0 ∧ ¬ (65535 : Int32) < c) (q : ¬ (255 : Int32) < c) : ¬ c < 0 ∧ ¬ (255 : Int32) < c := ⟨h.1, q⟩
theorem own_and3 {x q : Int32} (h : (x &&& (3 : Int32)) = q) : q = (0 : Int32) ∨ q = (1 : Int32) ∨ q = (2 : Int32) ∨ q = (3 : Int32) := by
  subst h
  obtain ⟨q1, q2⟩ := c_and x 3 (by decide)
  have e3 : (3 : Int32).toInt = 3 := rfl
  have : (x &&& 3).toInt = 0 ∨ (x &&& 3).toInt = 1 ∨ (x &&& 3).toInt = 2 ∨ (x &&& 3).toInt = 3 := by omega
  rcases this with h | h | h | h
  · exact Or.inl (Int32.toInt_inj.mp h)
  · exact Or.inr (Or.inl (Int32.toInt_inj.mp h))
  · exact Or.inr (Or.inr (Or.inl (Int32.toInt_inj.mp h)))
  · exact Or.inr (Or.inr (Or.inr (Int32.toInt_inj.mp h)))

theorem tw0 {Z : State} {a0 : Array Value} (hw : ∀ d ∈ tables_1, d.before a0 Z = true) : (Jvm.Cond.constant "com/example/rolebind/rolebind/DecisionAllowedByRolePinLaw" (7 : Nat) (65535 : Int32)).before a0 Z = true := hw _ (List.mem_of_getElem? (i := 0) rfl)
theorem tw1 {Z : State} {a0 : Array Value} (hw : ∀ d ∈ tables_1, d.before a0 Z = true) : (Jvm.Cond.arrayClass Jvm.ClassFile.FieldType.char).before a0 Z = true := hw _ (List.mem_of_getElem? (i := 1) rfl)
theorem tw2 {Z : State} {a0 : Array Value} (hw : ∀ d ∈ tables_1, d.before a0 Z = true) : (Jvm.Cond.classLink "com/example/rolebind/rolebind/DecisionAllowedByRolePinLaw" (8 : Nat) "java/lang/String").before a0 Z = true := hw _ (List.mem_of_getElem? (i := 2) rfl)
theorem tw3 {Z : State} {a0 : Array Value} (hw : ∀ d ∈ tables_1, d.before a0 Z = true) : (Jvm.Cond.instantiable "java/lang/String" (4 : Nat)).before a0 Z = true := hw _ (List.mem_of_getElem? (i := 3) rfl)
theorem tw4 {Z : State} {a0 : Array Value} (hw : ∀ d ∈ tables_1, d.before a0 Z = true) : (Jvm.Cond.initialized "java/lang/String").before a0 Z = true := hw _ (List.mem_of_getElem? (i := 4) rfl)
theorem tw5 {Z : State} {a0 : Array Value} (hw : ∀ d ∈ tables_1, d.before a0 Z = true) : (Jvm.Cond.methodLink "com/example/rolebind/rolebind/DecisionAllowedByRolePinLaw" (10 : Nat) ({ cls := "java/lang/String", name := "<init>", desc := "([C)V" } : Jvm.MethodName)).before a0 Z = true := hw _ (List.mem_of_getElem? (i := 5) rfl)
theorem tw6 {Z : State} {a0 : Array Value} (hw : ∀ d ∈ tables_1, d.before a0 Z = true) : (Jvm.Cond.instanceMethod ({ cls := "java/lang/String", name := "<init>", desc := "([C)V" } : Jvm.MethodName)).before a0 Z = true := hw _ (List.mem_of_getElem? (i := 6) rfl)
theorem tw7 {Z : State} {a0 : Array Value} (hw : ∀ d ∈ tables_1, d.before a0 Z = true) : (Jvm.Cond.code ({ cls := "java/lang/String", name := "<init>", desc := "([C)V" } : Jvm.MethodName) jdk_42_method_3_code (2 : Nat) (Option.none : Option Jvm.ClassFile.FieldType)).before a0 Z = true := hw _ (List.mem_of_getElem? (i := 7) rfl)
theorem tw8 {Z : State} {a0 : Array Value} (hw : ∀ d ∈ tables_1, d.before a0 Z = true) : (Jvm.Cond.methodLink "java/lang/String" (27 : Nat) ({ cls := "java/lang/String", name := "<init>", desc := "([CIILjava/lang/Void;)V" } : Jvm.MethodName)).before a0 Z = true := hw _ (List.mem_of_getElem? (i := 8) rfl)
theorem tw9 {Z : State} {a0 : Array Value} (hw : ∀ d ∈ tables_1, d.before a0 Z = true) : (Jvm.Cond.instanceMethod ({ cls := "java/lang/String", name := "<init>", desc := "([CIILjava/lang/Void;)V" } : Jvm.MethodName)).before a0 Z = true := hw _ (List.mem_of_getElem? (i := 9) rfl)
theorem tw11 {Z : State} {a0 : Array Value} (hw : ∀ d ∈ tables_1, d.before a0 Z = true) : (Jvm.Cond.code ({ cls := "java/lang/String", name := "<init>", desc := "([CIILjava/lang/Void;)V" } : Jvm.MethodName) jdk_42_method_149_code (6 : Nat) (Option.none : Option Jvm.ClassFile.FieldType)).before a0 Z = true := hw _ (List.mem_of_getElem? (i := 11) rfl)
theorem tw12 {Z : State} {a0 : Array Value} (hw : ∀ d ∈ tables_1, d.before a0 Z = true) : (Jvm.Cond.methodLink "java/lang/String" (1 : Nat) ({ cls := "java/lang/Object", name := "<init>", desc := "()V" } : Jvm.MethodName)).before a0 Z = true := hw _ (List.mem_of_getElem? (i := 12) rfl)
theorem tw13 {Z : State} {a0 : Array Value} (hw : ∀ d ∈ tables_1, d.before a0 Z = true) : (Jvm.Cond.instanceMethod ({ cls := "java/lang/Object", name := "<init>", desc := "()V" } : Jvm.MethodName)).before a0 Z = true := hw _ (List.mem_of_getElem? (i := 13) rfl)
theorem tw14 {Z : State} {a0 : Array Value} (hw : ∀ d ∈ tables_1, d.before a0 Z = true) : (Jvm.Cond.code ({ cls := "java/lang/Object", name := "<init>", desc := "()V" } : Jvm.MethodName) object_method_1_code (1 : Nat) (Option.none : Option Jvm.ClassFile.FieldType)).before a0 Z = true := hw _ (List.mem_of_getElem? (i := 14) rfl)
theorem tw15 {Z : State} {a0 : Array Value} (hw : ∀ d ∈ tables_1, d.before a0 Z = true) : (Jvm.Cond.stringLink "java/lang/String" (7 : Nat) "").before a0 Z = true := hw _ (List.mem_of_getElem? (i := 15) rfl)
theorem tw16 {Z : State} {a0 : Array Value} (hw : ∀ d ∈ tables_1, d.before a0 Z = true) : (Jvm.Cond.arrayClass Jvm.ClassFile.FieldType.byte).before a0 Z = true := hw _ (List.mem_of_getElem? (i := 16) rfl)
theorem tw17 {Z : State} {a0 : Array Value} (hw : ∀ d ∈ tables_1, d.before a0 Z = true) : (Jvm.Cond.laysFinal "java/lang/String" "java/lang/String" "value" "[B").before a0 Z = true := hw _ (List.mem_of_getElem? (i := 17) rfl)
theorem tw18 {Z : State} {a0 : Array Value} (hw : ∀ d ∈ tables_1, d.before a0 Z = true) : (Jvm.Cond.laysFinal "java/lang/String" "java/lang/String" "coder" "B").before a0 Z = true := hw _ (List.mem_of_getElem? (i := 18) rfl)
theorem tw21 {Z : State} {a0 : Array Value} (hw : ∀ d ∈ tables_1, d.before a0 Z = true) : (Jvm.Cond.fieldLink "java/lang/String" (9 : Nat) "java/lang/String" "value" "[B").before a0 Z = true := hw _ (List.mem_of_getElem? (i := 21) rfl)
theorem tw22 {Z : State} {a0 : Array Value} (hw : ∀ d ∈ tables_1, d.before a0 Z = true) : (Jvm.Cond.fieldLink "java/lang/String" (15 : Nat) "java/lang/String" "coder" "B").before a0 Z = true := hw _ (List.mem_of_getElem? (i := 22) rfl)
theorem tw23 {Z : State} {a0 : Array Value} (hw : ∀ d ∈ tables_1, d.before a0 Z = true) : (Jvm.Cond.methodLink "com/example/rolebind/rolebind/DecisionAllowedByRolePinLaw" (13 : Nat) ({ cls := "com/example/rolebind/rolebind/Decision", name := "allowedByRole", desc := "(Ljava/lang/String;)Lcom/example/rolebind/rolebind/Decision;" } : Jvm.MethodName)).before a0 Z = true := hw _ (List.mem_of_getElem? (i := 23) rfl)
theorem tw24 {Z : State} {a0 : Array Value} (hw : ∀ d ∈ tables_1, d.before a0 Z = true) : (Jvm.Cond.static ({ cls := "com/example/rolebind/rolebind/Decision", name := "allowedByRole", desc := "(Ljava/lang/String;)Lcom/example/rolebind/rolebind/Decision;" } : Jvm.MethodName)).before a0 Z = true := hw _ (List.mem_of_getElem? (i := 24) rfl)
theorem tw25 {Z : State} {a0 : Array Value} (hw : ∀ d ∈ tables_1, d.before a0 Z = true) : (Jvm.Cond.initialized "com/example/rolebind/rolebind/Decision").before a0 Z = true := hw _ (List.mem_of_getElem? (i := 25) rfl)
theorem tw26 {Z : State} {a0 : Array Value} (hw : ∀ d ∈ tables_1, d.before a0 Z = true) : (Jvm.Cond.code ({ cls := "com/example/rolebind/rolebind/Decision", name := "allowedByRole", desc := "(Ljava/lang/String;)Lcom/example/rolebind/rolebind/Decision;" } : Jvm.MethodName) prog_16_method_2_code (1 : Nat) (Option.some (Jvm.ClassFile.FieldType.object "com/example/rolebind/rolebind/Decision"))).before a0 Z = true := hw _ (List.mem_of_getElem? (i := 26) rfl)
theorem tw27 {Z : State} {a0 : Array Value} (hw : ∀ d ∈ tables_1, d.before a0 Z = true) : (Jvm.Cond.classLink "com/example/rolebind/rolebind/Decision" (29 : Nat) "com/example/rolebind/rolebind/Decision").before a0 Z = true := hw _ (List.mem_of_getElem? (i := 27) rfl)
theorem tw28 {Z : State} {a0 : Array Value} (hw : ∀ d ∈ tables_1, d.before a0 Z = true) : (Jvm.Cond.instantiable "com/example/rolebind/rolebind/Decision" (3 : Nat)).before a0 Z = true := hw _ (List.mem_of_getElem? (i := 28) rfl)
theorem tw29 {Z : State} {a0 : Array Value} (hw : ∀ d ∈ tables_1, d.before a0 Z = true) : (Jvm.Cond.fieldLink "com/example/rolebind/rolebind/Decision" (15 : Nat) "com/example/rolebind/rolebind/Decision$Reason" "ROLE" "Lcom/example/rolebind/rolebind/Decision$Reason;").before a0 Z = true := hw _ (List.mem_of_getElem? (i := 29) rfl)
theorem tw30 {Z : State} {a0 : Array Value} (hw : ∀ d ∈ tables_1, d.before a0 Z = true) : (Jvm.Cond.initialized "com/example/rolebind/rolebind/Decision$Reason").before a0 Z = true := hw _ (List.mem_of_getElem? (i := 30) rfl)
theorem tw31 {Z : State} {a0 : Array Value} (hw : ∀ d ∈ tables_1, d.before a0 Z = true) : (Jvm.Cond.laysStatic "com/example/rolebind/rolebind/Decision$Reason" "ROLE" "Lcom/example/rolebind/rolebind/Decision$Reason;").before a0 Z = true := hw _ (List.mem_of_getElem? (i := 31) rfl)
theorem tw32 {Z : State} {a0 : Array Value} (hw : ∀ d ∈ tables_1, d.before a0 Z = true) : (Jvm.Cond.stringLink "com/example/rolebind/rolebind/Decision" (40 : Nat) "role").before a0 Z = true := hw _ (List.mem_of_getElem? (i := 32) rfl)
theorem tw33 {Z : State} {a0 : Array Value} (hw : ∀ d ∈ tables_1, d.before a0 Z = true) : (Jvm.Cond.methodLink "com/example/rolebind/rolebind/Decision" (9 : Nat) ({ cls := "java/util/Objects", name := "requireNonNull", desc := "(Ljava/lang/Object;Ljava/lang/String;)Ljava/lang/Object;" } : Jvm.MethodName)).before a0 Z = true := hw _ (List.mem_of_getElem? (i := 33) rfl)
theorem tw34 {Z : State} {a0 : Array Value} (hw : ∀ d ∈ tables_1, d.before a0 Z = true) : (Jvm.Cond.static ({ cls := "java/util/Objects", name := "requireNonNull", desc := "(Ljava/lang/Object;Ljava/lang/String;)Ljava/lang/Object;" } : Jvm.MethodName)).before a0 Z = true := hw _ (List.mem_of_getElem? (i := 34) rfl)
theorem tw35 {Z : State} {a0 : Array Value} (hw : ∀ d ∈ tables_1, d.before a0 Z = true) : (Jvm.Cond.initialized "java/util/Objects").before a0 Z = true := hw _ (List.mem_of_getElem? (i := 35) rfl)
theorem tw36 {Z : State} {a0 : Array Value} (hw : ∀ d ∈ tables_1, d.before a0 Z = true) : (Jvm.Cond.code ({ cls := "java/util/Objects", name := "requireNonNull", desc := "(Ljava/lang/Object;Ljava/lang/String;)Ljava/lang/Object;" } : Jvm.MethodName) jdk_31_method_11_code (2 : Nat) (Option.some (Jvm.ClassFile.FieldType.object "java/lang/Object"))).before a0 Z = true := hw _ (List.mem_of_getElem? (i := 36) rfl)
theorem tw37 {Z : State} {a0 : Array Value} (hw : ∀ d ∈ tables_1, d.before a0 Z = true) : (Jvm.Cond.classLink "com/example/rolebind/rolebind/Decision" (41 : Nat) "java/lang/String").before a0 Z = true := hw _ (List.mem_of_getElem? (i := 37) rfl)
theorem tw38 {Z : State} {a0 : Array Value} (hw : ∀ d ∈ tables_1, d.before a0 Z = true) : (Jvm.Cond.methodLink "com/example/rolebind/rolebind/Decision" (43 : Nat) ({ cls := "com/example/rolebind/rolebind/Decision", name := "<init>", desc := "(ZLcom/example/rolebind/rolebind/Decision$Reason;Ljava/lang/String;)V" } : Jvm.MethodName)).before a0 Z = true := hw _ (List.mem_of_getElem? (i := 38) rfl)
theorem tw39 {Z : State} {a0 : Array Value} (hw : ∀ d ∈ tables_1, d.before a0 Z = true) : (Jvm.Cond.instanceMethod ({ cls := "com/example/rolebind/rolebind/Decision", name := "<init>", desc := "(ZLcom/example/rolebind/rolebind/Decision$Reason;Ljava/lang/String;)V" } : Jvm.MethodName)).before a0 Z = true := hw _ (List.mem_of_getElem? (i := 39) rfl)
theorem tw40 {Z : State} {a0 : Array Value} (hw : ∀ d ∈ tables_1, d.before a0 Z = true) : (Jvm.Cond.code ({ cls := "com/example/rolebind/rolebind/Decision", name := "<init>", desc := "(ZLcom/example/rolebind/rolebind/Decision$Reason;Ljava/lang/String;)V" } : Jvm.MethodName) prog_16_method_1_code (4 : Nat) (Option.none : Option Jvm.ClassFile.FieldType)).before a0 Z = true := hw _ (List.mem_of_getElem? (i := 40) rfl)
theorem tw41 {Z : State} {a0 : Array Value} (hw : ∀ d ∈ tables_1, d.before a0 Z = true) : (Jvm.Cond.methodLink "com/example/rolebind/rolebind/Decision" (1 : Nat) ({ cls := "java/lang/Record", name := "<init>", desc := "()V" } : Jvm.MethodName)).before a0 Z = true := hw _ (List.mem_of_getElem? (i := 41) rfl)
theorem tw42 {Z : State} {a0 : Array Value} (hw : ∀ d ∈ tables_1, d.before a0 Z = true) : (Jvm.Cond.instanceMethod ({ cls := "java/lang/Record", name := "<init>", desc := "()V" } : Jvm.MethodName)).before a0 Z = true := hw _ (List.mem_of_getElem? (i := 42) rfl)
theorem tw44 {Z : State} {a0 : Array Value} (hw : ∀ d ∈ tables_1, d.before a0 Z = true) : (Jvm.Cond.initialized "java/lang/Record").before a0 Z = true := hw _ (List.mem_of_getElem? (i := 44) rfl)
theorem tw45 {Z : State} {a0 : Array Value} (hw : ∀ d ∈ tables_1, d.before a0 Z = true) : (Jvm.Cond.code ({ cls := "java/lang/Record", name := "<init>", desc := "()V" } : Jvm.MethodName) jdk_30_method_1_code (1 : Nat) (Option.none : Option Jvm.ClassFile.FieldType)).before a0 Z = true := hw _ (List.mem_of_getElem? (i := 45) rfl)
theorem tw46 {Z : State} {a0 : Array Value} (hw : ∀ d ∈ tables_1, d.before a0 Z = true) : (Jvm.Cond.methodLink "java/lang/Record" (1 : Nat) ({ cls := "java/lang/Object", name := "<init>", desc := "()V" } : Jvm.MethodName)).before a0 Z = true := hw _ (List.mem_of_getElem? (i := 46) rfl)
theorem tw47 {Z : State} {a0 : Array Value} (hw : ∀ d ∈ tables_1, d.before a0 Z = true) : (Jvm.Cond.stringLink "com/example/rolebind/rolebind/Decision" (7 : Nat) "reason").before a0 Z = true := hw _ (List.mem_of_getElem? (i := 47) rfl)
theorem tw48 {Z : State} {a0 : Array Value} (hw : ∀ d ∈ tables_1, d.before a0 Z = true) : (Jvm.Cond.fieldLink "com/example/rolebind/rolebind/Decision" (28 : Nat) "com/example/rolebind/rolebind/Decision" "allowed" "Z").before a0 Z = true := hw _ (List.mem_of_getElem? (i := 48) rfl)
theorem tw49 {Z : State} {a0 : Array Value} (hw : ∀ d ∈ tables_1, d.before a0 Z = true) : (Jvm.Cond.laysFinal "com/example/rolebind/rolebind/Decision" "com/example/rolebind/rolebind/Decision" "allowed" "Z").before a0 Z = true := hw _ (List.mem_of_getElem? (i := 49) rfl)
theorem tw50 {Z : State} {a0 : Array Value} (hw : ∀ d ∈ tables_1, d.before a0 Z = true) : (Jvm.Cond.fieldLink "com/example/rolebind/rolebind/Decision" (34 : Nat) "com/example/rolebind/rolebind/Decision" "reason" "Lcom/example/rolebind/rolebind/Decision$Reason;").before a0 Z = true := hw _ (List.mem_of_getElem? (i := 50) rfl)
theorem tw51 {Z : State} {a0 : Array Value} (hw : ∀ d ∈ tables_1, d.before a0 Z = true) : (Jvm.Cond.laysFinal "com/example/rolebind/rolebind/Decision" "com/example/rolebind/rolebind/Decision" "reason" "Lcom/example/rolebind/rolebind/Decision$Reason;").before a0 Z = true := hw _ (List.mem_of_getElem? (i := 51) rfl)
theorem tw52 {Z : State} {a0 : Array Value} (hw : ∀ d ∈ tables_1, d.before a0 Z = true) : (Jvm.Cond.fieldLink "com/example/rolebind/rolebind/Decision" (36 : Nat) "com/example/rolebind/rolebind/Decision" "role" "Ljava/lang/String;").before a0 Z = true := hw _ (List.mem_of_getElem? (i := 52) rfl)
theorem tw53 {Z : State} {a0 : Array Value} (hw : ∀ d ∈ tables_1, d.before a0 Z = true) : (Jvm.Cond.laysFinal "com/example/rolebind/rolebind/Decision" "com/example/rolebind/rolebind/Decision" "role" "Ljava/lang/String;").before a0 Z = true := hw _ (List.mem_of_getElem? (i := 53) rfl)
theorem tw54 {Z : State} {a0 : Array Value} (hw : ∀ d ∈ tables_1, d.before a0 Z = true) : (Jvm.Cond.methodLink "com/example/rolebind/rolebind/DecisionAllowedByRolePinLaw" (19 : Nat) ({ cls := "com/example/rolebind/rolebind/Decision", name := "allowed", desc := "()Z" } : Jvm.MethodName)).before a0 Z = true := hw _ (List.mem_of_getElem? (i := 54) rfl)
theorem tw55 {Z : State} {a0 : Array Value} (hw : ∀ d ∈ tables_1, d.before a0 Z = true) : (Jvm.Cond.declares ({ cls := "com/example/rolebind/rolebind/Decision", name := "allowed", desc := "()Z" } : Jvm.MethodName)).before a0 Z = true := hw _ (List.mem_of_getElem? (i := 55) rfl)
theorem tw56 {Z : State} {a0 : Array Value} (hw : ∀ d ∈ tables_1, d.before a0 Z = true) : (Jvm.Cond.instanceMethod ({ cls := "com/example/rolebind/rolebind/Decision", name := "allowed", desc := "()Z" } : Jvm.MethodName)).before a0 Z = true := hw _ (List.mem_of_getElem? (i := 56) rfl)
theorem tw57 {Z : State} {a0 : Array Value} (hw : ∀ d ∈ tables_1, d.before a0 Z = true) : (Jvm.Cond.selects "com/example/rolebind/rolebind/Decision" ({ cls := "com/example/rolebind/rolebind/Decision", name := "allowed", desc := "()Z" } : Jvm.MethodName) ({ cls := "com/example/rolebind/rolebind/Decision", name := "allowed", desc := "()Z" } : Jvm.MethodName)).before a0 Z = true := hw _ (List.mem_of_getElem? (i := 57) rfl)
theorem tw58 {Z : State} {a0 : Array Value} (hw : ∀ d ∈ tables_1, d.before a0 Z = true) : (Jvm.Cond.code ({ cls := "com/example/rolebind/rolebind/Decision", name := "allowed", desc := "()Z" } : Jvm.MethodName) prog_16_method_11_code (1 : Nat) (Option.some Jvm.ClassFile.FieldType.boolean)).before a0 Z = true := hw _ (List.mem_of_getElem? (i := 58) rfl)
theorem tw59 {Z : State} {a0 : Array Value} (hw : ∀ d ∈ tables_1, d.before a0 Z = true) : (Jvm.Cond.methodLink "com/example/rolebind/rolebind/DecisionAllowedByRolePinLaw" (23 : Nat) ({ cls := "com/example/rolebind/rolebind/Decision", name := "reason", desc := "()Lcom/example/rolebind/rolebind/Decision$Reason;" } : Jvm.MethodName)).before a0 Z = true := hw _ (List.mem_of_getElem? (i := 59) rfl)
theorem tw60 {Z : State} {a0 : Array Value} (hw : ∀ d ∈ tables_1, d.before a0 Z = true) : (Jvm.Cond.declares ({ cls := "com/example/rolebind/rolebind/Decision", name := "reason", desc := "()Lcom/example/rolebind/rolebind/Decision$Reason;" } : Jvm.MethodName)).before a0 Z = true := hw _ (List.mem_of_getElem? (i := 60) rfl)
theorem tw61 {Z : State} {a0 : Array Value} (hw : ∀ d ∈ tables_1, d.before a0 Z = true) : (Jvm.Cond.instanceMethod ({ cls := "com/example/rolebind/rolebind/Decision", name := "reason", desc := "()Lcom/example/rolebind/rolebind/Decision$Reason;" } : Jvm.MethodName)).before a0 Z = true := hw _ (List.mem_of_getElem? (i := 61) rfl)
theorem tw62 {Z : State} {a0 : Array Value} (hw : ∀ d ∈ tables_1, d.before a0 Z = true) : (Jvm.Cond.selects "com/example/rolebind/rolebind/Decision" ({ cls := "com/example/rolebind/rolebind/Decision", name := "reason", desc := "()Lcom/example/rolebind/rolebind/Decision$Reason;" } : Jvm.MethodName) ({ cls := "com/example/rolebind/rolebind/Decision", name := "reason", desc := "()Lcom/example/rolebind/rolebind/Decision$Reason;" } : Jvm.MethodName)).before a0 Z = true := hw _ (List.mem_of_getElem? (i := 62) rfl)
theorem tw63 {Z : State} {a0 : Array Value} (hw : ∀ d ∈ tables_1, d.before a0 Z = true) : (Jvm.Cond.code ({ cls := "com/example/rolebind/rolebind/Decision", name := "reason", desc := "()Lcom/example/rolebind/rolebind/Decision$Reason;" } : Jvm.MethodName) prog_16_method_12_code (1 : Nat) (Option.some (Jvm.ClassFile.FieldType.object "com/example/rolebind/rolebind/Decision$Reason"))).before a0 Z = true := hw _ (List.mem_of_getElem? (i := 63) rfl)
theorem tw64 {Z : State} {a0 : Array Value} (hw : ∀ d ∈ tables_1, d.before a0 Z = true) : (Jvm.Cond.fieldLink "com/example/rolebind/rolebind/DecisionAllowedByRolePinLaw" (27 : Nat) "com/example/rolebind/rolebind/Decision$Reason" "ROLE" "Lcom/example/rolebind/rolebind/Decision$Reason;").before a0 Z = true := hw _ (List.mem_of_getElem? (i := 64) rfl)
theorem tw65 {Z : State} {a0 : Array Value} (hw : ∀ d ∈ tables_1, d.before a0 Z = true) : (Jvm.Cond.methodLink "com/example/rolebind/rolebind/DecisionAllowedByRolePinLaw" (33 : Nat) ({ cls := "com/example/rolebind/rolebind/Decision", name := "role", desc := "()Ljava/lang/String;" } : Jvm.MethodName)).before a0 Z = true := hw _ (List.mem_of_getElem? (i := 65) rfl)
theorem tw66 {Z : State} {a0 : Array Value} (hw : ∀ d ∈ tables_1, d.before a0 Z = true) : (Jvm.Cond.declares ({ cls := "com/example/rolebind/rolebind/Decision", name := "role", desc := "()Ljava/lang/String;" } : Jvm.MethodName)).before a0 Z = true := hw _ (List.mem_of_getElem? (i := 66) rfl)
theorem tw67 {Z : State} {a0 : Array Value} (hw : ∀ d ∈ tables_1, d.before a0 Z = true) : (Jvm.Cond.instanceMethod ({ cls := "com/example/rolebind/rolebind/Decision", name := "role", desc := "()Ljava/lang/String;" } : Jvm.MethodName)).before a0 Z = true := hw _ (List.mem_of_getElem? (i := 67) rfl)
theorem tw68 {Z : State} {a0 : Array Value} (hw : ∀ d ∈ tables_1, d.before a0 Z = true) : (Jvm.Cond.selects "com/example/rolebind/rolebind/Decision" ({ cls := "com/example/rolebind/rolebind/Decision", name := "role", desc := "()Ljava/lang/String;" } : Jvm.MethodName) ({ cls := "com/example/rolebind/rolebind/Decision", name := "role", desc := "()Ljava/lang/String;" } : Jvm.MethodName)).before a0 Z = true := hw _ (List.mem_of_getElem? (i := 68) rfl)
theorem tw69 {Z : State} {a0 : Array Value} (hw : ∀ d ∈ tables_1, d.before a0 Z = true) : (Jvm.Cond.code ({ cls := "com/example/rolebind/rolebind/Decision", name := "role", desc := "()Ljava/lang/String;" } : Jvm.MethodName) prog_16_method_13_code (1 : Nat) (Option.some (Jvm.ClassFile.FieldType.object "java/lang/String"))).before a0 Z = true := hw _ (List.mem_of_getElem? (i := 69) rfl)
theorem tw70 {Z : State} {a0 : Array Value} (hw : ∀ d ∈ tables_1, d.before a0 Z = true) : (Jvm.Cond.methodLink "com/example/rolebind/rolebind/DecisionAllowedByRolePinLaw" (37 : Nat) ({ cls := "java/lang/String", name := "equals", desc := "(Ljava/lang/Object;)Z" } : Jvm.MethodName)).before a0 Z = true := hw _ (List.mem_of_getElem? (i := 70) rfl)
theorem tw71 {Z : State} {a0 : Array Value} (hw : ∀ d ∈ tables_1, d.before a0 Z = true) : (Jvm.Cond.declares ({ cls := "java/lang/String", name := "equals", desc := "(Ljava/lang/Object;)Z" } : Jvm.MethodName)).before a0 Z = true := hw _ (List.mem_of_getElem? (i := 71) rfl)
theorem tw72 {Z : State} {a0 : Array Value} (hw : ∀ d ∈ tables_1, d.before a0 Z = true) : (Jvm.Cond.instanceMethod ({ cls := "java/lang/String", name := "equals", desc := "(Ljava/lang/Object;)Z" } : Jvm.MethodName)).before a0 Z = true := hw _ (List.mem_of_getElem? (i := 72) rfl)
theorem tw73 {Z : State} {a0 : Array Value} (hw : ∀ d ∈ tables_1, d.before a0 Z = true) : (Jvm.Cond.selects "java/lang/String" ({ cls := "java/lang/String", name := "equals", desc := "(Ljava/lang/Object;)Z" } : Jvm.MethodName) ({ cls := "java/lang/String", name := "equals", desc := "(Ljava/lang/Object;)Z" } : Jvm.MethodName)).before a0 Z = true := hw _ (List.mem_of_getElem? (i := 73) rfl)
theorem tw74 {Z : State} {a0 : Array Value} (hw : ∀ d ∈ tables_1, d.before a0 Z = true) : (Jvm.Cond.code ({ cls := "java/lang/String", name := "equals", desc := "(Ljava/lang/Object;)Z" } : Jvm.MethodName) jdk_42_method_66_code (3 : Nat) (Option.some Jvm.ClassFile.FieldType.boolean)).before a0 Z = true := hw _ (List.mem_of_getElem? (i := 74) rfl)
theorem tw75 {Z : State} {a0 : Array Value} (hw : ∀ d ∈ tables_1, d.before a0 Z = true) : (Jvm.Cond.methodLink "com/example/rolebind/rolebind/DecisionAllowedByRolePinLaw" (41 : Nat) ({ cls := "java/lang/String", name := "length", desc := "()I" } : Jvm.MethodName)).before a0 Z = true := hw _ (List.mem_of_getElem? (i := 75) rfl)
theorem tw76 {Z : State} {a0 : Array Value} (hw : ∀ d ∈ tables_1, d.before a0 Z = true) : (Jvm.Cond.declares ({ cls := "java/lang/String", name := "length", desc := "()I" } : Jvm.MethodName)).before a0 Z = true := hw _ (List.mem_of_getElem? (i := 76) rfl)
theorem tw77 {Z : State} {a0 : Array Value} (hw : ∀ d ∈ tables_1, d.before a0 Z = true) : (Jvm.Cond.instanceMethod ({ cls := "java/lang/String", name := "length", desc := "()I" } : Jvm.MethodName)).before a0 Z = true := hw _ (List.mem_of_getElem? (i := 77) rfl)
theorem tw78 {Z : State} {a0 : Array Value} (hw : ∀ d ∈ tables_1, d.before a0 Z = true) : (Jvm.Cond.selects "java/lang/String" ({ cls := "java/lang/String", name := "length", desc := "()I" } : Jvm.MethodName) ({ cls := "java/lang/String", name := "length", desc := "()I" } : Jvm.MethodName)).before a0 Z = true := hw _ (List.mem_of_getElem? (i := 78) rfl)
theorem tw79 {Z : State} {a0 : Array Value} (hw : ∀ d ∈ tables_1, d.before a0 Z = true) : (Jvm.Cond.code ({ cls := "java/lang/String", name := "length", desc := "()I" } : Jvm.MethodName) jdk_42_method_54_code (1 : Nat) (Option.some Jvm.ClassFile.FieldType.int)).before a0 Z = true := hw _ (List.mem_of_getElem? (i := 79) rfl)
theorem tw80 {Z : State} {a0 : Array Value} (hw : ∀ d ∈ tables_1, d.before a0 Z = true) : (Jvm.Cond.methodLink "java/lang/String" (335 : Nat) ({ cls := "java/lang/String", name := "coder", desc := "()B" } : Jvm.MethodName)).before a0 Z = true := hw _ (List.mem_of_getElem? (i := 80) rfl)
theorem tw81 {Z : State} {a0 : Array Value} (hw : ∀ d ∈ tables_1, d.before a0 Z = true) : (Jvm.Cond.declares ({ cls := "java/lang/String", name := "coder", desc := "()B" } : Jvm.MethodName)).before a0 Z = true := hw _ (List.mem_of_getElem? (i := 81) rfl)
theorem tw82 {Z : State} {a0 : Array Value} (hw : ∀ d ∈ tables_1, d.before a0 Z = true) : (Jvm.Cond.instanceMethod ({ cls := "java/lang/String", name := "coder", desc := "()B" } : Jvm.MethodName)).before a0 Z = true := hw _ (List.mem_of_getElem? (i := 82) rfl)
theorem tw83 {Z : State} {a0 : Array Value} (hw : ∀ d ∈ tables_1, d.before a0 Z = true) : (Jvm.Cond.selects "java/lang/String" ({ cls := "java/lang/String", name := "coder", desc := "()B" } : Jvm.MethodName) ({ cls := "java/lang/String", name := "coder", desc := "()B" } : Jvm.MethodName)).before a0 Z = true := hw _ (List.mem_of_getElem? (i := 83) rfl)
theorem tw84 {Z : State} {a0 : Array Value} (hw : ∀ d ∈ tables_1, d.before a0 Z = true) : (Jvm.Cond.code ({ cls := "java/lang/String", name := "coder", desc := "()B" } : Jvm.MethodName) jdk_42_method_152_code (1 : Nat) (Option.some Jvm.ClassFile.FieldType.byte)).before a0 Z = true := hw _ (List.mem_of_getElem? (i := 84) rfl)
theorem tw85 {Z : State} {a0 : Array Value} (hw : ∀ d ∈ tables_1, d.before a0 Z = true) : (Jvm.Cond.fieldLink "java/lang/String" (38 : Nat) "java/lang/String" "COMPACT_STRINGS" "Z").before a0 Z = true := hw _ (List.mem_of_getElem? (i := 85) rfl)
theorem tw86 {Z : State} {a0 : Array Value} (hw : ∀ d ∈ tables_1, d.before a0 Z = true) : (Jvm.Cond.methodLink "java/lang/String" (177 : Nat) ({ cls := "java/lang/StringUTF16", name := "compress", desc := "([CII)[B" } : Jvm.MethodName)).before a0 Z = true := hw _ (List.mem_of_getElem? (i := 86) rfl)
theorem tw87 {Z : State} {a0 : Array Value} (hw : ∀ d ∈ tables_1, d.before a0 Z = true) : (Jvm.Cond.static ({ cls := "java/lang/StringUTF16", name := "compress", desc := "([CII)[B" } : Jvm.MethodName)).before a0 Z = true := hw _ (List.mem_of_getElem? (i := 87) rfl)
theorem tw88 {Z : State} {a0 : Array Value} (hw : ∀ d ∈ tables_1, d.before a0 Z = true) : (Jvm.Cond.initialized "java/lang/StringUTF16").before a0 Z = true := hw _ (List.mem_of_getElem? (i := 88) rfl)
theorem tw89 {Z : State} {a0 : Array Value} (hw : ∀ d ∈ tables_1, d.before a0 Z = true) : (Jvm.Cond.code ({ cls := "java/lang/StringUTF16", name := "compress", desc := "([CII)[B" } : Jvm.MethodName) jdk_52_method_16_code (6 : Nat) (Option.some (Jvm.ClassFile.FieldType.array Jvm.ClassFile.FieldType.byte))).before a0 Z = true := hw _ (List.mem_of_getElem? (i := 89) rfl)
theorem tw90 {Z : State} {a0 : Array Value} (hw : ∀ d ∈ tables_1, d.before a0 Z = true) : (Jvm.Cond.methodLink "java/lang/StringUTF16" (115 : Nat) ({ cls := "java/lang/StringUTF16", name := "compress", desc := "([CI[BII)I" } : Jvm.MethodName)).before a0 Z = true := hw _ (List.mem_of_getElem? (i := 90) rfl)
theorem tw91 {Z : State} {a0 : Array Value} (hw : ∀ d ∈ tables_1, d.before a0 Z = true) : (Jvm.Cond.static ({ cls := "java/lang/StringUTF16", name := "compress", desc := "([CI[BII)I" } : Jvm.MethodName)).before a0 Z = true := hw _ (List.mem_of_getElem? (i := 91) rfl)
theorem tw92 {Z : State} {a0 : Array Value} (hw : ∀ d ∈ tables_1, d.before a0 Z = true) : (Jvm.Cond.code ({ cls := "java/lang/StringUTF16", name := "compress", desc := "([CI[BII)I" } : Jvm.MethodName) jdk_52_method_21_code (7 : Nat) (Option.some Jvm.ClassFile.FieldType.int)).before a0 Z = true := hw _ (List.mem_of_getElem? (i := 92) rfl)
theorem tw93 {Z : State} {a0 : Array Value} (hw : ∀ d ∈ tables_1, d.before a0 Z = true) : (Jvm.Cond.methodLink "java/lang/String" (47 : Nat) ({ cls := "java/lang/StringUTF16", name := "coderFromArrayLen", desc := "([BI)B" } : Jvm.MethodName)).before a0 Z = true := hw _ (List.mem_of_getElem? (i := 93) rfl)
theorem tw94 {Z : State} {a0 : Array Value} (hw : ∀ d ∈ tables_1, d.before a0 Z = true) : (Jvm.Cond.static ({ cls := "java/lang/StringUTF16", name := "coderFromArrayLen", desc := "([BI)B" } : Jvm.MethodName)).before a0 Z = true := hw _ (List.mem_of_getElem? (i := 94) rfl)
theorem tw95 {Z : State} {a0 : Array Value} (hw : ∀ d ∈ tables_1, d.before a0 Z = true) : (Jvm.Cond.code ({ cls := "java/lang/StringUTF16", name := "coderFromArrayLen", desc := "([BI)B" } : Jvm.MethodName) jdk_52_method_15_code (2 : Nat) (Option.some Jvm.ClassFile.FieldType.byte)).before a0 Z = true := hw _ (List.mem_of_getElem? (i := 95) rfl)
theorem tw96 {Z : State} {a0 : Array Value} (hw : ∀ d ∈ tables_1, d.before a0 Z = true) : (Jvm.Cond.methodLink "java/lang/StringUTF16" (119 : Nat) ({ cls := "java/lang/StringUTF16", name := "toBytes", desc := "([CII)[B" } : Jvm.MethodName)).before a0 Z = true := hw _ (List.mem_of_getElem? (i := 96) rfl)
theorem tw97 {Z : State} {a0 : Array Value} (hw : ∀ d ∈ tables_1, d.before a0 Z = true) : (Jvm.Cond.static ({ cls := "java/lang/StringUTF16", name := "toBytes", desc := "([CII)[B" } : Jvm.MethodName)).before a0 Z = true := hw _ (List.mem_of_getElem? (i := 97) rfl)
theorem tw98 {Z : State} {a0 : Array Value} (hw : ∀ d ∈ tables_1, d.before a0 Z = true) : (Jvm.Cond.code ({ cls := "java/lang/StringUTF16", name := "toBytes", desc := "([CII)[B" } : Jvm.MethodName) jdk_52_method_14_code (5 : Nat) (Option.some (Jvm.ClassFile.FieldType.array Jvm.ClassFile.FieldType.byte))).before a0 Z = true := hw _ (List.mem_of_getElem? (i := 98) rfl)
theorem tw99 {Z : State} {a0 : Array Value} (hw : ∀ d ∈ tables_1, d.before a0 Z = true) : (Jvm.Cond.methodLink "java/lang/StringUTF16" (107 : Nat) ({ cls := "java/lang/StringUTF16", name := "newBytesFor", desc := "(I)[B" } : Jvm.MethodName)).before a0 Z = true := hw _ (List.mem_of_getElem? (i := 99) rfl)
theorem tw100 {Z : State} {a0 : Array Value} (hw : ∀ d ∈ tables_1, d.before a0 Z = true) : (Jvm.Cond.static ({ cls := "java/lang/StringUTF16", name := "newBytesFor", desc := "(I)[B" } : Jvm.MethodName)).before a0 Z = true := hw _ (List.mem_of_getElem? (i := 100) rfl)
theorem tw101 {Z : State} {a0 : Array Value} (hw : ∀ d ∈ tables_1, d.before a0 Z = true) : (Jvm.Cond.code ({ cls := "java/lang/StringUTF16", name := "newBytesFor", desc := "(I)[B" } : Jvm.MethodName) jdk_52_method_2_code (1 : Nat) (Option.some (Jvm.ClassFile.FieldType.array Jvm.ClassFile.FieldType.byte))).before a0 Z = true := hw _ (List.mem_of_getElem? (i := 101) rfl)
theorem tw102 {Z : State} {a0 : Array Value} (hw : ∀ d ∈ tables_1, d.before a0 Z = true) : (Jvm.Cond.methodLink "java/lang/StringUTF16" (11 : Nat) ({ cls := "java/lang/StringUTF16", name := "newBytesLength", desc := "(I)I" } : Jvm.MethodName)).before a0 Z = true := hw _ (List.mem_of_getElem? (i := 102) rfl)
theorem tw103 {Z : State} {a0 : Array Value} (hw : ∀ d ∈ tables_1, d.before a0 Z = true) : (Jvm.Cond.static ({ cls := "java/lang/StringUTF16", name := "newBytesLength", desc := "(I)I" } : Jvm.MethodName)).before a0 Z = true := hw _ (List.mem_of_getElem? (i := 103) rfl)
theorem tw104 {Z : State} {a0 : Array Value} (hw : ∀ d ∈ tables_1, d.before a0 Z = true) : (Jvm.Cond.code ({ cls := "java/lang/StringUTF16", name := "newBytesLength", desc := "(I)I" } : Jvm.MethodName) jdk_52_method_3_code (1 : Nat) (Option.some Jvm.ClassFile.FieldType.int)).before a0 Z = true := hw _ (List.mem_of_getElem? (i := 104) rfl)
theorem tw105 {Z : State} {a0 : Array Value} (hw : ∀ d ∈ tables_1, d.before a0 Z = true) : (Jvm.Cond.constant "java/lang/StringUTF16" (20 : Nat) (1073741823 : Int32)).before a0 Z = true := hw _ (List.mem_of_getElem? (i := 105) rfl)
theorem tw106 {Z : State} {a0 : Array Value} (hw : ∀ d ∈ tables_1, d.before a0 Z = true) : (Jvm.Cond.methodLink "java/lang/StringUTF16" (111 : Nat) ({ cls := "java/lang/StringUTF16", name := "putChar", desc := "([BII)V" } : Jvm.MethodName)).before a0 Z = true := hw _ (List.mem_of_getElem? (i := 106) rfl)
theorem tw107 {Z : State} {a0 : Array Value} (hw : ∀ d ∈ tables_1, d.before a0 Z = true) : (Jvm.Cond.static ({ cls := "java/lang/StringUTF16", name := "putChar", desc := "([BII)V" } : Jvm.MethodName)).before a0 Z = true := hw _ (List.mem_of_getElem? (i := 107) rfl)
theorem tw108 {Z : State} {a0 : Array Value} (hw : ∀ d ∈ tables_1, d.before a0 Z = true) : (Jvm.Cond.code ({ cls := "java/lang/StringUTF16", name := "putChar", desc := "([BII)V" } : Jvm.MethodName) jdk_52_method_4_code (3 : Nat) (Option.none : Option Jvm.ClassFile.FieldType)).before a0 Z = true := hw _ (List.mem_of_getElem? (i := 108) rfl)
theorem tw109 {Z : State} {a0 : Array Value} (hw : ∀ d ∈ tables_1, d.before a0 Z = true) : (Jvm.Cond.fieldLink "java/lang/StringUTF16" (44 : Nat) "java/lang/StringUTF16" "$assertionsDisabled" "Z").before a0 Z = true := hw _ (List.mem_of_getElem? (i := 109) rfl)
theorem tw110 {Z : State} {a0 : Array Value} (hw : ∀ d ∈ tables_1, d.before a0 Z = true) : (Jvm.Cond.fieldLink "java/lang/StringUTF16" (59 : Nat) "java/lang/StringUTF16" "HI_BYTE_SHIFT" "I").before a0 Z = true := hw _ (List.mem_of_getElem? (i := 110) rfl)
theorem tw111 {Z : State} {a0 : Array Value} (hw : ∀ d ∈ tables_1, d.before a0 Z = true) : (Jvm.Cond.fieldLink "java/lang/StringUTF16" (63 : Nat) "java/lang/StringUTF16" "LO_BYTE_SHIFT" "I").before a0 Z = true := hw _ (List.mem_of_getElem? (i := 111) rfl)
theorem tw112 {Z : State} {a0 : Array Value} (hw : ∀ d ∈ tables_1, d.before a0 Z = true) : (Jvm.Cond.methodLink "java/lang/StringUTF16" (71 : Nat) ({ cls := "java/lang/StringUTF16", name := "getChar", desc := "([BI)C" } : Jvm.MethodName)).before a0 Z = true := hw _ (List.mem_of_getElem? (i := 112) rfl)
theorem tw113 {Z : State} {a0 : Array Value} (hw : ∀ d ∈ tables_1, d.before a0 Z = true) : (Jvm.Cond.static ({ cls := "java/lang/StringUTF16", name := "getChar", desc := "([BI)C" } : Jvm.MethodName)).before a0 Z = true := hw _ (List.mem_of_getElem? (i := 113) rfl)
theorem tw114 {Z : State} {a0 : Array Value} (hw : ∀ d ∈ tables_1, d.before a0 Z = true) : (Jvm.Cond.code ({ cls := "java/lang/StringUTF16", name := "getChar", desc := "([BI)C" } : Jvm.MethodName) jdk_52_method_5_code (2 : Nat) (Option.some Jvm.ClassFile.FieldType.char)).before a0 Z = true := hw _ (List.mem_of_getElem? (i := 114) rfl)
theorem pd0 : parseMethodDescriptor "([CIILjava/lang/Void;)V" = some ⟨[(.array .char), .int, .int, (.object "java/lang/Void")], none⟩ := by decide +kernel
theorem pd1 : parseMethodDescriptor "([CI[BII)I" = some ⟨[(.array .char), .int, (.array .byte), .int, .int], some .int⟩ := by decide +kernel
theorem pd2 : parseMethodDescriptor "([CII)[B" = some ⟨[(.array .char), .int, .int], some (.array .byte)⟩ := by decide +kernel
theorem pd3 : parseMethodDescriptor "([BI)B" = some ⟨[(.array .byte), .int], some .byte⟩ := by decide +kernel
theorem pd4 : parseMethodDescriptor "(I)I" = some ⟨[.int], some .int⟩ := by decide +kernel
theorem pd5 : parseMethodDescriptor "(I)[B" = some ⟨[.int], some (.array .byte)⟩ := by decide +kernel
theorem pd6 : parseMethodDescriptor "([BII)V" = some ⟨[(.array .byte), .int, .int], none⟩ := by decide +kernel
theorem pd7 : parseMethodDescriptor "([BI)C" = some ⟨[(.array .byte), .int], some .char⟩ := by decide +kernel
theorem pd8 : parseMethodDescriptor "()V" = some ⟨[], none⟩ := by decide +kernel
theorem pd9 : parseMethodDescriptor "(Ljava/lang/Object;Ljava/lang/String;)Ljava/lang/Object;" = some ⟨[(.object "java/lang/Object"), (.object "java/lang/String")], some (.object "java/lang/Object")⟩ := by decide +kernel
theorem pd10 : parseMethodDescriptor "(ZLcom/example/rolebind/rolebind/Decision$Reason;Ljava/lang/String;)V" = some ⟨[.boolean, (.object "com/example/rolebind/rolebind/Decision$Reason"), (.object "java/lang/String")], none⟩ := by decide +kernel
theorem pd11 : parseMethodDescriptor "()B" = some ⟨[], some .byte⟩ := by decide +kernel
theorem pd12 : parseMethodDescriptor "([C)V" = some ⟨[(.array .char)], none⟩ := by decide +kernel
theorem pd13 : parseMethodDescriptor "(Ljava/lang/String;)Lcom/example/rolebind/rolebind/Decision;" = some ⟨[(.object "java/lang/String")], some (.object "com/example/rolebind/rolebind/Decision")⟩ := by decide +kernel
theorem pd14 : parseMethodDescriptor "()Z" = some ⟨[], some .boolean⟩ := by decide +kernel
theorem pd15 : parseMethodDescriptor "()Lcom/example/rolebind/rolebind/Decision$Reason;" = some ⟨[], some (.object "com/example/rolebind/rolebind/Decision$Reason")⟩ := by decide +kernel
theorem pd16 : parseMethodDescriptor "()Ljava/lang/String;" = some ⟨[], some (.object "java/lang/String")⟩ := by decide +kernel
theorem pd17 : parseMethodDescriptor "(Ljava/lang/Object;)Z" = some ⟨[(.object "java/lang/Object")], some .boolean⟩ := by decide +kernel
theorem pd18 : parseMethodDescriptor "()I" = some ⟨[], some .int⟩ := by decide +kernel
theorem djdk_42_149_0 : decode jdk_42_method_149_code 0 = .ok (.aload_n 0, 1) := by decide +kernel
theorem djdk_42_149_1 : decode jdk_42_method_149_code 1 = .ok (.invokespecial 1, 3) := by decide +kernel
theorem djdk_42_149_4 : decode jdk_42_method_149_code 4 = .ok (.iload_n 3, 1) := by decide +kernel
theorem djdk_42_149_5 : decode jdk_42_method_149_code 5 = .ok (.ifCond .ne 22, 3) := by decide +kernel
theorem djdk_42_149_8 : decode jdk_42_method_149_code 8 = .ok (.aload_n 0, 1) := by decide +kernel
theorem djdk_42_149_9 : decode jdk_42_method_149_code 9 = .ok (.ldc 7, 2) := by decide +kernel
theorem djdk_42_149_11 : decode jdk_42_method_149_code 11 = .ok (.getfield 9, 3) := by decide +kernel
theorem djdk_42_149_14 : decode jdk_42_method_149_code 14 = .ok (.putfield 9, 3) := by decide +kernel
theorem djdk_42_149_17 : decode jdk_42_method_149_code 17 = .ok (.aload_n 0, 1) := by decide +kernel
theorem djdk_42_149_18 : decode jdk_42_method_149_code 18 = .ok (.ldc 7, 2) := by decide +kernel
theorem djdk_42_149_20 : decode jdk_42_method_149_code 20 = .ok (.getfield 15, 3) := by decide +kernel
theorem djdk_42_149_23 : decode jdk_42_method_149_code 23 = .ok (.putfield 15, 3) := by decide +kernel
theorem djdk_42_149_26 : decode jdk_42_method_149_code 26 = .ok (.return_, 1) := by decide +kernel
theorem djdk_42_3_0 : decode jdk_42_method_3_code 0 = .ok (.aload_n 0, 1) := by decide +kernel
theorem djdk_42_3_1 : decode jdk_42_method_3_code 1 = .ok (.aload_n 1, 1) := by decide +kernel
theorem djdk_42_3_2 : decode jdk_42_method_3_code 2 = .ok (.iconst 0, 1) := by decide +kernel
theorem djdk_42_3_3 : decode jdk_42_method_3_code 3 = .ok (.aload_n 1, 1) := by decide +kernel
theorem djdk_42_3_4 : decode jdk_42_method_3_code 4 = .ok (.arraylength, 1) := by decide +kernel
theorem djdk_42_3_5 : decode jdk_42_method_3_code 5 = .ok (.aconst_null, 1) := by decide +kernel
theorem djdk_42_3_6 : decode jdk_42_method_3_code 6 = .ok (.invokespecial 27, 3) := by decide +kernel
theorem djdk_42_3_9 : decode jdk_42_method_3_code 9 = .ok (.return_, 1) := by decide +kernel
theorem djdk_52_21_0 : decode jdk_52_method_21_code 0 = .ok (.iconst 0, 1) := by decide +kernel
theorem djdk_52_21_1 : decode jdk_52_method_21_code 1 = .ok (.istore 5, 2) := by decide +kernel
theorem djdk_52_21_3 : decode jdk_52_method_21_code 3 = .ok (.iload 5, 2) := by decide +kernel
theorem djdk_52_21_5 : decode jdk_52_method_21_code 5 = .ok (.iload 4, 2) := by decide +kernel
theorem djdk_52_21_7 : decode jdk_52_method_21_code 7 = .ok (.if_icmp .ge 37, 3) := by decide +kernel
theorem djdk_52_21_10 : decode jdk_52_method_21_code 10 = .ok (.aload_n 0, 1) := by decide +kernel
theorem djdk_52_21_11 : decode jdk_52_method_21_code 11 = .ok (.iload_n 1, 1) := by decide +kernel
theorem djdk_52_21_12 : decode jdk_52_method_21_code 12 = .ok (.caload, 1) := by decide +kernel
theorem djdk_52_21_13 : decode jdk_52_method_21_code 13 = .ok (.istore 6, 2) := by decide +kernel
theorem djdk_52_21_15 : decode jdk_52_method_21_code 15 = .ok (.iload 6, 2) := by decide +kernel
theorem djdk_52_21_17 : decode jdk_52_method_21_code 17 = .ok (.sipush 255, 3) := by decide +kernel
theorem djdk_52_21_20 : decode jdk_52_method_21_code 20 = .ok (.if_icmp .le 6, 3) := by decide +kernel
theorem djdk_52_21_26 : decode jdk_52_method_21_code 26 = .ok (.aload_n 2, 1) := by decide +kernel
theorem djdk_52_21_27 : decode jdk_52_method_21_code 27 = .ok (.iload_n 3, 1) := by decide +kernel
theorem djdk_52_21_28 : decode jdk_52_method_21_code 28 = .ok (.iload 6, 2) := by decide +kernel
theorem djdk_52_21_30 : decode jdk_52_method_21_code 30 = .ok (.i2b, 1) := by decide +kernel
theorem djdk_52_21_31 : decode jdk_52_method_21_code 31 = .ok (.bastore, 1) := by decide +kernel
theorem djdk_52_21_32 : decode jdk_52_method_21_code 32 = .ok (.iinc 1 1, 3) := by decide +kernel
theorem djdk_52_21_35 : decode jdk_52_method_21_code 35 = .ok (.iinc 3 1, 3) := by decide +kernel
theorem djdk_52_21_38 : decode jdk_52_method_21_code 38 = .ok (.iinc 5 1, 3) := by decide +kernel
theorem djdk_52_21_41 : decode jdk_52_method_21_code 41 = .ok (.goto (-38), 3) := by decide +kernel
theorem djdk_52_21_44 : decode jdk_52_method_21_code 44 = .ok (.iload 4, 2) := by decide +kernel
theorem djdk_52_21_46 : decode jdk_52_method_21_code 46 = .ok (.ireturn, 1) := by decide +kernel
theorem djdk_52_16_0 : decode jdk_52_method_16_code 0 = .ok (.iload_n 2, 1) := by decide +kernel
theorem djdk_52_16_1 : decode jdk_52_method_16_code 1 = .ok (.newarray .byte, 2) := by decide +kernel
theorem djdk_52_16_3 : decode jdk_52_method_16_code 3 = .ok (.astore_n 3, 1) := by decide +kernel
theorem djdk_52_16_4 : decode jdk_52_method_16_code 4 = .ok (.aload_n 0, 1) := by decide +kernel
theorem djdk_52_16_5 : decode jdk_52_method_16_code 5 = .ok (.iload_n 1, 1) := by decide +kernel
theorem djdk_52_16_6 : decode jdk_52_method_16_code 6 = .ok (.aload_n 3, 1) := by decide +kernel
theorem djdk_52_16_7 : decode jdk_52_method_16_code 7 = .ok (.iconst 0, 1) := by decide +kernel
theorem djdk_52_16_8 : decode jdk_52_method_16_code 8 = .ok (.iload_n 2, 1) := by decide +kernel
theorem djdk_52_16_9 : decode jdk_52_method_16_code 9 = .ok (.invokestatic 115, 3) := by decide +kernel
theorem djdk_52_16_12 : decode jdk_52_method_16_code 12 = .ok (.istore 4, 2) := by decide +kernel
theorem djdk_52_16_14 : decode jdk_52_method_16_code 14 = .ok (.iload 4, 2) := by decide +kernel
theorem djdk_52_16_16 : decode jdk_52_method_16_code 16 = .ok (.iload_n 2, 1) := by decide +kernel
theorem djdk_52_16_17 : decode jdk_52_method_16_code 17 = .ok (.if_icmp .eq 40, 3) := by decide +kernel
theorem djdk_52_16_57 : decode jdk_52_method_16_code 57 = .ok (.aload_n 3, 1) := by decide +kernel
theorem djdk_52_16_58 : decode jdk_52_method_16_code 58 = .ok (.areturn, 1) := by decide +kernel
theorem djdk_52_15_0 : decode jdk_52_method_15_code 0 = .ok (.iload_n 1, 1) := by decide +kernel
theorem djdk_52_15_1 : decode jdk_52_method_15_code 1 = .ok (.aload_n 0, 1) := by decide +kernel
theorem djdk_52_15_2 : decode jdk_52_method_15_code 2 = .ok (.arraylength, 1) := by decide +kernel
theorem djdk_52_15_3 : decode jdk_52_method_15_code 3 = .ok (.isub, 1) := by decide +kernel
theorem djdk_52_15_4 : decode jdk_52_method_15_code 4 = .ok (.bipush 31, 2) := by decide +kernel
theorem djdk_52_15_6 : decode jdk_52_method_15_code 6 = .ok (.iushr, 1) := by decide +kernel
theorem djdk_52_15_7 : decode jdk_52_method_15_code 7 = .ok (.i2b, 1) := by decide +kernel
theorem djdk_52_15_8 : decode jdk_52_method_15_code 8 = .ok (.ireturn, 1) := by decide +kernel
theorem djdk_42_149_27 : decode jdk_42_method_149_code 27 = .ok (.getstatic 38, 3) := by decide +kernel
theorem djdk_42_149_30 : decode jdk_42_method_149_code 30 = .ok (.ifCond .eq 28, 3) := by decide +kernel
theorem djdk_42_149_33 : decode jdk_42_method_149_code 33 = .ok (.aload_n 1, 1) := by decide +kernel
theorem djdk_42_149_34 : decode jdk_42_method_149_code 34 = .ok (.iload_n 2, 1) := by decide +kernel
theorem djdk_42_149_35 : decode jdk_42_method_149_code 35 = .ok (.iload_n 3, 1) := by decide +kernel
theorem djdk_42_149_36 : decode jdk_42_method_149_code 36 = .ok (.invokestatic 177, 3) := by decide +kernel
theorem djdk_42_149_39 : decode jdk_42_method_149_code 39 = .ok (.astore 5, 2) := by decide +kernel
theorem djdk_42_149_41 : decode jdk_42_method_149_code 41 = .ok (.aload_n 0, 1) := by decide +kernel
theorem djdk_42_149_42 : decode jdk_42_method_149_code 42 = .ok (.aload 5, 2) := by decide +kernel
theorem djdk_42_149_44 : decode jdk_42_method_149_code 44 = .ok (.iload_n 3, 1) := by decide +kernel
theorem djdk_42_149_45 : decode jdk_42_method_149_code 45 = .ok (.invokestatic 47, 3) := by decide +kernel
theorem djdk_42_149_48 : decode jdk_42_method_149_code 48 = .ok (.putfield 15, 3) := by decide +kernel
theorem djdk_42_149_51 : decode jdk_42_method_149_code 51 = .ok (.aload_n 0, 1) := by decide +kernel
theorem djdk_42_149_52 : decode jdk_42_method_149_code 52 = .ok (.aload 5, 2) := by decide +kernel
theorem djdk_42_149_54 : decode jdk_42_method_149_code 54 = .ok (.putfield 9, 3) := by decide +kernel
theorem djdk_42_149_57 : decode jdk_42_method_149_code 57 = .ok (.return_, 1) := by decide +kernel
theorem djdk_52_3_0 : decode jdk_52_method_3_code 0 = .ok (.iload_n 0, 1) := by decide +kernel
theorem djdk_52_3_1 : decode jdk_52_method_3_code 1 = .ok (.ifCond .ge 11, 3) := by decide +kernel
theorem djdk_52_3_12 : decode jdk_52_method_3_code 12 = .ok (.iload_n 0, 1) := by decide +kernel
theorem djdk_52_3_13 : decode jdk_52_method_3_code 13 = .ok (.ldc 20, 2) := by decide +kernel
theorem djdk_52_3_15 : decode jdk_52_method_3_code 15 = .ok (.if_icmp .lt 40, 3) := by decide +kernel
theorem djdk_52_3_55 : decode jdk_52_method_3_code 55 = .ok (.iload_n 0, 1) := by decide +kernel
theorem djdk_52_3_56 : decode jdk_52_method_3_code 56 = .ok (.iconst 1, 1) := by decide +kernel
theorem djdk_52_3_57 : decode jdk_52_method_3_code 57 = .ok (.ishl, 1) := by decide +kernel
theorem djdk_52_3_58 : decode jdk_52_method_3_code 58 = .ok (.ireturn, 1) := by decide +kernel
theorem djdk_52_2_0 : decode jdk_52_method_2_code 0 = .ok (.iload_n 0, 1) := by decide +kernel
theorem djdk_52_2_1 : decode jdk_52_method_2_code 1 = .ok (.invokestatic 11, 3) := by decide +kernel
theorem djdk_52_2_4 : decode jdk_52_method_2_code 4 = .ok (.newarray .byte, 2) := by decide +kernel
theorem djdk_52_2_6 : decode jdk_52_method_2_code 6 = .ok (.areturn, 1) := by decide +kernel
theorem djdk_52_4_0 : decode jdk_52_method_4_code 0 = .ok (.getstatic 44, 3) := by decide +kernel
theorem djdk_52_4_3 : decode jdk_52_method_4_code 3 = .ok (.ifCond .ne 25, 3) := by decide +kernel
theorem djdk_52_4_28 : decode jdk_52_method_4_code 28 = .ok (.iload_n 1, 1) := by decide +kernel
theorem djdk_52_4_29 : decode jdk_52_method_4_code 29 = .ok (.iconst 1, 1) := by decide +kernel
theorem djdk_52_4_30 : decode jdk_52_method_4_code 30 = .ok (.ishl, 1) := by decide +kernel
theorem djdk_52_4_31 : decode jdk_52_method_4_code 31 = .ok (.istore_n 1, 1) := by decide +kernel
theorem djdk_52_4_32 : decode jdk_52_method_4_code 32 = .ok (.aload_n 0, 1) := by decide +kernel
theorem djdk_52_4_33 : decode jdk_52_method_4_code 33 = .ok (.iload_n 1, 1) := by decide +kernel
theorem djdk_52_4_34 : decode jdk_52_method_4_code 34 = .ok (.iinc 1 1, 3) := by decide +kernel
theorem djdk_52_4_37 : decode jdk_52_method_4_code 37 = .ok (.iload_n 2, 1) := by decide +kernel
theorem djdk_52_4_38 : decode jdk_52_method_4_code 38 = .ok (.getstatic 59, 3) := by decide +kernel
theorem djdk_52_4_41 : decode jdk_52_method_4_code 41 = .ok (.ishr, 1) := by decide +kernel
theorem djdk_52_4_42 : decode jdk_52_method_4_code 42 = .ok (.i2b, 1) := by decide +kernel
theorem djdk_52_4_43 : decode jdk_52_method_4_code 43 = .ok (.bastore, 1) := by decide +kernel
theorem djdk_52_4_44 : decode jdk_52_method_4_code 44 = .ok (.aload_n 0, 1) := by decide +kernel
theorem djdk_52_4_45 : decode jdk_52_method_4_code 45 = .ok (.iload_n 1, 1) := by decide +kernel
theorem djdk_52_4_46 : decode jdk_52_method_4_code 46 = .ok (.iload_n 2, 1) := by decide +kernel
theorem djdk_52_4_47 : decode jdk_52_method_4_code 47 = .ok (.getstatic 63, 3) := by decide +kernel
theorem djdk_52_4_50 : decode jdk_52_method_4_code 50 = .ok (.ishr, 1) := by decide +kernel
theorem djdk_52_4_51 : decode jdk_52_method_4_code 51 = .ok (.i2b, 1) := by decide +kernel
theorem djdk_52_4_52 : decode jdk_52_method_4_code 52 = .ok (.bastore, 1) := by decide +kernel
theorem djdk_52_4_53 : decode jdk_52_method_4_code 53 = .ok (.return_, 1) := by decide +kernel
theorem djdk_52_14_0 : decode jdk_52_method_14_code 0 = .ok (.iload_n 2, 1) := by decide +kernel
theorem djdk_52_14_1 : decode jdk_52_method_14_code 1 = .ok (.invokestatic 107, 3) := by decide +kernel
theorem djdk_52_14_4 : decode jdk_52_method_14_code 4 = .ok (.astore_n 3, 1) := by decide +kernel
theorem djdk_52_14_5 : decode jdk_52_method_14_code 5 = .ok (.iconst 0, 1) := by decide +kernel
theorem djdk_52_14_6 : decode jdk_52_method_14_code 6 = .ok (.istore 4, 2) := by decide +kernel
theorem djdk_52_14_8 : decode jdk_52_method_14_code 8 = .ok (.iload 4, 2) := by decide +kernel
theorem djdk_52_14_10 : decode jdk_52_method_14_code 10 = .ok (.iload_n 2, 1) := by decide +kernel
theorem djdk_52_14_11 : decode jdk_52_method_14_code 11 = .ok (.if_icmp .ge 21, 3) := by decide +kernel
theorem djdk_52_14_14 : decode jdk_52_method_14_code 14 = .ok (.aload_n 3, 1) := by decide +kernel
theorem djdk_52_14_15 : decode jdk_52_method_14_code 15 = .ok (.iload 4, 2) := by decide +kernel
theorem djdk_52_14_17 : decode jdk_52_method_14_code 17 = .ok (.aload_n 0, 1) := by decide +kernel
theorem djdk_52_14_18 : decode jdk_52_method_14_code 18 = .ok (.iload_n 1, 1) := by decide +kernel
theorem djdk_52_14_19 : decode jdk_52_method_14_code 19 = .ok (.caload, 1) := by decide +kernel
theorem djdk_52_14_20 : decode jdk_52_method_14_code 20 = .ok (.invokestatic 111, 3) := by decide +kernel
theorem djdk_52_14_23 : decode jdk_52_method_14_code 23 = .ok (.iinc 1 1, 3) := by decide +kernel
theorem djdk_52_14_26 : decode jdk_52_method_14_code 26 = .ok (.iinc 4 1, 3) := by decide +kernel
theorem djdk_52_14_29 : decode jdk_52_method_14_code 29 = .ok (.goto (-21), 3) := by decide +kernel
theorem djdk_52_14_32 : decode jdk_52_method_14_code 32 = .ok (.aload_n 3, 1) := by decide +kernel
theorem djdk_52_14_33 : decode jdk_52_method_14_code 33 = .ok (.areturn, 1) := by decide +kernel
theorem djdk_52_5_0 : decode jdk_52_method_5_code 0 = .ok (.getstatic 44, 3) := by decide +kernel
theorem djdk_52_5_3 : decode jdk_52_method_5_code 3 = .ok (.ifCond .ne 25, 3) := by decide +kernel
theorem djdk_52_5_28 : decode jdk_52_method_5_code 28 = .ok (.iload_n 1, 1) := by decide +kernel
theorem djdk_52_5_29 : decode jdk_52_method_5_code 29 = .ok (.iconst 1, 1) := by decide +kernel
theorem djdk_52_5_30 : decode jdk_52_method_5_code 30 = .ok (.ishl, 1) := by decide +kernel
theorem djdk_52_5_31 : decode jdk_52_method_5_code 31 = .ok (.istore_n 1, 1) := by decide +kernel
theorem djdk_52_5_32 : decode jdk_52_method_5_code 32 = .ok (.aload_n 0, 1) := by decide +kernel
theorem djdk_52_5_33 : decode jdk_52_method_5_code 33 = .ok (.iload_n 1, 1) := by decide +kernel
theorem djdk_52_5_34 : decode jdk_52_method_5_code 34 = .ok (.iinc 1 1, 3) := by decide +kernel
theorem djdk_52_5_37 : decode jdk_52_method_5_code 37 = .ok (.baload, 1) := by decide +kernel
theorem djdk_52_5_38 : decode jdk_52_method_5_code 38 = .ok (.sipush 255, 3) := by decide +kernel
theorem djdk_52_5_41 : decode jdk_52_method_5_code 41 = .ok (.iand, 1) := by decide +kernel
theorem djdk_52_5_42 : decode jdk_52_method_5_code 42 = .ok (.getstatic 59, 3) := by decide +kernel
theorem djdk_52_5_45 : decode jdk_52_method_5_code 45 = .ok (.ishl, 1) := by decide +kernel
theorem djdk_52_5_46 : decode jdk_52_method_5_code 46 = .ok (.aload_n 0, 1) := by decide +kernel
theorem djdk_52_5_47 : decode jdk_52_method_5_code 47 = .ok (.iload_n 1, 1) := by decide +kernel
theorem djdk_52_5_48 : decode jdk_52_method_5_code 48 = .ok (.baload, 1) := by decide +kernel
theorem djdk_52_5_49 : decode jdk_52_method_5_code 49 = .ok (.sipush 255, 3) := by decide +kernel
theorem djdk_52_5_52 : decode jdk_52_method_5_code 52 = .ok (.iand, 1) := by decide +kernel
theorem djdk_52_5_53 : decode jdk_52_method_5_code 53 = .ok (.getstatic 63, 3) := by decide +kernel
theorem djdk_52_5_56 : decode jdk_52_method_5_code 56 = .ok (.ishl, 1) := by decide +kernel
theorem djdk_52_5_57 : decode jdk_52_method_5_code 57 = .ok (.ior, 1) := by decide +kernel
theorem djdk_52_5_58 : decode jdk_52_method_5_code 58 = .ok (.i2c, 1) := by decide +kernel
theorem djdk_52_5_59 : decode jdk_52_method_5_code 59 = .ok (.ireturn, 1) := by decide +kernel
theorem djdk_52_21_23 : decode jdk_52_method_21_code 23 = .ok (.iload 5, 2) := by decide +kernel
theorem djdk_52_21_25 : decode jdk_52_method_21_code 25 = .ok (.ireturn, 1) := by decide +kernel
theorem djdk_52_16_20 : decode jdk_52_method_16_code 20 = .ok (.aload_n 0, 1) := by decide +kernel
theorem djdk_52_16_21 : decode jdk_52_method_16_code 21 = .ok (.iload_n 1, 1) := by decide +kernel
theorem djdk_52_16_22 : decode jdk_52_method_16_code 22 = .ok (.iload_n 2, 1) := by decide +kernel
theorem djdk_52_16_23 : decode jdk_52_method_16_code 23 = .ok (.invokestatic 119, 3) := by decide +kernel
theorem djdk_52_16_26 : decode jdk_52_method_16_code 26 = .ok (.astore 5, 2) := by decide +kernel
theorem djdk_52_16_28 : decode jdk_52_method_16_code 28 = .ok (.aload 5, 2) := by decide +kernel
theorem djdk_52_16_30 : decode jdk_52_method_16_code 30 = .ok (.iload 4, 2) := by decide +kernel
theorem djdk_52_16_32 : decode jdk_52_method_16_code 32 = .ok (.invokestatic 71, 3) := by decide +kernel
theorem djdk_52_16_35 : decode jdk_52_method_16_code 35 = .ok (.sipush 255, 3) := by decide +kernel
theorem djdk_52_16_38 : decode jdk_52_method_16_code 38 = .ok (.if_icmp .gt 16, 3) := by decide +kernel
theorem djdk_52_16_54 : decode jdk_52_method_16_code 54 = .ok (.aload 5, 2) := by decide +kernel
theorem djdk_52_16_56 : decode jdk_52_method_16_code 56 = .ok (.areturn, 1) := by decide +kernel
theorem djdk_31_11_0 : decode jdk_31_method_11_code 0 = .ok (.aload_n 0, 1) := by decide +kernel
theorem djdk_31_11_1 : decode jdk_31_method_11_code 1 = .ok (.ifnonnull 12, 3) := by decide +kernel
theorem djdk_31_11_13 : decode jdk_31_method_11_code 13 = .ok (.aload_n 0, 1) := by decide +kernel
theorem djdk_31_11_14 : decode jdk_31_method_11_code 14 = .ok (.areturn, 1) := by decide +kernel
theorem djdk_30_1_0 : decode jdk_30_method_1_code 0 = .ok (.aload_n 0, 1) := by decide +kernel
theorem djdk_30_1_1 : decode jdk_30_method_1_code 1 = .ok (.invokespecial 1, 3) := by decide +kernel
theorem djdk_30_1_4 : decode jdk_30_method_1_code 4 = .ok (.return_, 1) := by decide +kernel
theorem dprog_16_1_0 : decode prog_16_method_1_code 0 = .ok (.aload_n 0, 1) := by decide +kernel
theorem dprog_16_1_1 : decode prog_16_method_1_code 1 = .ok (.invokespecial 1, 3) := by decide +kernel
theorem dprog_16_1_4 : decode prog_16_method_1_code 4 = .ok (.aload_n 2, 1) := by decide +kernel
theorem dprog_16_1_5 : decode prog_16_method_1_code 5 = .ok (.ldc 7, 2) := by decide +kernel
theorem dprog_16_1_7 : decode prog_16_method_1_code 7 = .ok (.invokestatic 9, 3) := by decide +kernel
theorem dprog_16_1_10 : decode prog_16_method_1_code 10 = .ok (.pop, 1) := by decide +kernel
theorem dprog_16_1_11 : decode prog_16_method_1_code 11 = .ok (.aload_n 2, 1) := by decide +kernel
theorem dprog_16_1_12 : decode prog_16_method_1_code 12 = .ok (.getstatic 15, 3) := by decide +kernel
theorem dprog_16_1_15 : decode prog_16_method_1_code 15 = .ok (.if_acmp .ne 7, 3) := by decide +kernel
theorem dprog_16_1_18 : decode prog_16_method_1_code 18 = .ok (.iconst 1, 1) := by decide +kernel
theorem dprog_16_1_19 : decode prog_16_method_1_code 19 = .ok (.goto 4, 3) := by decide +kernel
theorem dprog_16_1_23 : decode prog_16_method_1_code 23 = .ok (.aload_n 3, 1) := by decide +kernel
theorem dprog_16_1_24 : decode prog_16_method_1_code 24 = .ok (.ifnull 7, 3) := by decide +kernel
theorem dprog_16_1_27 : decode prog_16_method_1_code 27 = .ok (.iconst 1, 1) := by decide +kernel
theorem dprog_16_1_28 : decode prog_16_method_1_code 28 = .ok (.goto 4, 3) := by decide +kernel
theorem dprog_16_1_32 : decode prog_16_method_1_code 32 = .ok (.if_icmp .eq 13, 3) := by decide +kernel
theorem dprog_16_1_45 : decode prog_16_method_1_code 45 = .ok (.aload_n 0, 1) := by decide +kernel
theorem dprog_16_1_46 : decode prog_16_method_1_code 46 = .ok (.iload_n 1, 1) := by decide +kernel
theorem dprog_16_1_47 : decode prog_16_method_1_code 47 = .ok (.putfield 28, 3) := by decide +kernel
theorem dprog_16_1_50 : decode prog_16_method_1_code 50 = .ok (.aload_n 0, 1) := by decide +kernel
theorem dprog_16_1_51 : decode prog_16_method_1_code 51 = .ok (.aload_n 2, 1) := by decide +kernel
theorem dprog_16_1_52 : decode prog_16_method_1_code 52 = .ok (.putfield 34, 3) := by decide +kernel
theorem dprog_16_1_55 : decode prog_16_method_1_code 55 = .ok (.aload_n 0, 1) := by decide +kernel
theorem dprog_16_1_56 : decode prog_16_method_1_code 56 = .ok (.aload_n 3, 1) := by decide +kernel
theorem dprog_16_1_57 : decode prog_16_method_1_code 57 = .ok (.putfield 36, 3) := by decide +kernel
theorem dprog_16_1_60 : decode prog_16_method_1_code 60 = .ok (.return_, 1) := by decide +kernel
theorem dprog_16_2_0 : decode prog_16_method_2_code 0 = .ok (.new 29, 3) := by decide +kernel
theorem dprog_16_2_3 : decode prog_16_method_2_code 3 = .ok (.dup, 1) := by decide +kernel
theorem dprog_16_2_4 : decode prog_16_method_2_code 4 = .ok (.iconst 1, 1) := by decide +kernel
theorem dprog_16_2_5 : decode prog_16_method_2_code 5 = .ok (.getstatic 15, 3) := by decide +kernel
theorem dprog_16_2_8 : decode prog_16_method_2_code 8 = .ok (.aload_n 0, 1) := by decide +kernel
theorem dprog_16_2_9 : decode prog_16_method_2_code 9 = .ok (.ldc 40, 2) := by decide +kernel
theorem dprog_16_2_11 : decode prog_16_method_2_code 11 = .ok (.invokestatic 9, 3) := by decide +kernel
theorem dprog_16_2_14 : decode prog_16_method_2_code 14 = .ok (.checkcast 41, 3) := by decide +kernel
theorem dprog_16_2_17 : decode prog_16_method_2_code 17 = .ok (.invokespecial 43, 3) := by decide +kernel
theorem dprog_16_2_20 : decode prog_16_method_2_code 20 = .ok (.areturn, 1) := by decide +kernel
theorem dprog_16_11_0 : decode prog_16_method_11_code 0 = .ok (.aload_n 0, 1) := by decide +kernel
theorem dprog_16_11_1 : decode prog_16_method_11_code 1 = .ok (.getfield 28, 3) := by decide +kernel
theorem dprog_16_11_4 : decode prog_16_method_11_code 4 = .ok (.ireturn, 1) := by decide +kernel
theorem dprog_16_12_0 : decode prog_16_method_12_code 0 = .ok (.aload_n 0, 1) := by decide +kernel
theorem dprog_16_12_1 : decode prog_16_method_12_code 1 = .ok (.getfield 34, 3) := by decide +kernel
theorem dprog_16_12_4 : decode prog_16_method_12_code 4 = .ok (.areturn, 1) := by decide +kernel
theorem dprog_16_13_0 : decode prog_16_method_13_code 0 = .ok (.aload_n 0, 1) := by decide +kernel
theorem dprog_16_13_1 : decode prog_16_method_13_code 1 = .ok (.getfield 36, 3) := by decide +kernel
theorem dprog_16_13_4 : decode prog_16_method_13_code 4 = .ok (.areturn, 1) := by decide +kernel
theorem djdk_42_66_0 : decode jdk_42_method_66_code 0 = .ok (.aload_n 0, 1) := by decide +kernel
theorem djdk_42_66_1 : decode jdk_42_method_66_code 1 = .ok (.aload_n 1, 1) := by decide +kernel
theorem djdk_42_66_2 : decode jdk_42_method_66_code 2 = .ok (.if_acmp .ne 5, 3) := by decide +kernel
theorem djdk_42_66_5 : decode jdk_42_method_66_code 5 = .ok (.iconst 1, 1) := by decide +kernel
theorem djdk_42_66_6 : decode jdk_42_method_66_code 6 = .ok (.ireturn, 1) := by decide +kernel
theorem djdk_42_152_0 : decode jdk_42_method_152_code 0 = .ok (.getstatic 38, 3) := by decide +kernel
theorem djdk_42_152_3 : decode jdk_42_method_152_code 3 = .ok (.ifCond .eq 10, 3) := by decide +kernel
theorem djdk_42_152_6 : decode jdk_42_method_152_code 6 = .ok (.aload_n 0, 1) := by decide +kernel
theorem djdk_42_152_7 : decode jdk_42_method_152_code 7 = .ok (.getfield 15, 3) := by decide +kernel
theorem djdk_42_152_10 : decode jdk_42_method_152_code 10 = .ok (.goto 4, 3) := by decide +kernel
theorem djdk_42_152_14 : decode jdk_42_method_152_code 14 = .ok (.ireturn, 1) := by decide +kernel
theorem djdk_42_54_0 : decode jdk_42_method_54_code 0 = .ok (.aload_n 0, 1) := by decide +kernel
theorem djdk_42_54_1 : decode jdk_42_method_54_code 1 = .ok (.getfield 9, 3) := by decide +kernel
theorem djdk_42_54_4 : decode jdk_42_method_54_code 4 = .ok (.arraylength, 1) := by decide +kernel
theorem djdk_42_54_5 : decode jdk_42_method_54_code 5 = .ok (.aload_n 0, 1) := by decide +kernel
theorem djdk_42_54_6 : decode jdk_42_method_54_code 6 = .ok (.invokevirtual 335, 3) := by decide +kernel
theorem djdk_42_54_9 : decode jdk_42_method_54_code 9 = .ok (.ishr, 1) := by decide +kernel
theorem djdk_42_54_10 : decode jdk_42_method_54_code 10 = .ok (.ireturn, 1) := by decide +kernel
theorem pf0 : plainFor (⟨"java/lang/String", "<init>", "([CIILjava/lang/Void;)V"⟩ : MethodName) = true := by first | exact plainFor_of_name (by first | (simp [plainName, overriddenIn]; done) | decide +kernel) | decide +kernel
theorem pf1 : plainFor (⟨"java/lang/String", "<init>", "([C)V"⟩ : MethodName) = true := by first | exact plainFor_of_name (by first | (simp [plainName, overriddenIn]; done) | decide +kernel) | decide +kernel
theorem pf2 : plainFor (⟨"java/lang/StringUTF16", "compress", "([CI[BII)I"⟩ : MethodName) = true := by first | exact plainFor_of_name (by first | (simp [plainName, overriddenIn]; done) | decide +kernel) | decide +kernel
theorem pf3 : plainFor (⟨"java/lang/StringUTF16", "compress", "([CII)[B"⟩ : MethodName) = true := by first | exact plainFor_of_name (by first | (simp [plainName, overriddenIn]; done) | decide +kernel) | decide +kernel
theorem pf4 : plainFor (⟨"java/lang/StringUTF16", "coderFromArrayLen", "([BI)B"⟩ : MethodName) = true := by first | exact plainFor_of_name (by first | (simp [plainName, overriddenIn]; done) | decide +kernel) | decide +kernel
theorem pf5 : plainFor (⟨"java/lang/StringUTF16", "newBytesLength", "(I)I"⟩ : MethodName) = true := by first | exact plainFor_of_name (by first | (simp [plainName, overriddenIn]; done) | decide +kernel) | decide +kernel
theorem pf6 : plainFor (⟨"java/lang/StringUTF16", "newBytesFor", "(I)[B"⟩ : MethodName) = true := by first | exact plainFor_of_name (by first | (simp [plainName, overriddenIn]; done) | decide +kernel) | decide +kernel
theorem pf7 : plainFor (⟨"java/lang/StringUTF16", "putChar", "([BII)V"⟩ : MethodName) = true := by first | exact plainFor_of_name (by first | (simp [plainName, overriddenIn]; done) | decide +kernel) | decide +kernel
theorem pf8 : plainFor (⟨"java/lang/StringUTF16", "toBytes", "([CII)[B"⟩ : MethodName) = true := by first | exact plainFor_of_name (by first | (simp [plainName, overriddenIn]; done) | decide +kernel) | decide +kernel
theorem pf9 : plainFor (⟨"java/lang/StringUTF16", "getChar", "([BI)C"⟩ : MethodName) = true := by first | exact plainFor_of_name (by first | (simp [plainName, overriddenIn]; done) | decide +kernel) | decide +kernel
theorem pf10 : plainFor (⟨"java/util/Objects", "requireNonNull", "(Ljava/lang/Object;Ljava/lang/String;)Ljava/lang/Object;"⟩ : MethodName) = true := by first | exact plainFor_of_name (by first | (simp [plainName, overriddenIn]; done) | decide +kernel) | decide +kernel
theorem pf11 : plainFor (⟨"java/lang/Record", "<init>", "()V"⟩ : MethodName) = true := by first | exact plainFor_of_name (by first | (simp [plainName, overriddenIn]; done) | decide +kernel) | decide +kernel
theorem pf12 : plainFor (⟨"com/example/rolebind/rolebind/Decision", "<init>", "(ZLcom/example/rolebind/rolebind/Decision$Reason;Ljava/lang/String;)V"⟩ : MethodName) = true := by first | exact plainFor_of_name (by first | (simp [plainName, overriddenIn]; done) | decide +kernel) | decide +kernel
theorem pf13 : plainFor (⟨"com/example/rolebind/rolebind/Decision", "allowedByRole", "(Ljava/lang/String;)Lcom/example/rolebind/rolebind/Decision;"⟩ : MethodName) = true := by first | exact plainFor_of_name (by first | (simp [plainName, overriddenIn]; done) | decide +kernel) | decide +kernel
theorem pf14 : plainFor (⟨"com/example/rolebind/rolebind/Decision", "allowed", "()Z"⟩ : MethodName) = true := by first | exact plainFor_of_name (by first | (simp [plainName, overriddenIn]; done) | decide +kernel) | decide +kernel
theorem pf15 : plainFor (⟨"com/example/rolebind/rolebind/Decision", "reason", "()Lcom/example/rolebind/rolebind/Decision$Reason;"⟩ : MethodName) = true := by first | exact plainFor_of_name (by first | (simp [plainName, overriddenIn]; done) | decide +kernel) | decide +kernel
theorem pf16 : plainFor (⟨"com/example/rolebind/rolebind/Decision", "role", "()Ljava/lang/String;"⟩ : MethodName) = true := by first | exact plainFor_of_name (by first | (simp [plainName, overriddenIn]; done) | decide +kernel) | decide +kernel
theorem pf17 : plainFor (⟨"java/lang/String", "equals", "(Ljava/lang/Object;)Z"⟩ : MethodName) = true := by first | exact plainFor_of_name (by first | (simp [plainName, overriddenIn]; done) | decide +kernel) | decide +kernel
theorem pf18 : plainFor (⟨"java/lang/String", "coder", "()B"⟩ : MethodName) = true := by first | exact plainFor_of_name (by first | (simp [plainName, overriddenIn]; done) | decide +kernel) | decide +kernel
theorem pf19 : plainFor (⟨"java/lang/String", "length", "()I"⟩ : MethodName) = true := by first | exact plainFor_of_name (by first | (simp [plainName, overriddenIn]; done) | decide +kernel) | decide +kernel
theorem pf20 : plainFor (⟨"com/example/rolebind/rolebind/DecisionAllowedByRolePinLaw", "law", "(IIII)Z"⟩ : MethodName) = true := by first | exact plainFor_of_name (by first | (simp [plainName, overriddenIn]; done) | decide +kernel) | decide +kernel
theorem hSA {Z : State} {a0 : Array Value} (hw : ∀ d ∈ tables_1, d.before a0 Z = true) : ∀ a ∈ Bundle.stringAtoms, a.before a0 Z = true := fun d hd => hw d ((by decide +kernel : ∀ d ∈ Bundle.stringAtoms, d ∈ tables_1) d hd)
theorem hELs {Z : State} {a0 : Array Value} (hw : ∀ d ∈ tables_1, d.before a0 Z = true) : EW Z a0 consts_1 := (EW.cons (tw47 hw) (by decide) (EW.cons (tw32 hw) (by decide) (EW.cons (tw15 hw) (by decide) EW.nil)))
theorem ef_new4_0 (m : MethodId) (xa : Addr) (ca : Addr) (kc : ClassId) : entryFrame m #[(.ref xa), (.ref ca), (.int (0 : Int32)), (.int (0 : Int32)), .null] 6 = mkF m 0 #[.val (.ref xa), .val (.ref ca), .val (.int (0 : Int32)), .val (.int (0 : Int32)), .val .null, .unset] [] := by first | (simp [entryFrame, mkF, argsToLocals, Value.category]; done) | rfl
set_option maxRecDepth 65536 in
set_option maxHeartbeats 40000000 in
theorem new4_0 (l : Launch) (Z : State) (a0 : Array Value) (n0 : Nat) (hw : ∀ d ∈ tables_1, d.before a0 Z = true) (hEL : EW Z a0 consts_1) (G1 : Int32) (O1 : Sta Z Z.heap "java/lang/String" "COMPACT_STRINGS" "Z" (.int G1)) (P1 : ¬ (G1 = (0 : Int32))) (O_as : Sta Z Z.heap "java/lang/StringUTF16" "$assertionsDisabled" "Z" (.int (1 : Int32))) (O_hi : Sta Z Z.heap "java/lang/StringUTF16" "HI_BYTE_SHIFT" "I" (.int (0 : Int32))) (O_lo : Sta Z Z.heap "java/lang/StringUTF16" "LO_BYTE_SHIFT" "I" (.int (8 : Int32))) (ro : Addr) (O_ro : Sta Z Z.heap "com/example/rolebind/rolebind/Decision$Reason" "ROLE" "Lcom/example/rolebind/rolebind/Decision$Reason;" (.ref ro)) (xa : Addr) (ca : Addr) (kc : ClassId) (h0 : Heap) (hO : Old Z n0 h0) (E_xa : Exa Z h0 xa "java/lang/String") (F_xa_value : Fld Z h0 xa "java/lang/String" "value" "[B" .null) (F_xa_coder : Fld Z h0 xa "java/lang/String" "coder" "B" (.int (0 : Int32))) (V_ca : Arv Z h0 ca kc .char (0 : Int32) [] (.int (0 : Int32))) (g_xa : n0 ≤ xa) :
    Con l Z consts_1 n0 (⟨"java/lang/String", "<init>", "([CIILjava/lang/Void;)V"⟩ : MethodName) jdk_42_method_149_code 6 none ({ frames := 1, cells := 2, slots := 4, locals := 12 } : Room) #[(.ref xa), (.ref ca), (.int (0 : Int32)), (.int (0 : Int32)), .null] h0 [xa] (fun v h V' => ∃ (t : Addr) (kt : ClassId), v = none ∧ Exa Z h xa "java/lang/String" ∧ Fld Z h xa "java/lang/String" "coder" "B" (.int (0 : Int32)) ∧ Fld Z h xa "java/lang/String" "value" "[B" (.ref t) ∧ Arv Z h t kt .byte (0 : Int32) [] (.int (0 : Int32))) [] := by
  refine Con.of (a0 := a0) pf0 (fun m => ef_new4_0 m xa ca kc) (allS g_xa all0) hO hEL ?_
  intro p e s m below meth c S0 hnm hsf W
  replace W := W.aloadN (pc' := 1) djdk_42_149_0 rfl rfl rfl
  replace W := W.initO (pc' := 4) (Wd := 0) djdk_42_149_1 (tw12 hw) (tw13 hw) (tw14 hw) rfl rfl (by decide) (by decide) rfl
  replace W := W.iloadN (pc' := 5) djdk_42_149_4 rfl rfl
  replace W := W.ifF (pc' := 8) djdk_42_149_5 (teq (by decide : (0 : Int32) = (0 : Int32))).2 rfl
  replace W := W.aloadN (pc' := 9) djdk_42_149_8 rfl rfl rfl
  obtain ⟨V1, h1, a1, b1, k1, W1, E1, A1, C1, F1, B1, t1, ne1, SF1⟩ := W.ldcT (pc' := 11) (n := 0) (vs := []) (z := (0 : Int32)) (cells' := 2) (slots' := 4) djdk_42_149_9 (tw15 hw) (hSA hw) (by decide) ⟨by decide, by decide⟩ (by decide) (by decide) (by decide) (by decide) rfl rfl rfl (by decide) (by decide)
  clear W
  have z1 : h0.size ≤ h1.size := E1.1
  have sf2 := (SF1 xa E_xa.lt (hsf _ (List.mem_of_getElem? (i := 0) rfl)))
  replace W1 := W1.getf (pc' := 14) djdk_42_149_11 (tw21 hw) Via.refl F1 rfl
  have f3 := (F_xa_value.ext E1)
  have e4 := (E_xa.ext E1)
  obtain ⟨h5, W5, w5, SF5⟩ := W1.putf (pc' := 17) (ty := (.array .byte)) djdk_42_149_14 (tw21 hw) Via.refl f3 e4 (Or.inr ⟨(tw17 hw), rfl, hnm⟩) (tw3 hw) (by decide) rfl rfl sf2 (Or.inl (List.mem_of_getElem? (i := 0) rfl)) rfl
  clear W1
  have z5 : h1.size ≤ h5.size := Nat.le_of_eq w5.size.symm
  have f5 := f3.same w5
  replace W5 := W5.aloadN (pc' := 18) djdk_42_149_17 rfl rfl rfl
  replace W5 := W5.ldcA (pc' := 20) djdk_42_149_18 (tw15 hw) t1 rfl
  have f6 := (C1.other w5 (Or.inl (Ne.symm (ne1 _ sf2).1)))
  replace W5 := W5.getf (pc' := 23) djdk_42_149_20 (tw22 hw) Via.refl f6 rfl
  have f7 := ((F_xa_coder.ext E1).other w5 (Or.inr (slot_ne (C := "java/lang/String") (Or.inr (tw18 hw)) (Or.inr (tw17 hw)) (by decide) (t := .byte) (t' := (.array .byte)) (by decide) (by decide))))
  have e8 := (e4.wr w5)
  have sf9 := (SF5 xa sf2)
  obtain ⟨h10, W10, w10, SF10⟩ := W5.putf (pc' := 26) (ty := .byte) djdk_42_149_23 (tw22 hw) Via.refl f7 e8 (Or.inr ⟨(tw18 hw), rfl, hnm⟩) (tw3 hw) (by decide) rfl rfl sf9 (Or.inl (List.mem_of_getElem? (i := 0) rfl)) rfl
  clear W5
  have z10 : h5.size ≤ h10.size := Nat.le_of_eq w10.size.symm
  have f10 := f7.same w10
  have e11 := (e8.wr w10)
  have f12 := (f5.other w10 (Or.inr (slot_ne (C := "java/lang/String") (Or.inr (tw17 hw)) (Or.inr (tw18 hw)) (by decide) (t := (.array .byte)) (t' := .byte) (by decide) (by decide))))
  have v13 := ((B1.other w5 (Ne.symm (ne1 _ sf2).2)).other w10 (Ne.symm (ne1 _ sf2).2))
  exact W10.vret djdk_42_149_26 rfl (by decide) (by decide) (fun V' cv => ⟨b1, k1, rfl, e11, f10, f12, v13⟩)
theorem ef_new1_0 (m : MethodId) (xa : Addr) (ca : Addr) (kc : ClassId) : entryFrame m #[(.ref xa), (.ref ca)] 2 = mkF m 0 #[.val (.ref xa), .val (.ref ca)] [] := by first | (simp [entryFrame, mkF, argsToLocals, Value.category]; done) | rfl
set_option maxRecDepth 65536 in
set_option maxHeartbeats 40000000 in
theorem new1_0 (l : Launch) (Z : State) (a0 : Array Value) (n0 : Nat) (hw : ∀ d ∈ tables_1, d.before a0 Z = true) (hEL : EW Z a0 consts_1) (G1 : Int32) (O1 : Sta Z Z.heap "java/lang/String" "COMPACT_STRINGS" "Z" (.int G1)) (P1 : ¬ (G1 = (0 : Int32))) (O_as : Sta Z Z.heap "java/lang/StringUTF16" "$assertionsDisabled" "Z" (.int (1 : Int32))) (O_hi : Sta Z Z.heap "java/lang/StringUTF16" "HI_BYTE_SHIFT" "I" (.int (0 : Int32))) (O_lo : Sta Z Z.heap "java/lang/StringUTF16" "LO_BYTE_SHIFT" "I" (.int (8 : Int32))) (ro : Addr) (O_ro : Sta Z Z.heap "com/example/rolebind/rolebind/Decision$Reason" "ROLE" "Lcom/example/rolebind/rolebind/Decision$Reason;" (.ref ro)) (xa : Addr) (ca : Addr) (kc : ClassId) (h0 : Heap) (hO : Old Z n0 h0) (E_xa : Exa Z h0 xa "java/lang/String") (F_xa_value : Fld Z h0 xa "java/lang/String" "value" "[B" .null) (F_xa_coder : Fld Z h0 xa "java/lang/String" "coder" "B" (.int (0 : Int32))) (V_ca : Arv Z h0 ca kc .char (0 : Int32) [] (.int (0 : Int32))) (g_xa : n0 ≤ xa) :
    Con l Z consts_1 n0 (⟨"java/lang/String", "<init>", "([C)V"⟩ : MethodName) jdk_42_method_3_code 2 none ({ frames := 2, cells := 2, slots := 4, locals := 29 } : Room) #[(.ref xa), (.ref ca)] h0 [xa] (fun v h V' => ∃ (t : Addr) (kt : ClassId), v = none ∧ Exa Z h xa "java/lang/String" ∧ Fld Z h xa "java/lang/String" "coder" "B" (.int (0 : Int32)) ∧ Fld Z h xa "java/lang/String" "value" "[B" (.ref t) ∧ Arv Z h t kt .byte (0 : Int32) [] (.int (0 : Int32))) [] := by
  refine Con.of (a0 := a0) pf1 (fun m => ef_new1_0 m xa ca kc) (allS g_xa all0) hO hEL ?_
  intro p e s m below meth c S0 hnm hsf W
  replace W := W.aloadN (pc' := 1) djdk_42_3_0 rfl rfl rfl
  replace W := W.aloadN (pc' := 2) djdk_42_3_1 rfl rfl rfl
  replace W := W.iconst (pc' := 3) (v := (0 : Int32)) djdk_42_3_2 rfl rfl
  replace W := W.aloadN (pc' := 4) djdk_42_3_3 rfl rfl rfl
  replace W := W.alen (pc' := 5) djdk_42_3_4 V_ca rfl
  replace W := W.aconstNull (pc' := 6) djdk_42_3_5 rfl
  obtain ⟨V1, h1, r1, W1, K1, hQ1, SF1⟩ := W.callI (pc' := 9) (argsL := [(.ref ca), (.int (0 : Int32)), (.int (0 : Int32)), .null]) (rest := []) (Wd := 0) (cells' := 2) (slots' := 4) (a := xa) (y := (⟨"java/lang/String", "<init>", "([CIILjava/lang/Void;)V"⟩ : MethodName)) djdk_42_3_6 (new4_0 l Z a0 n0 hw hEL G1 O1 P1 O_as O_hi O_lo ro O_ro xa ca kc h0 W.old E_xa F_xa_value F_xa_coder V_ca g_xa) rfl (tw8 hw) (tw9 hw) (tw4 hw) (tw11 hw) (by decide) (lenOf pd0 rfl) rfl rfl (by decide) (by decide) rfl (sfS (hsf _ (List.mem_of_getElem? (i := 0) rfl)) sf0) (allS (Or.inl (List.mem_of_getElem? (i := 0) rfl)) all0) rfl rfl rfl (by decide) (by decide)
  clear W
  obtain ⟨t1, kt1, rfl, q1_1, q1_2, q1_3, q1_4⟩ := hQ1
  have z1 : h0.size ≤ h1.size := K1.1
  replace W1 := W1.cast (st' := []) rfl
  exact W1.vret djdk_42_3_9 rfl (by decide) (by decide) (fun V' cv => ⟨t1, kt1, rfl, q1_1, q1_2, q1_3, q1_4⟩)
theorem ef_cmp5_1 (m : MethodId) (ca : Addr) (kc : ClassId) (ba : Addr) (kb : ClassId) (c0 : Int32) : entryFrame m #[(.ref ca), (.int (0 : Int32)), (.ref ba), (.int (0 : Int32)), (.int (1 : Int32))] 7 = mkF m 0 #[.val (.ref ca), .val (.int (0 : Int32)), .val (.ref ba), .val (.int (0 : Int32)), .val (.int (1 : Int32)), .unset, .unset] [] := by first | (simp [entryFrame, mkF, argsToLocals, Value.category]; done) | rfl
set_option maxRecDepth 65536 in
set_option maxHeartbeats 40000000 in
theorem cmp5_1 (l : Launch) (Z : State) (a0 : Array Value) (n0 : Nat) (hw : ∀ d ∈ tables_1, d.before a0 Z = true) (hEL : EW Z a0 consts_1) (G1 : Int32) (O1 : Sta Z Z.heap "java/lang/String" "COMPACT_STRINGS" "Z" (.int G1)) (P1 : ¬ (G1 = (0 : Int32))) (O_as : Sta Z Z.heap "java/lang/StringUTF16" "$assertionsDisabled" "Z" (.int (1 : Int32))) (O_hi : Sta Z Z.heap "java/lang/StringUTF16" "HI_BYTE_SHIFT" "I" (.int (0 : Int32))) (O_lo : Sta Z Z.heap "java/lang/StringUTF16" "LO_BYTE_SHIFT" "I" (.int (8 : Int32))) (ro : Addr) (O_ro : Sta Z Z.heap "com/example/rolebind/rolebind/Decision$Reason" "ROLE" "Lcom/example/rolebind/rolebind/Decision$Reason;" (.ref ro)) (ca : Addr) (kc : ClassId) (ba : Addr) (kb : ClassId) (c0 : Int32) (h0 : Heap) (hO : Old Z n0 h0) (V_ca : Arv Z h0 ca kc .char (1 : Int32) [(.int c0)] (.int (0 : Int32))) (V_ba : Arv Z h0 ba kb .byte (1 : Int32) [(.int (0 : Int32))] (.int (0 : Int32))) (N_ca_ba : ca ≠ ba) (hp_c0 : ¬ c0 < 0 ∧ ¬ (255 : Int32) < c0) (g_ba : n0 ≤ ba) :
    Con l Z consts_1 n0 (⟨"java/lang/StringUTF16", "compress", "([CI[BII)I"⟩ : MethodName) jdk_52_method_21_code 7 (some .int) ({ frames := 0, cells := 0, slots := 0, locals := 0 } : Room) #[(.ref ca), (.int (0 : Int32)), (.ref ba), (.int (0 : Int32)), (.int (1 : Int32))] h0 [ba] (fun v h V' => v = some (.int (1 : Int32)) ∧ Arv Z h ba kb .byte (1 : Int32) [(.int (c0.toInt8.toInt32))] (.int (0 : Int32))) [] := by
  refine Con.of (a0 := a0) pf2 (fun m => ef_cmp5_1 m ca kc ba kb c0) (allS g_ba all0) hO hEL ?_
  intro p e s m below meth c S0 hnm hsf W
  replace W := W.iconst (pc' := 1) (v := (0 : Int32)) djdk_52_21_0 rfl rfl
  replace W := W.istore (pc' := 3) (L' := #[.val (.ref ca), .val (.int (0 : Int32)), .val (.ref ba), .val (.int (0 : Int32)), .val (.int (1 : Int32)), .val (.int (0 : Int32)), .unset]) djdk_52_21_1 rfl rfl
  replace W := W.iload (pc' := 5) djdk_52_21_3 rfl rfl
  replace W := W.iload (pc' := 7) djdk_52_21_5 rfl rfl
  replace W := W.icmpF (pc' := 10) djdk_52_21_7 (tlt (by decide : (0 : Int32) < (1 : Int32))).2.1 rfl
  replace W := W.aloadN (pc' := 11) djdk_52_21_10 rfl rfl rfl
  replace W := W.iloadN (pc' := 12) djdk_52_21_11 rfl rfl
  replace W := W.caload (pc' := 13) (w := (.int c0)) djdk_52_21_12 V_ca ⟨by decide, by decide⟩ rfl rfl
  replace W := W.istore (pc' := 15) (L' := #[.val (.ref ca), .val (.int (0 : Int32)), .val (.ref ba), .val (.int (0 : Int32)), .val (.int (1 : Int32)), .val (.int (0 : Int32)), .val (.int c0)]) djdk_52_21_13 rfl rfl
  replace W := W.iload (pc' := 17) djdk_52_21_15 rfl rfl
  replace W := W.sipush (pc' := 20) (v := (255 : Int32)) djdk_52_21_17 rfl rfl
  replace W := W.icmpT (pc' := 26) djdk_52_21_20 (flt hp_c0.2).2.2.2 (by decide) (by decide)
  replace W := W.aloadN (pc' := 27) djdk_52_21_26 rfl rfl rfl
  replace W := W.iloadN (pc' := 28) djdk_52_21_27 rfl rfl
  replace W := W.iload (pc' := 30) djdk_52_21_28 rfl rfl
  replace W := W.i2b (pc' := 31) (v := (c0.toInt8.toInt32)) djdk_52_21_30 rfl rfl
  obtain ⟨h1, W1, w1, A1, SF1⟩ := W.bastore (pc' := 32) (i := 0) (x' := (c0.toInt8.toInt32)) djdk_52_21_31 V_ba ⟨by decide, by decide⟩ rfl (by show 0 < 1; decide) (own_narb _) (hsf _ (List.mem_of_getElem? (i := 0) rfl)) (Or.inl (List.mem_of_getElem? (i := 0) rfl)) rfl
  clear W
  have z1 : h0.size ≤ h1.size := Nat.le_of_eq w1.size.symm
  have v1 : Arv Z h1 ba kb .byte (1 : Int32) [(.int (c0.toInt8.toInt32))] (.int (0 : Int32)) := A1
  replace W1 := W1.iinc (pc' := 35) (v := (1 : Int32)) (L' := #[.val (.ref ca), .val (.int (1 : Int32)), .val (.ref ba), .val (.int (0 : Int32)), .val (.int (1 : Int32)), .val (.int (0 : Int32)), .val (.int c0)]) djdk_52_21_32 rfl (by decide) rfl rfl
  replace W1 := W1.iinc (pc' := 38) (v := (1 : Int32)) (L' := #[.val (.ref ca), .val (.int (1 : Int32)), .val (.ref ba), .val (.int (1 : Int32)), .val (.int (1 : Int32)), .val (.int (0 : Int32)), .val (.int c0)]) djdk_52_21_35 rfl (by decide) rfl rfl
  replace W1 := W1.iinc (pc' := 41) (v := (1 : Int32)) (L' := #[.val (.ref ca), .val (.int (1 : Int32)), .val (.ref ba), .val (.int (1 : Int32)), .val (.int (1 : Int32)), .val (.int (1 : Int32)), .val (.int c0)]) djdk_52_21_38 rfl (by decide) rfl rfl
  replace W1 := W1.goto (pc' := 3) djdk_52_21_41 (by decide) (by decide)
  replace W1 := W1.iload (pc' := 5) djdk_52_21_3 rfl rfl
  replace W1 := W1.iload (pc' := 7) djdk_52_21_5 rfl rfl
  replace W1 := W1.icmpT (pc' := 44) djdk_52_21_7 (flt (by decide : ¬ ((1 : Int32) < (1 : Int32)))).2.1 (by decide) (by decide)
  replace W1 := W1.iload (pc' := 46) djdk_52_21_44 rfl rfl
  exact W1.iret (t := .int) djdk_52_21_46 rfl (by simp) rfl (by decide) (by decide) (fun V' cv => ⟨rfl, v1⟩)
theorem ef_cmp3_1 (m : MethodId) (ca : Addr) (kc : ClassId) (c0 : Int32) : entryFrame m #[(.ref ca), (.int (0 : Int32)), (.int (1 : Int32))] 6 = mkF m 0 #[.val (.ref ca), .val (.int (0 : Int32)), .val (.int (1 : Int32)), .unset, .unset, .unset] [] := by first | (simp [entryFrame, mkF, argsToLocals, Value.category]; done) | rfl
set_option maxRecDepth 65536 in
set_option maxHeartbeats 40000000 in
theorem cmp3_1 (l : Launch) (Z : State) (a0 : Array Value) (n0 : Nat) (hw : ∀ d ∈ tables_1, d.before a0 Z = true) (hEL : EW Z a0 consts_1) (G1 : Int32) (O1 : Sta Z Z.heap "java/lang/String" "COMPACT_STRINGS" "Z" (.int G1)) (P1 : ¬ (G1 = (0 : Int32))) (O_as : Sta Z Z.heap "java/lang/StringUTF16" "$assertionsDisabled" "Z" (.int (1 : Int32))) (O_hi : Sta Z Z.heap "java/lang/StringUTF16" "HI_BYTE_SHIFT" "I" (.int (0 : Int32))) (O_lo : Sta Z Z.heap "java/lang/StringUTF16" "LO_BYTE_SHIFT" "I" (.int (8 : Int32))) (ro : Addr) (O_ro : Sta Z Z.heap "com/example/rolebind/rolebind/Decision$Reason" "ROLE" "Lcom/example/rolebind/rolebind/Decision$Reason;" (.ref ro)) (ca : Addr) (kc : ClassId) (c0 : Int32) (h0 : Heap) (hO : Old Z n0 h0) (V_ca : Arv Z h0 ca kc .char (1 : Int32) [(.int c0)] (.int (0 : Int32))) (hp_c0 : ¬ c0 < 0 ∧ ¬ (255 : Int32) < c0) :
    Con l Z consts_1 n0 (⟨"java/lang/StringUTF16", "compress", "([CII)[B"⟩ : MethodName) jdk_52_method_16_code 6 (some (.array .byte)) ({ frames := 1, cells := 1, slots := 1, locals := 18 } : Room) #[(.ref ca), (.int (0 : Int32)), (.int (1 : Int32))] h0 [] (fun v h V' => ∃ (t : Addr) (kt : ClassId), v = some (.ref t) ∧ Arv Z h t kt .byte (1 : Int32) [(.int (c0.toInt8.toInt32))] (.int (0 : Int32)) ∧ h0.size ≤ t) [] := by
  refine Con.of (a0 := a0) pf3 (fun m => ef_cmp3_1 m ca kc c0) all0 hO hEL ?_
  intro p e s m below meth c S0 hnm hsf W
  replace W := W.iloadN (pc' := 1) djdk_52_16_0 rfl rfl
  obtain ⟨h1, a1, W1, E1, g1, ⟨k1, A1⟩, sf1, SF1⟩ := W.newarr (pc' := 3) (cap := 1) (cells' := 1) (slots' := 1) djdk_52_16_1 (tw16 hw) (by decide) (by decide) (by decide) rfl rfl rfl (by decide) (by decide)
  clear W
  rw [← g1] at A1
  have z1 : h0.size ≤ h1.size := E1.1
  have v1 : Arv Z h1 a1 k1 .byte (1 : Int32) [(.int (0 : Int32))] (.int (0 : Int32)) := A1.pad (pad_rep [] (.int (0 : Int32)) 1)
  replace W1 := W1.astoreN (pc' := 4) (L' := #[.val (.ref ca), .val (.int (0 : Int32)), .val (.int (1 : Int32)), .val (.ref a1), .unset, .unset]) djdk_52_16_3 rfl rfl rfl
  replace W1 := W1.aloadN (pc' := 5) djdk_52_16_4 rfl rfl rfl
  replace W1 := W1.iloadN (pc' := 6) djdk_52_16_5 rfl rfl
  replace W1 := W1.aloadN (pc' := 7) djdk_52_16_6 rfl rfl rfl
  replace W1 := W1.iconst (pc' := 8) (v := (0 : Int32)) djdk_52_16_7 rfl rfl
  replace W1 := W1.iloadN (pc' := 9) djdk_52_16_8 rfl rfl
  have v2 := (V_ca.ext E1)
  obtain ⟨V3, h3, r3, W3, K3, hQ3, SF3⟩ := W1.callS (pc' := 12) (argsL := [(.ref ca), (.int (0 : Int32)), (.ref a1), (.int (0 : Int32)), (.int (1 : Int32))]) (rest := []) (Wd := 0) (cells' := 1) (slots' := 1) (y := (⟨"java/lang/StringUTF16", "compress", "([CI[BII)I"⟩ : MethodName)) djdk_52_16_9 (cmp5_1 l Z a0 n0 hw hEL G1 O1 P1 O_as O_hi O_lo ro O_ro ca kc a1 k1 c0 h1 W1.old v2 v1 (Nat.ne_of_lt (Nat.lt_of_lt_of_le V_ca.lt (Nat.le_of_eq g1.symm))) hp_c0 (Nat.le_trans W1.1.2.2.2.2.2.2.2.1 (Nat.le_of_eq g1.symm))) (tw90 hw) (tw91 hw) (tw88 hw) (tw92 hw) (by decide) (lenOf pd1 rfl) rfl rfl (by decide) (by decide) rfl (sfS sf1 sf0) (allS (Or.inr (Nat.le_of_eq g1.symm)) all0) rfl rfl rfl (by decide) (by decide)
  clear W1
  obtain ⟨rfl, q3_1⟩ := hQ3
  have z3 : h1.size ≤ h3.size := K3.1
  replace W3 := W3.cast (st' := [(.int (1 : Int32))]) rfl
  replace W3 := W3.istore (pc' := 14) (L' := #[.val (.ref ca), .val (.int (0 : Int32)), .val (.int (1 : Int32)), .val (.ref a1), .val (.int (1 : Int32)), .unset]) djdk_52_16_12 rfl rfl
  replace W3 := W3.iload (pc' := 16) djdk_52_16_14 rfl rfl
  replace W3 := W3.iloadN (pc' := 17) djdk_52_16_16 rfl rfl
  replace W3 := W3.icmpT (pc' := 57) djdk_52_16_17 (teq (by decide : (1 : Int32) = (1 : Int32))).1 (by decide) (by decide)
  replace W3 := W3.aloadN (pc' := 58) djdk_52_16_57 rfl rfl rfl
  exact W3.aret (t := (.array .byte)) djdk_52_16_58 rfl rfl rfl rfl (by decide) (by decide) (fun V' cv => ⟨a1, k1, rfl, q3_1, (Nat.le_of_eq g1.symm)⟩)
theorem ef_codl_1 (m : MethodId) (ta : Addr) (kt : ClassId) (vt : List Value) : entryFrame m #[(.ref ta), (.int (1 : Int32))] 2 = mkF m 0 #[.val (.ref ta), .val (.int (1 : Int32))] [] := by first | (simp [entryFrame, mkF, argsToLocals, Value.category]; done) | rfl
set_option maxRecDepth 65536 in
set_option maxHeartbeats 40000000 in
theorem codl_1 (l : Launch) (Z : State) (a0 : Array Value) (n0 : Nat) (hw : ∀ d ∈ tables_1, d.before a0 Z = true) (hEL : EW Z a0 consts_1) (G1 : Int32) (O1 : Sta Z Z.heap "java/lang/String" "COMPACT_STRINGS" "Z" (.int G1)) (P1 : ¬ (G1 = (0 : Int32))) (O_as : Sta Z Z.heap "java/lang/StringUTF16" "$assertionsDisabled" "Z" (.int (1 : Int32))) (O_hi : Sta Z Z.heap "java/lang/StringUTF16" "HI_BYTE_SHIFT" "I" (.int (0 : Int32))) (O_lo : Sta Z Z.heap "java/lang/StringUTF16" "LO_BYTE_SHIFT" "I" (.int (8 : Int32))) (ro : Addr) (O_ro : Sta Z Z.heap "com/example/rolebind/rolebind/Decision$Reason" "ROLE" "Lcom/example/rolebind/rolebind/Decision$Reason;" (.ref ro)) (ta : Addr) (kt : ClassId) (vt : List Value) (h0 : Heap) (hO : Old Z n0 h0) (V_ta : Arv Z h0 ta kt .byte (1 : Int32) vt (.int (0 : Int32))) :
    Con l Z consts_1 n0 (⟨"java/lang/StringUTF16", "coderFromArrayLen", "([BI)B"⟩ : MethodName) jdk_52_method_15_code 2 (some .byte) ({ frames := 0, cells := 0, slots := 0, locals := 0 } : Room) #[(.ref ta), (.int (1 : Int32))] h0 [] (fun v h V' => v = some (.int (0 : Int32)) ∧ h0 = h) [] := by
  refine Con.of (a0 := a0) pf4 (fun m => ef_codl_1 m ta kt vt) all0 hO hEL ?_
  intro p e s m below meth c S0 hnm hsf W
  replace W := W.iloadN (pc' := 1) djdk_52_15_0 rfl rfl
  replace W := W.aloadN (pc' := 2) djdk_52_15_1 rfl rfl rfl
  replace W := W.alen (pc' := 3) djdk_52_15_2 V_ta rfl
  replace W := W.isub (pc' := 4) (v := (0 : Int32)) djdk_52_15_3 (by decide) rfl
  replace W := W.bipush (pc' := 6) (v := (31 : Int32)) djdk_52_15_4 rfl rfl
  replace W := W.iushr (pc' := 7) (v := (0 : Int32)) djdk_52_15_6 (by decide) rfl
  replace W := W.i2b (pc' := 8) (v := (0 : Int32)) djdk_52_15_7 (by decide) rfl
  exact W.iret (t := .byte) djdk_52_15_8 rfl (by simp) (by decide) (by decide) (by decide) (fun V' cv => ⟨rfl, rfl⟩)
theorem ef_new4_1 (m : MethodId) (xa : Addr) (ca : Addr) (kc : ClassId) (c0 : Int32) : entryFrame m #[(.ref xa), (.ref ca), (.int (0 : Int32)), (.int (1 : Int32)), .null] 6 = mkF m 0 #[.val (.ref xa), .val (.ref ca), .val (.int (0 : Int32)), .val (.int (1 : Int32)), .val .null, .unset] [] := by first | (simp [entryFrame, mkF, argsToLocals, Value.category]; done) | rfl
set_option maxRecDepth 65536 in
set_option maxHeartbeats 40000000 in
theorem new4_1 (l : Launch) (Z : State) (a0 : Array Value) (n0 : Nat) (hw : ∀ d ∈ tables_1, d.before a0 Z = true) (hEL : EW Z a0 consts_1) (G1 : Int32) (O1 : Sta Z Z.heap "java/lang/String" "COMPACT_STRINGS" "Z" (.int G1)) (P1 : ¬ (G1 = (0 : Int32))) (O_as : Sta Z Z.heap "java/lang/StringUTF16" "$assertionsDisabled" "Z" (.int (1 : Int32))) (O_hi : Sta Z Z.heap "java/lang/StringUTF16" "HI_BYTE_SHIFT" "I" (.int (0 : Int32))) (O_lo : Sta Z Z.heap "java/lang/StringUTF16" "LO_BYTE_SHIFT" "I" (.int (8 : Int32))) (ro : Addr) (O_ro : Sta Z Z.heap "com/example/rolebind/rolebind/Decision$Reason" "ROLE" "Lcom/example/rolebind/rolebind/Decision$Reason;" (.ref ro)) (xa : Addr) (ca : Addr) (kc : ClassId) (c0 : Int32) (h0 : Heap) (hO : Old Z n0 h0) (E_xa : Exa Z h0 xa "java/lang/String") (F_xa_value : Fld Z h0 xa "java/lang/String" "value" "[B" .null) (F_xa_coder : Fld Z h0 xa "java/lang/String" "coder" "B" (.int (0 : Int32))) (V_ca : Arv Z h0 ca kc .char (1 : Int32) [(.int c0)] (.int (0 : Int32))) (hp_c0 : ¬ c0 < 0 ∧ ¬ (255 : Int32) < c0) (g_xa : n0 ≤ xa) :
    Con l Z consts_1 n0 (⟨"java/lang/String", "<init>", "([CIILjava/lang/Void;)V"⟩ : MethodName) jdk_42_method_149_code 6 none ({ frames := 2, cells := 1, slots := 1, locals := 35 } : Room) #[(.ref xa), (.ref ca), (.int (0 : Int32)), (.int (1 : Int32)), .null] h0 [xa] (fun v h V' => ∃ (t : Addr) (kt : ClassId), v = none ∧ Exa Z h xa "java/lang/String" ∧ Fld Z h xa "java/lang/String" "coder" "B" (.int (0 : Int32)) ∧ Fld Z h xa "java/lang/String" "value" "[B" (.ref t) ∧ Arv Z h t kt .byte (1 : Int32) [(.int (c0.toInt8.toInt32))] (.int (0 : Int32))) [] := by
  refine Con.of (a0 := a0) pf0 (fun m => ef_new4_1 m xa ca kc c0) (allS g_xa all0) hO hEL ?_
  intro p e s m below meth c S0 hnm hsf W
  replace W := W.aloadN (pc' := 1) djdk_42_149_0 rfl rfl rfl
  replace W := W.initO (pc' := 4) (Wd := 0) djdk_42_149_1 (tw12 hw) (tw13 hw) (tw14 hw) rfl rfl (by decide) (by decide) rfl
  replace W := W.iloadN (pc' := 5) djdk_42_149_4 rfl rfl
  replace W := W.ifT (pc' := 27) djdk_42_149_5 (feq (by decide : ¬ ((1 : Int32) = (0 : Int32)))).2 (by decide) (by decide)
  replace W := W.gets (pc' := 30) djdk_42_149_27 (tw85 hw) O1 rfl
  replace W := W.ifF (pc' := 33) djdk_42_149_30 (feq P1).1 rfl
  replace W := W.aloadN (pc' := 34) djdk_42_149_33 rfl rfl rfl
  replace W := W.iloadN (pc' := 35) djdk_42_149_34 rfl rfl
  replace W := W.iloadN (pc' := 36) djdk_42_149_35 rfl rfl
  obtain ⟨V1, h1, r1, W1, K1, hQ1, SF1⟩ := W.callS (pc' := 39) (argsL := [(.ref ca), (.int (0 : Int32)), (.int (1 : Int32))]) (rest := []) (Wd := 0) (cells' := 1) (slots' := 1) (y := (⟨"java/lang/StringUTF16", "compress", "([CII)[B"⟩ : MethodName)) djdk_42_149_36 (cmp3_1 l Z a0 n0 hw hEL G1 O1 P1 O_as O_hi O_lo ro O_ro ca kc c0 h0 W.old V_ca hp_c0) (tw86 hw) (tw87 hw) (tw88 hw) (tw89 hw) (by decide) (lenOf pd2 rfl) rfl rfl (by decide) (by decide) rfl sf0 all0 rfl rfl rfl (by decide) (by decide)
  clear W
  obtain ⟨t1, kt1, rfl, q1_1, q1_2⟩ := hQ1
  have z1 : h0.size ≤ h1.size := K1.1
  replace W1 := W1.cast (st' := [(.ref t1)]) rfl
  replace W1 := W1.astore (pc' := 41) (L' := #[.val (.ref xa), .val (.ref ca), .val (.int (0 : Int32)), .val (.int (1 : Int32)), .val .null, .val (.ref t1)]) djdk_42_149_39 rfl rfl rfl
  replace W1 := W1.aloadN (pc' := 42) djdk_42_149_41 rfl rfl rfl
  replace W1 := W1.aload (pc' := 44) djdk_42_149_42 rfl rfl rfl
  replace W1 := W1.iloadN (pc' := 45) djdk_42_149_44 rfl rfl
  obtain ⟨V2, h2, r2, W2, K2, hQ2, SF2⟩ := W1.callS (pc' := 48) (argsL := [(.ref t1), (.int (1 : Int32))]) (rest := [(.ref xa)]) (Wd := 1) (cells' := 1) (slots' := 1) (y := (⟨"java/lang/StringUTF16", "coderFromArrayLen", "([BI)B"⟩ : MethodName)) djdk_42_149_45 (codl_1 l Z a0 n0 hw hEL G1 O1 P1 O_as O_hi O_lo ro O_ro t1 kt1 ([(.int (c0.toInt8.toInt32))]) h1 W1.old q1_1) (tw93 hw) (tw94 hw) (tw88 hw) (tw95 hw) (by decide) (lenOf pd3 rfl) rfl rfl (by decide) (by decide) rfl sf0 all0 rfl rfl rfl (by decide) (by decide)
  clear W1
  obtain ⟨rfl, hs2⟩ := hQ2
  subst hs2
  have sf3 := (SF1 xa E_xa.lt (hsf _ (List.mem_of_getElem? (i := 0) rfl)))
  have sf4 := SF2 xa (Nat.lt_of_lt_of_le E_xa.lt z1) sf3
  replace W2 := W2.cast (st' := [(.int (0 : Int32)), (.ref xa)]) rfl
  have f5 := (F_xa_coder.keep K1 nin0)
  have e6 := (E_xa.keep K1)
  obtain ⟨h7, W7, w7, SF7⟩ := W2.putf (pc' := 51) (ty := .byte) djdk_42_149_48 (tw22 hw) Via.refl f5 e6 (Or.inr ⟨(tw18 hw), rfl, hnm⟩) (tw3 hw) (by decide) rfl rfl sf4 (Or.inl (List.mem_of_getElem? (i := 0) rfl)) rfl
  clear W2
  have z7 : h1.size ≤ h7.size := Nat.le_of_eq w7.size.symm
  have f7 := f5.same w7
  replace W7 := W7.aloadN (pc' := 52) djdk_42_149_51 rfl rfl rfl
  replace W7 := W7.aload (pc' := 54) djdk_42_149_52 rfl rfl rfl
  have f8 := ((F_xa_value.keep K1 nin0).other w7 (Or.inr (slot_ne (C := "java/lang/String") (Or.inr (tw17 hw)) (Or.inr (tw18 hw)) (by decide) (t := (.array .byte)) (t' := .byte) (by decide) (by decide))))
  have e9 := (e6.wr w7)
  have sf10 := (SF7 xa sf4)
  obtain ⟨h11, W11, w11, SF11⟩ := W7.putf (pc' := 57) (ty := (.array .byte)) djdk_42_149_54 (tw21 hw) Via.refl f8 e9 (Or.inr ⟨(tw17 hw), rfl, hnm⟩) (tw3 hw) (by decide) rfl rfl sf10 (Or.inl (List.mem_of_getElem? (i := 0) rfl)) rfl
  clear W7
  have z11 : h7.size ≤ h11.size := Nat.le_of_eq w11.size.symm
  have f11 := f8.same w11
  have e12 := (e9.wr w11)
  have f13 := (f7.other w11 (Or.inr (slot_ne (C := "java/lang/String") (Or.inr (tw18 hw)) (Or.inr (tw17 hw)) (by decide) (t := .byte) (t' := (.array .byte)) (by decide) (by decide))))
  have v14 := ((q1_1.other w7 (Nat.ne_of_gt (Nat.lt_of_lt_of_le E_xa.lt q1_2))).other w11 (Nat.ne_of_gt (Nat.lt_of_lt_of_le E_xa.lt q1_2)))
  exact W11.vret djdk_42_149_57 rfl (by decide) (by decide) (fun V' cv => ⟨t1, kt1, rfl, e12, f13, f11, v14⟩)
theorem ef_new1_1 (m : MethodId) (xa : Addr) (ca : Addr) (kc : ClassId) (c0 : Int32) : entryFrame m #[(.ref xa), (.ref ca)] 2 = mkF m 0 #[.val (.ref xa), .val (.ref ca)] [] := by first | (simp [entryFrame, mkF, argsToLocals, Value.category]; done) | rfl
set_option maxRecDepth 65536 in
set_option maxHeartbeats 40000000 in
theorem new1_1 (l : Launch) (Z : State) (a0 : Array Value) (n0 : Nat) (hw : ∀ d ∈ tables_1, d.before a0 Z = true) (hEL : EW Z a0 consts_1) (G1 : Int32) (O1 : Sta Z Z.heap "java/lang/String" "COMPACT_STRINGS" "Z" (.int G1)) (P1 : ¬ (G1 = (0 : Int32))) (O_as : Sta Z Z.heap "java/lang/StringUTF16" "$assertionsDisabled" "Z" (.int (1 : Int32))) (O_hi : Sta Z Z.heap "java/lang/StringUTF16" "HI_BYTE_SHIFT" "I" (.int (0 : Int32))) (O_lo : Sta Z Z.heap "java/lang/StringUTF16" "LO_BYTE_SHIFT" "I" (.int (8 : Int32))) (ro : Addr) (O_ro : Sta Z Z.heap "com/example/rolebind/rolebind/Decision$Reason" "ROLE" "Lcom/example/rolebind/rolebind/Decision$Reason;" (.ref ro)) (xa : Addr) (ca : Addr) (kc : ClassId) (c0 : Int32) (h0 : Heap) (hO : Old Z n0 h0) (E_xa : Exa Z h0 xa "java/lang/String") (F_xa_value : Fld Z h0 xa "java/lang/String" "value" "[B" .null) (F_xa_coder : Fld Z h0 xa "java/lang/String" "coder" "B" (.int (0 : Int32))) (V_ca : Arv Z h0 ca kc .char (1 : Int32) [(.int c0)] (.int (0 : Int32))) (hp_c0 : ¬ c0 < 0 ∧ ¬ (255 : Int32) < c0) (g_xa : n0 ≤ xa) :
    Con l Z consts_1 n0 (⟨"java/lang/String", "<init>", "([C)V"⟩ : MethodName) jdk_42_method_3_code 2 none ({ frames := 3, cells := 1, slots := 1, locals := 52 } : Room) #[(.ref xa), (.ref ca)] h0 [xa] (fun v h V' => ∃ (t : Addr) (kt : ClassId), v = none ∧ Exa Z h xa "java/lang/String" ∧ Fld Z h xa "java/lang/String" "coder" "B" (.int (0 : Int32)) ∧ Fld Z h xa "java/lang/String" "value" "[B" (.ref t) ∧ Arv Z h t kt .byte (1 : Int32) [(.int (c0.toInt8.toInt32))] (.int (0 : Int32))) [] := by
  refine Con.of (a0 := a0) pf1 (fun m => ef_new1_1 m xa ca kc c0) (allS g_xa all0) hO hEL ?_
  intro p e s m below meth c S0 hnm hsf W
  replace W := W.aloadN (pc' := 1) djdk_42_3_0 rfl rfl rfl
  replace W := W.aloadN (pc' := 2) djdk_42_3_1 rfl rfl rfl
  replace W := W.iconst (pc' := 3) (v := (0 : Int32)) djdk_42_3_2 rfl rfl
  replace W := W.aloadN (pc' := 4) djdk_42_3_3 rfl rfl rfl
  replace W := W.alen (pc' := 5) djdk_42_3_4 V_ca rfl
  replace W := W.aconstNull (pc' := 6) djdk_42_3_5 rfl
  obtain ⟨V1, h1, r1, W1, K1, hQ1, SF1⟩ := W.callI (pc' := 9) (argsL := [(.ref ca), (.int (0 : Int32)), (.int (1 : Int32)), .null]) (rest := []) (Wd := 0) (cells' := 1) (slots' := 1) (a := xa) (y := (⟨"java/lang/String", "<init>", "([CIILjava/lang/Void;)V"⟩ : MethodName)) djdk_42_3_6 (new4_1 l Z a0 n0 hw hEL G1 O1 P1 O_as O_hi O_lo ro O_ro xa ca kc c0 h0 W.old E_xa F_xa_value F_xa_coder V_ca hp_c0 g_xa) rfl (tw8 hw) (tw9 hw) (tw4 hw) (tw11 hw) (by decide) (lenOf pd0 rfl) rfl rfl (by decide) (by decide) rfl (sfS (hsf _ (List.mem_of_getElem? (i := 0) rfl)) sf0) (allS (Or.inl (List.mem_of_getElem? (i := 0) rfl)) all0) rfl rfl rfl (by decide) (by decide)
  clear W
  obtain ⟨t1, kt1, rfl, q1_1, q1_2, q1_3, q1_4⟩ := hQ1
  have z1 : h0.size ≤ h1.size := K1.1
  replace W1 := W1.cast (st' := []) rfl
  exact W1.vret djdk_42_3_9 rfl (by decide) (by decide) (fun V' cv => ⟨t1, kt1, rfl, q1_1, q1_2, q1_3, q1_4⟩)
theorem ef_cmp5_2 (m : MethodId) (ca : Addr) (kc : ClassId) (ba : Addr) (kb : ClassId) (c0 : Int32) (c1 : Int32) : entryFrame m #[(.ref ca), (.int (0 : Int32)), (.ref ba), (.int (0 : Int32)), (.int (2 : Int32))] 7 = mkF m 0 #[.val (.ref ca), .val (.int (0 : Int32)), .val (.ref ba), .val (.int (0 : Int32)), .val (.int (2 : Int32)), .unset, .unset] [] := by first | (simp [entryFrame, mkF, argsToLocals, Value.category]; done) | rfl
set_option maxRecDepth 65536 in
set_option maxHeartbeats 40000000 in
theorem cmp5_2 (l : Launch) (Z : State) (a0 : Array Value) (n0 : Nat) (hw : ∀ d ∈ tables_1, d.before a0 Z = true) (hEL : EW Z a0 consts_1) (G1 : Int32) (O1 : Sta Z Z.heap "java/lang/String" "COMPACT_STRINGS" "Z" (.int G1)) (P1 : ¬ (G1 = (0 : Int32))) (O_as : Sta Z Z.heap "java/lang/StringUTF16" "$assertionsDisabled" "Z" (.int (1 : Int32))) (O_hi : Sta Z Z.heap "java/lang/StringUTF16" "HI_BYTE_SHIFT" "I" (.int (0 : Int32))) (O_lo : Sta Z Z.heap "java/lang/StringUTF16" "LO_BYTE_SHIFT" "I" (.int (8 : Int32))) (ro : Addr) (O_ro : Sta Z Z.heap "com/example/rolebind/rolebind/Decision$Reason" "ROLE" "Lcom/example/rolebind/rolebind/Decision$Reason;" (.ref ro)) (ca : Addr) (kc : ClassId) (ba : Addr) (kb : ClassId) (c0 : Int32) (c1 : Int32) (h0 : Heap) (hO : Old Z n0 h0) (V_ca : Arv Z h0 ca kc .char (2 : Int32) [(.int c0), (.int c1)] (.int (0 : Int32))) (V_ba : Arv Z h0 ba kb .byte (2 : Int32) [(.int (0 : Int32)), (.int (0 : Int32))] (.int (0 : Int32))) (N_ca_ba : ca ≠ ba) (hp_c0 : ¬ c0 < 0 ∧ ¬ (255 : Int32) < c0) (hp_c1 : ¬ c1 < 0 ∧ ¬ (255 : Int32) < c1) (g_ba : n0 ≤ ba) :
    Con l Z consts_1 n0 (⟨"java/lang/StringUTF16", "compress", "([CI[BII)I"⟩ : MethodName) jdk_52_method_21_code 7 (some .int) ({ frames := 0, cells := 0, slots := 0, locals := 0 } : Room) #[(.ref ca), (.int (0 : Int32)), (.ref ba), (.int (0 : Int32)), (.int (2 : Int32))] h0 [ba] (fun v h V' => v = some (.int (2 : Int32)) ∧ Arv Z h ba kb .byte (2 : Int32) [(.int (c0.toInt8.toInt32)), (.int (c1.toInt8.toInt32))] (.int (0 : Int32))) [] := by
  refine Con.of (a0 := a0) pf2 (fun m => ef_cmp5_2 m ca kc ba kb c0 c1) (allS g_ba all0) hO hEL ?_
  intro p e s m below meth c S0 hnm hsf W
  replace W := W.iconst (pc' := 1) (v := (0 : Int32)) djdk_52_21_0 rfl rfl
  replace W := W.istore (pc' := 3) (L' := #[.val (.ref ca), .val (.int (0 : Int32)), .val (.ref ba), .val (.int (0 : Int32)), .val (.int (2 : Int32)), .val (.int (0 : Int32)), .unset]) djdk_52_21_1 rfl rfl
  replace W := W.iload (pc' := 5) djdk_52_21_3 rfl rfl
  replace W := W.iload (pc' := 7) djdk_52_21_5 rfl rfl
  replace W := W.icmpF (pc' := 10) djdk_52_21_7 (tlt (by decide : (0 : Int32) < (2 : Int32))).2.1 rfl
  replace W := W.aloadN (pc' := 11) djdk_52_21_10 rfl rfl rfl
  replace W := W.iloadN (pc' := 12) djdk_52_21_11 rfl rfl
  replace W := W.caload (pc' := 13) (w := (.int c0)) djdk_52_21_12 V_ca ⟨by decide, by decide⟩ rfl rfl
  replace W := W.istore (pc' := 15) (L' := #[.val (.ref ca), .val (.int (0 : Int32)), .val (.ref ba), .val (.int (0 : Int32)), .val (.int (2 : Int32)), .val (.int (0 : Int32)), .val (.int c0)]) djdk_52_21_13 rfl rfl
  replace W := W.iload (pc' := 17) djdk_52_21_15 rfl rfl
  replace W := W.sipush (pc' := 20) (v := (255 : Int32)) djdk_52_21_17 rfl rfl
  replace W := W.icmpT (pc' := 26) djdk_52_21_20 (flt hp_c0.2).2.2.2 (by decide) (by decide)
  replace W := W.aloadN (pc' := 27) djdk_52_21_26 rfl rfl rfl
  replace W := W.iloadN (pc' := 28) djdk_52_21_27 rfl rfl
  replace W := W.iload (pc' := 30) djdk_52_21_28 rfl rfl
  replace W := W.i2b (pc' := 31) (v := (c0.toInt8.toInt32)) djdk_52_21_30 rfl rfl
  obtain ⟨h1, W1, w1, A1, SF1⟩ := W.bastore (pc' := 32) (i := 0) (x' := (c0.toInt8.toInt32)) djdk_52_21_31 V_ba ⟨by decide, by decide⟩ rfl (by show 0 < 2; decide) (own_narb _) (hsf _ (List.mem_of_getElem? (i := 0) rfl)) (Or.inl (List.mem_of_getElem? (i := 0) rfl)) rfl
  clear W
  have z1 : h0.size ≤ h1.size := Nat.le_of_eq w1.size.symm
  have v1 : Arv Z h1 ba kb .byte (2 : Int32) [(.int (c0.toInt8.toInt32)), (.int (0 : Int32))] (.int (0 : Int32)) := A1
  replace W1 := W1.iinc (pc' := 35) (v := (1 : Int32)) (L' := #[.val (.ref ca), .val (.int (1 : Int32)), .val (.ref ba), .val (.int (0 : Int32)), .val (.int (2 : Int32)), .val (.int (0 : Int32)), .val (.int c0)]) djdk_52_21_32 rfl (by decide) rfl rfl
  replace W1 := W1.iinc (pc' := 38) (v := (1 : Int32)) (L' := #[.val (.ref ca), .val (.int (1 : Int32)), .val (.ref ba), .val (.int (1 : Int32)), .val (.int (2 : Int32)), .val (.int (0 : Int32)), .val (.int c0)]) djdk_52_21_35 rfl (by decide) rfl rfl
  replace W1 := W1.iinc (pc' := 41) (v := (1 : Int32)) (L' := #[.val (.ref ca), .val (.int (1 : Int32)), .val (.ref ba), .val (.int (1 : Int32)), .val (.int (2 : Int32)), .val (.int (1 : Int32)), .val (.int c0)]) djdk_52_21_38 rfl (by decide) rfl rfl
  replace W1 := W1.goto (pc' := 3) djdk_52_21_41 (by decide) (by decide)
  replace W1 := W1.iload (pc' := 5) djdk_52_21_3 rfl rfl
  replace W1 := W1.iload (pc' := 7) djdk_52_21_5 rfl rfl
  replace W1 := W1.icmpF (pc' := 10) djdk_52_21_7 (tlt (by decide : (1 : Int32) < (2 : Int32))).2.1 rfl
  replace W1 := W1.aloadN (pc' := 11) djdk_52_21_10 rfl rfl rfl
  replace W1 := W1.iloadN (pc' := 12) djdk_52_21_11 rfl rfl
  have v2 := (V_ca.other w1 N_ca_ba)
  replace W1 := W1.caload (pc' := 13) (w := (.int c1)) djdk_52_21_12 v2 ⟨by decide, by decide⟩ rfl rfl
  replace W1 := W1.istore (pc' := 15) (L' := #[.val (.ref ca), .val (.int (1 : Int32)), .val (.ref ba), .val (.int (1 : Int32)), .val (.int (2 : Int32)), .val (.int (1 : Int32)), .val (.int c1)]) djdk_52_21_13 rfl rfl
  replace W1 := W1.iload (pc' := 17) djdk_52_21_15 rfl rfl
  replace W1 := W1.sipush (pc' := 20) (v := (255 : Int32)) djdk_52_21_17 rfl rfl
  replace W1 := W1.icmpT (pc' := 26) djdk_52_21_20 (flt hp_c1.2).2.2.2 (by decide) (by decide)
  replace W1 := W1.aloadN (pc' := 27) djdk_52_21_26 rfl rfl rfl
  replace W1 := W1.iloadN (pc' := 28) djdk_52_21_27 rfl rfl
  replace W1 := W1.iload (pc' := 30) djdk_52_21_28 rfl rfl
  replace W1 := W1.i2b (pc' := 31) (v := (c1.toInt8.toInt32)) djdk_52_21_30 rfl rfl
  have sf3 := (SF1 ba (hsf _ (List.mem_of_getElem? (i := 0) rfl)))
  obtain ⟨h4, W4, w4, A4, SF4⟩ := W1.bastore (pc' := 32) (i := 1) (x' := (c1.toInt8.toInt32)) djdk_52_21_31 v1 ⟨by decide, by decide⟩ rfl (by show 1 < 2; decide) (own_narb _) sf3 (Or.inl (List.mem_of_getElem? (i := 0) rfl)) rfl
  clear W1
  have z4 : h1.size ≤ h4.size := Nat.le_of_eq w4.size.symm
  have v4 : Arv Z h4 ba kb .byte (2 : Int32) [(.int (c0.toInt8.toInt32)), (.int (c1.toInt8.toInt32))] (.int (0 : Int32)) := A4
  replace W4 := W4.iinc (pc' := 35) (v := (2 : Int32)) (L' := #[.val (.ref ca), .val (.int (2 : Int32)), .val (.ref ba), .val (.int (1 : Int32)), .val (.int (2 : Int32)), .val (.int (1 : Int32)), .val (.int c1)]) djdk_52_21_32 rfl (by decide) rfl rfl
  replace W4 := W4.iinc (pc' := 38) (v := (2 : Int32)) (L' := #[.val (.ref ca), .val (.int (2 : Int32)), .val (.ref ba), .val (.int (2 : Int32)), .val (.int (2 : Int32)), .val (.int (1 : Int32)), .val (.int c1)]) djdk_52_21_35 rfl (by decide) rfl rfl
  replace W4 := W4.iinc (pc' := 41) (v := (2 : Int32)) (L' := #[.val (.ref ca), .val (.int (2 : Int32)), .val (.ref ba), .val (.int (2 : Int32)), .val (.int (2 : Int32)), .val (.int (2 : Int32)), .val (.int c1)]) djdk_52_21_38 rfl (by decide) rfl rfl
  replace W4 := W4.goto (pc' := 3) djdk_52_21_41 (by decide) (by decide)
  replace W4 := W4.iload (pc' := 5) djdk_52_21_3 rfl rfl
  replace W4 := W4.iload (pc' := 7) djdk_52_21_5 rfl rfl
  replace W4 := W4.icmpT (pc' := 44) djdk_52_21_7 (flt (by decide : ¬ ((2 : Int32) < (2 : Int32)))).2.1 (by decide) (by decide)
  replace W4 := W4.iload (pc' := 46) djdk_52_21_44 rfl rfl
  exact W4.iret (t := .int) djdk_52_21_46 rfl (by simp) rfl (by decide) (by decide) (fun V' cv => ⟨rfl, v4⟩)
theorem ef_cmp3_2 (m : MethodId) (ca : Addr) (kc : ClassId) (c0 : Int32) (c1 : Int32) : entryFrame m #[(.ref ca), (.int (0 : Int32)), (.int (2 : Int32))] 6 = mkF m 0 #[.val (.ref ca), .val (.int (0 : Int32)), .val (.int (2 : Int32)), .unset, .unset, .unset] [] := by first | (simp [entryFrame, mkF, argsToLocals, Value.category]; done) | rfl
set_option maxRecDepth 65536 in
set_option maxHeartbeats 40000000 in
theorem cmp3_2 (l : Launch) (Z : State) (a0 : Array Value) (n0 : Nat) (hw : ∀ d ∈ tables_1, d.before a0 Z = true) (hEL : EW Z a0 consts_1) (G1 : Int32) (O1 : Sta Z Z.heap "java/lang/String" "COMPACT_STRINGS" "Z" (.int G1)) (P1 : ¬ (G1 = (0 : Int32))) (O_as : Sta Z Z.heap "java/lang/StringUTF16" "$assertionsDisabled" "Z" (.int (1 : Int32))) (O_hi : Sta Z Z.heap "java/lang/StringUTF16" "HI_BYTE_SHIFT" "I" (.int (0 : Int32))) (O_lo : Sta Z Z.heap "java/lang/StringUTF16" "LO_BYTE_SHIFT" "I" (.int (8 : Int32))) (ro : Addr) (O_ro : Sta Z Z.heap "com/example/rolebind/rolebind/Decision$Reason" "ROLE" "Lcom/example/rolebind/rolebind/Decision$Reason;" (.ref ro)) (ca : Addr) (kc : ClassId) (c0 : Int32) (c1 : Int32) (h0 : Heap) (hO : Old Z n0 h0) (V_ca : Arv Z h0 ca kc .char (2 : Int32) [(.int c0), (.int c1)] (.int (0 : Int32))) (hp_c0 : ¬ c0 < 0 ∧ ¬ (255 : Int32) < c0) (hp_c1 : ¬ c1 < 0 ∧ ¬ (255 : Int32) < c1) :
    Con l Z consts_1 n0 (⟨"java/lang/StringUTF16", "compress", "([CII)[B"⟩ : MethodName) jdk_52_method_16_code 6 (some (.array .byte)) ({ frames := 1, cells := 1, slots := 2, locals := 18 } : Room) #[(.ref ca), (.int (0 : Int32)), (.int (2 : Int32))] h0 [] (fun v h V' => ∃ (t : Addr) (kt : ClassId), v = some (.ref t) ∧ Arv Z h t kt .byte (2 : Int32) [(.int (c0.toInt8.toInt32)), (.int (c1.toInt8.toInt32))] (.int (0 : Int32)) ∧ h0.size ≤ t) [] := by
  refine Con.of (a0 := a0) pf3 (fun m => ef_cmp3_2 m ca kc c0 c1) all0 hO hEL ?_
  intro p e s m below meth c S0 hnm hsf W
  replace W := W.iloadN (pc' := 1) djdk_52_16_0 rfl rfl
  obtain ⟨h1, a1, W1, E1, g1, ⟨k1, A1⟩, sf1, SF1⟩ := W.newarr (pc' := 3) (cap := 2) (cells' := 1) (slots' := 2) djdk_52_16_1 (tw16 hw) (by decide) (by decide) (by decide) rfl rfl rfl (by decide) (by decide)
  clear W
  rw [← g1] at A1
  have z1 : h0.size ≤ h1.size := E1.1
  have v1 : Arv Z h1 a1 k1 .byte (2 : Int32) [(.int (0 : Int32)), (.int (0 : Int32))] (.int (0 : Int32)) := A1.pad (pad_rep [] (.int (0 : Int32)) 2)
  replace W1 := W1.astoreN (pc' := 4) (L' := #[.val (.ref ca), .val (.int (0 : Int32)), .val (.int (2 : Int32)), .val (.ref a1), .unset, .unset]) djdk_52_16_3 rfl rfl rfl
  replace W1 := W1.aloadN (pc' := 5) djdk_52_16_4 rfl rfl rfl
  replace W1 := W1.iloadN (pc' := 6) djdk_52_16_5 rfl rfl
  replace W1 := W1.aloadN (pc' := 7) djdk_52_16_6 rfl rfl rfl
  replace W1 := W1.iconst (pc' := 8) (v := (0 : Int32)) djdk_52_16_7 rfl rfl
  replace W1 := W1.iloadN (pc' := 9) djdk_52_16_8 rfl rfl
  have v2 := (V_ca.ext E1)
  obtain ⟨V3, h3, r3, W3, K3, hQ3, SF3⟩ := W1.callS (pc' := 12) (argsL := [(.ref ca), (.int (0 : Int32)), (.ref a1), (.int (0 : Int32)), (.int (2 : Int32))]) (rest := []) (Wd := 0) (cells' := 1) (slots' := 2) (y := (⟨"java/lang/StringUTF16", "compress", "([CI[BII)I"⟩ : MethodName)) djdk_52_16_9 (cmp5_2 l Z a0 n0 hw hEL G1 O1 P1 O_as O_hi O_lo ro O_ro ca kc a1 k1 c0 c1 h1 W1.old v2 v1 (Nat.ne_of_lt (Nat.lt_of_lt_of_le V_ca.lt (Nat.le_of_eq g1.symm))) hp_c0 hp_c1 (Nat.le_trans W1.1.2.2.2.2.2.2.2.1 (Nat.le_of_eq g1.symm))) (tw90 hw) (tw91 hw) (tw88 hw) (tw92 hw) (by decide) (lenOf pd1 rfl) rfl rfl (by decide) (by decide) rfl (sfS sf1 sf0) (allS (Or.inr (Nat.le_of_eq g1.symm)) all0) rfl rfl rfl (by decide) (by decide)
  clear W1
  obtain ⟨rfl, q3_1⟩ := hQ3
  have z3 : h1.size ≤ h3.size := K3.1
  replace W3 := W3.cast (st' := [(.int (2 : Int32))]) rfl
  replace W3 := W3.istore (pc' := 14) (L' := #[.val (.ref ca), .val (.int (0 : Int32)), .val (.int (2 : Int32)), .val (.ref a1), .val (.int (2 : Int32)), .unset]) djdk_52_16_12 rfl rfl
  replace W3 := W3.iload (pc' := 16) djdk_52_16_14 rfl rfl
  replace W3 := W3.iloadN (pc' := 17) djdk_52_16_16 rfl rfl
  replace W3 := W3.icmpT (pc' := 57) djdk_52_16_17 (teq (by decide : (2 : Int32) = (2 : Int32))).1 (by decide) (by decide)
  replace W3 := W3.aloadN (pc' := 58) djdk_52_16_57 rfl rfl rfl
  exact W3.aret (t := (.array .byte)) djdk_52_16_58 rfl rfl rfl rfl (by decide) (by decide) (fun V' cv => ⟨a1, k1, rfl, q3_1, (Nat.le_of_eq g1.symm)⟩)
theorem ef_codl_2 (m : MethodId) (ta : Addr) (kt : ClassId) (vt : List Value) : entryFrame m #[(.ref ta), (.int (2 : Int32))] 2 = mkF m 0 #[.val (.ref ta), .val (.int (2 : Int32))] [] := by first | (simp [entryFrame, mkF, argsToLocals, Value.category]; done) | rfl
set_option maxRecDepth 65536 in
set_option maxHeartbeats 40000000 in
theorem codl_2 (l : Launch) (Z : State) (a0 : Array Value) (n0 : Nat) (hw : ∀ d ∈ tables_1, d.before a0 Z = true) (hEL : EW Z a0 consts_1) (G1 : Int32) (O1 : Sta Z Z.heap "java/lang/String" "COMPACT_STRINGS" "Z" (.int G1)) (P1 : ¬ (G1 = (0 : Int32))) (O_as : Sta Z Z.heap "java/lang/StringUTF16" "$assertionsDisabled" "Z" (.int (1 : Int32))) (O_hi : Sta Z Z.heap "java/lang/StringUTF16" "HI_BYTE_SHIFT" "I" (.int (0 : Int32))) (O_lo : Sta Z Z.heap "java/lang/StringUTF16" "LO_BYTE_SHIFT" "I" (.int (8 : Int32))) (ro : Addr) (O_ro : Sta Z Z.heap "com/example/rolebind/rolebind/Decision$Reason" "ROLE" "Lcom/example/rolebind/rolebind/Decision$Reason;" (.ref ro)) (ta : Addr) (kt : ClassId) (vt : List Value) (h0 : Heap) (hO : Old Z n0 h0) (V_ta : Arv Z h0 ta kt .byte (2 : Int32) vt (.int (0 : Int32))) :
    Con l Z consts_1 n0 (⟨"java/lang/StringUTF16", "coderFromArrayLen", "([BI)B"⟩ : MethodName) jdk_52_method_15_code 2 (some .byte) ({ frames := 0, cells := 0, slots := 0, locals := 0 } : Room) #[(.ref ta), (.int (2 : Int32))] h0 [] (fun v h V' => v = some (.int (0 : Int32)) ∧ h0 = h) [] := by
  refine Con.of (a0 := a0) pf4 (fun m => ef_codl_2 m ta kt vt) all0 hO hEL ?_
  intro p e s m below meth c S0 hnm hsf W
  replace W := W.iloadN (pc' := 1) djdk_52_15_0 rfl rfl
  replace W := W.aloadN (pc' := 2) djdk_52_15_1 rfl rfl rfl
  replace W := W.alen (pc' := 3) djdk_52_15_2 V_ta rfl
  replace W := W.isub (pc' := 4) (v := (0 : Int32)) djdk_52_15_3 (by decide) rfl
  replace W := W.bipush (pc' := 6) (v := (31 : Int32)) djdk_52_15_4 rfl rfl
  replace W := W.iushr (pc' := 7) (v := (0 : Int32)) djdk_52_15_6 (by decide) rfl
  replace W := W.i2b (pc' := 8) (v := (0 : Int32)) djdk_52_15_7 (by decide) rfl
  exact W.iret (t := .byte) djdk_52_15_8 rfl (by simp) (by decide) (by decide) (by decide) (fun V' cv => ⟨rfl, rfl⟩)
theorem ef_new4_2 (m : MethodId) (xa : Addr) (ca : Addr) (kc : ClassId) (c0 : Int32) (c1 : Int32) : entryFrame m #[(.ref xa), (.ref ca), (.int (0 : Int32)), (.int (2 : Int32)), .null] 6 = mkF m 0 #[.val (.ref xa), .val (.ref ca), .val (.int (0 : Int32)), .val (.int (2 : Int32)), .val .null, .unset] [] := by first | (simp [entryFrame, mkF, argsToLocals, Value.category]; done) | rfl
set_option maxRecDepth 65536 in
set_option maxHeartbeats 40000000 in
theorem new4_2 (l : Launch) (Z : State) (a0 : Array Value) (n0 : Nat) (hw : ∀ d ∈ tables_1, d.before a0 Z = true) (hEL : EW Z a0 consts_1) (G1 : Int32) (O1 : Sta Z Z.heap "java/lang/String" "COMPACT_STRINGS" "Z" (.int G1)) (P1 : ¬ (G1 = (0 : Int32))) (O_as : Sta Z Z.heap "java/lang/StringUTF16" "$assertionsDisabled" "Z" (.int (1 : Int32))) (O_hi : Sta Z Z.heap "java/lang/StringUTF16" "HI_BYTE_SHIFT" "I" (.int (0 : Int32))) (O_lo : Sta Z Z.heap "java/lang/StringUTF16" "LO_BYTE_SHIFT" "I" (.int (8 : Int32))) (ro : Addr) (O_ro : Sta Z Z.heap "com/example/rolebind/rolebind/Decision$Reason" "ROLE" "Lcom/example/rolebind/rolebind/Decision$Reason;" (.ref ro)) (xa : Addr) (ca : Addr) (kc : ClassId) (c0 : Int32) (c1 : Int32) (h0 : Heap) (hO : Old Z n0 h0) (E_xa : Exa Z h0 xa "java/lang/String") (F_xa_value : Fld Z h0 xa "java/lang/String" "value" "[B" .null) (F_xa_coder : Fld Z h0 xa "java/lang/String" "coder" "B" (.int (0 : Int32))) (V_ca : Arv Z h0 ca kc .char (2 : Int32) [(.int c0), (.int c1)] (.int (0 : Int32))) (hp_c0 : ¬ c0 < 0 ∧ ¬ (255 : Int32) < c0) (hp_c1 : ¬ c1 < 0 ∧ ¬ (255 : Int32) < c1) (g_xa : n0 ≤ xa) :
    Con l Z consts_1 n0 (⟨"java/lang/String", "<init>", "([CIILjava/lang/Void;)V"⟩ : MethodName) jdk_42_method_149_code 6 none ({ frames := 2, cells := 1, slots := 2, locals := 35 } : Room) #[(.ref xa), (.ref ca), (.int (0 : Int32)), (.int (2 : Int32)), .null] h0 [xa] (fun v h V' => ∃ (t : Addr) (kt : ClassId), v = none ∧ Exa Z h xa "java/lang/String" ∧ Fld Z h xa "java/lang/String" "coder" "B" (.int (0 : Int32)) ∧ Fld Z h xa "java/lang/String" "value" "[B" (.ref t) ∧ Arv Z h t kt .byte (2 : Int32) [(.int (c0.toInt8.toInt32)), (.int (c1.toInt8.toInt32))] (.int (0 : Int32))) [] := by
  refine Con.of (a0 := a0) pf0 (fun m => ef_new4_2 m xa ca kc c0 c1) (allS g_xa all0) hO hEL ?_
  intro p e s m below meth c S0 hnm hsf W
  replace W := W.aloadN (pc' := 1) djdk_42_149_0 rfl rfl rfl
  replace W := W.initO (pc' := 4) (Wd := 0) djdk_42_149_1 (tw12 hw) (tw13 hw) (tw14 hw) rfl rfl (by decide) (by decide) rfl
  replace W := W.iloadN (pc' := 5) djdk_42_149_4 rfl rfl
  replace W := W.ifT (pc' := 27) djdk_42_149_5 (feq (by decide : ¬ ((2 : Int32) = (0 : Int32)))).2 (by decide) (by decide)
  replace W := W.gets (pc' := 30) djdk_42_149_27 (tw85 hw) O1 rfl
  replace W := W.ifF (pc' := 33) djdk_42_149_30 (feq P1).1 rfl
  replace W := W.aloadN (pc' := 34) djdk_42_149_33 rfl rfl rfl
  replace W := W.iloadN (pc' := 35) djdk_42_149_34 rfl rfl
  replace W := W.iloadN (pc' := 36) djdk_42_149_35 rfl rfl
  obtain ⟨V1, h1, r1, W1, K1, hQ1, SF1⟩ := W.callS (pc' := 39) (argsL := [(.ref ca), (.int (0 : Int32)), (.int (2 : Int32))]) (rest := []) (Wd := 0) (cells' := 1) (slots' := 2) (y := (⟨"java/lang/StringUTF16", "compress", "([CII)[B"⟩ : MethodName)) djdk_42_149_36 (cmp3_2 l Z a0 n0 hw hEL G1 O1 P1 O_as O_hi O_lo ro O_ro ca kc c0 c1 h0 W.old V_ca hp_c0 hp_c1) (tw86 hw) (tw87 hw) (tw88 hw) (tw89 hw) (by decide) (lenOf pd2 rfl) rfl rfl (by decide) (by decide) rfl sf0 all0 rfl rfl rfl (by decide) (by decide)
  clear W
  obtain ⟨t1, kt1, rfl, q1_1, q1_2⟩ := hQ1
  have z1 : h0.size ≤ h1.size := K1.1
  replace W1 := W1.cast (st' := [(.ref t1)]) rfl
  replace W1 := W1.astore (pc' := 41) (L' := #[.val (.ref xa), .val (.ref ca), .val (.int (0 : Int32)), .val (.int (2 : Int32)), .val .null, .val (.ref t1)]) djdk_42_149_39 rfl rfl rfl
  replace W1 := W1.aloadN (pc' := 42) djdk_42_149_41 rfl rfl rfl
  replace W1 := W1.aload (pc' := 44) djdk_42_149_42 rfl rfl rfl
  replace W1 := W1.iloadN (pc' := 45) djdk_42_149_44 rfl rfl
  obtain ⟨V2, h2, r2, W2, K2, hQ2, SF2⟩ := W1.callS (pc' := 48) (argsL := [(.ref t1), (.int (2 : Int32))]) (rest := [(.ref xa)]) (Wd := 1) (cells' := 1) (slots' := 2) (y := (⟨"java/lang/StringUTF16", "coderFromArrayLen", "([BI)B"⟩ : MethodName)) djdk_42_149_45 (codl_2 l Z a0 n0 hw hEL G1 O1 P1 O_as O_hi O_lo ro O_ro t1 kt1 ([(.int (c0.toInt8.toInt32)), (.int (c1.toInt8.toInt32))]) h1 W1.old q1_1) (tw93 hw) (tw94 hw) (tw88 hw) (tw95 hw) (by decide) (lenOf pd3 rfl) rfl rfl (by decide) (by decide) rfl sf0 all0 rfl rfl rfl (by decide) (by decide)
  clear W1
  obtain ⟨rfl, hs2⟩ := hQ2
  subst hs2
  have sf3 := (SF1 xa E_xa.lt (hsf _ (List.mem_of_getElem? (i := 0) rfl)))
  have sf4 := SF2 xa (Nat.lt_of_lt_of_le E_xa.lt z1) sf3
  replace W2 := W2.cast (st' := [(.int (0 : Int32)), (.ref xa)]) rfl
  have f5 := (F_xa_coder.keep K1 nin0)
  have e6 := (E_xa.keep K1)
  obtain ⟨h7, W7, w7, SF7⟩ := W2.putf (pc' := 51) (ty := .byte) djdk_42_149_48 (tw22 hw) Via.refl f5 e6 (Or.inr ⟨(tw18 hw), rfl, hnm⟩) (tw3 hw) (by decide) rfl rfl sf4 (Or.inl (List.mem_of_getElem? (i := 0) rfl)) rfl
  clear W2
  have z7 : h1.size ≤ h7.size := Nat.le_of_eq w7.size.symm
  have f7 := f5.same w7
  replace W7 := W7.aloadN (pc' := 52) djdk_42_149_51 rfl rfl rfl
  replace W7 := W7.aload (pc' := 54) djdk_42_149_52 rfl rfl rfl
  have f8 := ((F_xa_value.keep K1 nin0).other w7 (Or.inr (slot_ne (C := "java/lang/String") (Or.inr (tw17 hw)) (Or.inr (tw18 hw)) (by decide) (t := (.array .byte)) (t' := .byte) (by decide) (by decide))))
  have e9 := (e6.wr w7)
  have sf10 := (SF7 xa sf4)
  obtain ⟨h11, W11, w11, SF11⟩ := W7.putf (pc' := 57) (ty := (.array .byte)) djdk_42_149_54 (tw21 hw) Via.refl f8 e9 (Or.inr ⟨(tw17 hw), rfl, hnm⟩) (tw3 hw) (by decide) rfl rfl sf10 (Or.inl (List.mem_of_getElem? (i := 0) rfl)) rfl
  clear W7
  have z11 : h7.size ≤ h11.size := Nat.le_of_eq w11.size.symm
  have f11 := f8.same w11
  have e12 := (e9.wr w11)
  have f13 := (f7.other w11 (Or.inr (slot_ne (C := "java/lang/String") (Or.inr (tw18 hw)) (Or.inr (tw17 hw)) (by decide) (t := .byte) (t' := (.array .byte)) (by decide) (by decide))))
  have v14 := ((q1_1.other w7 (Nat.ne_of_gt (Nat.lt_of_lt_of_le E_xa.lt q1_2))).other w11 (Nat.ne_of_gt (Nat.lt_of_lt_of_le E_xa.lt q1_2)))
  exact W11.vret djdk_42_149_57 rfl (by decide) (by decide) (fun V' cv => ⟨t1, kt1, rfl, e12, f13, f11, v14⟩)
theorem ef_new1_2 (m : MethodId) (xa : Addr) (ca : Addr) (kc : ClassId) (c0 : Int32) (c1 : Int32) : entryFrame m #[(.ref xa), (.ref ca)] 2 = mkF m 0 #[.val (.ref xa), .val (.ref ca)] [] := by first | (simp [entryFrame, mkF, argsToLocals, Value.category]; done) | rfl
set_option maxRecDepth 65536 in
set_option maxHeartbeats 40000000 in
theorem new1_2 (l : Launch) (Z : State) (a0 : Array Value) (n0 : Nat) (hw : ∀ d ∈ tables_1, d.before a0 Z = true) (hEL : EW Z a0 consts_1) (G1 : Int32) (O1 : Sta Z Z.heap "java/lang/String" "COMPACT_STRINGS" "Z" (.int G1)) (P1 : ¬ (G1 = (0 : Int32))) (O_as : Sta Z Z.heap "java/lang/StringUTF16" "$assertionsDisabled" "Z" (.int (1 : Int32))) (O_hi : Sta Z Z.heap "java/lang/StringUTF16" "HI_BYTE_SHIFT" "I" (.int (0 : Int32))) (O_lo : Sta Z Z.heap "java/lang/StringUTF16" "LO_BYTE_SHIFT" "I" (.int (8 : Int32))) (ro : Addr) (O_ro : Sta Z Z.heap "com/example/rolebind/rolebind/Decision$Reason" "ROLE" "Lcom/example/rolebind/rolebind/Decision$Reason;" (.ref ro)) (xa : Addr) (ca : Addr) (kc : ClassId) (c0 : Int32) (c1 : Int32) (h0 : Heap) (hO : Old Z n0 h0) (E_xa : Exa Z h0 xa "java/lang/String") (F_xa_value : Fld Z h0 xa "java/lang/String" "value" "[B" .null) (F_xa_coder : Fld Z h0 xa "java/lang/String" "coder" "B" (.int (0 : Int32))) (V_ca : Arv Z h0 ca kc .char (2 : Int32) [(.int c0), (.int c1)] (.int (0 : Int32))) (hp_c0 : ¬ c0 < 0 ∧ ¬ (255 : Int32) < c0) (hp_c1 : ¬ c1 < 0 ∧ ¬ (255 : Int32) < c1) (g_xa : n0 ≤ xa) :
    Con l Z consts_1 n0 (⟨"java/lang/String", "<init>", "([C)V"⟩ : MethodName) jdk_42_method_3_code 2 none ({ frames := 3, cells := 1, slots := 2, locals := 52 } : Room) #[(.ref xa), (.ref ca)] h0 [xa] (fun v h V' => ∃ (t : Addr) (kt : ClassId), v = none ∧ Exa Z h xa "java/lang/String" ∧ Fld Z h xa "java/lang/String" "coder" "B" (.int (0 : Int32)) ∧ Fld Z h xa "java/lang/String" "value" "[B" (.ref t) ∧ Arv Z h t kt .byte (2 : Int32) [(.int (c0.toInt8.toInt32)), (.int (c1.toInt8.toInt32))] (.int (0 : Int32))) [] := by
  refine Con.of (a0 := a0) pf1 (fun m => ef_new1_2 m xa ca kc c0 c1) (allS g_xa all0) hO hEL ?_
  intro p e s m below meth c S0 hnm hsf W
  replace W := W.aloadN (pc' := 1) djdk_42_3_0 rfl rfl rfl
  replace W := W.aloadN (pc' := 2) djdk_42_3_1 rfl rfl rfl
  replace W := W.iconst (pc' := 3) (v := (0 : Int32)) djdk_42_3_2 rfl rfl
  replace W := W.aloadN (pc' := 4) djdk_42_3_3 rfl rfl rfl
  replace W := W.alen (pc' := 5) djdk_42_3_4 V_ca rfl
  replace W := W.aconstNull (pc' := 6) djdk_42_3_5 rfl
  obtain ⟨V1, h1, r1, W1, K1, hQ1, SF1⟩ := W.callI (pc' := 9) (argsL := [(.ref ca), (.int (0 : Int32)), (.int (2 : Int32)), .null]) (rest := []) (Wd := 0) (cells' := 1) (slots' := 2) (a := xa) (y := (⟨"java/lang/String", "<init>", "([CIILjava/lang/Void;)V"⟩ : MethodName)) djdk_42_3_6 (new4_2 l Z a0 n0 hw hEL G1 O1 P1 O_as O_hi O_lo ro O_ro xa ca kc c0 c1 h0 W.old E_xa F_xa_value F_xa_coder V_ca hp_c0 hp_c1 g_xa) rfl (tw8 hw) (tw9 hw) (tw4 hw) (tw11 hw) (by decide) (lenOf pd0 rfl) rfl rfl (by decide) (by decide) rfl (sfS (hsf _ (List.mem_of_getElem? (i := 0) rfl)) sf0) (allS (Or.inl (List.mem_of_getElem? (i := 0) rfl)) all0) rfl rfl rfl (by decide) (by decide)
  clear W
  obtain ⟨t1, kt1, rfl, q1_1, q1_2, q1_3, q1_4⟩ := hQ1
  have z1 : h0.size ≤ h1.size := K1.1
  replace W1 := W1.cast (st' := []) rfl
  exact W1.vret djdk_42_3_9 rfl (by decide) (by decide) (fun V' cv => ⟨t1, kt1, rfl, q1_1, q1_2, q1_3, q1_4⟩)
theorem ef_cmp5_3 (m : MethodId) (ca : Addr) (kc : ClassId) (ba : Addr) (kb : ClassId) (c0 : Int32) (c1 : Int32) (c2 : Int32) : entryFrame m #[(.ref ca), (.int (0 : Int32)), (.ref ba), (.int (0 : Int32)), (.int (3 : Int32))] 7 = mkF m 0 #[.val (.ref ca), .val (.int (0 : Int32)), .val (.ref ba), .val (.int (0 : Int32)), .val (.int (3 : Int32)), .unset, .unset] [] := by first | (simp [entryFrame, mkF, argsToLocals, Value.category]; done) | rfl
set_option maxRecDepth 65536 in
set_option maxHeartbeats 40000000 in
theorem cmp5_3 (l : Launch) (Z : State) (a0 : Array Value) (n0 : Nat) (hw : ∀ d ∈ tables_1, d.before a0 Z = true) (hEL : EW Z a0 consts_1) (G1 : Int32) (O1 : Sta Z Z.heap "java/lang/String" "COMPACT_STRINGS" "Z" (.int G1)) (P1 : ¬ (G1 = (0 : Int32))) (O_as : Sta Z Z.heap "java/lang/StringUTF16" "$assertionsDisabled" "Z" (.int (1 : Int32))) (O_hi : Sta Z Z.heap "java/lang/StringUTF16" "HI_BYTE_SHIFT" "I" (.int (0 : Int32))) (O_lo : Sta Z Z.heap "java/lang/StringUTF16" "LO_BYTE_SHIFT" "I" (.int (8 : Int32))) (ro : Addr) (O_ro : Sta Z Z.heap "com/example/rolebind/rolebind/Decision$Reason" "ROLE" "Lcom/example/rolebind/rolebind/Decision$Reason;" (.ref ro)) (ca : Addr) (kc : ClassId) (ba : Addr) (kb : ClassId) (c0 : Int32) (c1 : Int32) (c2 : Int32) (h0 : Heap) (hO : Old Z n0 h0) (V_ca : Arv Z h0 ca kc .char (3 : Int32) [(.int c0), (.int c1), (.int c2)] (.int (0 : Int32))) (V_ba : Arv Z h0 ba kb .byte (3 : Int32) [(.int (0 : Int32)), (.int (0 : Int32)), (.int (0 : Int32))] (.int (0 : Int32))) (N_ca_ba : ca ≠ ba) (hp_c0 : ¬ c0 < 0 ∧ ¬ (255 : Int32) < c0) (hp_c1 : ¬ c1 < 0 ∧ ¬ (255 : Int32) < c1) (hp_c2 : ¬ c2 < 0 ∧ ¬ (255 : Int32) < c2) (g_ba : n0 ≤ ba) :
    Con l Z consts_1 n0 (⟨"java/lang/StringUTF16", "compress", "([CI[BII)I"⟩ : MethodName) jdk_52_method_21_code 7 (some .int) ({ frames := 0, cells := 0, slots := 0, locals := 0 } : Room) #[(.ref ca), (.int (0 : Int32)), (.ref ba), (.int (0 : Int32)), (.int (3 : Int32))] h0 [ba] (fun v h V' => v = some (.int (3 : Int32)) ∧ Arv Z h ba kb .byte (3 : Int32) [(.int (c0.toInt8.toInt32)), (.int (c1.toInt8.toInt32)), (.int (c2.toInt8.toInt32))] (.int (0 : Int32))) [] := by
  refine Con.of (a0 := a0) pf2 (fun m => ef_cmp5_3 m ca kc ba kb c0 c1 c2) (allS g_ba all0) hO hEL ?_
  intro p e s m below meth c S0 hnm hsf W
  replace W := W.iconst (pc' := 1) (v := (0 : Int32)) djdk_52_21_0 rfl rfl
  replace W := W.istore (pc' := 3) (L' := #[.val (.ref ca), .val (.int (0 : Int32)), .val (.ref ba), .val (.int (0 : Int32)), .val (.int (3 : Int32)), .val (.int (0 : Int32)), .unset]) djdk_52_21_1 rfl rfl
  replace W := W.iload (pc' := 5) djdk_52_21_3 rfl rfl
  replace W := W.iload (pc' := 7) djdk_52_21_5 rfl rfl
  replace W := W.icmpF (pc' := 10) djdk_52_21_7 (tlt (by decide : (0 : Int32) < (3 : Int32))).2.1 rfl
  replace W := W.aloadN (pc' := 11) djdk_52_21_10 rfl rfl rfl
  replace W := W.iloadN (pc' := 12) djdk_52_21_11 rfl rfl
  replace W := W.caload (pc' := 13) (w := (.int c0)) djdk_52_21_12 V_ca ⟨by decide, by decide⟩ rfl rfl
  replace W := W.istore (pc' := 15) (L' := #[.val (.ref ca), .val (.int (0 : Int32)), .val (.ref ba), .val (.int (0 : Int32)), .val (.int (3 : Int32)), .val (.int (0 : Int32)), .val (.int c0)]) djdk_52_21_13 rfl rfl
  replace W := W.iload (pc' := 17) djdk_52_21_15 rfl rfl
  replace W := W.sipush (pc' := 20) (v := (255 : Int32)) djdk_52_21_17 rfl rfl
  replace W := W.icmpT (pc' := 26) djdk_52_21_20 (flt hp_c0.2).2.2.2 (by decide) (by decide)
  replace W := W.aloadN (pc' := 27) djdk_52_21_26 rfl rfl rfl
  replace W := W.iloadN (pc' := 28) djdk_52_21_27 rfl rfl
  replace W := W.iload (pc' := 30) djdk_52_21_28 rfl rfl
  replace W := W.i2b (pc' := 31) (v := (c0.toInt8.toInt32)) djdk_52_21_30 rfl rfl
  obtain ⟨h1, W1, w1, A1, SF1⟩ := W.bastore (pc' := 32) (i := 0) (x' := (c0.toInt8.toInt32)) djdk_52_21_31 V_ba ⟨by decide, by decide⟩ rfl (by show 0 < 3; decide) (own_narb _) (hsf _ (List.mem_of_getElem? (i := 0) rfl)) (Or.inl (List.mem_of_getElem? (i := 0) rfl)) rfl
  clear W
  have z1 : h0.size ≤ h1.size := Nat.le_of_eq w1.size.symm
  have v1 : Arv Z h1 ba kb .byte (3 : Int32) [(.int (c0.toInt8.toInt32)), (.int (0 : Int32)), (.int (0 : Int32))] (.int (0 : Int32)) := A1
  replace W1 := W1.iinc (pc' := 35) (v := (1 : Int32)) (L' := #[.val (.ref ca), .val (.int (1 : Int32)), .val (.ref ba), .val (.int (0 : Int32)), .val (.int (3 : Int32)), .val (.int (0 : Int32)), .val (.int c0)]) djdk_52_21_32 rfl (by decide) rfl rfl
  replace W1 := W1.iinc (pc' := 38) (v := (1 : Int32)) (L' := #[.val (.ref ca), .val (.int (1 : Int32)), .val (.ref ba), .val (.int (1 : Int32)), .val (.int (3 : Int32)), .val (.int (0 : Int32)), .val (.int c0)]) djdk_52_21_35 rfl (by decide) rfl rfl
  replace W1 := W1.iinc (pc' := 41) (v := (1 : Int32)) (L' := #[.val (.ref ca), .val (.int (1 : Int32)), .val (.ref ba), .val (.int (1 : Int32)), .val (.int (3 : Int32)), .val (.int (1 : Int32)), .val (.int c0)]) djdk_52_21_38 rfl (by decide) rfl rfl
  replace W1 := W1.goto (pc' := 3) djdk_52_21_41 (by decide) (by decide)
  replace W1 := W1.iload (pc' := 5) djdk_52_21_3 rfl rfl
  replace W1 := W1.iload (pc' := 7) djdk_52_21_5 rfl rfl
  replace W1 := W1.icmpF (pc' := 10) djdk_52_21_7 (tlt (by decide : (1 : Int32) < (3 : Int32))).2.1 rfl
  replace W1 := W1.aloadN (pc' := 11) djdk_52_21_10 rfl rfl rfl
  replace W1 := W1.iloadN (pc' := 12) djdk_52_21_11 rfl rfl
  have v2 := (V_ca.other w1 N_ca_ba)
  replace W1 := W1.caload (pc' := 13) (w := (.int c1)) djdk_52_21_12 v2 ⟨by decide, by decide⟩ rfl rfl
  replace W1 := W1.istore (pc' := 15) (L' := #[.val (.ref ca), .val (.int (1 : Int32)), .val (.ref ba), .val (.int (1 : Int32)), .val (.int (3 : Int32)), .val (.int (1 : Int32)), .val (.int c1)]) djdk_52_21_13 rfl rfl
  replace W1 := W1.iload (pc' := 17) djdk_52_21_15 rfl rfl
  replace W1 := W1.sipush (pc' := 20) (v := (255 : Int32)) djdk_52_21_17 rfl rfl
  replace W1 := W1.icmpT (pc' := 26) djdk_52_21_20 (flt hp_c1.2).2.2.2 (by decide) (by decide)
  replace W1 := W1.aloadN (pc' := 27) djdk_52_21_26 rfl rfl rfl
  replace W1 := W1.iloadN (pc' := 28) djdk_52_21_27 rfl rfl
  replace W1 := W1.iload (pc' := 30) djdk_52_21_28 rfl rfl
  replace W1 := W1.i2b (pc' := 31) (v := (c1.toInt8.toInt32)) djdk_52_21_30 rfl rfl
  have sf3 := (SF1 ba (hsf _ (List.mem_of_getElem? (i := 0) rfl)))
  obtain ⟨h4, W4, w4, A4, SF4⟩ := W1.bastore (pc' := 32) (i := 1) (x' := (c1.toInt8.toInt32)) djdk_52_21_31 v1 ⟨by decide, by decide⟩ rfl (by show 1 < 3; decide) (own_narb _) sf3 (Or.inl (List.mem_of_getElem? (i := 0) rfl)) rfl
  clear W1
  have z4 : h1.size ≤ h4.size := Nat.le_of_eq w4.size.symm
  have v4 : Arv Z h4 ba kb .byte (3 : Int32) [(.int (c0.toInt8.toInt32)), (.int (c1.toInt8.toInt32)), (.int (0 : Int32))] (.int (0 : Int32)) := A4
  replace W4 := W4.iinc (pc' := 35) (v := (2 : Int32)) (L' := #[.val (.ref ca), .val (.int (2 : Int32)), .val (.ref ba), .val (.int (1 : Int32)), .val (.int (3 : Int32)), .val (.int (1 : Int32)), .val (.int c1)]) djdk_52_21_32 rfl (by decide) rfl rfl
  replace W4 := W4.iinc (pc' := 38) (v := (2 : Int32)) (L' := #[.val (.ref ca), .val (.int (2 : Int32)), .val (.ref ba), .val (.int (2 : Int32)), .val (.int (3 : Int32)), .val (.int (1 : Int32)), .val (.int c1)]) djdk_52_21_35 rfl (by decide) rfl rfl
  replace W4 := W4.iinc (pc' := 41) (v := (2 : Int32)) (L' := #[.val (.ref ca), .val (.int (2 : Int32)), .val (.ref ba), .val (.int (2 : Int32)), .val (.int (3 : Int32)), .val (.int (2 : Int32)), .val (.int c1)]) djdk_52_21_38 rfl (by decide) rfl rfl
  replace W4 := W4.goto (pc' := 3) djdk_52_21_41 (by decide) (by decide)
  replace W4 := W4.iload (pc' := 5) djdk_52_21_3 rfl rfl
  replace W4 := W4.iload (pc' := 7) djdk_52_21_5 rfl rfl
  replace W4 := W4.icmpF (pc' := 10) djdk_52_21_7 (tlt (by decide : (2 : Int32) < (3 : Int32))).2.1 rfl
  replace W4 := W4.aloadN (pc' := 11) djdk_52_21_10 rfl rfl rfl
  replace W4 := W4.iloadN (pc' := 12) djdk_52_21_11 rfl rfl
  have v5 := (v2.other w4 N_ca_ba)
  replace W4 := W4.caload (pc' := 13) (w := (.int c2)) djdk_52_21_12 v5 ⟨by decide, by decide⟩ rfl rfl
  replace W4 := W4.istore (pc' := 15) (L' := #[.val (.ref ca), .val (.int (2 : Int32)), .val (.ref ba), .val (.int (2 : Int32)), .val (.int (3 : Int32)), .val (.int (2 : Int32)), .val (.int c2)]) djdk_52_21_13 rfl rfl
  replace W4 := W4.iload (pc' := 17) djdk_52_21_15 rfl rfl
  replace W4 := W4.sipush (pc' := 20) (v := (255 : Int32)) djdk_52_21_17 rfl rfl
  replace W4 := W4.icmpT (pc' := 26) djdk_52_21_20 (flt hp_c2.2).2.2.2 (by decide) (by decide)
  replace W4 := W4.aloadN (pc' := 27) djdk_52_21_26 rfl rfl rfl
  replace W4 := W4.iloadN (pc' := 28) djdk_52_21_27 rfl rfl
  replace W4 := W4.iload (pc' := 30) djdk_52_21_28 rfl rfl
  replace W4 := W4.i2b (pc' := 31) (v := (c2.toInt8.toInt32)) djdk_52_21_30 rfl rfl
  have sf6 := (SF4 ba sf3)
  obtain ⟨h7, W7, w7, A7, SF7⟩ := W4.bastore (pc' := 32) (i := 2) (x' := (c2.toInt8.toInt32)) djdk_52_21_31 v4 ⟨by decide, by decide⟩ rfl (by show 2 < 3; decide) (own_narb _) sf6 (Or.inl (List.mem_of_getElem? (i := 0) rfl)) rfl
  clear W4
  have z7 : h4.size ≤ h7.size := Nat.le_of_eq w7.size.symm
  have v7 : Arv Z h7 ba kb .byte (3 : Int32) [(.int (c0.toInt8.toInt32)), (.int (c1.toInt8.toInt32)), (.int (c2.toInt8.toInt32))] (.int (0 : Int32)) := A7
  replace W7 := W7.iinc (pc' := 35) (v := (3 : Int32)) (L' := #[.val (.ref ca), .val (.int (3 : Int32)), .val (.ref ba), .val (.int (2 : Int32)), .val (.int (3 : Int32)), .val (.int (2 : Int32)), .val (.int c2)]) djdk_52_21_32 rfl (by decide) rfl rfl
  replace W7 := W7.iinc (pc' := 38) (v := (3 : Int32)) (L' := #[.val (.ref ca), .val (.int (3 : Int32)), .val (.ref ba), .val (.int (3 : Int32)), .val (.int (3 : Int32)), .val (.int (2 : Int32)), .val (.int c2)]) djdk_52_21_35 rfl (by decide) rfl rfl
  replace W7 := W7.iinc (pc' := 41) (v := (3 : Int32)) (L' := #[.val (.ref ca), .val (.int (3 : Int32)), .val (.ref ba), .val (.int (3 : Int32)), .val (.int (3 : Int32)), .val (.int (3 : Int32)), .val (.int c2)]) djdk_52_21_38 rfl (by decide) rfl rfl
  replace W7 := W7.goto (pc' := 3) djdk_52_21_41 (by decide) (by decide)
  replace W7 := W7.iload (pc' := 5) djdk_52_21_3 rfl rfl
  replace W7 := W7.iload (pc' := 7) djdk_52_21_5 rfl rfl
  replace W7 := W7.icmpT (pc' := 44) djdk_52_21_7 (flt (by decide : ¬ ((3 : Int32) < (3 : Int32)))).2.1 (by decide) (by decide)
  replace W7 := W7.iload (pc' := 46) djdk_52_21_44 rfl rfl
  exact W7.iret (t := .int) djdk_52_21_46 rfl (by simp) rfl (by decide) (by decide) (fun V' cv => ⟨rfl, v7⟩)
theorem ef_cmp3_3 (m : MethodId) (ca : Addr) (kc : ClassId) (c0 : Int32) (c1 : Int32) (c2 : Int32) : entryFrame m #[(.ref ca), (.int (0 : Int32)), (.int (3 : Int32))] 6 = mkF m 0 #[.val (.ref ca), .val (.int (0 : Int32)), .val (.int (3 : Int32)), .unset, .unset, .unset] [] := by first | (simp [entryFrame, mkF, argsToLocals, Value.category]; done) | rfl
set_option maxRecDepth 65536 in
set_option maxHeartbeats 40000000 in
theorem cmp3_3 (l : Launch) (Z : State) (a0 : Array Value) (n0 : Nat) (hw : ∀ d ∈ tables_1, d.before a0 Z = true) (hEL : EW Z a0 consts_1) (G1 : Int32) (O1 : Sta Z Z.heap "java/lang/String" "COMPACT_STRINGS" "Z" (.int G1)) (P1 : ¬ (G1 = (0 : Int32))) (O_as : Sta Z Z.heap "java/lang/StringUTF16" "$assertionsDisabled" "Z" (.int (1 : Int32))) (O_hi : Sta Z Z.heap "java/lang/StringUTF16" "HI_BYTE_SHIFT" "I" (.int (0 : Int32))) (O_lo : Sta Z Z.heap "java/lang/StringUTF16" "LO_BYTE_SHIFT" "I" (.int (8 : Int32))) (ro : Addr) (O_ro : Sta Z Z.heap "com/example/rolebind/rolebind/Decision$Reason" "ROLE" "Lcom/example/rolebind/rolebind/Decision$Reason;" (.ref ro)) (ca : Addr) (kc : ClassId) (c0 : Int32) (c1 : Int32) (c2 : Int32) (h0 : Heap) (hO : Old Z n0 h0) (V_ca : Arv Z h0 ca kc .char (3 : Int32) [(.int c0), (.int c1), (.int c2)] (.int (0 : Int32))) (hp_c0 : ¬ c0 < 0 ∧ ¬ (255 : Int32) < c0) (hp_c1 : ¬ c1 < 0 ∧ ¬ (255 : Int32) < c1) (hp_c2 : ¬ c2 < 0 ∧ ¬ (255 : Int32) < c2) :
    Con l Z consts_1 n0 (⟨"java/lang/StringUTF16", "compress", "([CII)[B"⟩ : MethodName) jdk_52_method_16_code 6 (some (.array .byte)) ({ frames := 1, cells := 1, slots := 3, locals := 18 } : Room) #[(.ref ca), (.int (0 : Int32)), (.int (3 : Int32))] h0 [] (fun v h V' => ∃ (t : Addr) (kt : ClassId), v = some (.ref t) ∧ Arv Z h t kt .byte (3 : Int32) [(.int (c0.toInt8.toInt32)), (.int (c1.toInt8.toInt32)), (.int (c2.toInt8.toInt32))] (.int (0 : Int32)) ∧ h0.size ≤ t) [] := by
  refine Con.of (a0 := a0) pf3 (fun m => ef_cmp3_3 m ca kc c0 c1 c2) all0 hO hEL ?_
  intro p e s m below meth c S0 hnm hsf W
  replace W := W.iloadN (pc' := 1) djdk_52_16_0 rfl rfl
  obtain ⟨h1, a1, W1, E1, g1, ⟨k1, A1⟩, sf1, SF1⟩ := W.newarr (pc' := 3) (cap := 3) (cells' := 1) (slots' := 3) djdk_52_16_1 (tw16 hw) (by decide) (by decide) (by decide) rfl rfl rfl (by decide) (by decide)
  clear W
  rw [← g1] at A1
  have z1 : h0.size ≤ h1.size := E1.1
  have v1 : Arv Z h1 a1 k1 .byte (3 : Int32) [(.int (0 : Int32)), (.int (0 : Int32)), (.int (0 : Int32))] (.int (0 : Int32)) := A1.pad (pad_rep [] (.int (0 : Int32)) 3)
  replace W1 := W1.astoreN (pc' := 4) (L' := #[.val (.ref ca), .val (.int (0 : Int32)), .val (.int (3 : Int32)), .val (.ref a1), .unset, .unset]) djdk_52_16_3 rfl rfl rfl
  replace W1 := W1.aloadN (pc' := 5) djdk_52_16_4 rfl rfl rfl
  replace W1 := W1.iloadN (pc' := 6) djdk_52_16_5 rfl rfl
  replace W1 := W1.aloadN (pc' := 7) djdk_52_16_6 rfl rfl rfl
  replace W1 := W1.iconst (pc' := 8) (v := (0 : Int32)) djdk_52_16_7 rfl rfl
  replace W1 := W1.iloadN (pc' := 9) djdk_52_16_8 rfl rfl
  have v2 := (V_ca.ext E1)
  obtain ⟨V3, h3, r3, W3, K3, hQ3, SF3⟩ := W1.callS (pc' := 12) (argsL := [(.ref ca), (.int (0 : Int32)), (.ref a1), (.int (0 : Int32)), (.int (3 : Int32))]) (rest := []) (Wd := 0) (cells' := 1) (slots' := 3) (y := (⟨"java/lang/StringUTF16", "compress", "([CI[BII)I"⟩ : MethodName)) djdk_52_16_9 (cmp5_3 l Z a0 n0 hw hEL G1 O1 P1 O_as O_hi O_lo ro O_ro ca kc a1 k1 c0 c1 c2 h1 W1.old v2 v1 (Nat.ne_of_lt (Nat.lt_of_lt_of_le V_ca.lt (Nat.le_of_eq g1.symm))) hp_c0 hp_c1 hp_c2 (Nat.le_trans W1.1.2.2.2.2.2.2.2.1 (Nat.le_of_eq g1.symm))) (tw90 hw) (tw91 hw) (tw88 hw) (tw92 hw) (by decide) (lenOf pd1 rfl) rfl rfl (by decide) (by decide) rfl (sfS sf1 sf0) (allS (Or.inr (Nat.le_of_eq g1.symm)) all0) rfl rfl rfl (by decide) (by decide)
  clear W1
  obtain ⟨rfl, q3_1⟩ := hQ3
  have z3 : h1.size ≤ h3.size := K3.1
  replace W3 := W3.cast (st' := [(.int (3 : Int32))]) rfl
  replace W3 := W3.istore (pc' := 14) (L' := #[.val (.ref ca), .val (.int (0 : Int32)), .val (.int (3 : Int32)), .val (.ref a1), .val (.int (3 : Int32)), .unset]) djdk_52_16_12 rfl rfl
  replace W3 := W3.iload (pc' := 16) djdk_52_16_14 rfl rfl
  replace W3 := W3.iloadN (pc' := 17) djdk_52_16_16 rfl rfl
  replace W3 := W3.icmpT (pc' := 57) djdk_52_16_17 (teq (by decide : (3 : Int32) = (3 : Int32))).1 (by decide) (by decide)
  replace W3 := W3.aloadN (pc' := 58) djdk_52_16_57 rfl rfl rfl
  exact W3.aret (t := (.array .byte)) djdk_52_16_58 rfl rfl rfl rfl (by decide) (by decide) (fun V' cv => ⟨a1, k1, rfl, q3_1, (Nat.le_of_eq g1.symm)⟩)
theorem ef_codl_3 (m : MethodId) (ta : Addr) (kt : ClassId) (vt : List Value) : entryFrame m #[(.ref ta), (.int (3 : Int32))] 2 = mkF m 0 #[.val (.ref ta), .val (.int (3 : Int32))] [] := by first | (simp [entryFrame, mkF, argsToLocals, Value.category]; done) | rfl
set_option maxRecDepth 65536 in
set_option maxHeartbeats 40000000 in
theorem codl_3 (l : Launch) (Z : State) (a0 : Array Value) (n0 : Nat) (hw : ∀ d ∈ tables_1, d.before a0 Z = true) (hEL : EW Z a0 consts_1) (G1 : Int32) (O1 : Sta Z Z.heap "java/lang/String" "COMPACT_STRINGS" "Z" (.int G1)) (P1 : ¬ (G1 = (0 : Int32))) (O_as : Sta Z Z.heap "java/lang/StringUTF16" "$assertionsDisabled" "Z" (.int (1 : Int32))) (O_hi : Sta Z Z.heap "java/lang/StringUTF16" "HI_BYTE_SHIFT" "I" (.int (0 : Int32))) (O_lo : Sta Z Z.heap "java/lang/StringUTF16" "LO_BYTE_SHIFT" "I" (.int (8 : Int32))) (ro : Addr) (O_ro : Sta Z Z.heap "com/example/rolebind/rolebind/Decision$Reason" "ROLE" "Lcom/example/rolebind/rolebind/Decision$Reason;" (.ref ro)) (ta : Addr) (kt : ClassId) (vt : List Value) (h0 : Heap) (hO : Old Z n0 h0) (V_ta : Arv Z h0 ta kt .byte (3 : Int32) vt (.int (0 : Int32))) :
    Con l Z consts_1 n0 (⟨"java/lang/StringUTF16", "coderFromArrayLen", "([BI)B"⟩ : MethodName) jdk_52_method_15_code 2 (some .byte) ({ frames := 0, cells := 0, slots := 0, locals := 0 } : Room) #[(.ref ta), (.int (3 : Int32))] h0 [] (fun v h V' => v = some (.int (0 : Int32)) ∧ h0 = h) [] := by
  refine Con.of (a0 := a0) pf4 (fun m => ef_codl_3 m ta kt vt) all0 hO hEL ?_
  intro p e s m below meth c S0 hnm hsf W
  replace W := W.iloadN (pc' := 1) djdk_52_15_0 rfl rfl
  replace W := W.aloadN (pc' := 2) djdk_52_15_1 rfl rfl rfl
  replace W := W.alen (pc' := 3) djdk_52_15_2 V_ta rfl
  replace W := W.isub (pc' := 4) (v := (0 : Int32)) djdk_52_15_3 (by decide) rfl
  replace W := W.bipush (pc' := 6) (v := (31 : Int32)) djdk_52_15_4 rfl rfl
  replace W := W.iushr (pc' := 7) (v := (0 : Int32)) djdk_52_15_6 (by decide) rfl
  replace W := W.i2b (pc' := 8) (v := (0 : Int32)) djdk_52_15_7 (by decide) rfl
  exact W.iret (t := .byte) djdk_52_15_8 rfl (by simp) (by decide) (by decide) (by decide) (fun V' cv => ⟨rfl, rfl⟩)
theorem ef_new4_3 (m : MethodId) (xa : Addr) (ca : Addr) (kc : ClassId) (c0 : Int32) (c1 : Int32) (c2 : Int32) : entryFrame m #[(.ref xa), (.ref ca), (.int (0 : Int32)), (.int (3 : Int32)), .null] 6 = mkF m 0 #[.val (.ref xa), .val (.ref ca), .val (.int (0 : Int32)), .val (.int (3 : Int32)), .val .null, .unset] [] := by first | (simp [entryFrame, mkF, argsToLocals, Value.category]; done) | rfl
set_option maxRecDepth 65536 in
set_option maxHeartbeats 40000000 in
theorem new4_3 (l : Launch) (Z : State) (a0 : Array Value) (n0 : Nat) (hw : ∀ d ∈ tables_1, d.before a0 Z = true) (hEL : EW Z a0 consts_1) (G1 : Int32) (O1 : Sta Z Z.heap "java/lang/String" "COMPACT_STRINGS" "Z" (.int G1)) (P1 : ¬ (G1 = (0 : Int32))) (O_as : Sta Z Z.heap "java/lang/StringUTF16" "$assertionsDisabled" "Z" (.int (1 : Int32))) (O_hi : Sta Z Z.heap "java/lang/StringUTF16" "HI_BYTE_SHIFT" "I" (.int (0 : Int32))) (O_lo : Sta Z Z.heap "java/lang/StringUTF16" "LO_BYTE_SHIFT" "I" (.int (8 : Int32))) (ro : Addr) (O_ro : Sta Z Z.heap "com/example/rolebind/rolebind/Decision$Reason" "ROLE" "Lcom/example/rolebind/rolebind/Decision$Reason;" (.ref ro)) (xa : Addr) (ca : Addr) (kc : ClassId) (c0 : Int32) (c1 : Int32) (c2 : Int32) (h0 : Heap) (hO : Old Z n0 h0) (E_xa : Exa Z h0 xa "java/lang/String") (F_xa_value : Fld Z h0 xa "java/lang/String" "value" "[B" .null) (F_xa_coder : Fld Z h0 xa "java/lang/String" "coder" "B" (.int (0 : Int32))) (V_ca : Arv Z h0 ca kc .char (3 : Int32) [(.int c0), (.int c1), (.int c2)] (.int (0 : Int32))) (hp_c0 : ¬ c0 < 0 ∧ ¬ (255 : Int32) < c0) (hp_c1 : ¬ c1 < 0 ∧ ¬ (255 : Int32) < c1) (hp_c2 : ¬ c2 < 0 ∧ ¬ (255 : Int32) < c2) (g_xa : n0 ≤ xa) :
    Con l Z consts_1 n0 (⟨"java/lang/String", "<init>", "([CIILjava/lang/Void;)V"⟩ : MethodName) jdk_42_method_149_code 6 none ({ frames := 2, cells := 1, slots := 3, locals := 35 } : Room) #[(.ref xa), (.ref ca), (.int (0 : Int32)), (.int (3 : Int32)), .null] h0 [xa] (fun v h V' => ∃ (t : Addr) (kt : ClassId), v = none ∧ Exa Z h xa "java/lang/String" ∧ Fld Z h xa "java/lang/String" "coder" "B" (.int (0 : Int32)) ∧ Fld Z h xa "java/lang/String" "value" "[B" (.ref t) ∧ Arv Z h t kt .byte (3 : Int32) [(.int (c0.toInt8.toInt32)), (.int (c1.toInt8.toInt32)), (.int (c2.toInt8.toInt32))] (.int (0 : Int32))) [] := by
  refine Con.of (a0 := a0) pf0 (fun m => ef_new4_3 m xa ca kc c0 c1 c2) (allS g_xa all0) hO hEL ?_
  intro p e s m below meth c S0 hnm hsf W
  replace W := W.aloadN (pc' := 1) djdk_42_149_0 rfl rfl rfl
  replace W := W.initO (pc' := 4) (Wd := 0) djdk_42_149_1 (tw12 hw) (tw13 hw) (tw14 hw) rfl rfl (by decide) (by decide) rfl
  replace W := W.iloadN (pc' := 5) djdk_42_149_4 rfl rfl
  replace W := W.ifT (pc' := 27) djdk_42_149_5 (feq (by decide : ¬ ((3 : Int32) = (0 : Int32)))).2 (by decide) (by decide)
  replace W := W.gets (pc' := 30) djdk_42_149_27 (tw85 hw) O1 rfl
  replace W := W.ifF (pc' := 33) djdk_42_149_30 (feq P1).1 rfl
  replace W := W.aloadN (pc' := 34) djdk_42_149_33 rfl rfl rfl
  replace W := W.iloadN (pc' := 35) djdk_42_149_34 rfl rfl
  replace W := W.iloadN (pc' := 36) djdk_42_149_35 rfl rfl
  obtain ⟨V1, h1, r1, W1, K1, hQ1, SF1⟩ := W.callS (pc' := 39) (argsL := [(.ref ca), (.int (0 : Int32)), (.int (3 : Int32))]) (rest := []) (Wd := 0) (cells' := 1) (slots' := 3) (y := (⟨"java/lang/StringUTF16", "compress", "([CII)[B"⟩ : MethodName)) djdk_42_149_36 (cmp3_3 l Z a0 n0 hw hEL G1 O1 P1 O_as O_hi O_lo ro O_ro ca kc c0 c1 c2 h0 W.old V_ca hp_c0 hp_c1 hp_c2) (tw86 hw) (tw87 hw) (tw88 hw) (tw89 hw) (by decide) (lenOf pd2 rfl) rfl rfl (by decide) (by decide) rfl sf0 all0 rfl rfl rfl (by decide) (by decide)
  clear W
  obtain ⟨t1, kt1, rfl, q1_1, q1_2⟩ := hQ1
  have z1 : h0.size ≤ h1.size := K1.1
  replace W1 := W1.cast (st' := [(.ref t1)]) rfl
  replace W1 := W1.astore (pc' := 41) (L' := #[.val (.ref xa), .val (.ref ca), .val (.int (0 : Int32)), .val (.int (3 : Int32)), .val .null, .val (.ref t1)]) djdk_42_149_39 rfl rfl rfl
  replace W1 := W1.aloadN (pc' := 42) djdk_42_149_41 rfl rfl rfl
  replace W1 := W1.aload (pc' := 44) djdk_42_149_42 rfl rfl rfl
  replace W1 := W1.iloadN (pc' := 45) djdk_42_149_44 rfl rfl
  obtain ⟨V2, h2, r2, W2, K2, hQ2, SF2⟩ := W1.callS (pc' := 48) (argsL := [(.ref t1), (.int (3 : Int32))]) (rest := [(.ref xa)]) (Wd := 1) (cells' := 1) (slots' := 3) (y := (⟨"java/lang/StringUTF16", "coderFromArrayLen", "([BI)B"⟩ : MethodName)) djdk_42_149_45 (codl_3 l Z a0 n0 hw hEL G1 O1 P1 O_as O_hi O_lo ro O_ro t1 kt1 ([(.int (c0.toInt8.toInt32)), (.int (c1.toInt8.toInt32)), (.int (c2.toInt8.toInt32))]) h1 W1.old q1_1) (tw93 hw) (tw94 hw) (tw88 hw) (tw95 hw) (by decide) (lenOf pd3 rfl) rfl rfl (by decide) (by decide) rfl sf0 all0 rfl rfl rfl (by decide) (by decide)
  clear W1
  obtain ⟨rfl, hs2⟩ := hQ2
  subst hs2
  have sf3 := (SF1 xa E_xa.lt (hsf _ (List.mem_of_getElem? (i := 0) rfl)))
  have sf4 := SF2 xa (Nat.lt_of_lt_of_le E_xa.lt z1) sf3
  replace W2 := W2.cast (st' := [(.int (0 : Int32)), (.ref xa)]) rfl
  have f5 := (F_xa_coder.keep K1 nin0)
  have e6 := (E_xa.keep K1)
  obtain ⟨h7, W7, w7, SF7⟩ := W2.putf (pc' := 51) (ty := .byte) djdk_42_149_48 (tw22 hw) Via.refl f5 e6 (Or.inr ⟨(tw18 hw), rfl, hnm⟩) (tw3 hw) (by decide) rfl rfl sf4 (Or.inl (List.mem_of_getElem? (i := 0) rfl)) rfl
  clear W2
  have z7 : h1.size ≤ h7.size := Nat.le_of_eq w7.size.symm
  have f7 := f5.same w7
  replace W7 := W7.aloadN (pc' := 52) djdk_42_149_51 rfl rfl rfl
  replace W7 := W7.aload (pc' := 54) djdk_42_149_52 rfl rfl rfl
  have f8 := ((F_xa_value.keep K1 nin0).other w7 (Or.inr (slot_ne (C := "java/lang/String") (Or.inr (tw17 hw)) (Or.inr (tw18 hw)) (by decide) (t := (.array .byte)) (t' := .byte) (by decide) (by decide))))
  have e9 := (e6.wr w7)
  have sf10 := (SF7 xa sf4)
  obtain ⟨h11, W11, w11, SF11⟩ := W7.putf (pc' := 57) (ty := (.array .byte)) djdk_42_149_54 (tw21 hw) Via.refl f8 e9 (Or.inr ⟨(tw17 hw), rfl, hnm⟩) (tw3 hw) (by decide) rfl rfl sf10 (Or.inl (List.mem_of_getElem? (i := 0) rfl)) rfl
  clear W7
  have z11 : h7.size ≤ h11.size := Nat.le_of_eq w11.size.symm
  have f11 := f8.same w11
  have e12 := (e9.wr w11)
  have f13 := (f7.other w11 (Or.inr (slot_ne (C := "java/lang/String") (Or.inr (tw18 hw)) (Or.inr (tw17 hw)) (by decide) (t := .byte) (t' := (.array .byte)) (by decide) (by decide))))
  have v14 := ((q1_1.other w7 (Nat.ne_of_gt (Nat.lt_of_lt_of_le E_xa.lt q1_2))).other w11 (Nat.ne_of_gt (Nat.lt_of_lt_of_le E_xa.lt q1_2)))
  exact W11.vret djdk_42_149_57 rfl (by decide) (by decide) (fun V' cv => ⟨t1, kt1, rfl, e12, f13, f11, v14⟩)
theorem ef_new1_3 (m : MethodId) (xa : Addr) (ca : Addr) (kc : ClassId) (c0 : Int32) (c1 : Int32) (c2 : Int32) : entryFrame m #[(.ref xa), (.ref ca)] 2 = mkF m 0 #[.val (.ref xa), .val (.ref ca)] [] := by first | (simp [entryFrame, mkF, argsToLocals, Value.category]; done) | rfl
set_option maxRecDepth 65536 in
set_option maxHeartbeats 40000000 in
theorem new1_3 (l : Launch) (Z : State) (a0 : Array Value) (n0 : Nat) (hw : ∀ d ∈ tables_1, d.before a0 Z = true) (hEL : EW Z a0 consts_1) (G1 : Int32) (O1 : Sta Z Z.heap "java/lang/String" "COMPACT_STRINGS" "Z" (.int G1)) (P1 : ¬ (G1 = (0 : Int32))) (O_as : Sta Z Z.heap "java/lang/StringUTF16" "$assertionsDisabled" "Z" (.int (1 : Int32))) (O_hi : Sta Z Z.heap "java/lang/StringUTF16" "HI_BYTE_SHIFT" "I" (.int (0 : Int32))) (O_lo : Sta Z Z.heap "java/lang/StringUTF16" "LO_BYTE_SHIFT" "I" (.int (8 : Int32))) (ro : Addr) (O_ro : Sta Z Z.heap "com/example/rolebind/rolebind/Decision$Reason" "ROLE" "Lcom/example/rolebind/rolebind/Decision$Reason;" (.ref ro)) (xa : Addr) (ca : Addr) (kc : ClassId) (c0 : Int32) (c1 : Int32) (c2 : Int32) (h0 : Heap) (hO : Old Z n0 h0) (E_xa : Exa Z h0 xa "java/lang/String") (F_xa_value : Fld Z h0 xa "java/lang/String" "value" "[B" .null) (F_xa_coder : Fld Z h0 xa "java/lang/String" "coder" "B" (.int (0 : Int32))) (V_ca : Arv Z h0 ca kc .char (3 : Int32) [(.int c0), (.int c1), (.int c2)] (.int (0 : Int32))) (hp_c0 : ¬ c0 < 0 ∧ ¬ (255 : Int32) < c0) (hp_c1 : ¬ c1 < 0 ∧ ¬ (255 : Int32) < c1) (hp_c2 : ¬ c2 < 0 ∧ ¬ (255 : Int32) < c2) (g_xa : n0 ≤ xa) :
    Con l Z consts_1 n0 (⟨"java/lang/String", "<init>", "([C)V"⟩ : MethodName) jdk_42_method_3_code 2 none ({ frames := 3, cells := 1, slots := 3, locals := 52 } : Room) #[(.ref xa), (.ref ca)] h0 [xa] (fun v h V' => ∃ (t : Addr) (kt : ClassId), v = none ∧ Exa Z h xa "java/lang/String" ∧ Fld Z h xa "java/lang/String" "coder" "B" (.int (0 : Int32)) ∧ Fld Z h xa "java/lang/String" "value" "[B" (.ref t) ∧ Arv Z h t kt .byte (3 : Int32) [(.int (c0.toInt8.toInt32)), (.int (c1.toInt8.toInt32)), (.int (c2.toInt8.toInt32))] (.int (0 : Int32))) [] := by
  refine Con.of (a0 := a0) pf1 (fun m => ef_new1_3 m xa ca kc c0 c1 c2) (allS g_xa all0) hO hEL ?_
  intro p e s m below meth c S0 hnm hsf W
  replace W := W.aloadN (pc' := 1) djdk_42_3_0 rfl rfl rfl
  replace W := W.aloadN (pc' := 2) djdk_42_3_1 rfl rfl rfl
  replace W := W.iconst (pc' := 3) (v := (0 : Int32)) djdk_42_3_2 rfl rfl
  replace W := W.aloadN (pc' := 4) djdk_42_3_3 rfl rfl rfl
  replace W := W.alen (pc' := 5) djdk_42_3_4 V_ca rfl
  replace W := W.aconstNull (pc' := 6) djdk_42_3_5 rfl
  obtain ⟨V1, h1, r1, W1, K1, hQ1, SF1⟩ := W.callI (pc' := 9) (argsL := [(.ref ca), (.int (0 : Int32)), (.int (3 : Int32)), .null]) (rest := []) (Wd := 0) (cells' := 1) (slots' := 3) (a := xa) (y := (⟨"java/lang/String", "<init>", "([CIILjava/lang/Void;)V"⟩ : MethodName)) djdk_42_3_6 (new4_3 l Z a0 n0 hw hEL G1 O1 P1 O_as O_hi O_lo ro O_ro xa ca kc c0 c1 c2 h0 W.old E_xa F_xa_value F_xa_coder V_ca hp_c0 hp_c1 hp_c2 g_xa) rfl (tw8 hw) (tw9 hw) (tw4 hw) (tw11 hw) (by decide) (lenOf pd0 rfl) rfl rfl (by decide) (by decide) rfl (sfS (hsf _ (List.mem_of_getElem? (i := 0) rfl)) sf0) (allS (Or.inl (List.mem_of_getElem? (i := 0) rfl)) all0) rfl rfl rfl (by decide) (by decide)
  clear W
  obtain ⟨t1, kt1, rfl, q1_1, q1_2, q1_3, q1_4⟩ := hQ1
  have z1 : h0.size ≤ h1.size := K1.1
  replace W1 := W1.cast (st' := []) rfl
  exact W1.vret djdk_42_3_9 rfl (by decide) (by decide) (fun V' cv => ⟨t1, kt1, rfl, q1_1, q1_2, q1_3, q1_4⟩)
theorem ef_nbl_1 (m : MethodId)  : entryFrame m #[(.int (1 : Int32))] 1 = mkF m 0 #[.val (.int (1 : Int32))] [] := by first | (simp [entryFrame, mkF, argsToLocals, Value.category]; done) | rfl
set_option maxRecDepth 65536 in
set_option maxHeartbeats 40000000 in
theorem nbl_1 (l : Launch) (Z : State) (a0 : Array Value) (n0 : Nat) (hw : ∀ d ∈ tables_1, d.before a0 Z = true) (hEL : EW Z a0 consts_1) (G1 : Int32) (O1 : Sta Z Z.heap "java/lang/String" "COMPACT_STRINGS" "Z" (.int G1)) (P1 : ¬ (G1 = (0 : Int32))) (O_as : Sta Z Z.heap "java/lang/StringUTF16" "$assertionsDisabled" "Z" (.int (1 : Int32))) (O_hi : Sta Z Z.heap "java/lang/StringUTF16" "HI_BYTE_SHIFT" "I" (.int (0 : Int32))) (O_lo : Sta Z Z.heap "java/lang/StringUTF16" "LO_BYTE_SHIFT" "I" (.int (8 : Int32))) (ro : Addr) (O_ro : Sta Z Z.heap "com/example/rolebind/rolebind/Decision$Reason" "ROLE" "Lcom/example/rolebind/rolebind/Decision$Reason;" (.ref ro))  (h0 : Heap) (hO : Old Z n0 h0)  :
    Con l Z consts_1 n0 (⟨"java/lang/StringUTF16", "newBytesLength", "(I)I"⟩ : MethodName) jdk_52_method_3_code 1 (some .int) ({ frames := 0, cells := 0, slots := 0, locals := 0 } : Room) #[(.int (1 : Int32))] h0 [] (fun v h V' => v = some (.int (2 : Int32)) ∧ h0 = h) [] := by
  refine Con.of (a0 := a0) pf5 (fun m => ef_nbl_1 m ) all0 hO hEL ?_
  intro p e s m below meth c S0 hnm hsf W
  replace W := W.iloadN (pc' := 1) djdk_52_3_0 rfl rfl
  replace W := W.ifT (pc' := 12) djdk_52_3_1 (flt (by decide : ¬ ((1 : Int32) < (0 : Int32)))).2.1 (by decide) (by decide)
  replace W := W.iloadN (pc' := 13) djdk_52_3_12 rfl rfl
  replace W := W.ldcI (pc' := 15) djdk_52_3_13 (tw105 hw) rfl
  replace W := W.icmpT (pc' := 55) djdk_52_3_15 (tlt (by decide : (1 : Int32) < (1073741823 : Int32))).1 (by decide) (by decide)
  replace W := W.iloadN (pc' := 56) djdk_52_3_55 rfl rfl
  replace W := W.iconst (pc' := 57) (v := (1 : Int32)) djdk_52_3_56 rfl rfl
  replace W := W.ishl (pc' := 58) (v := (2 : Int32)) djdk_52_3_57 (by decide) rfl
  exact W.iret (t := .int) djdk_52_3_58 rfl (by simp) rfl (by decide) (by decide) (fun V' cv => ⟨rfl, rfl⟩)
theorem ef_nbf_1 (m : MethodId)  : entryFrame m #[(.int (1 : Int32))] 1 = mkF m 0 #[.val (.int (1 : Int32))] [] := by first | (simp [entryFrame, mkF, argsToLocals, Value.category]; done) | rfl
set_option maxRecDepth 65536 in
set_option maxHeartbeats 40000000 in
theorem nbf_1 (l : Launch) (Z : State) (a0 : Array Value) (n0 : Nat) (hw : ∀ d ∈ tables_1, d.before a0 Z = true) (hEL : EW Z a0 consts_1) (G1 : Int32) (O1 : Sta Z Z.heap "java/lang/String" "COMPACT_STRINGS" "Z" (.int G1)) (P1 : ¬ (G1 = (0 : Int32))) (O_as : Sta Z Z.heap "java/lang/StringUTF16" "$assertionsDisabled" "Z" (.int (1 : Int32))) (O_hi : Sta Z Z.heap "java/lang/StringUTF16" "HI_BYTE_SHIFT" "I" (.int (0 : Int32))) (O_lo : Sta Z Z.heap "java/lang/StringUTF16" "LO_BYTE_SHIFT" "I" (.int (8 : Int32))) (ro : Addr) (O_ro : Sta Z Z.heap "com/example/rolebind/rolebind/Decision$Reason" "ROLE" "Lcom/example/rolebind/rolebind/Decision$Reason;" (.ref ro))  (h0 : Heap) (hO : Old Z n0 h0)  :
    Con l Z consts_1 n0 (⟨"java/lang/StringUTF16", "newBytesFor", "(I)[B"⟩ : MethodName) jdk_52_method_2_code 1 (some (.array .byte)) ({ frames := 1, cells := 1, slots := 2, locals := 12 } : Room) #[(.int (1 : Int32))] h0 [] (fun v h V' => ∃ (t : Addr) (kt : ClassId), v = some (.ref t) ∧ Arv Z h t kt .byte (2 : Int32) [(.int (0 : Int32)), (.int (0 : Int32))] (.int (0 : Int32)) ∧ h0.size ≤ t ∧ Safe Z consts_1 V' h t) [] := by
  refine Con.of (a0 := a0) pf6 (fun m => ef_nbf_1 m ) all0 hO hEL ?_
  intro p e s m below meth c S0 hnm hsf W
  replace W := W.iloadN (pc' := 1) djdk_52_2_0 rfl rfl
  obtain ⟨V1, h1, r1, W1, K1, hQ1, SF1⟩ := W.callS (pc' := 4) (argsL := [(.int (1 : Int32))]) (rest := []) (Wd := 0) (cells' := 0) (slots' := 0) (y := (⟨"java/lang/StringUTF16", "newBytesLength", "(I)I"⟩ : MethodName)) djdk_52_2_1 (nbl_1 l Z a0 n0 hw hEL G1 O1 P1 O_as O_hi O_lo ro O_ro h0 W.old) (tw102 hw) (tw103 hw) (tw88 hw) (tw104 hw) (by decide) (lenOf pd4 rfl) rfl rfl (by decide) (by decide) rfl sf0 all0 rfl rfl rfl (by decide) (by decide)
  clear W
  obtain ⟨rfl, hs1⟩ := hQ1
  subst hs1
  replace W1 := W1.cast (st' := [(.int (2 : Int32))]) rfl
  obtain ⟨h2, a2, W2, E2, g2, ⟨k2, A2⟩, sf2, SF2⟩ := W1.newarr (pc' := 6) (cap := 2) (cells' := 1) (slots' := 2) djdk_52_2_4 (tw16 hw) (by decide) (by decide) (by decide) rfl rfl rfl (by decide) (by decide)
  clear W1
  rw [← g2] at A2
  have z2 : h0.size ≤ h2.size := E2.1
  have v2 : Arv Z h2 a2 k2 .byte (2 : Int32) [(.int (0 : Int32)), (.int (0 : Int32))] (.int (0 : Int32)) := A2.pad (pad_rep [] (.int (0 : Int32)) 2)
  exact W2.aret (t := (.array .byte)) djdk_52_2_6 rfl rfl rfl rfl (by decide) (by decide) (fun V' cv => ⟨a2, k2, rfl, v2, (Nat.le_of_eq g2.symm), (cv a2 v2.lt sf2)⟩)
theorem ef_putc_1_0 (m : MethodId) (ba : Addr) (kb : ClassId) (cz : Int32) (u0 : Int32) (u1 : Int32) : entryFrame m #[(.ref ba), (.int (0 : Int32)), (.int cz)] 3 = mkF m 0 #[.val (.ref ba), .val (.int (0 : Int32)), .val (.int cz)] [] := by first | (simp [entryFrame, mkF, argsToLocals, Value.category]; done) | rfl
set_option maxRecDepth 65536 in
set_option maxHeartbeats 40000000 in
theorem putc_1_0 (l : Launch) (Z : State) (a0 : Array Value) (n0 : Nat) (hw : ∀ d ∈ tables_1, d.before a0 Z = true) (hEL : EW Z a0 consts_1) (G1 : Int32) (O1 : Sta Z Z.heap "java/lang/String" "COMPACT_STRINGS" "Z" (.int G1)) (P1 : ¬ (G1 = (0 : Int32))) (O_as : Sta Z Z.heap "java/lang/StringUTF16" "$assertionsDisabled" "Z" (.int (1 : Int32))) (O_hi : Sta Z Z.heap "java/lang/StringUTF16" "HI_BYTE_SHIFT" "I" (.int (0 : Int32))) (O_lo : Sta Z Z.heap "java/lang/StringUTF16" "LO_BYTE_SHIFT" "I" (.int (8 : Int32))) (ro : Addr) (O_ro : Sta Z Z.heap "com/example/rolebind/rolebind/Decision$Reason" "ROLE" "Lcom/example/rolebind/rolebind/Decision$Reason;" (.ref ro)) (ba : Addr) (kb : ClassId) (cz : Int32) (u0 : Int32) (u1 : Int32) (h0 : Heap) (hO : Old Z n0 h0) (V_ba : Arv Z h0 ba kb .byte (2 : Int32) [(.int u0), (.int u1)] (.int (0 : Int32))) (g_ba : n0 ≤ ba) :
    Con l Z consts_1 n0 (⟨"java/lang/StringUTF16", "putChar", "([BII)V"⟩ : MethodName) jdk_52_method_4_code 3 none ({ frames := 0, cells := 0, slots := 0, locals := 0 } : Room) #[(.ref ba), (.int (0 : Int32)), (.int cz)] h0 [ba] (fun v h V' => v = none ∧ Arv Z h ba kb .byte (2 : Int32) [(.int (cz.toInt8.toInt32)), (.int ((cz >>> ((8 : Int32) &&& 31)).toInt8.toInt32))] (.int (0 : Int32))) [] := by
  refine Con.of (a0 := a0) pf7 (fun m => ef_putc_1_0 m ba kb cz u0 u1) (allS g_ba all0) hO hEL ?_
  intro p e s m below meth c S0 hnm hsf W
  replace W := W.gets (pc' := 3) djdk_52_4_0 (tw109 hw) O_as rfl
  replace W := W.ifT (pc' := 28) djdk_52_4_3 (feq (by decide : ¬ ((1 : Int32) = (0 : Int32)))).2 (by decide) (by decide)
  replace W := W.iloadN (pc' := 29) djdk_52_4_28 rfl rfl
  replace W := W.iconst (pc' := 30) (v := (1 : Int32)) djdk_52_4_29 rfl rfl
  replace W := W.ishl (pc' := 31) (v := (0 : Int32)) djdk_52_4_30 (by decide) rfl
  replace W := W.istoreN (pc' := 32) (L' := #[.val (.ref ba), .val (.int (0 : Int32)), .val (.int cz)]) djdk_52_4_31 rfl rfl
  replace W := W.aloadN (pc' := 33) djdk_52_4_32 rfl rfl rfl
  replace W := W.iloadN (pc' := 34) djdk_52_4_33 rfl rfl
  replace W := W.iinc (pc' := 37) (v := (1 : Int32)) (L' := #[.val (.ref ba), .val (.int (1 : Int32)), .val (.int cz)]) djdk_52_4_34 rfl (by decide) rfl rfl
  replace W := W.iloadN (pc' := 38) djdk_52_4_37 rfl rfl
  replace W := W.gets (pc' := 41) djdk_52_4_38 (tw110 hw) O_hi rfl
  replace W := W.ishr (pc' := 42) (v := cz) djdk_52_4_41 (own_shr0 _) rfl
  replace W := W.i2b (pc' := 43) (v := (cz.toInt8.toInt32)) djdk_52_4_42 rfl rfl
  obtain ⟨h1, W1, w1, A1, SF1⟩ := W.bastore (pc' := 44) (i := 0) (x' := (cz.toInt8.toInt32)) djdk_52_4_43 V_ba ⟨by decide, by decide⟩ rfl (by show 0 < 2; decide) (own_narb _) (hsf _ (List.mem_of_getElem? (i := 0) rfl)) (Or.inl (List.mem_of_getElem? (i := 0) rfl)) rfl
  clear W
  have z1 : h0.size ≤ h1.size := Nat.le_of_eq w1.size.symm
  have v1 : Arv Z h1 ba kb .byte (2 : Int32) [(.int (cz.toInt8.toInt32)), (.int u1)] (.int (0 : Int32)) := A1
  replace W1 := W1.aloadN (pc' := 45) djdk_52_4_44 rfl rfl rfl
  replace W1 := W1.iloadN (pc' := 46) djdk_52_4_45 rfl rfl
  replace W1 := W1.iloadN (pc' := 47) djdk_52_4_46 rfl rfl
  replace W1 := W1.gets (pc' := 50) djdk_52_4_47 (tw111 hw) O_lo rfl
  replace W1 := W1.ishr (pc' := 51) (v := (cz >>> ((8 : Int32) &&& 31))) djdk_52_4_50 rfl rfl
  replace W1 := W1.i2b (pc' := 52) (v := ((cz >>> ((8 : Int32) &&& 31)).toInt8.toInt32)) djdk_52_4_51 rfl rfl
  have sf2 := (SF1 ba (hsf _ (List.mem_of_getElem? (i := 0) rfl)))
  obtain ⟨h3, W3, w3, A3, SF3⟩ := W1.bastore (pc' := 53) (i := 1) (x' := ((cz >>> ((8 : Int32) &&& 31)).toInt8.toInt32)) djdk_52_4_52 v1 ⟨by decide, by decide⟩ rfl (by show 1 < 2; decide) (own_narb _) sf2 (Or.inl (List.mem_of_getElem? (i := 0) rfl)) rfl
  clear W1
  have z3 : h1.size ≤ h3.size := Nat.le_of_eq w3.size.symm
  have v3 : Arv Z h3 ba kb .byte (2 : Int32) [(.int (cz.toInt8.toInt32)), (.int ((cz >>> ((8 : Int32) &&& 31)).toInt8.toInt32))] (.int (0 : Int32)) := A3
  exact W3.vret djdk_52_4_53 rfl (by decide) (by decide) (fun V' cv => ⟨rfl, v3⟩)
theorem ef_tob_1 (m : MethodId) (ca : Addr) (kc : ClassId) (c0 : Int32) : entryFrame m #[(.ref ca), (.int (0 : Int32)), (.int (1 : Int32))] 5 = mkF m 0 #[.val (.ref ca), .val (.int (0 : Int32)), .val (.int (1 : Int32)), .unset, .unset] [] := by first | (simp [entryFrame, mkF, argsToLocals, Value.category]; done) | rfl
set_option maxRecDepth 65536 in
set_option maxHeartbeats 40000000 in
theorem tob_1 (l : Launch) (Z : State) (a0 : Array Value) (n0 : Nat) (hw : ∀ d ∈ tables_1, d.before a0 Z = true) (hEL : EW Z a0 consts_1) (G1 : Int32) (O1 : Sta Z Z.heap "java/lang/String" "COMPACT_STRINGS" "Z" (.int G1)) (P1 : ¬ (G1 = (0 : Int32))) (O_as : Sta Z Z.heap "java/lang/StringUTF16" "$assertionsDisabled" "Z" (.int (1 : Int32))) (O_hi : Sta Z Z.heap "java/lang/StringUTF16" "HI_BYTE_SHIFT" "I" (.int (0 : Int32))) (O_lo : Sta Z Z.heap "java/lang/StringUTF16" "LO_BYTE_SHIFT" "I" (.int (8 : Int32))) (ro : Addr) (O_ro : Sta Z Z.heap "com/example/rolebind/rolebind/Decision$Reason" "ROLE" "Lcom/example/rolebind/rolebind/Decision$Reason;" (.ref ro)) (ca : Addr) (kc : ClassId) (c0 : Int32) (h0 : Heap) (hO : Old Z n0 h0) (V_ca : Arv Z h0 ca kc .char (1 : Int32) [(.int c0)] (.int (0 : Int32))) :
    Con l Z consts_1 n0 (⟨"java/lang/StringUTF16", "toBytes", "([CII)[B"⟩ : MethodName) jdk_52_method_14_code 5 (some (.array .byte)) ({ frames := 2, cells := 1, slots := 2, locals := 24 } : Room) #[(.ref ca), (.int (0 : Int32)), (.int (1 : Int32))] h0 [] (fun v h V' => ∃ (t : Addr) (kt : ClassId), v = some (.ref t) ∧ Arv Z h t kt .byte (2 : Int32) [(.int (c0.toInt8.toInt32)), (.int ((c0 >>> ((8 : Int32) &&& 31)).toInt8.toInt32))] (.int (0 : Int32)) ∧ h0.size ≤ t) [] := by
  refine Con.of (a0 := a0) pf8 (fun m => ef_tob_1 m ca kc c0) all0 hO hEL ?_
  intro p e s m below meth c S0 hnm hsf W
  replace W := W.iloadN (pc' := 1) djdk_52_14_0 rfl rfl
  obtain ⟨V1, h1, r1, W1, K1, hQ1, SF1⟩ := W.callS (pc' := 4) (argsL := [(.int (1 : Int32))]) (rest := []) (Wd := 0) (cells' := 1) (slots' := 2) (y := (⟨"java/lang/StringUTF16", "newBytesFor", "(I)[B"⟩ : MethodName)) djdk_52_14_1 (nbf_1 l Z a0 n0 hw hEL G1 O1 P1 O_as O_hi O_lo ro O_ro h0 W.old) (tw99 hw) (tw100 hw) (tw88 hw) (tw101 hw) (by decide) (lenOf pd5 rfl) rfl rfl (by decide) (by decide) rfl sf0 all0 rfl rfl rfl (by decide) (by decide)
  clear W
  obtain ⟨t1, kt1, rfl, q1_1, q1_2, q1_3⟩ := hQ1
  have z1 : h0.size ≤ h1.size := K1.1
  replace W1 := W1.cast (st' := [(.ref t1)]) rfl
  replace W1 := W1.astoreN (pc' := 5) (L' := #[.val (.ref ca), .val (.int (0 : Int32)), .val (.int (1 : Int32)), .val (.ref t1), .unset]) djdk_52_14_4 rfl rfl rfl
  replace W1 := W1.iconst (pc' := 6) (v := (0 : Int32)) djdk_52_14_5 rfl rfl
  replace W1 := W1.istore (pc' := 8) (L' := #[.val (.ref ca), .val (.int (0 : Int32)), .val (.int (1 : Int32)), .val (.ref t1), .val (.int (0 : Int32))]) djdk_52_14_6 rfl rfl
  replace W1 := W1.iload (pc' := 10) djdk_52_14_8 rfl rfl
  replace W1 := W1.iloadN (pc' := 11) djdk_52_14_10 rfl rfl
  replace W1 := W1.icmpF (pc' := 14) djdk_52_14_11 (tlt (by decide : (0 : Int32) < (1 : Int32))).2.1 rfl
  replace W1 := W1.aloadN (pc' := 15) djdk_52_14_14 rfl rfl rfl
  replace W1 := W1.iload (pc' := 17) djdk_52_14_15 rfl rfl
  replace W1 := W1.aloadN (pc' := 18) djdk_52_14_17 rfl rfl rfl
  replace W1 := W1.iloadN (pc' := 19) djdk_52_14_18 rfl rfl
  have v2 := (V_ca.keep K1 nin0)
  replace W1 := W1.caload (pc' := 20) (w := (.int c0)) djdk_52_14_19 v2 ⟨by decide, by decide⟩ rfl rfl
  obtain ⟨V3, h3, r3, W3, K3, hQ3, SF3⟩ := W1.callS (pc' := 23) (argsL := [(.ref t1), (.int (0 : Int32)), (.int c0)]) (rest := []) (Wd := 0) (cells' := 1) (slots' := 2) (y := (⟨"java/lang/StringUTF16", "putChar", "([BII)V"⟩ : MethodName)) djdk_52_14_20 (putc_1_0 l Z a0 n0 hw hEL G1 O1 P1 O_as O_hi O_lo ro O_ro t1 kt1 c0 (0 : Int32) (0 : Int32) h1 W1.old q1_1 (Nat.le_trans W1.1.2.2.2.2.2.2.2.1 q1_2)) (tw106 hw) (tw107 hw) (tw88 hw) (tw108 hw) (by decide) (lenOf pd6 rfl) rfl rfl (by decide) (by decide) rfl (sfS q1_3 sf0) (allS (Or.inr q1_2) all0) rfl rfl rfl (by decide) (by decide)
  clear W1
  obtain ⟨rfl, q3_1⟩ := hQ3
  have z3 : h1.size ≤ h3.size := K3.1
  replace W3 := W3.cast (st' := []) rfl
  replace W3 := W3.iinc (pc' := 26) (v := (1 : Int32)) (L' := #[.val (.ref ca), .val (.int (1 : Int32)), .val (.int (1 : Int32)), .val (.ref t1), .val (.int (0 : Int32))]) djdk_52_14_23 rfl (by decide) rfl rfl
  replace W3 := W3.iinc (pc' := 29) (v := (1 : Int32)) (L' := #[.val (.ref ca), .val (.int (1 : Int32)), .val (.int (1 : Int32)), .val (.ref t1), .val (.int (1 : Int32))]) djdk_52_14_26 rfl (by decide) rfl rfl
  replace W3 := W3.goto (pc' := 8) djdk_52_14_29 (by decide) (by decide)
  replace W3 := W3.iload (pc' := 10) djdk_52_14_8 rfl rfl
  replace W3 := W3.iloadN (pc' := 11) djdk_52_14_10 rfl rfl
  replace W3 := W3.icmpT (pc' := 32) djdk_52_14_11 (flt (by decide : ¬ ((1 : Int32) < (1 : Int32)))).2.1 (by decide) (by decide)
  replace W3 := W3.aloadN (pc' := 33) djdk_52_14_32 rfl rfl rfl
  exact W3.aret (t := (.array .byte)) djdk_52_14_33 rfl rfl rfl rfl (by decide) (by decide) (fun V' cv => ⟨t1, kt1, rfl, q3_1, q1_2⟩)
theorem ef_getc_1w0 (m : MethodId) (ba : Addr) (kb : ClassId) (cz : Int32) : entryFrame m #[(.ref ba), (.int (0 : Int32))] 2 = mkF m 0 #[.val (.ref ba), .val (.int (0 : Int32))] [] := by first | (simp [entryFrame, mkF, argsToLocals, Value.category]; done) | rfl
set_option maxRecDepth 65536 in
set_option maxHeartbeats 40000000 in
theorem getc_1w0 (l : Launch) (Z : State) (a0 : Array Value) (n0 : Nat) (hw : ∀ d ∈ tables_1, d.before a0 Z = true) (hEL : EW Z a0 consts_1) (G1 : Int32) (O1 : Sta Z Z.heap "java/lang/String" "COMPACT_STRINGS" "Z" (.int G1)) (P1 : ¬ (G1 = (0 : Int32))) (O_as : Sta Z Z.heap "java/lang/StringUTF16" "$assertionsDisabled" "Z" (.int (1 : Int32))) (O_hi : Sta Z Z.heap "java/lang/StringUTF16" "HI_BYTE_SHIFT" "I" (.int (0 : Int32))) (O_lo : Sta Z Z.heap "java/lang/StringUTF16" "LO_BYTE_SHIFT" "I" (.int (8 : Int32))) (ro : Addr) (O_ro : Sta Z Z.heap "com/example/rolebind/rolebind/Decision$Reason" "ROLE" "Lcom/example/rolebind/rolebind/Decision$Reason;" (.ref ro)) (ba : Addr) (kb : ClassId) (cz : Int32) (h0 : Heap) (hO : Old Z n0 h0) (V_ba : Arv Z h0 ba kb .byte (2 : Int32) [(.int (cz.toInt8.toInt32)), (.int ((cz >>> ((8 : Int32) &&& 31)).toInt8.toInt32))] (.int (0 : Int32))) (hq_cz : ¬ cz < 0 ∧ ¬ (65535 : Int32) < cz) :
    Con l Z consts_1 n0 (⟨"java/lang/StringUTF16", "getChar", "([BI)C"⟩ : MethodName) jdk_52_method_5_code 2 (some .char) ({ frames := 0, cells := 0, slots := 0, locals := 0 } : Room) #[(.ref ba), (.int (0 : Int32))] h0 [] (fun v h V' => v = some (.int cz) ∧ h0 = h) [] := by
  refine Con.of (a0 := a0) pf9 (fun m => ef_getc_1w0 m ba kb cz) all0 hO hEL ?_
  intro p e s m below meth c S0 hnm hsf W
  replace W := W.gets (pc' := 3) djdk_52_5_0 (tw109 hw) O_as rfl
  replace W := W.ifT (pc' := 28) djdk_52_5_3 (feq (by decide : ¬ ((1 : Int32) = (0 : Int32)))).2 (by decide) (by decide)
  replace W := W.iloadN (pc' := 29) djdk_52_5_28 rfl rfl
  replace W := W.iconst (pc' := 30) (v := (1 : Int32)) djdk_52_5_29 rfl rfl
  replace W := W.ishl (pc' := 31) (v := (0 : Int32)) djdk_52_5_30 (by decide) rfl
  replace W := W.istoreN (pc' := 32) (L' := #[.val (.ref ba), .val (.int (0 : Int32))]) djdk_52_5_31 rfl rfl
  replace W := W.aloadN (pc' := 33) djdk_52_5_32 rfl rfl rfl
  replace W := W.iloadN (pc' := 34) djdk_52_5_33 rfl rfl
  replace W := W.iinc (pc' := 37) (v := (1 : Int32)) (L' := #[.val (.ref ba), .val (.int (1 : Int32))]) djdk_52_5_34 rfl (by decide) rfl rfl
  replace W := W.baload (pc' := 38) (w := (.int (cz.toInt8.toInt32))) djdk_52_5_37 V_ba ⟨by decide, by decide⟩ rfl rfl
  replace W := W.sipush (pc' := 41) (v := (255 : Int32)) djdk_52_5_38 rfl rfl
  replace W := W.iand (pc' := 42) (v := ((cz.toInt8.toInt32) &&& (255 : Int32))) djdk_52_5_41 rfl rfl
  replace W := W.gets (pc' := 45) djdk_52_5_42 (tw110 hw) O_hi rfl
  replace W := W.ishl (pc' := 46) (v := (((cz.toInt8.toInt32) &&& (255 : Int32)) <<< ((0 : Int32) &&& 31))) djdk_52_5_45 rfl rfl
  replace W := W.aloadN (pc' := 47) djdk_52_5_46 rfl rfl rfl
  replace W := W.iloadN (pc' := 48) djdk_52_5_47 rfl rfl
  replace W := W.baload (pc' := 49) (w := (.int ((cz >>> ((8 : Int32) &&& 31)).toInt8.toInt32))) djdk_52_5_48 V_ba ⟨by decide, by decide⟩ rfl rfl
  replace W := W.sipush (pc' := 52) (v := (255 : Int32)) djdk_52_5_49 rfl rfl
  replace W := W.iand (pc' := 53) (v := (((cz >>> ((8 : Int32) &&& 31)).toInt8.toInt32) &&& (255 : Int32))) djdk_52_5_52 rfl rfl
  replace W := W.gets (pc' := 56) djdk_52_5_53 (tw111 hw) O_lo rfl
  replace W := W.ishl (pc' := 57) (v := ((((cz >>> ((8 : Int32) &&& 31)).toInt8.toInt32) &&& (255 : Int32)) <<< ((8 : Int32) &&& 31))) djdk_52_5_56 rfl rfl
  replace W := W.ior (pc' := 58) (v := ((((cz.toInt8.toInt32) &&& (255 : Int32)) <<< ((0 : Int32) &&& 31)) ||| ((((cz >>> ((8 : Int32) &&& 31)).toInt8.toInt32) &&& (255 : Int32)) <<< ((8 : Int32) &&& 31)))) djdk_52_5_57 rfl rfl
  replace W := W.i2c (pc' := 59) (v := cz) djdk_52_5_58 (own_pair hq_cz) rfl
  exact W.iret (t := .char) djdk_52_5_59 rfl (by simp) (own_narrow_char hq_cz) (by decide) (by decide) (fun V' cv => ⟨rfl, rfl⟩)
theorem ef_cmp5_1w0 (m : MethodId) (ca : Addr) (kc : ClassId) (ba : Addr) (kb : ClassId) (c0 : Int32) : entryFrame m #[(.ref ca), (.int (0 : Int32)), (.ref ba), (.int (0 : Int32)), (.int (1 : Int32))] 7 = mkF m 0 #[.val (.ref ca), .val (.int (0 : Int32)), .val (.ref ba), .val (.int (0 : Int32)), .val (.int (1 : Int32)), .unset, .unset] [] := by first | (simp [entryFrame, mkF, argsToLocals, Value.category]; done) | rfl
set_option maxRecDepth 65536 in
set_option maxHeartbeats 40000000 in
theorem cmp5_1w0 (l : Launch) (Z : State) (a0 : Array Value) (n0 : Nat) (hw : ∀ d ∈ tables_1, d.before a0 Z = true) (hEL : EW Z a0 consts_1) (G1 : Int32) (O1 : Sta Z Z.heap "java/lang/String" "COMPACT_STRINGS" "Z" (.int G1)) (P1 : ¬ (G1 = (0 : Int32))) (O_as : Sta Z Z.heap "java/lang/StringUTF16" "$assertionsDisabled" "Z" (.int (1 : Int32))) (O_hi : Sta Z Z.heap "java/lang/StringUTF16" "HI_BYTE_SHIFT" "I" (.int (0 : Int32))) (O_lo : Sta Z Z.heap "java/lang/StringUTF16" "LO_BYTE_SHIFT" "I" (.int (8 : Int32))) (ro : Addr) (O_ro : Sta Z Z.heap "com/example/rolebind/rolebind/Decision$Reason" "ROLE" "Lcom/example/rolebind/rolebind/Decision$Reason;" (.ref ro)) (ca : Addr) (kc : ClassId) (ba : Addr) (kb : ClassId) (c0 : Int32) (h0 : Heap) (hO : Old Z n0 h0) (V_ca : Arv Z h0 ca kc .char (1 : Int32) [(.int c0)] (.int (0 : Int32))) (V_ba : Arv Z h0 ba kb .byte (1 : Int32) [(.int (0 : Int32))] (.int (0 : Int32))) (N_ca_ba : ca ≠ ba) (gt_c0 : (255 : Int32) < c0) (g_ba : n0 ≤ ba) :
    Con l Z consts_1 n0 (⟨"java/lang/StringUTF16", "compress", "([CI[BII)I"⟩ : MethodName) jdk_52_method_21_code 7 (some .int) ({ frames := 0, cells := 0, slots := 0, locals := 0 } : Room) #[(.ref ca), (.int (0 : Int32)), (.ref ba), (.int (0 : Int32)), (.int (1 : Int32))] h0 [ba] (fun v h V' => v = some (.int (0 : Int32)) ∧ Arv Z h ba kb .byte (1 : Int32) [(.int (0 : Int32))] (.int (0 : Int32))) [] := by
  refine Con.of (a0 := a0) pf2 (fun m => ef_cmp5_1w0 m ca kc ba kb c0) (allS g_ba all0) hO hEL ?_
  intro p e s m below meth c S0 hnm hsf W
  replace W := W.iconst (pc' := 1) (v := (0 : Int32)) djdk_52_21_0 rfl rfl
  replace W := W.istore (pc' := 3) (L' := #[.val (.ref ca), .val (.int (0 : Int32)), .val (.ref ba), .val (.int (0 : Int32)), .val (.int (1 : Int32)), .val (.int (0 : Int32)), .unset]) djdk_52_21_1 rfl rfl
  replace W := W.iload (pc' := 5) djdk_52_21_3 rfl rfl
  replace W := W.iload (pc' := 7) djdk_52_21_5 rfl rfl
  replace W := W.icmpF (pc' := 10) djdk_52_21_7 (tlt (by decide : (0 : Int32) < (1 : Int32))).2.1 rfl
  replace W := W.aloadN (pc' := 11) djdk_52_21_10 rfl rfl rfl
  replace W := W.iloadN (pc' := 12) djdk_52_21_11 rfl rfl
  replace W := W.caload (pc' := 13) (w := (.int c0)) djdk_52_21_12 V_ca ⟨by decide, by decide⟩ rfl rfl
  replace W := W.istore (pc' := 15) (L' := #[.val (.ref ca), .val (.int (0 : Int32)), .val (.ref ba), .val (.int (0 : Int32)), .val (.int (1 : Int32)), .val (.int (0 : Int32)), .val (.int c0)]) djdk_52_21_13 rfl rfl
  replace W := W.iload (pc' := 17) djdk_52_21_15 rfl rfl
  replace W := W.sipush (pc' := 20) (v := (255 : Int32)) djdk_52_21_17 rfl rfl
  replace W := W.icmpF (pc' := 23) djdk_52_21_20 (tlt gt_c0).2.2.2 rfl
  replace W := W.iload (pc' := 25) djdk_52_21_23 rfl rfl
  exact W.iret (t := .int) djdk_52_21_25 rfl (by simp) rfl (by decide) (by decide) (fun V' cv => ⟨rfl, V_ba⟩)
theorem ef_cmp3_1w0 (m : MethodId) (ca : Addr) (kc : ClassId) (c0 : Int32) : entryFrame m #[(.ref ca), (.int (0 : Int32)), (.int (1 : Int32))] 6 = mkF m 0 #[.val (.ref ca), .val (.int (0 : Int32)), .val (.int (1 : Int32)), .unset, .unset, .unset] [] := by first | (simp [entryFrame, mkF, argsToLocals, Value.category]; done) | rfl
set_option maxRecDepth 65536 in
set_option maxHeartbeats 40000000 in
theorem cmp3_1w0 (l : Launch) (Z : State) (a0 : Array Value) (n0 : Nat) (hw : ∀ d ∈ tables_1, d.before a0 Z = true) (hEL : EW Z a0 consts_1) (G1 : Int32) (O1 : Sta Z Z.heap "java/lang/String" "COMPACT_STRINGS" "Z" (.int G1)) (P1 : ¬ (G1 = (0 : Int32))) (O_as : Sta Z Z.heap "java/lang/StringUTF16" "$assertionsDisabled" "Z" (.int (1 : Int32))) (O_hi : Sta Z Z.heap "java/lang/StringUTF16" "HI_BYTE_SHIFT" "I" (.int (0 : Int32))) (O_lo : Sta Z Z.heap "java/lang/StringUTF16" "LO_BYTE_SHIFT" "I" (.int (8 : Int32))) (ro : Addr) (O_ro : Sta Z Z.heap "com/example/rolebind/rolebind/Decision$Reason" "ROLE" "Lcom/example/rolebind/rolebind/Decision$Reason;" (.ref ro)) (ca : Addr) (kc : ClassId) (c0 : Int32) (h0 : Heap) (hO : Old Z n0 h0) (V_ca : Arv Z h0 ca kc .char (1 : Int32) [(.int c0)] (.int (0 : Int32))) (hq_c0 : ¬ c0 < 0 ∧ ¬ (65535 : Int32) < c0) (gt_c0 : (255 : Int32) < c0) :
    Con l Z consts_1 n0 (⟨"java/lang/StringUTF16", "compress", "([CII)[B"⟩ : MethodName) jdk_52_method_16_code 6 (some (.array .byte)) ({ frames := 3, cells := 2, slots := 3, locals := 40 } : Room) #[(.ref ca), (.int (0 : Int32)), (.int (1 : Int32))] h0 [] (fun v h V' => ∃ (t : Addr) (kt : ClassId), v = some (.ref t) ∧ Arv Z h t kt .byte (2 : Int32) [(.int (c0.toInt8.toInt32)), (.int ((c0 >>> ((8 : Int32) &&& 31)).toInt8.toInt32))] (.int (0 : Int32)) ∧ h0.size ≤ t) [] := by
  refine Con.of (a0 := a0) pf3 (fun m => ef_cmp3_1w0 m ca kc c0) all0 hO hEL ?_
  intro p e s m below meth c S0 hnm hsf W
  replace W := W.iloadN (pc' := 1) djdk_52_16_0 rfl rfl
  obtain ⟨h1, a1, W1, E1, g1, ⟨k1, A1⟩, sf1, SF1⟩ := W.newarr (pc' := 3) (cap := 1) (cells' := 1) (slots' := 1) djdk_52_16_1 (tw16 hw) (by decide) (by decide) (by decide) rfl rfl rfl (by decide) (by decide)
  clear W
  rw [← g1] at A1
  have z1 : h0.size ≤ h1.size := E1.1
  have v1 : Arv Z h1 a1 k1 .byte (1 : Int32) [(.int (0 : Int32))] (.int (0 : Int32)) := A1.pad (pad_rep [] (.int (0 : Int32)) 1)
  replace W1 := W1.astoreN (pc' := 4) (L' := #[.val (.ref ca), .val (.int (0 : Int32)), .val (.int (1 : Int32)), .val (.ref a1), .unset, .unset]) djdk_52_16_3 rfl rfl rfl
  replace W1 := W1.aloadN (pc' := 5) djdk_52_16_4 rfl rfl rfl
  replace W1 := W1.iloadN (pc' := 6) djdk_52_16_5 rfl rfl
  replace W1 := W1.aloadN (pc' := 7) djdk_52_16_6 rfl rfl rfl
  replace W1 := W1.iconst (pc' := 8) (v := (0 : Int32)) djdk_52_16_7 rfl rfl
  replace W1 := W1.iloadN (pc' := 9) djdk_52_16_8 rfl rfl
  have v2 := (V_ca.ext E1)
  obtain ⟨V3, h3, r3, W3, K3, hQ3, SF3⟩ := W1.callS (pc' := 12) (argsL := [(.ref ca), (.int (0 : Int32)), (.ref a1), (.int (0 : Int32)), (.int (1 : Int32))]) (rest := []) (Wd := 0) (cells' := 1) (slots' := 1) (y := (⟨"java/lang/StringUTF16", "compress", "([CI[BII)I"⟩ : MethodName)) djdk_52_16_9 (cmp5_1w0 l Z a0 n0 hw hEL G1 O1 P1 O_as O_hi O_lo ro O_ro ca kc a1 k1 c0 h1 W1.old v2 v1 (Nat.ne_of_lt (Nat.lt_of_lt_of_le V_ca.lt (Nat.le_of_eq g1.symm))) gt_c0 (Nat.le_trans W1.1.2.2.2.2.2.2.2.1 (Nat.le_of_eq g1.symm))) (tw90 hw) (tw91 hw) (tw88 hw) (tw92 hw) (by decide) (lenOf pd1 rfl) rfl rfl (by decide) (by decide) rfl (sfS sf1 sf0) (allS (Or.inr (Nat.le_of_eq g1.symm)) all0) rfl rfl rfl (by decide) (by decide)
  clear W1
  obtain ⟨rfl, q3_1⟩ := hQ3
  have z3 : h1.size ≤ h3.size := K3.1
  replace W3 := W3.cast (st' := [(.int (0 : Int32))]) rfl
  replace W3 := W3.istore (pc' := 14) (L' := #[.val (.ref ca), .val (.int (0 : Int32)), .val (.int (1 : Int32)), .val (.ref a1), .val (.int (0 : Int32)), .unset]) djdk_52_16_12 rfl rfl
  replace W3 := W3.iload (pc' := 16) djdk_52_16_14 rfl rfl
  replace W3 := W3.iloadN (pc' := 17) djdk_52_16_16 rfl rfl
  replace W3 := W3.icmpF (pc' := 20) djdk_52_16_17 (feq (by decide : ¬ ((0 : Int32) = (1 : Int32)))).1 rfl
  replace W3 := W3.aloadN (pc' := 21) djdk_52_16_20 rfl rfl rfl
  replace W3 := W3.iloadN (pc' := 22) djdk_52_16_21 rfl rfl
  replace W3 := W3.iloadN (pc' := 23) djdk_52_16_22 rfl rfl
  have v4 := (v2.keep K3 (ninS (Nat.ne_of_lt (Nat.lt_of_lt_of_le V_ca.lt (Nat.le_of_eq g1.symm))) nin0))
  obtain ⟨V5, h5, r5, W5, K5, hQ5, SF5⟩ := W3.callS (pc' := 26) (argsL := [(.ref ca), (.int (0 : Int32)), (.int (1 : Int32))]) (rest := []) (Wd := 0) (cells' := 2) (slots' := 3) (y := (⟨"java/lang/StringUTF16", "toBytes", "([CII)[B"⟩ : MethodName)) djdk_52_16_23 (tob_1 l Z a0 n0 hw hEL G1 O1 P1 O_as O_hi O_lo ro O_ro ca kc c0 h3 W3.old v4) (tw96 hw) (tw97 hw) (tw88 hw) (tw98 hw) (by decide) (lenOf pd2 rfl) rfl rfl (by decide) (by decide) rfl sf0 all0 rfl rfl rfl (by decide) (by decide)
  clear W3
  obtain ⟨t5, kt5, rfl, q5_1, q5_2⟩ := hQ5
  have z5 : h3.size ≤ h5.size := K5.1
  replace W5 := W5.cast (st' := [(.ref t5)]) rfl
  replace W5 := W5.astore (pc' := 28) (L' := #[.val (.ref ca), .val (.int (0 : Int32)), .val (.int (1 : Int32)), .val (.ref a1), .val (.int (0 : Int32)), .val (.ref t5)]) djdk_52_16_26 rfl rfl rfl
  replace W5 := W5.aload (pc' := 30) djdk_52_16_28 rfl rfl rfl
  replace W5 := W5.iload (pc' := 32) djdk_52_16_30 rfl rfl
  obtain ⟨V6, h6, r6, W6, K6, hQ6, SF6⟩ := W5.callS (pc' := 35) (argsL := [(.ref t5), (.int (0 : Int32))]) (rest := []) (Wd := 0) (cells' := 2) (slots' := 3) (y := (⟨"java/lang/StringUTF16", "getChar", "([BI)C"⟩ : MethodName)) djdk_52_16_32 (getc_1w0 l Z a0 n0 hw hEL G1 O1 P1 O_as O_hi O_lo ro O_ro t5 kt5 c0 h5 W5.old q5_1 hq_c0) (tw112 hw) (tw113 hw) (tw88 hw) (tw114 hw) (by decide) (lenOf pd7 rfl) rfl rfl (by decide) (by decide) rfl sf0 all0 rfl rfl rfl (by decide) (by decide)
  clear W5
  obtain ⟨rfl, hs6⟩ := hQ6
  subst hs6
  have sf7 := (SF5 a1 q3_1.lt (SF3 a1 v1.lt sf1))
  have sf8 := SF6 a1 (Nat.lt_of_lt_of_le q3_1.lt z5) sf7
  replace W6 := W6.cast (st' := [(.int c0)]) rfl
  replace W6 := W6.sipush (pc' := 38) (v := (255 : Int32)) djdk_52_16_35 rfl rfl
  replace W6 := W6.icmpT (pc' := 54) djdk_52_16_38 (tlt gt_c0).2.2.1 (by decide) (by decide)
  replace W6 := W6.aload (pc' := 56) djdk_52_16_54 rfl rfl rfl
  exact W6.aret (t := (.array .byte)) djdk_52_16_56 rfl rfl rfl rfl (by decide) (by decide) (fun V' cv => ⟨t5, kt5, rfl, q5_1, (Nat.le_trans (Nat.le_trans z1 z3) q5_2)⟩)
theorem ef_codlw_1 (m : MethodId) (ta : Addr) (kt : ClassId) (vt : List Value) : entryFrame m #[(.ref ta), (.int (1 : Int32))] 2 = mkF m 0 #[.val (.ref ta), .val (.int (1 : Int32))] [] := by first | (simp [entryFrame, mkF, argsToLocals, Value.category]; done) | rfl
set_option maxRecDepth 65536 in
set_option maxHeartbeats 40000000 in
theorem codlw_1 (l : Launch) (Z : State) (a0 : Array Value) (n0 : Nat) (hw : ∀ d ∈ tables_1, d.before a0 Z = true) (hEL : EW Z a0 consts_1) (G1 : Int32) (O1 : Sta Z Z.heap "java/lang/String" "COMPACT_STRINGS" "Z" (.int G1)) (P1 : ¬ (G1 = (0 : Int32))) (O_as : Sta Z Z.heap "java/lang/StringUTF16" "$assertionsDisabled" "Z" (.int (1 : Int32))) (O_hi : Sta Z Z.heap "java/lang/StringUTF16" "HI_BYTE_SHIFT" "I" (.int (0 : Int32))) (O_lo : Sta Z Z.heap "java/lang/StringUTF16" "LO_BYTE_SHIFT" "I" (.int (8 : Int32))) (ro : Addr) (O_ro : Sta Z Z.heap "com/example/rolebind/rolebind/Decision$Reason" "ROLE" "Lcom/example/rolebind/rolebind/Decision$Reason;" (.ref ro)) (ta : Addr) (kt : ClassId) (vt : List Value) (h0 : Heap) (hO : Old Z n0 h0) (V_ta : Arv Z h0 ta kt .byte (2 : Int32) vt (.int (0 : Int32))) :
    Con l Z consts_1 n0 (⟨"java/lang/StringUTF16", "coderFromArrayLen", "([BI)B"⟩ : MethodName) jdk_52_method_15_code 2 (some .byte) ({ frames := 0, cells := 0, slots := 0, locals := 0 } : Room) #[(.ref ta), (.int (1 : Int32))] h0 [] (fun v h V' => v = some (.int (1 : Int32)) ∧ h0 = h) [] := by
  refine Con.of (a0 := a0) pf4 (fun m => ef_codlw_1 m ta kt vt) all0 hO hEL ?_
  intro p e s m below meth c S0 hnm hsf W
  replace W := W.iloadN (pc' := 1) djdk_52_15_0 rfl rfl
  replace W := W.aloadN (pc' := 2) djdk_52_15_1 rfl rfl rfl
  replace W := W.alen (pc' := 3) djdk_52_15_2 V_ta rfl
  replace W := W.isub (pc' := 4) (v := (-1 : Int32)) djdk_52_15_3 (by decide) rfl
  replace W := W.bipush (pc' := 6) (v := (31 : Int32)) djdk_52_15_4 rfl rfl
  replace W := W.iushr (pc' := 7) (v := (1 : Int32)) djdk_52_15_6 (by decide) rfl
  replace W := W.i2b (pc' := 8) (v := (1 : Int32)) djdk_52_15_7 (by decide) rfl
  exact W.iret (t := .byte) djdk_52_15_8 rfl (by simp) (by decide) (by decide) (by decide) (fun V' cv => ⟨rfl, rfl⟩)
theorem ef_new4_1w0 (m : MethodId) (xa : Addr) (ca : Addr) (kc : ClassId) (c0 : Int32) : entryFrame m #[(.ref xa), (.ref ca), (.int (0 : Int32)), (.int (1 : Int32)), .null] 6 = mkF m 0 #[.val (.ref xa), .val (.ref ca), .val (.int (0 : Int32)), .val (.int (1 : Int32)), .val .null, .unset] [] := by first | (simp [entryFrame, mkF, argsToLocals, Value.category]; done) | rfl
set_option maxRecDepth 65536 in
set_option maxHeartbeats 40000000 in
theorem new4_1w0 (l : Launch) (Z : State) (a0 : Array Value) (n0 : Nat) (hw : ∀ d ∈ tables_1, d.before a0 Z = true) (hEL : EW Z a0 consts_1) (G1 : Int32) (O1 : Sta Z Z.heap "java/lang/String" "COMPACT_STRINGS" "Z" (.int G1)) (P1 : ¬ (G1 = (0 : Int32))) (O_as : Sta Z Z.heap "java/lang/StringUTF16" "$assertionsDisabled" "Z" (.int (1 : Int32))) (O_hi : Sta Z Z.heap "java/lang/StringUTF16" "HI_BYTE_SHIFT" "I" (.int (0 : Int32))) (O_lo : Sta Z Z.heap "java/lang/StringUTF16" "LO_BYTE_SHIFT" "I" (.int (8 : Int32))) (ro : Addr) (O_ro : Sta Z Z.heap "com/example/rolebind/rolebind/Decision$Reason" "ROLE" "Lcom/example/rolebind/rolebind/Decision$Reason;" (.ref ro)) (xa : Addr) (ca : Addr) (kc : ClassId) (c0 : Int32) (h0 : Heap) (hO : Old Z n0 h0) (E_xa : Exa Z h0 xa "java/lang/String") (F_xa_value : Fld Z h0 xa "java/lang/String" "value" "[B" .null) (F_xa_coder : Fld Z h0 xa "java/lang/String" "coder" "B" (.int (0 : Int32))) (V_ca : Arv Z h0 ca kc .char (1 : Int32) [(.int c0)] (.int (0 : Int32))) (hq_c0 : ¬ c0 < 0 ∧ ¬ (65535 : Int32) < c0) (gt_c0 : (255 : Int32) < c0) (g_xa : n0 ≤ xa) :
    Con l Z consts_1 n0 (⟨"java/lang/String", "<init>", "([CIILjava/lang/Void;)V"⟩ : MethodName) jdk_42_method_149_code 6 none ({ frames := 4, cells := 2, slots := 3, locals := 57 } : Room) #[(.ref xa), (.ref ca), (.int (0 : Int32)), (.int (1 : Int32)), .null] h0 [xa] (fun v h V' => ∃ (t : Addr) (kt : ClassId), v = none ∧ Exa Z h xa "java/lang/String" ∧ Fld Z h xa "java/lang/String" "coder" "B" (.int (1 : Int32)) ∧ Fld Z h xa "java/lang/String" "value" "[B" (.ref t) ∧ Arv Z h t kt .byte (2 : Int32) [(.int (c0.toInt8.toInt32)), (.int ((c0 >>> ((8 : Int32) &&& 31)).toInt8.toInt32))] (.int (0 : Int32))) [] := by
  refine Con.of (a0 := a0) pf0 (fun m => ef_new4_1w0 m xa ca kc c0) (allS g_xa all0) hO hEL ?_
  intro p e s m below meth c S0 hnm hsf W
  replace W := W.aloadN (pc' := 1) djdk_42_149_0 rfl rfl rfl
  replace W := W.initO (pc' := 4) (Wd := 0) djdk_42_149_1 (tw12 hw) (tw13 hw) (tw14 hw) rfl rfl (by decide) (by decide) rfl
  replace W := W.iloadN (pc' := 5) djdk_42_149_4 rfl rfl
  replace W := W.ifT (pc' := 27) djdk_42_149_5 (feq (by decide : ¬ ((1 : Int32) = (0 : Int32)))).2 (by decide) (by decide)
  replace W := W.gets (pc' := 30) djdk_42_149_27 (tw85 hw) O1 rfl
  replace W := W.ifF (pc' := 33) djdk_42_149_30 (feq P1).1 rfl
  replace W := W.aloadN (pc' := 34) djdk_42_149_33 rfl rfl rfl
  replace W := W.iloadN (pc' := 35) djdk_42_149_34 rfl rfl
  replace W := W.iloadN (pc' := 36) djdk_42_149_35 rfl rfl
  obtain ⟨V1, h1, r1, W1, K1, hQ1, SF1⟩ := W.callS (pc' := 39) (argsL := [(.ref ca), (.int (0 : Int32)), (.int (1 : Int32))]) (rest := []) (Wd := 0) (cells' := 2) (slots' := 3) (y := (⟨"java/lang/StringUTF16", "compress", "([CII)[B"⟩ : MethodName)) djdk_42_149_36 (cmp3_1w0 l Z a0 n0 hw hEL G1 O1 P1 O_as O_hi O_lo ro O_ro ca kc c0 h0 W.old V_ca hq_c0 gt_c0) (tw86 hw) (tw87 hw) (tw88 hw) (tw89 hw) (by decide) (lenOf pd2 rfl) rfl rfl (by decide) (by decide) rfl sf0 all0 rfl rfl rfl (by decide) (by decide)
  clear W
  obtain ⟨t1, kt1, rfl, q1_1, q1_2⟩ := hQ1
  have z1 : h0.size ≤ h1.size := K1.1
  replace W1 := W1.cast (st' := [(.ref t1)]) rfl
  replace W1 := W1.astore (pc' := 41) (L' := #[.val (.ref xa), .val (.ref ca), .val (.int (0 : Int32)), .val (.int (1 : Int32)), .val .null, .val (.ref t1)]) djdk_42_149_39 rfl rfl rfl
  replace W1 := W1.aloadN (pc' := 42) djdk_42_149_41 rfl rfl rfl
  replace W1 := W1.aload (pc' := 44) djdk_42_149_42 rfl rfl rfl
  replace W1 := W1.iloadN (pc' := 45) djdk_42_149_44 rfl rfl
  obtain ⟨V2, h2, r2, W2, K2, hQ2, SF2⟩ := W1.callS (pc' := 48) (argsL := [(.ref t1), (.int (1 : Int32))]) (rest := [(.ref xa)]) (Wd := 1) (cells' := 2) (slots' := 3) (y := (⟨"java/lang/StringUTF16", "coderFromArrayLen", "([BI)B"⟩ : MethodName)) djdk_42_149_45 (codlw_1 l Z a0 n0 hw hEL G1 O1 P1 O_as O_hi O_lo ro O_ro t1 kt1 ([(.int (c0.toInt8.toInt32)), (.int ((c0 >>> ((8 : Int32) &&& 31)).toInt8.toInt32))]) h1 W1.old q1_1) (tw93 hw) (tw94 hw) (tw88 hw) (tw95 hw) (by decide) (lenOf pd3 rfl) rfl rfl (by decide) (by decide) rfl sf0 all0 rfl rfl rfl (by decide) (by decide)
  clear W1
  obtain ⟨rfl, hs2⟩ := hQ2
  subst hs2
  have sf3 := (SF1 xa E_xa.lt (hsf _ (List.mem_of_getElem? (i := 0) rfl)))
  have sf4 := SF2 xa (Nat.lt_of_lt_of_le E_xa.lt z1) sf3
  replace W2 := W2.cast (st' := [(.int (1 : Int32)), (.ref xa)]) rfl
  have f5 := (F_xa_coder.keep K1 nin0)
  have e6 := (E_xa.keep K1)
  obtain ⟨h7, W7, w7, SF7⟩ := W2.putf (pc' := 51) (ty := .byte) djdk_42_149_48 (tw22 hw) Via.refl f5 e6 (Or.inr ⟨(tw18 hw), rfl, hnm⟩) (tw3 hw) (by decide) rfl rfl sf4 (Or.inl (List.mem_of_getElem? (i := 0) rfl)) rfl
  clear W2
  have z7 : h1.size ≤ h7.size := Nat.le_of_eq w7.size.symm
  have f7 := f5.same w7
  replace W7 := W7.aloadN (pc' := 52) djdk_42_149_51 rfl rfl rfl
  replace W7 := W7.aload (pc' := 54) djdk_42_149_52 rfl rfl rfl
  have f8 := ((F_xa_value.keep K1 nin0).other w7 (Or.inr (slot_ne (C := "java/lang/String") (Or.inr (tw17 hw)) (Or.inr (tw18 hw)) (by decide) (t := (.array .byte)) (t' := .byte) (by decide) (by decide))))
  have e9 := (e6.wr w7)
  have sf10 := (SF7 xa sf4)
  obtain ⟨h11, W11, w11, SF11⟩ := W7.putf (pc' := 57) (ty := (.array .byte)) djdk_42_149_54 (tw21 hw) Via.refl f8 e9 (Or.inr ⟨(tw17 hw), rfl, hnm⟩) (tw3 hw) (by decide) rfl rfl sf10 (Or.inl (List.mem_of_getElem? (i := 0) rfl)) rfl
  clear W7
  have z11 : h7.size ≤ h11.size := Nat.le_of_eq w11.size.symm
  have f11 := f8.same w11
  have e12 := (e9.wr w11)
  have f13 := (f7.other w11 (Or.inr (slot_ne (C := "java/lang/String") (Or.inr (tw18 hw)) (Or.inr (tw17 hw)) (by decide) (t := .byte) (t' := (.array .byte)) (by decide) (by decide))))
  have v14 := ((q1_1.other w7 (Nat.ne_of_gt (Nat.lt_of_lt_of_le E_xa.lt q1_2))).other w11 (Nat.ne_of_gt (Nat.lt_of_lt_of_le E_xa.lt q1_2)))
  exact W11.vret djdk_42_149_57 rfl (by decide) (by decide) (fun V' cv => ⟨t1, kt1, rfl, e12, f13, f11, v14⟩)
theorem ef_new1_1w0 (m : MethodId) (xa : Addr) (ca : Addr) (kc : ClassId) (c0 : Int32) : entryFrame m #[(.ref xa), (.ref ca)] 2 = mkF m 0 #[.val (.ref xa), .val (.ref ca)] [] := by first | (simp [entryFrame, mkF, argsToLocals, Value.category]; done) | rfl
set_option maxRecDepth 65536 in
set_option maxHeartbeats 40000000 in
theorem new1_1w0 (l : Launch) (Z : State) (a0 : Array Value) (n0 : Nat) (hw : ∀ d ∈ tables_1, d.before a0 Z = true) (hEL : EW Z a0 consts_1) (G1 : Int32) (O1 : Sta Z Z.heap "java/lang/String" "COMPACT_STRINGS" "Z" (.int G1)) (P1 : ¬ (G1 = (0 : Int32))) (O_as : Sta Z Z.heap "java/lang/StringUTF16" "$assertionsDisabled" "Z" (.int (1 : Int32))) (O_hi : Sta Z Z.heap "java/lang/StringUTF16" "HI_BYTE_SHIFT" "I" (.int (0 : Int32))) (O_lo : Sta Z Z.heap "java/lang/StringUTF16" "LO_BYTE_SHIFT" "I" (.int (8 : Int32))) (ro : Addr) (O_ro : Sta Z Z.heap "com/example/rolebind/rolebind/Decision$Reason" "ROLE" "Lcom/example/rolebind/rolebind/Decision$Reason;" (.ref ro)) (xa : Addr) (ca : Addr) (kc : ClassId) (c0 : Int32) (h0 : Heap) (hO : Old Z n0 h0) (E_xa : Exa Z h0 xa "java/lang/String") (F_xa_value : Fld Z h0 xa "java/lang/String" "value" "[B" .null) (F_xa_coder : Fld Z h0 xa "java/lang/String" "coder" "B" (.int (0 : Int32))) (V_ca : Arv Z h0 ca kc .char (1 : Int32) [(.int c0)] (.int (0 : Int32))) (hq_c0 : ¬ c0 < 0 ∧ ¬ (65535 : Int32) < c0) (gt_c0 : (255 : Int32) < c0) (g_xa : n0 ≤ xa) :
    Con l Z consts_1 n0 (⟨"java/lang/String", "<init>", "([C)V"⟩ : MethodName) jdk_42_method_3_code 2 none ({ frames := 5, cells := 2, slots := 3, locals := 74 } : Room) #[(.ref xa), (.ref ca)] h0 [xa] (fun v h V' => ∃ (t : Addr) (kt : ClassId), v = none ∧ Exa Z h xa "java/lang/String" ∧ Fld Z h xa "java/lang/String" "coder" "B" (.int (1 : Int32)) ∧ Fld Z h xa "java/lang/String" "value" "[B" (.ref t) ∧ Arv Z h t kt .byte (2 : Int32) [(.int (c0.toInt8.toInt32)), (.int ((c0 >>> ((8 : Int32) &&& 31)).toInt8.toInt32))] (.int (0 : Int32))) [] := by
  refine Con.of (a0 := a0) pf1 (fun m => ef_new1_1w0 m xa ca kc c0) (allS g_xa all0) hO hEL ?_
  intro p e s m below meth c S0 hnm hsf W
  replace W := W.aloadN (pc' := 1) djdk_42_3_0 rfl rfl rfl
  replace W := W.aloadN (pc' := 2) djdk_42_3_1 rfl rfl rfl
  replace W := W.iconst (pc' := 3) (v := (0 : Int32)) djdk_42_3_2 rfl rfl
  replace W := W.aloadN (pc' := 4) djdk_42_3_3 rfl rfl rfl
  replace W := W.alen (pc' := 5) djdk_42_3_4 V_ca rfl
  replace W := W.aconstNull (pc' := 6) djdk_42_3_5 rfl
  obtain ⟨V1, h1, r1, W1, K1, hQ1, SF1⟩ := W.callI (pc' := 9) (argsL := [(.ref ca), (.int (0 : Int32)), (.int (1 : Int32)), .null]) (rest := []) (Wd := 0) (cells' := 2) (slots' := 3) (a := xa) (y := (⟨"java/lang/String", "<init>", "([CIILjava/lang/Void;)V"⟩ : MethodName)) djdk_42_3_6 (new4_1w0 l Z a0 n0 hw hEL G1 O1 P1 O_as O_hi O_lo ro O_ro xa ca kc c0 h0 W.old E_xa F_xa_value F_xa_coder V_ca hq_c0 gt_c0 g_xa) rfl (tw8 hw) (tw9 hw) (tw4 hw) (tw11 hw) (by decide) (lenOf pd0 rfl) rfl rfl (by decide) (by decide) rfl (sfS (hsf _ (List.mem_of_getElem? (i := 0) rfl)) sf0) (allS (Or.inl (List.mem_of_getElem? (i := 0) rfl)) all0) rfl rfl rfl (by decide) (by decide)
  clear W
  obtain ⟨t1, kt1, rfl, q1_1, q1_2, q1_3, q1_4⟩ := hQ1
  have z1 : h0.size ≤ h1.size := K1.1
  replace W1 := W1.cast (st' := []) rfl
  exact W1.vret djdk_42_3_9 rfl (by decide) (by decide) (fun V' cv => ⟨t1, kt1, rfl, q1_1, q1_2, q1_3, q1_4⟩)
theorem ef_nbl_2 (m : MethodId)  : entryFrame m #[(.int (2 : Int32))] 1 = mkF m 0 #[.val (.int (2 : Int32))] [] := by first | (simp [entryFrame, mkF, argsToLocals, Value.category]; done) | rfl
set_option maxRecDepth 65536 in
set_option maxHeartbeats 40000000 in
theorem nbl_2 (l : Launch) (Z : State) (a0 : Array Value) (n0 : Nat) (hw : ∀ d ∈ tables_1, d.before a0 Z = true) (hEL : EW Z a0 consts_1) (G1 : Int32) (O1 : Sta Z Z.heap "java/lang/String" "COMPACT_STRINGS" "Z" (.int G1)) (P1 : ¬ (G1 = (0 : Int32))) (O_as : Sta Z Z.heap "java/lang/StringUTF16" "$assertionsDisabled" "Z" (.int (1 : Int32))) (O_hi : Sta Z Z.heap "java/lang/StringUTF16" "HI_BYTE_SHIFT" "I" (.int (0 : Int32))) (O_lo : Sta Z Z.heap "java/lang/StringUTF16" "LO_BYTE_SHIFT" "I" (.int (8 : Int32))) (ro : Addr) (O_ro : Sta Z Z.heap "com/example/rolebind/rolebind/Decision$Reason" "ROLE" "Lcom/example/rolebind/rolebind/Decision$Reason;" (.ref ro))  (h0 : Heap) (hO : Old Z n0 h0)  :
    Con l Z consts_1 n0 (⟨"java/lang/StringUTF16", "newBytesLength", "(I)I"⟩ : MethodName) jdk_52_method_3_code 1 (some .int) ({ frames := 0, cells := 0, slots := 0, locals := 0 } : Room) #[(.int (2 : Int32))] h0 [] (fun v h V' => v = some (.int (4 : Int32)) ∧ h0 = h) [] := by
  refine Con.of (a0 := a0) pf5 (fun m => ef_nbl_2 m ) all0 hO hEL ?_
  intro p e s m below meth c S0 hnm hsf W
  replace W := W.iloadN (pc' := 1) djdk_52_3_0 rfl rfl
  replace W := W.ifT (pc' := 12) djdk_52_3_1 (flt (by decide : ¬ ((2 : Int32) < (0 : Int32)))).2.1 (by decide) (by decide)
  replace W := W.iloadN (pc' := 13) djdk_52_3_12 rfl rfl
  replace W := W.ldcI (pc' := 15) djdk_52_3_13 (tw105 hw) rfl
  replace W := W.icmpT (pc' := 55) djdk_52_3_15 (tlt (by decide : (2 : Int32) < (1073741823 : Int32))).1 (by decide) (by decide)
  replace W := W.iloadN (pc' := 56) djdk_52_3_55 rfl rfl
  replace W := W.iconst (pc' := 57) (v := (1 : Int32)) djdk_52_3_56 rfl rfl
  replace W := W.ishl (pc' := 58) (v := (4 : Int32)) djdk_52_3_57 (by decide) rfl
  exact W.iret (t := .int) djdk_52_3_58 rfl (by simp) rfl (by decide) (by decide) (fun V' cv => ⟨rfl, rfl⟩)
theorem ef_nbf_2 (m : MethodId)  : entryFrame m #[(.int (2 : Int32))] 1 = mkF m 0 #[.val (.int (2 : Int32))] [] := by first | (simp [entryFrame, mkF, argsToLocals, Value.category]; done) | rfl
set_option maxRecDepth 65536 in
set_option maxHeartbeats 40000000 in
theorem nbf_2 (l : Launch) (Z : State) (a0 : Array Value) (n0 : Nat) (hw : ∀ d ∈ tables_1, d.before a0 Z = true) (hEL : EW Z a0 consts_1) (G1 : Int32) (O1 : Sta Z Z.heap "java/lang/String" "COMPACT_STRINGS" "Z" (.int G1)) (P1 : ¬ (G1 = (0 : Int32))) (O_as : Sta Z Z.heap "java/lang/StringUTF16" "$assertionsDisabled" "Z" (.int (1 : Int32))) (O_hi : Sta Z Z.heap "java/lang/StringUTF16" "HI_BYTE_SHIFT" "I" (.int (0 : Int32))) (O_lo : Sta Z Z.heap "java/lang/StringUTF16" "LO_BYTE_SHIFT" "I" (.int (8 : Int32))) (ro : Addr) (O_ro : Sta Z Z.heap "com/example/rolebind/rolebind/Decision$Reason" "ROLE" "Lcom/example/rolebind/rolebind/Decision$Reason;" (.ref ro))  (h0 : Heap) (hO : Old Z n0 h0)  :
    Con l Z consts_1 n0 (⟨"java/lang/StringUTF16", "newBytesFor", "(I)[B"⟩ : MethodName) jdk_52_method_2_code 1 (some (.array .byte)) ({ frames := 1, cells := 1, slots := 4, locals := 12 } : Room) #[(.int (2 : Int32))] h0 [] (fun v h V' => ∃ (t : Addr) (kt : ClassId), v = some (.ref t) ∧ Arv Z h t kt .byte (4 : Int32) [(.int (0 : Int32)), (.int (0 : Int32)), (.int (0 : Int32)), (.int (0 : Int32))] (.int (0 : Int32)) ∧ h0.size ≤ t ∧ Safe Z consts_1 V' h t) [] := by
  refine Con.of (a0 := a0) pf6 (fun m => ef_nbf_2 m ) all0 hO hEL ?_
  intro p e s m below meth c S0 hnm hsf W
  replace W := W.iloadN (pc' := 1) djdk_52_2_0 rfl rfl
  obtain ⟨V1, h1, r1, W1, K1, hQ1, SF1⟩ := W.callS (pc' := 4) (argsL := [(.int (2 : Int32))]) (rest := []) (Wd := 0) (cells' := 0) (slots' := 0) (y := (⟨"java/lang/StringUTF16", "newBytesLength", "(I)I"⟩ : MethodName)) djdk_52_2_1 (nbl_2 l Z a0 n0 hw hEL G1 O1 P1 O_as O_hi O_lo ro O_ro h0 W.old) (tw102 hw) (tw103 hw) (tw88 hw) (tw104 hw) (by decide) (lenOf pd4 rfl) rfl rfl (by decide) (by decide) rfl sf0 all0 rfl rfl rfl (by decide) (by decide)
  clear W
  obtain ⟨rfl, hs1⟩ := hQ1
  subst hs1
  replace W1 := W1.cast (st' := [(.int (4 : Int32))]) rfl
  obtain ⟨h2, a2, W2, E2, g2, ⟨k2, A2⟩, sf2, SF2⟩ := W1.newarr (pc' := 6) (cap := 4) (cells' := 1) (slots' := 4) djdk_52_2_4 (tw16 hw) (by decide) (by decide) (by decide) rfl rfl rfl (by decide) (by decide)
  clear W1
  rw [← g2] at A2
  have z2 : h0.size ≤ h2.size := E2.1
  have v2 : Arv Z h2 a2 k2 .byte (4 : Int32) [(.int (0 : Int32)), (.int (0 : Int32)), (.int (0 : Int32)), (.int (0 : Int32))] (.int (0 : Int32)) := A2.pad (pad_rep [] (.int (0 : Int32)) 4)
  exact W2.aret (t := (.array .byte)) djdk_52_2_6 rfl rfl rfl rfl (by decide) (by decide) (fun V' cv => ⟨a2, k2, rfl, v2, (Nat.le_of_eq g2.symm), (cv a2 v2.lt sf2)⟩)
theorem ef_putc_2_0 (m : MethodId) (ba : Addr) (kb : ClassId) (cz : Int32) (u0 : Int32) (u1 : Int32) (u2 : Int32) (u3 : Int32) : entryFrame m #[(.ref ba), (.int (0 : Int32)), (.int cz)] 3 = mkF m 0 #[.val (.ref ba), .val (.int (0 : Int32)), .val (.int cz)] [] := by first | (simp [entryFrame, mkF, argsToLocals, Value.category]; done) | rfl
set_option maxRecDepth 65536 in
set_option maxHeartbeats 40000000 in
theorem putc_2_0 (l : Launch) (Z : State) (a0 : Array Value) (n0 : Nat) (hw : ∀ d ∈ tables_1, d.before a0 Z = true) (hEL : EW Z a0 consts_1) (G1 : Int32) (O1 : Sta Z Z.heap "java/lang/String" "COMPACT_STRINGS" "Z" (.int G1)) (P1 : ¬ (G1 = (0 : Int32))) (O_as : Sta Z Z.heap "java/lang/StringUTF16" "$assertionsDisabled" "Z" (.int (1 : Int32))) (O_hi : Sta Z Z.heap "java/lang/StringUTF16" "HI_BYTE_SHIFT" "I" (.int (0 : Int32))) (O_lo : Sta Z Z.heap "java/lang/StringUTF16" "LO_BYTE_SHIFT" "I" (.int (8 : Int32))) (ro : Addr) (O_ro : Sta Z Z.heap "com/example/rolebind/rolebind/Decision$Reason" "ROLE" "Lcom/example/rolebind/rolebind/Decision$Reason;" (.ref ro)) (ba : Addr) (kb : ClassId) (cz : Int32) (u0 : Int32) (u1 : Int32) (u2 : Int32) (u3 : Int32) (h0 : Heap) (hO : Old Z n0 h0) (V_ba : Arv Z h0 ba kb .byte (4 : Int32) [(.int u0), (.int u1), (.int u2), (.int u3)] (.int (0 : Int32))) (g_ba : n0 ≤ ba) :
    Con l Z consts_1 n0 (⟨"java/lang/StringUTF16", "putChar", "([BII)V"⟩ : MethodName) jdk_52_method_4_code 3 none ({ frames := 0, cells := 0, slots := 0, locals := 0 } : Room) #[(.ref ba), (.int (0 : Int32)), (.int cz)] h0 [ba] (fun v h V' => v = none ∧ Arv Z h ba kb .byte (4 : Int32) [(.int (cz.toInt8.toInt32)), (.int ((cz >>> ((8 : Int32) &&& 31)).toInt8.toInt32)), (.int u2), (.int u3)] (.int (0 : Int32))) [] := by
  refine Con.of (a0 := a0) pf7 (fun m => ef_putc_2_0 m ba kb cz u0 u1 u2 u3) (allS g_ba all0) hO hEL ?_
  intro p e s m below meth c S0 hnm hsf W
  replace W := W.gets (pc' := 3) djdk_52_4_0 (tw109 hw) O_as rfl
  replace W := W.ifT (pc' := 28) djdk_52_4_3 (feq (by decide : ¬ ((1 : Int32) = (0 : Int32)))).2 (by decide) (by decide)
  replace W := W.iloadN (pc' := 29) djdk_52_4_28 rfl rfl
  replace W := W.iconst (pc' := 30) (v := (1 : Int32)) djdk_52_4_29 rfl rfl
  replace W := W.ishl (pc' := 31) (v := (0 : Int32)) djdk_52_4_30 (by decide) rfl
  replace W := W.istoreN (pc' := 32) (L' := #[.val (.ref ba), .val (.int (0 : Int32)), .val (.int cz)]) djdk_52_4_31 rfl rfl
  replace W := W.aloadN (pc' := 33) djdk_52_4_32 rfl rfl rfl
  replace W := W.iloadN (pc' := 34) djdk_52_4_33 rfl rfl
  replace W := W.iinc (pc' := 37) (v := (1 : Int32)) (L' := #[.val (.ref ba), .val (.int (1 : Int32)), .val (.int cz)]) djdk_52_4_34 rfl (by decide) rfl rfl
  replace W := W.iloadN (pc' := 38) djdk_52_4_37 rfl rfl
  replace W := W.gets (pc' := 41) djdk_52_4_38 (tw110 hw) O_hi rfl
  replace W := W.ishr (pc' := 42) (v := cz) djdk_52_4_41 (own_shr0 _) rfl
  replace W := W.i2b (pc' := 43) (v := (cz.toInt8.toInt32)) djdk_52_4_42 rfl rfl
  obtain ⟨h1, W1, w1, A1, SF1⟩ := W.bastore (pc' := 44) (i := 0) (x' := (cz.toInt8.toInt32)) djdk_52_4_43 V_ba ⟨by decide, by decide⟩ rfl (by show 0 < 4; decide) (own_narb _) (hsf _ (List.mem_of_getElem? (i := 0) rfl)) (Or.inl (List.mem_of_getElem? (i := 0) rfl)) rfl
  clear W
  have z1 : h0.size ≤ h1.size := Nat.le_of_eq w1.size.symm
  have v1 : Arv Z h1 ba kb .byte (4 : Int32) [(.int (cz.toInt8.toInt32)), (.int u1), (.int u2), (.int u3)] (.int (0 : Int32)) := A1
  replace W1 := W1.aloadN (pc' := 45) djdk_52_4_44 rfl rfl rfl
  replace W1 := W1.iloadN (pc' := 46) djdk_52_4_45 rfl rfl
  replace W1 := W1.iloadN (pc' := 47) djdk_52_4_46 rfl rfl
  replace W1 := W1.gets (pc' := 50) djdk_52_4_47 (tw111 hw) O_lo rfl
  replace W1 := W1.ishr (pc' := 51) (v := (cz >>> ((8 : Int32) &&& 31))) djdk_52_4_50 rfl rfl
  replace W1 := W1.i2b (pc' := 52) (v := ((cz >>> ((8 : Int32) &&& 31)).toInt8.toInt32)) djdk_52_4_51 rfl rfl
  have sf2 := (SF1 ba (hsf _ (List.mem_of_getElem? (i := 0) rfl)))
  obtain ⟨h3, W3, w3, A3, SF3⟩ := W1.bastore (pc' := 53) (i := 1) (x' := ((cz >>> ((8 : Int32) &&& 31)).toInt8.toInt32)) djdk_52_4_52 v1 ⟨by decide, by decide⟩ rfl (by show 1 < 4; decide) (own_narb _) sf2 (Or.inl (List.mem_of_getElem? (i := 0) rfl)) rfl
  clear W1
  have z3 : h1.size ≤ h3.size := Nat.le_of_eq w3.size.symm
  have v3 : Arv Z h3 ba kb .byte (4 : Int32) [(.int (cz.toInt8.toInt32)), (.int ((cz >>> ((8 : Int32) &&& 31)).toInt8.toInt32)), (.int u2), (.int u3)] (.int (0 : Int32)) := A3
  exact W3.vret djdk_52_4_53 rfl (by decide) (by decide) (fun V' cv => ⟨rfl, v3⟩)
theorem ef_putc_2_1 (m : MethodId) (ba : Addr) (kb : ClassId) (cz : Int32) (u0 : Int32) (u1 : Int32) (u2 : Int32) (u3 : Int32) : entryFrame m #[(.ref ba), (.int (1 : Int32)), (.int cz)] 3 = mkF m 0 #[.val (.ref ba), .val (.int (1 : Int32)), .val (.int cz)] [] := by first | (simp [entryFrame, mkF, argsToLocals, Value.category]; done) | rfl
set_option maxRecDepth 65536 in
set_option maxHeartbeats 40000000 in
theorem putc_2_1 (l : Launch) (Z : State) (a0 : Array Value) (n0 : Nat) (hw : ∀ d ∈ tables_1, d.before a0 Z = true) (hEL : EW Z a0 consts_1) (G1 : Int32) (O1 : Sta Z Z.heap "java/lang/String" "COMPACT_STRINGS" "Z" (.int G1)) (P1 : ¬ (G1 = (0 : Int32))) (O_as : Sta Z Z.heap "java/lang/StringUTF16" "$assertionsDisabled" "Z" (.int (1 : Int32))) (O_hi : Sta Z Z.heap "java/lang/StringUTF16" "HI_BYTE_SHIFT" "I" (.int (0 : Int32))) (O_lo : Sta Z Z.heap "java/lang/StringUTF16" "LO_BYTE_SHIFT" "I" (.int (8 : Int32))) (ro : Addr) (O_ro : Sta Z Z.heap "com/example/rolebind/rolebind/Decision$Reason" "ROLE" "Lcom/example/rolebind/rolebind/Decision$Reason;" (.ref ro)) (ba : Addr) (kb : ClassId) (cz : Int32) (u0 : Int32) (u1 : Int32) (u2 : Int32) (u3 : Int32) (h0 : Heap) (hO : Old Z n0 h0) (V_ba : Arv Z h0 ba kb .byte (4 : Int32) [(.int u0), (.int u1), (.int u2), (.int u3)] (.int (0 : Int32))) (g_ba : n0 ≤ ba) :
    Con l Z consts_1 n0 (⟨"java/lang/StringUTF16", "putChar", "([BII)V"⟩ : MethodName) jdk_52_method_4_code 3 none ({ frames := 0, cells := 0, slots := 0, locals := 0 } : Room) #[(.ref ba), (.int (1 : Int32)), (.int cz)] h0 [ba] (fun v h V' => v = none ∧ Arv Z h ba kb .byte (4 : Int32) [(.int u0), (.int u1), (.int (cz.toInt8.toInt32)), (.int ((cz >>> ((8 : Int32) &&& 31)).toInt8.toInt32))] (.int (0 : Int32))) [] := by
  refine Con.of (a0 := a0) pf7 (fun m => ef_putc_2_1 m ba kb cz u0 u1 u2 u3) (allS g_ba all0) hO hEL ?_
  intro p e s m below meth c S0 hnm hsf W
  replace W := W.gets (pc' := 3) djdk_52_4_0 (tw109 hw) O_as rfl
  replace W := W.ifT (pc' := 28) djdk_52_4_3 (feq (by decide : ¬ ((1 : Int32) = (0 : Int32)))).2 (by decide) (by decide)
  replace W := W.iloadN (pc' := 29) djdk_52_4_28 rfl rfl
  replace W := W.iconst (pc' := 30) (v := (1 : Int32)) djdk_52_4_29 rfl rfl
  replace W := W.ishl (pc' := 31) (v := (2 : Int32)) djdk_52_4_30 (by decide) rfl
  replace W := W.istoreN (pc' := 32) (L' := #[.val (.ref ba), .val (.int (2 : Int32)), .val (.int cz)]) djdk_52_4_31 rfl rfl
  replace W := W.aloadN (pc' := 33) djdk_52_4_32 rfl rfl rfl
  replace W := W.iloadN (pc' := 34) djdk_52_4_33 rfl rfl
  replace W := W.iinc (pc' := 37) (v := (3 : Int32)) (L' := #[.val (.ref ba), .val (.int (3 : Int32)), .val (.int cz)]) djdk_52_4_34 rfl (by decide) rfl rfl
  replace W := W.iloadN (pc' := 38) djdk_52_4_37 rfl rfl
  replace W := W.gets (pc' := 41) djdk_52_4_38 (tw110 hw) O_hi rfl
  replace W := W.ishr (pc' := 42) (v := cz) djdk_52_4_41 (own_shr0 _) rfl
  replace W := W.i2b (pc' := 43) (v := (cz.toInt8.toInt32)) djdk_52_4_42 rfl rfl
  obtain ⟨h1, W1, w1, A1, SF1⟩ := W.bastore (pc' := 44) (i := 2) (x' := (cz.toInt8.toInt32)) djdk_52_4_43 V_ba ⟨by decide, by decide⟩ rfl (by show 2 < 4; decide) (own_narb _) (hsf _ (List.mem_of_getElem? (i := 0) rfl)) (Or.inl (List.mem_of_getElem? (i := 0) rfl)) rfl
  clear W
  have z1 : h0.size ≤ h1.size := Nat.le_of_eq w1.size.symm
  have v1 : Arv Z h1 ba kb .byte (4 : Int32) [(.int u0), (.int u1), (.int (cz.toInt8.toInt32)), (.int u3)] (.int (0 : Int32)) := A1
  replace W1 := W1.aloadN (pc' := 45) djdk_52_4_44 rfl rfl rfl
  replace W1 := W1.iloadN (pc' := 46) djdk_52_4_45 rfl rfl
  replace W1 := W1.iloadN (pc' := 47) djdk_52_4_46 rfl rfl
  replace W1 := W1.gets (pc' := 50) djdk_52_4_47 (tw111 hw) O_lo rfl
  replace W1 := W1.ishr (pc' := 51) (v := (cz >>> ((8 : Int32) &&& 31))) djdk_52_4_50 rfl rfl
  replace W1 := W1.i2b (pc' := 52) (v := ((cz >>> ((8 : Int32) &&& 31)).toInt8.toInt32)) djdk_52_4_51 rfl rfl
  have sf2 := (SF1 ba (hsf _ (List.mem_of_getElem? (i := 0) rfl)))
  obtain ⟨h3, W3, w3, A3, SF3⟩ := W1.bastore (pc' := 53) (i := 3) (x' := ((cz >>> ((8 : Int32) &&& 31)).toInt8.toInt32)) djdk_52_4_52 v1 ⟨by decide, by decide⟩ rfl (by show 3 < 4; decide) (own_narb _) sf2 (Or.inl (List.mem_of_getElem? (i := 0) rfl)) rfl
  clear W1
  have z3 : h1.size ≤ h3.size := Nat.le_of_eq w3.size.symm
  have v3 : Arv Z h3 ba kb .byte (4 : Int32) [(.int u0), (.int u1), (.int (cz.toInt8.toInt32)), (.int ((cz >>> ((8 : Int32) &&& 31)).toInt8.toInt32))] (.int (0 : Int32)) := A3
  exact W3.vret djdk_52_4_53 rfl (by decide) (by decide) (fun V' cv => ⟨rfl, v3⟩)
theorem ef_tob_2 (m : MethodId) (ca : Addr) (kc : ClassId) (c0 : Int32) (c1 : Int32) : entryFrame m #[(.ref ca), (.int (0 : Int32)), (.int (2 : Int32))] 5 = mkF m 0 #[.val (.ref ca), .val (.int (0 : Int32)), .val (.int (2 : Int32)), .unset, .unset] [] := by first | (simp [entryFrame, mkF, argsToLocals, Value.category]; done) | rfl
set_option maxRecDepth 65536 in
set_option maxHeartbeats 40000000 in
theorem tob_2 (l : Launch) (Z : State) (a0 : Array Value) (n0 : Nat) (hw : ∀ d ∈ tables_1, d.before a0 Z = true) (hEL : EW Z a0 consts_1) (G1 : Int32) (O1 : Sta Z Z.heap "java/lang/String" "COMPACT_STRINGS" "Z" (.int G1)) (P1 : ¬ (G1 = (0 : Int32))) (O_as : Sta Z Z.heap "java/lang/StringUTF16" "$assertionsDisabled" "Z" (.int (1 : Int32))) (O_hi : Sta Z Z.heap "java/lang/StringUTF16" "HI_BYTE_SHIFT" "I" (.int (0 : Int32))) (O_lo : Sta Z Z.heap "java/lang/StringUTF16" "LO_BYTE_SHIFT" "I" (.int (8 : Int32))) (ro : Addr) (O_ro : Sta Z Z.heap "com/example/rolebind/rolebind/Decision$Reason" "ROLE" "Lcom/example/rolebind/rolebind/Decision$Reason;" (.ref ro)) (ca : Addr) (kc : ClassId) (c0 : Int32) (c1 : Int32) (h0 : Heap) (hO : Old Z n0 h0) (V_ca : Arv Z h0 ca kc .char (2 : Int32) [(.int c0), (.int c1)] (.int (0 : Int32))) :
    Con l Z consts_1 n0 (⟨"java/lang/StringUTF16", "toBytes", "([CII)[B"⟩ : MethodName) jdk_52_method_14_code 5 (some (.array .byte)) ({ frames := 2, cells := 1, slots := 4, locals := 24 } : Room) #[(.ref ca), (.int (0 : Int32)), (.int (2 : Int32))] h0 [] (fun v h V' => ∃ (t : Addr) (kt : ClassId), v = some (.ref t) ∧ Arv Z h t kt .byte (4 : Int32) [(.int (c0.toInt8.toInt32)), (.int ((c0 >>> ((8 : Int32) &&& 31)).toInt8.toInt32)), (.int (c1.toInt8.toInt32)), (.int ((c1 >>> ((8 : Int32) &&& 31)).toInt8.toInt32))] (.int (0 : Int32)) ∧ h0.size ≤ t) [] := by
  refine Con.of (a0 := a0) pf8 (fun m => ef_tob_2 m ca kc c0 c1) all0 hO hEL ?_
  intro p e s m below meth c S0 hnm hsf W
  replace W := W.iloadN (pc' := 1) djdk_52_14_0 rfl rfl
  obtain ⟨V1, h1, r1, W1, K1, hQ1, SF1⟩ := W.callS (pc' := 4) (argsL := [(.int (2 : Int32))]) (rest := []) (Wd := 0) (cells' := 1) (slots' := 4) (y := (⟨"java/lang/StringUTF16", "newBytesFor", "(I)[B"⟩ : MethodName)) djdk_52_14_1 (nbf_2 l Z a0 n0 hw hEL G1 O1 P1 O_as O_hi O_lo ro O_ro h0 W.old) (tw99 hw) (tw100 hw) (tw88 hw) (tw101 hw) (by decide) (lenOf pd5 rfl) rfl rfl (by decide) (by decide) rfl sf0 all0 rfl rfl rfl (by decide) (by decide)
  clear W
  obtain ⟨t1, kt1, rfl, q1_1, q1_2, q1_3⟩ := hQ1
  have z1 : h0.size ≤ h1.size := K1.1
  replace W1 := W1.cast (st' := [(.ref t1)]) rfl
  replace W1 := W1.astoreN (pc' := 5) (L' := #[.val (.ref ca), .val (.int (0 : Int32)), .val (.int (2 : Int32)), .val (.ref t1), .unset]) djdk_52_14_4 rfl rfl rfl
  replace W1 := W1.iconst (pc' := 6) (v := (0 : Int32)) djdk_52_14_5 rfl rfl
  replace W1 := W1.istore (pc' := 8) (L' := #[.val (.ref ca), .val (.int (0 : Int32)), .val (.int (2 : Int32)), .val (.ref t1), .val (.int (0 : Int32))]) djdk_52_14_6 rfl rfl
  replace W1 := W1.iload (pc' := 10) djdk_52_14_8 rfl rfl
  replace W1 := W1.iloadN (pc' := 11) djdk_52_14_10 rfl rfl
  replace W1 := W1.icmpF (pc' := 14) djdk_52_14_11 (tlt (by decide : (0 : Int32) < (2 : Int32))).2.1 rfl
  replace W1 := W1.aloadN (pc' := 15) djdk_52_14_14 rfl rfl rfl
  replace W1 := W1.iload (pc' := 17) djdk_52_14_15 rfl rfl
  replace W1 := W1.aloadN (pc' := 18) djdk_52_14_17 rfl rfl rfl
  replace W1 := W1.iloadN (pc' := 19) djdk_52_14_18 rfl rfl
  have v2 := (V_ca.keep K1 nin0)
  replace W1 := W1.caload (pc' := 20) (w := (.int c0)) djdk_52_14_19 v2 ⟨by decide, by decide⟩ rfl rfl
  obtain ⟨V3, h3, r3, W3, K3, hQ3, SF3⟩ := W1.callS (pc' := 23) (argsL := [(.ref t1), (.int (0 : Int32)), (.int c0)]) (rest := []) (Wd := 0) (cells' := 1) (slots' := 4) (y := (⟨"java/lang/StringUTF16", "putChar", "([BII)V"⟩ : MethodName)) djdk_52_14_20 (putc_2_0 l Z a0 n0 hw hEL G1 O1 P1 O_as O_hi O_lo ro O_ro t1 kt1 c0 (0 : Int32) (0 : Int32) (0 : Int32) (0 : Int32) h1 W1.old q1_1 (Nat.le_trans W1.1.2.2.2.2.2.2.2.1 q1_2)) (tw106 hw) (tw107 hw) (tw88 hw) (tw108 hw) (by decide) (lenOf pd6 rfl) rfl rfl (by decide) (by decide) rfl (sfS q1_3 sf0) (allS (Or.inr q1_2) all0) rfl rfl rfl (by decide) (by decide)
  clear W1
  obtain ⟨rfl, q3_1⟩ := hQ3
  have z3 : h1.size ≤ h3.size := K3.1
  replace W3 := W3.cast (st' := []) rfl
  replace W3 := W3.iinc (pc' := 26) (v := (1 : Int32)) (L' := #[.val (.ref ca), .val (.int (1 : Int32)), .val (.int (2 : Int32)), .val (.ref t1), .val (.int (0 : Int32))]) djdk_52_14_23 rfl (by decide) rfl rfl
  replace W3 := W3.iinc (pc' := 29) (v := (1 : Int32)) (L' := #[.val (.ref ca), .val (.int (1 : Int32)), .val (.int (2 : Int32)), .val (.ref t1), .val (.int (1 : Int32))]) djdk_52_14_26 rfl (by decide) rfl rfl
  replace W3 := W3.goto (pc' := 8) djdk_52_14_29 (by decide) (by decide)
  replace W3 := W3.iload (pc' := 10) djdk_52_14_8 rfl rfl
  replace W3 := W3.iloadN (pc' := 11) djdk_52_14_10 rfl rfl
  replace W3 := W3.icmpF (pc' := 14) djdk_52_14_11 (tlt (by decide : (1 : Int32) < (2 : Int32))).2.1 rfl
  replace W3 := W3.aloadN (pc' := 15) djdk_52_14_14 rfl rfl rfl
  replace W3 := W3.iload (pc' := 17) djdk_52_14_15 rfl rfl
  replace W3 := W3.aloadN (pc' := 18) djdk_52_14_17 rfl rfl rfl
  replace W3 := W3.iloadN (pc' := 19) djdk_52_14_18 rfl rfl
  have v4 := (v2.keep K3 (ninS (Nat.ne_of_lt (Nat.lt_of_lt_of_le V_ca.lt q1_2)) nin0))
  replace W3 := W3.caload (pc' := 20) (w := (.int c1)) djdk_52_14_19 v4 ⟨by decide, by decide⟩ rfl rfl
  have sf5 := (SF3 t1 q1_1.lt q1_3)
  obtain ⟨V6, h6, r6, W6, K6, hQ6, SF6⟩ := W3.callS (pc' := 23) (argsL := [(.ref t1), (.int (1 : Int32)), (.int c1)]) (rest := []) (Wd := 0) (cells' := 1) (slots' := 4) (y := (⟨"java/lang/StringUTF16", "putChar", "([BII)V"⟩ : MethodName)) djdk_52_14_20 (putc_2_1 l Z a0 n0 hw hEL G1 O1 P1 O_as O_hi O_lo ro O_ro t1 kt1 c1 (c0.toInt8.toInt32) ((c0 >>> ((8 : Int32) &&& 31)).toInt8.toInt32) (0 : Int32) (0 : Int32) h3 W3.old q3_1 (Nat.le_trans W3.1.2.2.2.2.2.2.2.1 q1_2)) (tw106 hw) (tw107 hw) (tw88 hw) (tw108 hw) (by decide) (lenOf pd6 rfl) rfl rfl (by decide) (by decide) rfl (sfS sf5 sf0) (allS (Or.inr q1_2) all0) rfl rfl rfl (by decide) (by decide)
  clear W3
  obtain ⟨rfl, q6_1⟩ := hQ6
  have z6 : h3.size ≤ h6.size := K6.1
  replace W6 := W6.cast (st' := []) rfl
  replace W6 := W6.iinc (pc' := 26) (v := (2 : Int32)) (L' := #[.val (.ref ca), .val (.int (2 : Int32)), .val (.int (2 : Int32)), .val (.ref t1), .val (.int (1 : Int32))]) djdk_52_14_23 rfl (by decide) rfl rfl
  replace W6 := W6.iinc (pc' := 29) (v := (2 : Int32)) (L' := #[.val (.ref ca), .val (.int (2 : Int32)), .val (.int (2 : Int32)), .val (.ref t1), .val (.int (2 : Int32))]) djdk_52_14_26 rfl (by decide) rfl rfl
  replace W6 := W6.goto (pc' := 8) djdk_52_14_29 (by decide) (by decide)
  replace W6 := W6.iload (pc' := 10) djdk_52_14_8 rfl rfl
  replace W6 := W6.iloadN (pc' := 11) djdk_52_14_10 rfl rfl
  replace W6 := W6.icmpT (pc' := 32) djdk_52_14_11 (flt (by decide : ¬ ((2 : Int32) < (2 : Int32)))).2.1 (by decide) (by decide)
  replace W6 := W6.aloadN (pc' := 33) djdk_52_14_32 rfl rfl rfl
  exact W6.aret (t := (.array .byte)) djdk_52_14_33 rfl rfl rfl rfl (by decide) (by decide) (fun V' cv => ⟨t1, kt1, rfl, q6_1, q1_2⟩)
theorem ef_getc_2w0 (m : MethodId) (ba : Addr) (kb : ClassId) (cz : Int32) (u2 : Int32) (u3 : Int32) : entryFrame m #[(.ref ba), (.int (0 : Int32))] 2 = mkF m 0 #[.val (.ref ba), .val (.int (0 : Int32))] [] := by first | (simp [entryFrame, mkF, argsToLocals, Value.category]; done) | rfl
set_option maxRecDepth 65536 in
set_option maxHeartbeats 40000000 in
theorem getc_2w0 (l : Launch) (Z : State) (a0 : Array Value) (n0 : Nat) (hw : ∀ d ∈ tables_1, d.before a0 Z = true) (hEL : EW Z a0 consts_1) (G1 : Int32) (O1 : Sta Z Z.heap "java/lang/String" "COMPACT_STRINGS" "Z" (.int G1)) (P1 : ¬ (G1 = (0 : Int32))) (O_as : Sta Z Z.heap "java/lang/StringUTF16" "$assertionsDisabled" "Z" (.int (1 : Int32))) (O_hi : Sta Z Z.heap "java/lang/StringUTF16" "HI_BYTE_SHIFT" "I" (.int (0 : Int32))) (O_lo : Sta Z Z.heap "java/lang/StringUTF16" "LO_BYTE_SHIFT" "I" (.int (8 : Int32))) (ro : Addr) (O_ro : Sta Z Z.heap "com/example/rolebind/rolebind/Decision$Reason" "ROLE" "Lcom/example/rolebind/rolebind/Decision$Reason;" (.ref ro)) (ba : Addr) (kb : ClassId) (cz : Int32) (u2 : Int32) (u3 : Int32) (h0 : Heap) (hO : Old Z n0 h0) (V_ba : Arv Z h0 ba kb .byte (4 : Int32) [(.int (cz.toInt8.toInt32)), (.int ((cz >>> ((8 : Int32) &&& 31)).toInt8.toInt32)), (.int u2), (.int u3)] (.int (0 : Int32))) (hq_cz : ¬ cz < 0 ∧ ¬ (65535 : Int32) < cz) :
    Con l Z consts_1 n0 (⟨"java/lang/StringUTF16", "getChar", "([BI)C"⟩ : MethodName) jdk_52_method_5_code 2 (some .char) ({ frames := 0, cells := 0, slots := 0, locals := 0 } : Room) #[(.ref ba), (.int (0 : Int32))] h0 [] (fun v h V' => v = some (.int cz) ∧ h0 = h) [] := by
  refine Con.of (a0 := a0) pf9 (fun m => ef_getc_2w0 m ba kb cz u2 u3) all0 hO hEL ?_
  intro p e s m below meth c S0 hnm hsf W
  replace W := W.gets (pc' := 3) djdk_52_5_0 (tw109 hw) O_as rfl
  replace W := W.ifT (pc' := 28) djdk_52_5_3 (feq (by decide : ¬ ((1 : Int32) = (0 : Int32)))).2 (by decide) (by decide)
  replace W := W.iloadN (pc' := 29) djdk_52_5_28 rfl rfl
  replace W := W.iconst (pc' := 30) (v := (1 : Int32)) djdk_52_5_29 rfl rfl
  replace W := W.ishl (pc' := 31) (v := (0 : Int32)) djdk_52_5_30 (by decide) rfl
  replace W := W.istoreN (pc' := 32) (L' := #[.val (.ref ba), .val (.int (0 : Int32))]) djdk_52_5_31 rfl rfl
  replace W := W.aloadN (pc' := 33) djdk_52_5_32 rfl rfl rfl
  replace W := W.iloadN (pc' := 34) djdk_52_5_33 rfl rfl
  replace W := W.iinc (pc' := 37) (v := (1 : Int32)) (L' := #[.val (.ref ba), .val (.int (1 : Int32))]) djdk_52_5_34 rfl (by decide) rfl rfl
  replace W := W.baload (pc' := 38) (w := (.int (cz.toInt8.toInt32))) djdk_52_5_37 V_ba ⟨by decide, by decide⟩ rfl rfl
  replace W := W.sipush (pc' := 41) (v := (255 : Int32)) djdk_52_5_38 rfl rfl
  replace W := W.iand (pc' := 42) (v := ((cz.toInt8.toInt32) &&& (255 : Int32))) djdk_52_5_41 rfl rfl
  replace W := W.gets (pc' := 45) djdk_52_5_42 (tw110 hw) O_hi rfl
  replace W := W.ishl (pc' := 46) (v := (((cz.toInt8.toInt32) &&& (255 : Int32)) <<< ((0 : Int32) &&& 31))) djdk_52_5_45 rfl rfl
  replace W := W.aloadN (pc' := 47) djdk_52_5_46 rfl rfl rfl
  replace W := W.iloadN (pc' := 48) djdk_52_5_47 rfl rfl
  replace W := W.baload (pc' := 49) (w := (.int ((cz >>> ((8 : Int32) &&& 31)).toInt8.toInt32))) djdk_52_5_48 V_ba ⟨by decide, by decide⟩ rfl rfl
  replace W := W.sipush (pc' := 52) (v := (255 : Int32)) djdk_52_5_49 rfl rfl
  replace W := W.iand (pc' := 53) (v := (((cz >>> ((8 : Int32) &&& 31)).toInt8.toInt32) &&& (255 : Int32))) djdk_52_5_52 rfl rfl
  replace W := W.gets (pc' := 56) djdk_52_5_53 (tw111 hw) O_lo rfl
  replace W := W.ishl (pc' := 57) (v := ((((cz >>> ((8 : Int32) &&& 31)).toInt8.toInt32) &&& (255 : Int32)) <<< ((8 : Int32) &&& 31))) djdk_52_5_56 rfl rfl
  replace W := W.ior (pc' := 58) (v := ((((cz.toInt8.toInt32) &&& (255 : Int32)) <<< ((0 : Int32) &&& 31)) ||| ((((cz >>> ((8 : Int32) &&& 31)).toInt8.toInt32) &&& (255 : Int32)) <<< ((8 : Int32) &&& 31)))) djdk_52_5_57 rfl rfl
  replace W := W.i2c (pc' := 59) (v := cz) djdk_52_5_58 (own_pair hq_cz) rfl
  exact W.iret (t := .char) djdk_52_5_59 rfl (by simp) (own_narrow_char hq_cz) (by decide) (by decide) (fun V' cv => ⟨rfl, rfl⟩)
theorem ef_cmp5_2w0 (m : MethodId) (ca : Addr) (kc : ClassId) (ba : Addr) (kb : ClassId) (c0 : Int32) (c1 : Int32) : entryFrame m #[(.ref ca), (.int (0 : Int32)), (.ref ba), (.int (0 : Int32)), (.int (2 : Int32))] 7 = mkF m 0 #[.val (.ref ca), .val (.int (0 : Int32)), .val (.ref ba), .val (.int (0 : Int32)), .val (.int (2 : Int32)), .unset, .unset] [] := by first | (simp [entryFrame, mkF, argsToLocals, Value.category]; done) | rfl
set_option maxRecDepth 65536 in
set_option maxHeartbeats 40000000 in
theorem cmp5_2w0 (l : Launch) (Z : State) (a0 : Array Value) (n0 : Nat) (hw : ∀ d ∈ tables_1, d.before a0 Z = true) (hEL : EW Z a0 consts_1) (G1 : Int32) (O1 : Sta Z Z.heap "java/lang/String" "COMPACT_STRINGS" "Z" (.int G1)) (P1 : ¬ (G1 = (0 : Int32))) (O_as : Sta Z Z.heap "java/lang/StringUTF16" "$assertionsDisabled" "Z" (.int (1 : Int32))) (O_hi : Sta Z Z.heap "java/lang/StringUTF16" "HI_BYTE_SHIFT" "I" (.int (0 : Int32))) (O_lo : Sta Z Z.heap "java/lang/StringUTF16" "LO_BYTE_SHIFT" "I" (.int (8 : Int32))) (ro : Addr) (O_ro : Sta Z Z.heap "com/example/rolebind/rolebind/Decision$Reason" "ROLE" "Lcom/example/rolebind/rolebind/Decision$Reason;" (.ref ro)) (ca : Addr) (kc : ClassId) (ba : Addr) (kb : ClassId) (c0 : Int32) (c1 : Int32) (h0 : Heap) (hO : Old Z n0 h0) (V_ca : Arv Z h0 ca kc .char (2 : Int32) [(.int c0), (.int c1)] (.int (0 : Int32))) (V_ba : Arv Z h0 ba kb .byte (2 : Int32) [(.int (0 : Int32)), (.int (0 : Int32))] (.int (0 : Int32))) (N_ca_ba : ca ≠ ba) (gt_c0 : (255 : Int32) < c0) (g_ba : n0 ≤ ba) :
    Con l Z consts_1 n0 (⟨"java/lang/StringUTF16", "compress", "([CI[BII)I"⟩ : MethodName) jdk_52_method_21_code 7 (some .int) ({ frames := 0, cells := 0, slots := 0, locals := 0 } : Room) #[(.ref ca), (.int (0 : Int32)), (.ref ba), (.int (0 : Int32)), (.int (2 : Int32))] h0 [ba] (fun v h V' => v = some (.int (0 : Int32)) ∧ Arv Z h ba kb .byte (2 : Int32) [(.int (0 : Int32)), (.int (0 : Int32))] (.int (0 : Int32))) [] := by
  refine Con.of (a0 := a0) pf2 (fun m => ef_cmp5_2w0 m ca kc ba kb c0 c1) (allS g_ba all0) hO hEL ?_
  intro p e s m below meth c S0 hnm hsf W
  replace W := W.iconst (pc' := 1) (v := (0 : Int32)) djdk_52_21_0 rfl rfl
  replace W := W.istore (pc' := 3) (L' := #[.val (.ref ca), .val (.int (0 : Int32)), .val (.ref ba), .val (.int (0 : Int32)), .val (.int (2 : Int32)), .val (.int (0 : Int32)), .unset]) djdk_52_21_1 rfl rfl
  replace W := W.iload (pc' := 5) djdk_52_21_3 rfl rfl
  replace W := W.iload (pc' := 7) djdk_52_21_5 rfl rfl
  replace W := W.icmpF (pc' := 10) djdk_52_21_7 (tlt (by decide : (0 : Int32) < (2 : Int32))).2.1 rfl
  replace W := W.aloadN (pc' := 11) djdk_52_21_10 rfl rfl rfl
  replace W := W.iloadN (pc' := 12) djdk_52_21_11 rfl rfl
  replace W := W.caload (pc' := 13) (w := (.int c0)) djdk_52_21_12 V_ca ⟨by decide, by decide⟩ rfl rfl
  replace W := W.istore (pc' := 15) (L' := #[.val (.ref ca), .val (.int (0 : Int32)), .val (.ref ba), .val (.int (0 : Int32)), .val (.int (2 : Int32)), .val (.int (0 : Int32)), .val (.int c0)]) djdk_52_21_13 rfl rfl
  replace W := W.iload (pc' := 17) djdk_52_21_15 rfl rfl
  replace W := W.sipush (pc' := 20) (v := (255 : Int32)) djdk_52_21_17 rfl rfl
  replace W := W.icmpF (pc' := 23) djdk_52_21_20 (tlt gt_c0).2.2.2 rfl
  replace W := W.iload (pc' := 25) djdk_52_21_23 rfl rfl
  exact W.iret (t := .int) djdk_52_21_25 rfl (by simp) rfl (by decide) (by decide) (fun V' cv => ⟨rfl, V_ba⟩)
theorem ef_cmp3_2w0 (m : MethodId) (ca : Addr) (kc : ClassId) (c0 : Int32) (c1 : Int32) : entryFrame m #[(.ref ca), (.int (0 : Int32)), (.int (2 : Int32))] 6 = mkF m 0 #[.val (.ref ca), .val (.int (0 : Int32)), .val (.int (2 : Int32)), .unset, .unset, .unset] [] := by first | (simp [entryFrame, mkF, argsToLocals, Value.category]; done) | rfl
set_option maxRecDepth 65536 in
set_option maxHeartbeats 40000000 in
theorem cmp3_2w0 (l : Launch) (Z : State) (a0 : Array Value) (n0 : Nat) (hw : ∀ d ∈ tables_1, d.before a0 Z = true) (hEL : EW Z a0 consts_1) (G1 : Int32) (O1 : Sta Z Z.heap "java/lang/String" "COMPACT_STRINGS" "Z" (.int G1)) (P1 : ¬ (G1 = (0 : Int32))) (O_as : Sta Z Z.heap "java/lang/StringUTF16" "$assertionsDisabled" "Z" (.int (1 : Int32))) (O_hi : Sta Z Z.heap "java/lang/StringUTF16" "HI_BYTE_SHIFT" "I" (.int (0 : Int32))) (O_lo : Sta Z Z.heap "java/lang/StringUTF16" "LO_BYTE_SHIFT" "I" (.int (8 : Int32))) (ro : Addr) (O_ro : Sta Z Z.heap "com/example/rolebind/rolebind/Decision$Reason" "ROLE" "Lcom/example/rolebind/rolebind/Decision$Reason;" (.ref ro)) (ca : Addr) (kc : ClassId) (c0 : Int32) (c1 : Int32) (h0 : Heap) (hO : Old Z n0 h0) (V_ca : Arv Z h0 ca kc .char (2 : Int32) [(.int c0), (.int c1)] (.int (0 : Int32))) (hq_c0 : ¬ c0 < 0 ∧ ¬ (65535 : Int32) < c0) (hq_c1 : ¬ c1 < 0 ∧ ¬ (65535 : Int32) < c1) (gt_c0 : (255 : Int32) < c0) :
    Con l Z consts_1 n0 (⟨"java/lang/StringUTF16", "compress", "([CII)[B"⟩ : MethodName) jdk_52_method_16_code 6 (some (.array .byte)) ({ frames := 3, cells := 2, slots := 6, locals := 40 } : Room) #[(.ref ca), (.int (0 : Int32)), (.int (2 : Int32))] h0 [] (fun v h V' => ∃ (t : Addr) (kt : ClassId), v = some (.ref t) ∧ Arv Z h t kt .byte (4 : Int32) [(.int (c0.toInt8.toInt32)), (.int ((c0 >>> ((8 : Int32) &&& 31)).toInt8.toInt32)), (.int (c1.toInt8.toInt32)), (.int ((c1 >>> ((8 : Int32) &&& 31)).toInt8.toInt32))] (.int (0 : Int32)) ∧ h0.size ≤ t) [] := by
  refine Con.of (a0 := a0) pf3 (fun m => ef_cmp3_2w0 m ca kc c0 c1) all0 hO hEL ?_
  intro p e s m below meth c S0 hnm hsf W
  replace W := W.iloadN (pc' := 1) djdk_52_16_0 rfl rfl
  obtain ⟨h1, a1, W1, E1, g1, ⟨k1, A1⟩, sf1, SF1⟩ := W.newarr (pc' := 3) (cap := 2) (cells' := 1) (slots' := 2) djdk_52_16_1 (tw16 hw) (by decide) (by decide) (by decide) rfl rfl rfl (by decide) (by decide)
  clear W
  rw [← g1] at A1
  have z1 : h0.size ≤ h1.size := E1.1
  have v1 : Arv Z h1 a1 k1 .byte (2 : Int32) [(.int (0 : Int32)), (.int (0 : Int32))] (.int (0 : Int32)) := A1.pad (pad_rep [] (.int (0 : Int32)) 2)
  replace W1 := W1.astoreN (pc' := 4) (L' := #[.val (.ref ca), .val (.int (0 : Int32)), .val (.int (2 : Int32)), .val (.ref a1), .unset, .unset]) djdk_52_16_3 rfl rfl rfl
  replace W1 := W1.aloadN (pc' := 5) djdk_52_16_4 rfl rfl rfl
  replace W1 := W1.iloadN (pc' := 6) djdk_52_16_5 rfl rfl
  replace W1 := W1.aloadN (pc' := 7) djdk_52_16_6 rfl rfl rfl
  replace W1 := W1.iconst (pc' := 8) (v := (0 : Int32)) djdk_52_16_7 rfl rfl
  replace W1 := W1.iloadN (pc' := 9) djdk_52_16_8 rfl rfl
  have v2 := (V_ca.ext E1)
  obtain ⟨V3, h3, r3, W3, K3, hQ3, SF3⟩ := W1.callS (pc' := 12) (argsL := [(.ref ca), (.int (0 : Int32)), (.ref a1), (.int (0 : Int32)), (.int (2 : Int32))]) (rest := []) (Wd := 0) (cells' := 1) (slots' := 2) (y := (⟨"java/lang/StringUTF16", "compress", "([CI[BII)I"⟩ : MethodName)) djdk_52_16_9 (cmp5_2w0 l Z a0 n0 hw hEL G1 O1 P1 O_as O_hi O_lo ro O_ro ca kc a1 k1 c0 c1 h1 W1.old v2 v1 (Nat.ne_of_lt (Nat.lt_of_lt_of_le V_ca.lt (Nat.le_of_eq g1.symm))) gt_c0 (Nat.le_trans W1.1.2.2.2.2.2.2.2.1 (Nat.le_of_eq g1.symm))) (tw90 hw) (tw91 hw) (tw88 hw) (tw92 hw) (by decide) (lenOf pd1 rfl) rfl rfl (by decide) (by decide) rfl (sfS sf1 sf0) (allS (Or.inr (Nat.le_of_eq g1.symm)) all0) rfl rfl rfl (by decide) (by decide)
  clear W1
  obtain ⟨rfl, q3_1⟩ := hQ3
  have z3 : h1.size ≤ h3.size := K3.1
  replace W3 := W3.cast (st' := [(.int (0 : Int32))]) rfl
  replace W3 := W3.istore (pc' := 14) (L' := #[.val (.ref ca), .val (.int (0 : Int32)), .val (.int (2 : Int32)), .val (.ref a1), .val (.int (0 : Int32)), .unset]) djdk_52_16_12 rfl rfl
  replace W3 := W3.iload (pc' := 16) djdk_52_16_14 rfl rfl
  replace W3 := W3.iloadN (pc' := 17) djdk_52_16_16 rfl rfl
  replace W3 := W3.icmpF (pc' := 20) djdk_52_16_17 (feq (by decide : ¬ ((0 : Int32) = (2 : Int32)))).1 rfl
  replace W3 := W3.aloadN (pc' := 21) djdk_52_16_20 rfl rfl rfl
  replace W3 := W3.iloadN (pc' := 22) djdk_52_16_21 rfl rfl
  replace W3 := W3.iloadN (pc' := 23) djdk_52_16_22 rfl rfl
  have v4 := (v2.keep K3 (ninS (Nat.ne_of_lt (Nat.lt_of_lt_of_le V_ca.lt (Nat.le_of_eq g1.symm))) nin0))
  obtain ⟨V5, h5, r5, W5, K5, hQ5, SF5⟩ := W3.callS (pc' := 26) (argsL := [(.ref ca), (.int (0 : Int32)), (.int (2 : Int32))]) (rest := []) (Wd := 0) (cells' := 2) (slots' := 6) (y := (⟨"java/lang/StringUTF16", "toBytes", "([CII)[B"⟩ : MethodName)) djdk_52_16_23 (tob_2 l Z a0 n0 hw hEL G1 O1 P1 O_as O_hi O_lo ro O_ro ca kc c0 c1 h3 W3.old v4) (tw96 hw) (tw97 hw) (tw88 hw) (tw98 hw) (by decide) (lenOf pd2 rfl) rfl rfl (by decide) (by decide) rfl sf0 all0 rfl rfl rfl (by decide) (by decide)
  clear W3
  obtain ⟨t5, kt5, rfl, q5_1, q5_2⟩ := hQ5
  have z5 : h3.size ≤ h5.size := K5.1
  replace W5 := W5.cast (st' := [(.ref t5)]) rfl
  replace W5 := W5.astore (pc' := 28) (L' := #[.val (.ref ca), .val (.int (0 : Int32)), .val (.int (2 : Int32)), .val (.ref a1), .val (.int (0 : Int32)), .val (.ref t5)]) djdk_52_16_26 rfl rfl rfl
  replace W5 := W5.aload (pc' := 30) djdk_52_16_28 rfl rfl rfl
  replace W5 := W5.iload (pc' := 32) djdk_52_16_30 rfl rfl
  obtain ⟨V6, h6, r6, W6, K6, hQ6, SF6⟩ := W5.callS (pc' := 35) (argsL := [(.ref t5), (.int (0 : Int32))]) (rest := []) (Wd := 0) (cells' := 2) (slots' := 6) (y := (⟨"java/lang/StringUTF16", "getChar", "([BI)C"⟩ : MethodName)) djdk_52_16_32 (getc_2w0 l Z a0 n0 hw hEL G1 O1 P1 O_as O_hi O_lo ro O_ro t5 kt5 c0 (c1.toInt8.toInt32) ((c1 >>> ((8 : Int32) &&& 31)).toInt8.toInt32) h5 W5.old q5_1 hq_c0) (tw112 hw) (tw113 hw) (tw88 hw) (tw114 hw) (by decide) (lenOf pd7 rfl) rfl rfl (by decide) (by decide) rfl sf0 all0 rfl rfl rfl (by decide) (by decide)
  clear W5
  obtain ⟨rfl, hs6⟩ := hQ6
  subst hs6
  have sf7 := (SF5 a1 q3_1.lt (SF3 a1 v1.lt sf1))
  have sf8 := SF6 a1 (Nat.lt_of_lt_of_le q3_1.lt z5) sf7
  replace W6 := W6.cast (st' := [(.int c0)]) rfl
  replace W6 := W6.sipush (pc' := 38) (v := (255 : Int32)) djdk_52_16_35 rfl rfl
  replace W6 := W6.icmpT (pc' := 54) djdk_52_16_38 (tlt gt_c0).2.2.1 (by decide) (by decide)
  replace W6 := W6.aload (pc' := 56) djdk_52_16_54 rfl rfl rfl
  exact W6.aret (t := (.array .byte)) djdk_52_16_56 rfl rfl rfl rfl (by decide) (by decide) (fun V' cv => ⟨t5, kt5, rfl, q5_1, (Nat.le_trans (Nat.le_trans z1 z3) q5_2)⟩)
theorem ef_codlw_2 (m : MethodId) (ta : Addr) (kt : ClassId) (vt : List Value) : entryFrame m #[(.ref ta), (.int (2 : Int32))] 2 = mkF m 0 #[.val (.ref ta), .val (.int (2 : Int32))] [] := by first | (simp [entryFrame, mkF, argsToLocals, Value.category]; done) | rfl
set_option maxRecDepth 65536 in
set_option maxHeartbeats 40000000 in
theorem codlw_2 (l : Launch) (Z : State) (a0 : Array Value) (n0 : Nat) (hw : ∀ d ∈ tables_1, d.before a0 Z = true) (hEL : EW Z a0 consts_1) (G1 : Int32) (O1 : Sta Z Z.heap "java/lang/String" "COMPACT_STRINGS" "Z" (.int G1)) (P1 : ¬ (G1 = (0 : Int32))) (O_as : Sta Z Z.heap "java/lang/StringUTF16" "$assertionsDisabled" "Z" (.int (1 : Int32))) (O_hi : Sta Z Z.heap "java/lang/StringUTF16" "HI_BYTE_SHIFT" "I" (.int (0 : Int32))) (O_lo : Sta Z Z.heap "java/lang/StringUTF16" "LO_BYTE_SHIFT" "I" (.int (8 : Int32))) (ro : Addr) (O_ro : Sta Z Z.heap "com/example/rolebind/rolebind/Decision$Reason" "ROLE" "Lcom/example/rolebind/rolebind/Decision$Reason;" (.ref ro)) (ta : Addr) (kt : ClassId) (vt : List Value) (h0 : Heap) (hO : Old Z n0 h0) (V_ta : Arv Z h0 ta kt .byte (4 : Int32) vt (.int (0 : Int32))) :
    Con l Z consts_1 n0 (⟨"java/lang/StringUTF16", "coderFromArrayLen", "([BI)B"⟩ : MethodName) jdk_52_method_15_code 2 (some .byte) ({ frames := 0, cells := 0, slots := 0, locals := 0 } : Room) #[(.ref ta), (.int (2 : Int32))] h0 [] (fun v h V' => v = some (.int (1 : Int32)) ∧ h0 = h) [] := by
  refine Con.of (a0 := a0) pf4 (fun m => ef_codlw_2 m ta kt vt) all0 hO hEL ?_
  intro p e s m below meth c S0 hnm hsf W
  replace W := W.iloadN (pc' := 1) djdk_52_15_0 rfl rfl
  replace W := W.aloadN (pc' := 2) djdk_52_15_1 rfl rfl rfl
  replace W := W.alen (pc' := 3) djdk_52_15_2 V_ta rfl
  replace W := W.isub (pc' := 4) (v := (-2 : Int32)) djdk_52_15_3 (by decide) rfl
  replace W := W.bipush (pc' := 6) (v := (31 : Int32)) djdk_52_15_4 rfl rfl
  replace W := W.iushr (pc' := 7) (v := (1 : Int32)) djdk_52_15_6 (by decide) rfl
  replace W := W.i2b (pc' := 8) (v := (1 : Int32)) djdk_52_15_7 (by decide) rfl
  exact W.iret (t := .byte) djdk_52_15_8 rfl (by simp) (by decide) (by decide) (by decide) (fun V' cv => ⟨rfl, rfl⟩)
theorem ef_new4_2w0 (m : MethodId) (xa : Addr) (ca : Addr) (kc : ClassId) (c0 : Int32) (c1 : Int32) : entryFrame m #[(.ref xa), (.ref ca), (.int (0 : Int32)), (.int (2 : Int32)), .null] 6 = mkF m 0 #[.val (.ref xa), .val (.ref ca), .val (.int (0 : Int32)), .val (.int (2 : Int32)), .val .null, .unset] [] := by first | (simp [entryFrame, mkF, argsToLocals, Value.category]; done) | rfl
set_option maxRecDepth 65536 in
set_option maxHeartbeats 40000000 in
theorem new4_2w0 (l : Launch) (Z : State) (a0 : Array Value) (n0 : Nat) (hw : ∀ d ∈ tables_1, d.before a0 Z = true) (hEL : EW Z a0 consts_1) (G1 : Int32) (O1 : Sta Z Z.heap "java/lang/String" "COMPACT_STRINGS" "Z" (.int G1)) (P1 : ¬ (G1 = (0 : Int32))) (O_as : Sta Z Z.heap "java/lang/StringUTF16" "$assertionsDisabled" "Z" (.int (1 : Int32))) (O_hi : Sta Z Z.heap "java/lang/StringUTF16" "HI_BYTE_SHIFT" "I" (.int (0 : Int32))) (O_lo : Sta Z Z.heap "java/lang/StringUTF16" "LO_BYTE_SHIFT" "I" (.int (8 : Int32))) (ro : Addr) (O_ro : Sta Z Z.heap "com/example/rolebind/rolebind/Decision$Reason" "ROLE" "Lcom/example/rolebind/rolebind/Decision$Reason;" (.ref ro)) (xa : Addr) (ca : Addr) (kc : ClassId) (c0 : Int32) (c1 : Int32) (h0 : Heap) (hO : Old Z n0 h0) (E_xa : Exa Z h0 xa "java/lang/String") (F_xa_value : Fld Z h0 xa "java/lang/String" "value" "[B" .null) (F_xa_coder : Fld Z h0 xa "java/lang/String" "coder" "B" (.int (0 : Int32))) (V_ca : Arv Z h0 ca kc .char (2 : Int32) [(.int c0), (.int c1)] (.int (0 : Int32))) (hq_c0 : ¬ c0 < 0 ∧ ¬ (65535 : Int32) < c0) (hq_c1 : ¬ c1 < 0 ∧ ¬ (65535 : Int32) < c1) (gt_c0 : (255 : Int32) < c0) (g_xa : n0 ≤ xa) :
    Con l Z consts_1 n0 (⟨"java/lang/String", "<init>", "([CIILjava/lang/Void;)V"⟩ : MethodName) jdk_42_method_149_code 6 none ({ frames := 4, cells := 2, slots := 6, locals := 57 } : Room) #[(.ref xa), (.ref ca), (.int (0 : Int32)), (.int (2 : Int32)), .null] h0 [xa] (fun v h V' => ∃ (t : Addr) (kt : ClassId), v = none ∧ Exa Z h xa "java/lang/String" ∧ Fld Z h xa "java/lang/String" "coder" "B" (.int (1 : Int32)) ∧ Fld Z h xa "java/lang/String" "value" "[B" (.ref t) ∧ Arv Z h t kt .byte (4 : Int32) [(.int (c0.toInt8.toInt32)), (.int ((c0 >>> ((8 : Int32) &&& 31)).toInt8.toInt32)), (.int (c1.toInt8.toInt32)), (.int ((c1 >>> ((8 : Int32) &&& 31)).toInt8.toInt32))] (.int (0 : Int32))) [] := by
  refine Con.of (a0 := a0) pf0 (fun m => ef_new4_2w0 m xa ca kc c0 c1) (allS g_xa all0) hO hEL ?_
  intro p e s m below meth c S0 hnm hsf W
  replace W := W.aloadN (pc' := 1) djdk_42_149_0 rfl rfl rfl
  replace W := W.initO (pc' := 4) (Wd := 0) djdk_42_149_1 (tw12 hw) (tw13 hw) (tw14 hw) rfl rfl (by decide) (by decide) rfl
  replace W := W.iloadN (pc' := 5) djdk_42_149_4 rfl rfl
  replace W := W.ifT (pc' := 27) djdk_42_149_5 (feq (by decide : ¬ ((2 : Int32) = (0 : Int32)))).2 (by decide) (by decide)
  replace W := W.gets (pc' := 30) djdk_42_149_27 (tw85 hw) O1 rfl
  replace W := W.ifF (pc' := 33) djdk_42_149_30 (feq P1).1 rfl
  replace W := W.aloadN (pc' := 34) djdk_42_149_33 rfl rfl rfl
  replace W := W.iloadN (pc' := 35) djdk_42_149_34 rfl rfl
  replace W := W.iloadN (pc' := 36) djdk_42_149_35 rfl rfl
  obtain ⟨V1, h1, r1, W1, K1, hQ1, SF1⟩ := W.callS (pc' := 39) (argsL := [(.ref ca), (.int (0 : Int32)), (.int (2 : Int32))]) (rest := []) (Wd := 0) (cells' := 2) (slots' := 6) (y := (⟨"java/lang/StringUTF16", "compress", "([CII)[B"⟩ : MethodName)) djdk_42_149_36 (cmp3_2w0 l Z a0 n0 hw hEL G1 O1 P1 O_as O_hi O_lo ro O_ro ca kc c0 c1 h0 W.old V_ca hq_c0 hq_c1 gt_c0) (tw86 hw) (tw87 hw) (tw88 hw) (tw89 hw) (by decide) (lenOf pd2 rfl) rfl rfl (by decide) (by decide) rfl sf0 all0 rfl rfl rfl (by decide) (by decide)
  clear W
  obtain ⟨t1, kt1, rfl, q1_1, q1_2⟩ := hQ1
  have z1 : h0.size ≤ h1.size := K1.1
  replace W1 := W1.cast (st' := [(.ref t1)]) rfl
  replace W1 := W1.astore (pc' := 41) (L' := #[.val (.ref xa), .val (.ref ca), .val (.int (0 : Int32)), .val (.int (2 : Int32)), .val .null, .val (.ref t1)]) djdk_42_149_39 rfl rfl rfl
  replace W1 := W1.aloadN (pc' := 42) djdk_42_149_41 rfl rfl rfl
  replace W1 := W1.aload (pc' := 44) djdk_42_149_42 rfl rfl rfl
  replace W1 := W1.iloadN (pc' := 45) djdk_42_149_44 rfl rfl
  obtain ⟨V2, h2, r2, W2, K2, hQ2, SF2⟩ := W1.callS (pc' := 48) (argsL := [(.ref t1), (.int (2 : Int32))]) (rest := [(.ref xa)]) (Wd := 1) (cells' := 2) (slots' := 6) (y := (⟨"java/lang/StringUTF16", "coderFromArrayLen", "([BI)B"⟩ : MethodName)) djdk_42_149_45 (codlw_2 l Z a0 n0 hw hEL G1 O1 P1 O_as O_hi O_lo ro O_ro t1 kt1 ([(.int (c0.toInt8.toInt32)), (.int ((c0 >>> ((8 : Int32) &&& 31)).toInt8.toInt32)), (.int (c1.toInt8.toInt32)), (.int ((c1 >>> ((8 : Int32) &&& 31)).toInt8.toInt32))]) h1 W1.old q1_1) (tw93 hw) (tw94 hw) (tw88 hw) (tw95 hw) (by decide) (lenOf pd3 rfl) rfl rfl (by decide) (by decide) rfl sf0 all0 rfl rfl rfl (by decide) (by decide)
  clear W1
  obtain ⟨rfl, hs2⟩ := hQ2
  subst hs2
  have sf3 := (SF1 xa E_xa.lt (hsf _ (List.mem_of_getElem? (i := 0) rfl)))
  have sf4 := SF2 xa (Nat.lt_of_lt_of_le E_xa.lt z1) sf3
  replace W2 := W2.cast (st' := [(.int (1 : Int32)), (.ref xa)]) rfl
  have f5 := (F_xa_coder.keep K1 nin0)
  have e6 := (E_xa.keep K1)
  obtain ⟨h7, W7, w7, SF7⟩ := W2.putf (pc' := 51) (ty := .byte) djdk_42_149_48 (tw22 hw) Via.refl f5 e6 (Or.inr ⟨(tw18 hw), rfl, hnm⟩) (tw3 hw) (by decide) rfl rfl sf4 (Or.inl (List.mem_of_getElem? (i := 0) rfl)) rfl
  clear W2
  have z7 : h1.size ≤ h7.size := Nat.le_of_eq w7.size.symm
  have f7 := f5.same w7
  replace W7 := W7.aloadN (pc' := 52) djdk_42_149_51 rfl rfl rfl
  replace W7 := W7.aload (pc' := 54) djdk_42_149_52 rfl rfl rfl
  have f8 := ((F_xa_value.keep K1 nin0).other w7 (Or.inr (slot_ne (C := "java/lang/String") (Or.inr (tw17 hw)) (Or.inr (tw18 hw)) (by decide) (t := (.array .byte)) (t' := .byte) (by decide) (by decide))))
  have e9 := (e6.wr w7)
  have sf10 := (SF7 xa sf4)
  obtain ⟨h11, W11, w11, SF11⟩ := W7.putf (pc' := 57) (ty := (.array .byte)) djdk_42_149_54 (tw21 hw) Via.refl f8 e9 (Or.inr ⟨(tw17 hw), rfl, hnm⟩) (tw3 hw) (by decide) rfl rfl sf10 (Or.inl (List.mem_of_getElem? (i := 0) rfl)) rfl
  clear W7
  have z11 : h7.size ≤ h11.size := Nat.le_of_eq w11.size.symm
  have f11 := f8.same w11
  have e12 := (e9.wr w11)
  have f13 := (f7.other w11 (Or.inr (slot_ne (C := "java/lang/String") (Or.inr (tw18 hw)) (Or.inr (tw17 hw)) (by decide) (t := .byte) (t' := (.array .byte)) (by decide) (by decide))))
  have v14 := ((q1_1.other w7 (Nat.ne_of_gt (Nat.lt_of_lt_of_le E_xa.lt q1_2))).other w11 (Nat.ne_of_gt (Nat.lt_of_lt_of_le E_xa.lt q1_2)))
  exact W11.vret djdk_42_149_57 rfl (by decide) (by decide) (fun V' cv => ⟨t1, kt1, rfl, e12, f13, f11, v14⟩)
theorem ef_new1_2w0 (m : MethodId) (xa : Addr) (ca : Addr) (kc : ClassId) (c0 : Int32) (c1 : Int32) : entryFrame m #[(.ref xa), (.ref ca)] 2 = mkF m 0 #[.val (.ref xa), .val (.ref ca)] [] := by first | (simp [entryFrame, mkF, argsToLocals, Value.category]; done) | rfl
set_option maxRecDepth 65536 in
set_option maxHeartbeats 40000000 in
theorem new1_2w0 (l : Launch) (Z : State) (a0 : Array Value) (n0 : Nat) (hw : ∀ d ∈ tables_1, d.before a0 Z = true) (hEL : EW Z a0 consts_1) (G1 : Int32) (O1 : Sta Z Z.heap "java/lang/String" "COMPACT_STRINGS" "Z" (.int G1)) (P1 : ¬ (G1 = (0 : Int32))) (O_as : Sta Z Z.heap "java/lang/StringUTF16" "$assertionsDisabled" "Z" (.int (1 : Int32))) (O_hi : Sta Z Z.heap "java/lang/StringUTF16" "HI_BYTE_SHIFT" "I" (.int (0 : Int32))) (O_lo : Sta Z Z.heap "java/lang/StringUTF16" "LO_BYTE_SHIFT" "I" (.int (8 : Int32))) (ro : Addr) (O_ro : Sta Z Z.heap "com/example/rolebind/rolebind/Decision$Reason" "ROLE" "Lcom/example/rolebind/rolebind/Decision$Reason;" (.ref ro)) (xa : Addr) (ca : Addr) (kc : ClassId) (c0 : Int32) (c1 : Int32) (h0 : Heap) (hO : Old Z n0 h0) (E_xa : Exa Z h0 xa "java/lang/String") (F_xa_value : Fld Z h0 xa "java/lang/String" "value" "[B" .null) (F_xa_coder : Fld Z h0 xa "java/lang/String" "coder" "B" (.int (0 : Int32))) (V_ca : Arv Z h0 ca kc .char (2 : Int32) [(.int c0), (.int c1)] (.int (0 : Int32))) (hq_c0 : ¬ c0 < 0 ∧ ¬ (65535 : Int32) < c0) (hq_c1 : ¬ c1 < 0 ∧ ¬ (65535 : Int32) < c1) (gt_c0 : (255 : Int32) < c0) (g_xa : n0 ≤ xa) :
    Con l Z consts_1 n0 (⟨"java/lang/String", "<init>", "([C)V"⟩ : MethodName) jdk_42_method_3_code 2 none ({ frames := 5, cells := 2, slots := 6, locals := 74 } : Room) #[(.ref xa), (.ref ca)] h0 [xa] (fun v h V' => ∃ (t : Addr) (kt : ClassId), v = none ∧ Exa Z h xa "java/lang/String" ∧ Fld Z h xa "java/lang/String" "coder" "B" (.int (1 : Int32)) ∧ Fld Z h xa "java/lang/String" "value" "[B" (.ref t) ∧ Arv Z h t kt .byte (4 : Int32) [(.int (c0.toInt8.toInt32)), (.int ((c0 >>> ((8 : Int32) &&& 31)).toInt8.toInt32)), (.int (c1.toInt8.toInt32)), (.int ((c1 >>> ((8 : Int32) &&& 31)).toInt8.toInt32))] (.int (0 : Int32))) [] := by
  refine Con.of (a0 := a0) pf1 (fun m => ef_new1_2w0 m xa ca kc c0 c1) (allS g_xa all0) hO hEL ?_
  intro p e s m below meth c S0 hnm hsf W
  replace W := W.aloadN (pc' := 1) djdk_42_3_0 rfl rfl rfl
  replace W := W.aloadN (pc' := 2) djdk_42_3_1 rfl rfl rfl
  replace W := W.iconst (pc' := 3) (v := (0 : Int32)) djdk_42_3_2 rfl rfl
  replace W := W.aloadN (pc' := 4) djdk_42_3_3 rfl rfl rfl
  replace W := W.alen (pc' := 5) djdk_42_3_4 V_ca rfl
  replace W := W.aconstNull (pc' := 6) djdk_42_3_5 rfl
  obtain ⟨V1, h1, r1, W1, K1, hQ1, SF1⟩ := W.callI (pc' := 9) (argsL := [(.ref ca), (.int (0 : Int32)), (.int (2 : Int32)), .null]) (rest := []) (Wd := 0) (cells' := 2) (slots' := 6) (a := xa) (y := (⟨"java/lang/String", "<init>", "([CIILjava/lang/Void;)V"⟩ : MethodName)) djdk_42_3_6 (new4_2w0 l Z a0 n0 hw hEL G1 O1 P1 O_as O_hi O_lo ro O_ro xa ca kc c0 c1 h0 W.old E_xa F_xa_value F_xa_coder V_ca hq_c0 hq_c1 gt_c0 g_xa) rfl (tw8 hw) (tw9 hw) (tw4 hw) (tw11 hw) (by decide) (lenOf pd0 rfl) rfl rfl (by decide) (by decide) rfl (sfS (hsf _ (List.mem_of_getElem? (i := 0) rfl)) sf0) (allS (Or.inl (List.mem_of_getElem? (i := 0) rfl)) all0) rfl rfl rfl (by decide) (by decide)
  clear W
  obtain ⟨t1, kt1, rfl, q1_1, q1_2, q1_3, q1_4⟩ := hQ1
  have z1 : h0.size ≤ h1.size := K1.1
  replace W1 := W1.cast (st' := []) rfl
  exact W1.vret djdk_42_3_9 rfl (by decide) (by decide) (fun V' cv => ⟨t1, kt1, rfl, q1_1, q1_2, q1_3, q1_4⟩)
theorem ef_getc_2w1 (m : MethodId) (ba : Addr) (kb : ClassId) (cz : Int32) (u0 : Int32) (u1 : Int32) : entryFrame m #[(.ref ba), (.int (1 : Int32))] 2 = mkF m 0 #[.val (.ref ba), .val (.int (1 : Int32))] [] := by first | (simp [entryFrame, mkF, argsToLocals, Value.category]; done) | rfl
set_option maxRecDepth 65536 in
set_option maxHeartbeats 40000000 in
theorem getc_2w1 (l : Launch) (Z : State) (a0 : Array Value) (n0 : Nat) (hw : ∀ d ∈ tables_1, d.before a0 Z = true) (hEL : EW Z a0 consts_1) (G1 : Int32) (O1 : Sta Z Z.heap "java/lang/String" "COMPACT_STRINGS" "Z" (.int G1)) (P1 : ¬ (G1 = (0 : Int32))) (O_as : Sta Z Z.heap "java/lang/StringUTF16" "$assertionsDisabled" "Z" (.int (1 : Int32))) (O_hi : Sta Z Z.heap "java/lang/StringUTF16" "HI_BYTE_SHIFT" "I" (.int (0 : Int32))) (O_lo : Sta Z Z.heap "java/lang/StringUTF16" "LO_BYTE_SHIFT" "I" (.int (8 : Int32))) (ro : Addr) (O_ro : Sta Z Z.heap "com/example/rolebind/rolebind/Decision$Reason" "ROLE" "Lcom/example/rolebind/rolebind/Decision$Reason;" (.ref ro)) (ba : Addr) (kb : ClassId) (cz : Int32) (u0 : Int32) (u1 : Int32) (h0 : Heap) (hO : Old Z n0 h0) (V_ba : Arv Z h0 ba kb .byte (4 : Int32) [(.int u0), (.int u1), (.int (cz.toInt8.toInt32)), (.int ((cz >>> ((8 : Int32) &&& 31)).toInt8.toInt32))] (.int (0 : Int32))) (hq_cz : ¬ cz < 0 ∧ ¬ (65535 : Int32) < cz) :
    Con l Z consts_1 n0 (⟨"java/lang/StringUTF16", "getChar", "([BI)C"⟩ : MethodName) jdk_52_method_5_code 2 (some .char) ({ frames := 0, cells := 0, slots := 0, locals := 0 } : Room) #[(.ref ba), (.int (1 : Int32))] h0 [] (fun v h V' => v = some (.int cz) ∧ h0 = h) [] := by
  refine Con.of (a0 := a0) pf9 (fun m => ef_getc_2w1 m ba kb cz u0 u1) all0 hO hEL ?_
  intro p e s m below meth c S0 hnm hsf W
  replace W := W.gets (pc' := 3) djdk_52_5_0 (tw109 hw) O_as rfl
  replace W := W.ifT (pc' := 28) djdk_52_5_3 (feq (by decide : ¬ ((1 : Int32) = (0 : Int32)))).2 (by decide) (by decide)
  replace W := W.iloadN (pc' := 29) djdk_52_5_28 rfl rfl
  replace W := W.iconst (pc' := 30) (v := (1 : Int32)) djdk_52_5_29 rfl rfl
  replace W := W.ishl (pc' := 31) (v := (2 : Int32)) djdk_52_5_30 (by decide) rfl
  replace W := W.istoreN (pc' := 32) (L' := #[.val (.ref ba), .val (.int (2 : Int32))]) djdk_52_5_31 rfl rfl
  replace W := W.aloadN (pc' := 33) djdk_52_5_32 rfl rfl rfl
  replace W := W.iloadN (pc' := 34) djdk_52_5_33 rfl rfl
  replace W := W.iinc (pc' := 37) (v := (3 : Int32)) (L' := #[.val (.ref ba), .val (.int (3 : Int32))]) djdk_52_5_34 rfl (by decide) rfl rfl
  replace W := W.baload (pc' := 38) (w := (.int (cz.toInt8.toInt32))) djdk_52_5_37 V_ba ⟨by decide, by decide⟩ rfl rfl
  replace W := W.sipush (pc' := 41) (v := (255 : Int32)) djdk_52_5_38 rfl rfl
  replace W := W.iand (pc' := 42) (v := ((cz.toInt8.toInt32) &&& (255 : Int32))) djdk_52_5_41 rfl rfl
  replace W := W.gets (pc' := 45) djdk_52_5_42 (tw110 hw) O_hi rfl
  replace W := W.ishl (pc' := 46) (v := (((cz.toInt8.toInt32) &&& (255 : Int32)) <<< ((0 : Int32) &&& 31))) djdk_52_5_45 rfl rfl
  replace W := W.aloadN (pc' := 47) djdk_52_5_46 rfl rfl rfl
  replace W := W.iloadN (pc' := 48) djdk_52_5_47 rfl rfl
  replace W := W.baload (pc' := 49) (w := (.int ((cz >>> ((8 : Int32) &&& 31)).toInt8.toInt32))) djdk_52_5_48 V_ba ⟨by decide, by decide⟩ rfl rfl
  replace W := W.sipush (pc' := 52) (v := (255 : Int32)) djdk_52_5_49 rfl rfl
  replace W := W.iand (pc' := 53) (v := (((cz >>> ((8 : Int32) &&& 31)).toInt8.toInt32) &&& (255 : Int32))) djdk_52_5_52 rfl rfl
  replace W := W.gets (pc' := 56) djdk_52_5_53 (tw111 hw) O_lo rfl
  replace W := W.ishl (pc' := 57) (v := ((((cz >>> ((8 : Int32) &&& 31)).toInt8.toInt32) &&& (255 : Int32)) <<< ((8 : Int32) &&& 31))) djdk_52_5_56 rfl rfl
  replace W := W.ior (pc' := 58) (v := ((((cz.toInt8.toInt32) &&& (255 : Int32)) <<< ((0 : Int32) &&& 31)) ||| ((((cz >>> ((8 : Int32) &&& 31)).toInt8.toInt32) &&& (255 : Int32)) <<< ((8 : Int32) &&& 31)))) djdk_52_5_57 rfl rfl
  replace W := W.i2c (pc' := 59) (v := cz) djdk_52_5_58 (own_pair hq_cz) rfl
  exact W.iret (t := .char) djdk_52_5_59 rfl (by simp) (own_narrow_char hq_cz) (by decide) (by decide) (fun V' cv => ⟨rfl, rfl⟩)
theorem ef_cmp5_2w1 (m : MethodId) (ca : Addr) (kc : ClassId) (ba : Addr) (kb : ClassId) (c0 : Int32) (c1 : Int32) : entryFrame m #[(.ref ca), (.int (0 : Int32)), (.ref ba), (.int (0 : Int32)), (.int (2 : Int32))] 7 = mkF m 0 #[.val (.ref ca), .val (.int (0 : Int32)), .val (.ref ba), .val (.int (0 : Int32)), .val (.int (2 : Int32)), .unset, .unset] [] := by first | (simp [entryFrame, mkF, argsToLocals, Value.category]; done) | rfl
set_option maxRecDepth 65536 in
set_option maxHeartbeats 40000000 in
theorem cmp5_2w1 (l : Launch) (Z : State) (a0 : Array Value) (n0 : Nat) (hw : ∀ d ∈ tables_1, d.before a0 Z = true) (hEL : EW Z a0 consts_1) (G1 : Int32) (O1 : Sta Z Z.heap "java/lang/String" "COMPACT_STRINGS" "Z" (.int G1)) (P1 : ¬ (G1 = (0 : Int32))) (O_as : Sta Z Z.heap "java/lang/StringUTF16" "$assertionsDisabled" "Z" (.int (1 : Int32))) (O_hi : Sta Z Z.heap "java/lang/StringUTF16" "HI_BYTE_SHIFT" "I" (.int (0 : Int32))) (O_lo : Sta Z Z.heap "java/lang/StringUTF16" "LO_BYTE_SHIFT" "I" (.int (8 : Int32))) (ro : Addr) (O_ro : Sta Z Z.heap "com/example/rolebind/rolebind/Decision$Reason" "ROLE" "Lcom/example/rolebind/rolebind/Decision$Reason;" (.ref ro)) (ca : Addr) (kc : ClassId) (ba : Addr) (kb : ClassId) (c0 : Int32) (c1 : Int32) (h0 : Heap) (hO : Old Z n0 h0) (V_ca : Arv Z h0 ca kc .char (2 : Int32) [(.int c0), (.int c1)] (.int (0 : Int32))) (V_ba : Arv Z h0 ba kb .byte (2 : Int32) [(.int (0 : Int32)), (.int (0 : Int32))] (.int (0 : Int32))) (N_ca_ba : ca ≠ ba) (hp_c0 : ¬ c0 < 0 ∧ ¬ (255 : Int32) < c0) (gt_c1 : (255 : Int32) < c1) (g_ba : n0 ≤ ba) :
    Con l Z consts_1 n0 (⟨"java/lang/StringUTF16", "compress", "([CI[BII)I"⟩ : MethodName) jdk_52_method_21_code 7 (some .int) ({ frames := 0, cells := 0, slots := 0, locals := 0 } : Room) #[(.ref ca), (.int (0 : Int32)), (.ref ba), (.int (0 : Int32)), (.int (2 : Int32))] h0 [ba] (fun v h V' => v = some (.int (1 : Int32)) ∧ Arv Z h ba kb .byte (2 : Int32) [(.int (c0.toInt8.toInt32)), (.int (0 : Int32))] (.int (0 : Int32))) [] := by
  refine Con.of (a0 := a0) pf2 (fun m => ef_cmp5_2w1 m ca kc ba kb c0 c1) (allS g_ba all0) hO hEL ?_
  intro p e s m below meth c S0 hnm hsf W
  replace W := W.iconst (pc' := 1) (v := (0 : Int32)) djdk_52_21_0 rfl rfl
  replace W := W.istore (pc' := 3) (L' := #[.val (.ref ca), .val (.int (0 : Int32)), .val (.ref ba), .val (.int (0 : Int32)), .val (.int (2 : Int32)), .val (.int (0 : Int32)), .unset]) djdk_52_21_1 rfl rfl
  replace W := W.iload (pc' := 5) djdk_52_21_3 rfl rfl
  replace W := W.iload (pc' := 7) djdk_52_21_5 rfl rfl
  replace W := W.icmpF (pc' := 10) djdk_52_21_7 (tlt (by decide : (0 : Int32) < (2 : Int32))).2.1 rfl
  replace W := W.aloadN (pc' := 11) djdk_52_21_10 rfl rfl rfl
  replace W := W.iloadN (pc' := 12) djdk_52_21_11 rfl rfl
  replace W := W.caload (pc' := 13) (w := (.int c0)) djdk_52_21_12 V_ca ⟨by decide, by decide⟩ rfl rfl
  replace W := W.istore (pc' := 15) (L' := #[.val (.ref ca), .val (.int (0 : Int32)), .val (.ref ba), .val (.int (0 : Int32)), .val (.int (2 : Int32)), .val (.int (0 : Int32)), .val (.int c0)]) djdk_52_21_13 rfl rfl
  replace W := W.iload (pc' := 17) djdk_52_21_15 rfl rfl
  replace W := W.sipush (pc' := 20) (v := (255 : Int32)) djdk_52_21_17 rfl rfl
  replace W := W.icmpT (pc' := 26) djdk_52_21_20 (flt hp_c0.2).2.2.2 (by decide) (by decide)
  replace W := W.aloadN (pc' := 27) djdk_52_21_26 rfl rfl rfl
  replace W := W.iloadN (pc' := 28) djdk_52_21_27 rfl rfl
  replace W := W.iload (pc' := 30) djdk_52_21_28 rfl rfl
  replace W := W.i2b (pc' := 31) (v := (c0.toInt8.toInt32)) djdk_52_21_30 rfl rfl
  obtain ⟨h1, W1, w1, A1, SF1⟩ := W.bastore (pc' := 32) (i := 0) (x' := (c0.toInt8.toInt32)) djdk_52_21_31 V_ba ⟨by decide, by decide⟩ rfl (by show 0 < 2; decide) (own_narb _) (hsf _ (List.mem_of_getElem? (i := 0) rfl)) (Or.inl (List.mem_of_getElem? (i := 0) rfl)) rfl
  clear W
  have z1 : h0.size ≤ h1.size := Nat.le_of_eq w1.size.symm
  have v1 : Arv Z h1 ba kb .byte (2 : Int32) [(.int (c0.toInt8.toInt32)), (.int (0 : Int32))] (.int (0 : Int32)) := A1
  replace W1 := W1.iinc (pc' := 35) (v := (1 : Int32)) (L' := #[.val (.ref ca), .val (.int (1 : Int32)), .val (.ref ba), .val (.int (0 : Int32)), .val (.int (2 : Int32)), .val (.int (0 : Int32)), .val (.int c0)]) djdk_52_21_32 rfl (by decide) rfl rfl
  replace W1 := W1.iinc (pc' := 38) (v := (1 : Int32)) (L' := #[.val (.ref ca), .val (.int (1 : Int32)), .val (.ref ba), .val (.int (1 : Int32)), .val (.int (2 : Int32)), .val (.int (0 : Int32)), .val (.int c0)]) djdk_52_21_35 rfl (by decide) rfl rfl
  replace W1 := W1.iinc (pc' := 41) (v := (1 : Int32)) (L' := #[.val (.ref ca), .val (.int (1 : Int32)), .val (.ref ba), .val (.int (1 : Int32)), .val (.int (2 : Int32)), .val (.int (1 : Int32)), .val (.int c0)]) djdk_52_21_38 rfl (by decide) rfl rfl
  replace W1 := W1.goto (pc' := 3) djdk_52_21_41 (by decide) (by decide)
  replace W1 := W1.iload (pc' := 5) djdk_52_21_3 rfl rfl
  replace W1 := W1.iload (pc' := 7) djdk_52_21_5 rfl rfl
  replace W1 := W1.icmpF (pc' := 10) djdk_52_21_7 (tlt (by decide : (1 : Int32) < (2 : Int32))).2.1 rfl
  replace W1 := W1.aloadN (pc' := 11) djdk_52_21_10 rfl rfl rfl
  replace W1 := W1.iloadN (pc' := 12) djdk_52_21_11 rfl rfl
  have v2 := (V_ca.other w1 N_ca_ba)
  replace W1 := W1.caload (pc' := 13) (w := (.int c1)) djdk_52_21_12 v2 ⟨by decide, by decide⟩ rfl rfl
  replace W1 := W1.istore (pc' := 15) (L' := #[.val (.ref ca), .val (.int (1 : Int32)), .val (.ref ba), .val (.int (1 : Int32)), .val (.int (2 : Int32)), .val (.int (1 : Int32)), .val (.int c1)]) djdk_52_21_13 rfl rfl
  replace W1 := W1.iload (pc' := 17) djdk_52_21_15 rfl rfl
  replace W1 := W1.sipush (pc' := 20) (v := (255 : Int32)) djdk_52_21_17 rfl rfl
  replace W1 := W1.icmpF (pc' := 23) djdk_52_21_20 (tlt gt_c1).2.2.2 rfl
  replace W1 := W1.iload (pc' := 25) djdk_52_21_23 rfl rfl
  exact W1.iret (t := .int) djdk_52_21_25 rfl (by simp) rfl (by decide) (by decide) (fun V' cv => ⟨rfl, v1⟩)
theorem ef_cmp3_2w1 (m : MethodId) (ca : Addr) (kc : ClassId) (c0 : Int32) (c1 : Int32) : entryFrame m #[(.ref ca), (.int (0 : Int32)), (.int (2 : Int32))] 6 = mkF m 0 #[.val (.ref ca), .val (.int (0 : Int32)), .val (.int (2 : Int32)), .unset, .unset, .unset] [] := by first | (simp [entryFrame, mkF, argsToLocals, Value.category]; done) | rfl
set_option maxRecDepth 65536 in
set_option maxHeartbeats 40000000 in
theorem cmp3_2w1 (l : Launch) (Z : State) (a0 : Array Value) (n0 : Nat) (hw : ∀ d ∈ tables_1, d.before a0 Z = true) (hEL : EW Z a0 consts_1) (G1 : Int32) (O1 : Sta Z Z.heap "java/lang/String" "COMPACT_STRINGS" "Z" (.int G1)) (P1 : ¬ (G1 = (0 : Int32))) (O_as : Sta Z Z.heap "java/lang/StringUTF16" "$assertionsDisabled" "Z" (.int (1 : Int32))) (O_hi : Sta Z Z.heap "java/lang/StringUTF16" "HI_BYTE_SHIFT" "I" (.int (0 : Int32))) (O_lo : Sta Z Z.heap "java/lang/StringUTF16" "LO_BYTE_SHIFT" "I" (.int (8 : Int32))) (ro : Addr) (O_ro : Sta Z Z.heap "com/example/rolebind/rolebind/Decision$Reason" "ROLE" "Lcom/example/rolebind/rolebind/Decision$Reason;" (.ref ro)) (ca : Addr) (kc : ClassId) (c0 : Int32) (c1 : Int32) (h0 : Heap) (hO : Old Z n0 h0) (V_ca : Arv Z h0 ca kc .char (2 : Int32) [(.int c0), (.int c1)] (.int (0 : Int32))) (hq_c0 : ¬ c0 < 0 ∧ ¬ (65535 : Int32) < c0) (hq_c1 : ¬ c1 < 0 ∧ ¬ (65535 : Int32) < c1) (hp_c0 : ¬ c0 < 0 ∧ ¬ (255 : Int32) < c0) (gt_c1 : (255 : Int32) < c1) :
    Con l Z consts_1 n0 (⟨"java/lang/StringUTF16", "compress", "([CII)[B"⟩ : MethodName) jdk_52_method_16_code 6 (some (.array .byte)) ({ frames := 3, cells := 2, slots := 6, locals := 40 } : Room) #[(.ref ca), (.int (0 : Int32)), (.int (2 : Int32))] h0 [] (fun v h V' => ∃ (t : Addr) (kt : ClassId), v = some (.ref t) ∧ Arv Z h t kt .byte (4 : Int32) [(.int (c0.toInt8.toInt32)), (.int ((c0 >>> ((8 : Int32) &&& 31)).toInt8.toInt32)), (.int (c1.toInt8.toInt32)), (.int ((c1 >>> ((8 : Int32) &&& 31)).toInt8.toInt32))] (.int (0 : Int32)) ∧ h0.size ≤ t) [] := by
  refine Con.of (a0 := a0) pf3 (fun m => ef_cmp3_2w1 m ca kc c0 c1) all0 hO hEL ?_
  intro p e s m below meth c S0 hnm hsf W
  replace W := W.iloadN (pc' := 1) djdk_52_16_0 rfl rfl
  obtain ⟨h1, a1, W1, E1, g1, ⟨k1, A1⟩, sf1, SF1⟩ := W.newarr (pc' := 3) (cap := 2) (cells' := 1) (slots' := 2) djdk_52_16_1 (tw16 hw) (by decide) (by decide) (by decide) rfl rfl rfl (by decide) (by decide)
  clear W
  rw [← g1] at A1
  have z1 : h0.size ≤ h1.size := E1.1
  have v1 : Arv Z h1 a1 k1 .byte (2 : Int32) [(.int (0 : Int32)), (.int (0 : Int32))] (.int (0 : Int32)) := A1.pad (pad_rep [] (.int (0 : Int32)) 2)
  replace W1 := W1.astoreN (pc' := 4) (L' := #[.val (.ref ca), .val (.int (0 : Int32)), .val (.int (2 : Int32)), .val (.ref a1), .unset, .unset]) djdk_52_16_3 rfl rfl rfl
  replace W1 := W1.aloadN (pc' := 5) djdk_52_16_4 rfl rfl rfl
  replace W1 := W1.iloadN (pc' := 6) djdk_52_16_5 rfl rfl
  replace W1 := W1.aloadN (pc' := 7) djdk_52_16_6 rfl rfl rfl
  replace W1 := W1.iconst (pc' := 8) (v := (0 : Int32)) djdk_52_16_7 rfl rfl
  replace W1 := W1.iloadN (pc' := 9) djdk_52_16_8 rfl rfl
  have v2 := (V_ca.ext E1)
  obtain ⟨V3, h3, r3, W3, K3, hQ3, SF3⟩ := W1.callS (pc' := 12) (argsL := [(.ref ca), (.int (0 : Int32)), (.ref a1), (.int (0 : Int32)), (.int (2 : Int32))]) (rest := []) (Wd := 0) (cells' := 1) (slots' := 2) (y := (⟨"java/lang/StringUTF16", "compress", "([CI[BII)I"⟩ : MethodName)) djdk_52_16_9 (cmp5_2w1 l Z a0 n0 hw hEL G1 O1 P1 O_as O_hi O_lo ro O_ro ca kc a1 k1 c0 c1 h1 W1.old v2 v1 (Nat.ne_of_lt (Nat.lt_of_lt_of_le V_ca.lt (Nat.le_of_eq g1.symm))) hp_c0 gt_c1 (Nat.le_trans W1.1.2.2.2.2.2.2.2.1 (Nat.le_of_eq g1.symm))) (tw90 hw) (tw91 hw) (tw88 hw) (tw92 hw) (by decide) (lenOf pd1 rfl) rfl rfl (by decide) (by decide) rfl (sfS sf1 sf0) (allS (Or.inr (Nat.le_of_eq g1.symm)) all0) rfl rfl rfl (by decide) (by decide)
  clear W1
  obtain ⟨rfl, q3_1⟩ := hQ3
  have z3 : h1.size ≤ h3.size := K3.1
  replace W3 := W3.cast (st' := [(.int (1 : Int32))]) rfl
  replace W3 := W3.istore (pc' := 14) (L' := #[.val (.ref ca), .val (.int (0 : Int32)), .val (.int (2 : Int32)), .val (.ref a1), .val (.int (1 : Int32)), .unset]) djdk_52_16_12 rfl rfl
  replace W3 := W3.iload (pc' := 16) djdk_52_16_14 rfl rfl
  replace W3 := W3.iloadN (pc' := 17) djdk_52_16_16 rfl rfl
  replace W3 := W3.icmpF (pc' := 20) djdk_52_16_17 (feq (by decide : ¬ ((1 : Int32) = (2 : Int32)))).1 rfl
  replace W3 := W3.aloadN (pc' := 21) djdk_52_16_20 rfl rfl rfl
  replace W3 := W3.iloadN (pc' := 22) djdk_52_16_21 rfl rfl
  replace W3 := W3.iloadN (pc' := 23) djdk_52_16_22 rfl rfl
  have v4 := (v2.keep K3 (ninS (Nat.ne_of_lt (Nat.lt_of_lt_of_le V_ca.lt (Nat.le_of_eq g1.symm))) nin0))
  obtain ⟨V5, h5, r5, W5, K5, hQ5, SF5⟩ := W3.callS (pc' := 26) (argsL := [(.ref ca), (.int (0 : Int32)), (.int (2 : Int32))]) (rest := []) (Wd := 0) (cells' := 2) (slots' := 6) (y := (⟨"java/lang/StringUTF16", "toBytes", "([CII)[B"⟩ : MethodName)) djdk_52_16_23 (tob_2 l Z a0 n0 hw hEL G1 O1 P1 O_as O_hi O_lo ro O_ro ca kc c0 c1 h3 W3.old v4) (tw96 hw) (tw97 hw) (tw88 hw) (tw98 hw) (by decide) (lenOf pd2 rfl) rfl rfl (by decide) (by decide) rfl sf0 all0 rfl rfl rfl (by decide) (by decide)
  clear W3
  obtain ⟨t5, kt5, rfl, q5_1, q5_2⟩ := hQ5
  have z5 : h3.size ≤ h5.size := K5.1
  replace W5 := W5.cast (st' := [(.ref t5)]) rfl
  replace W5 := W5.astore (pc' := 28) (L' := #[.val (.ref ca), .val (.int (0 : Int32)), .val (.int (2 : Int32)), .val (.ref a1), .val (.int (1 : Int32)), .val (.ref t5)]) djdk_52_16_26 rfl rfl rfl
  replace W5 := W5.aload (pc' := 30) djdk_52_16_28 rfl rfl rfl
  replace W5 := W5.iload (pc' := 32) djdk_52_16_30 rfl rfl
  obtain ⟨V6, h6, r6, W6, K6, hQ6, SF6⟩ := W5.callS (pc' := 35) (argsL := [(.ref t5), (.int (1 : Int32))]) (rest := []) (Wd := 0) (cells' := 2) (slots' := 6) (y := (⟨"java/lang/StringUTF16", "getChar", "([BI)C"⟩ : MethodName)) djdk_52_16_32 (getc_2w1 l Z a0 n0 hw hEL G1 O1 P1 O_as O_hi O_lo ro O_ro t5 kt5 c1 (c0.toInt8.toInt32) ((c0 >>> ((8 : Int32) &&& 31)).toInt8.toInt32) h5 W5.old q5_1 hq_c1) (tw112 hw) (tw113 hw) (tw88 hw) (tw114 hw) (by decide) (lenOf pd7 rfl) rfl rfl (by decide) (by decide) rfl sf0 all0 rfl rfl rfl (by decide) (by decide)
  clear W5
  obtain ⟨rfl, hs6⟩ := hQ6
  subst hs6
  have sf7 := (SF5 a1 q3_1.lt (SF3 a1 v1.lt sf1))
  have sf8 := SF6 a1 (Nat.lt_of_lt_of_le q3_1.lt z5) sf7
  replace W6 := W6.cast (st' := [(.int c1)]) rfl
  replace W6 := W6.sipush (pc' := 38) (v := (255 : Int32)) djdk_52_16_35 rfl rfl
  replace W6 := W6.icmpT (pc' := 54) djdk_52_16_38 (tlt gt_c1).2.2.1 (by decide) (by decide)
  replace W6 := W6.aload (pc' := 56) djdk_52_16_54 rfl rfl rfl
  exact W6.aret (t := (.array .byte)) djdk_52_16_56 rfl rfl rfl rfl (by decide) (by decide) (fun V' cv => ⟨t5, kt5, rfl, q5_1, (Nat.le_trans (Nat.le_trans z1 z3) q5_2)⟩)
theorem ef_new4_2w1 (m : MethodId) (xa : Addr) (ca : Addr) (kc : ClassId) (c0 : Int32) (c1 : Int32) : entryFrame m #[(.ref xa), (.ref ca), (.int (0 : Int32)), (.int (2 : Int32)), .null] 6 = mkF m 0 #[.val (.ref xa), .val (.ref ca), .val (.int (0 : Int32)), .val (.int (2 : Int32)), .val .null, .unset] [] := by first | (simp [entryFrame, mkF, argsToLocals, Value.category]; done) | rfl
set_option maxRecDepth 65536 in
set_option maxHeartbeats 40000000 in
theorem new4_2w1 (l : Launch) (Z : State) (a0 : Array Value) (n0 : Nat) (hw : ∀ d ∈ tables_1, d.before a0 Z = true) (hEL : EW Z a0 consts_1) (G1 : Int32) (O1 : Sta Z Z.heap "java/lang/String" "COMPACT_STRINGS" "Z" (.int G1)) (P1 : ¬ (G1 = (0 : Int32))) (O_as : Sta Z Z.heap "java/lang/StringUTF16" "$assertionsDisabled" "Z" (.int (1 : Int32))) (O_hi : Sta Z Z.heap "java/lang/StringUTF16" "HI_BYTE_SHIFT" "I" (.int (0 : Int32))) (O_lo : Sta Z Z.heap "java/lang/StringUTF16" "LO_BYTE_SHIFT" "I" (.int (8 : Int32))) (ro : Addr) (O_ro : Sta Z Z.heap "com/example/rolebind/rolebind/Decision$Reason" "ROLE" "Lcom/example/rolebind/rolebind/Decision$Reason;" (.ref ro)) (xa : Addr) (ca : Addr) (kc : ClassId) (c0 : Int32) (c1 : Int32) (h0 : Heap) (hO : Old Z n0 h0) (E_xa : Exa Z h0 xa "java/lang/String") (F_xa_value : Fld Z h0 xa "java/lang/String" "value" "[B" .null) (F_xa_coder : Fld Z h0 xa "java/lang/String" "coder" "B" (.int (0 : Int32))) (V_ca : Arv Z h0 ca kc .char (2 : Int32) [(.int c0), (.int c1)] (.int (0 : Int32))) (hq_c0 : ¬ c0 < 0 ∧ ¬ (65535 : Int32) < c0) (hq_c1 : ¬ c1 < 0 ∧ ¬ (65535 : Int32) < c1) (hp_c0 : ¬ c0 < 0 ∧ ¬ (255 : Int32) < c0) (gt_c1 : (255 : Int32) < c1) (g_xa : n0 ≤ xa) :
    Con l Z consts_1 n0 (⟨"java/lang/String", "<init>", "([CIILjava/lang/Void;)V"⟩ : MethodName) jdk_42_method_149_code 6 none ({ frames := 4, cells := 2, slots := 6, locals := 57 } : Room) #[(.ref xa), (.ref ca), (.int (0 : Int32)), (.int (2 : Int32)), .null] h0 [xa] (fun v h V' => ∃ (t : Addr) (kt : ClassId), v = none ∧ Exa Z h xa "java/lang/String" ∧ Fld Z h xa "java/lang/String" "coder" "B" (.int (1 : Int32)) ∧ Fld Z h xa "java/lang/String" "value" "[B" (.ref t) ∧ Arv Z h t kt .byte (4 : Int32) [(.int (c0.toInt8.toInt32)), (.int ((c0 >>> ((8 : Int32) &&& 31)).toInt8.toInt32)), (.int (c1.toInt8.toInt32)), (.int ((c1 >>> ((8 : Int32) &&& 31)).toInt8.toInt32))] (.int (0 : Int32))) [] := by
  refine Con.of (a0 := a0) pf0 (fun m => ef_new4_2w1 m xa ca kc c0 c1) (allS g_xa all0) hO hEL ?_
  intro p e s m below meth c S0 hnm hsf W
  replace W := W.aloadN (pc' := 1) djdk_42_149_0 rfl rfl rfl
  replace W := W.initO (pc' := 4) (Wd := 0) djdk_42_149_1 (tw12 hw) (tw13 hw) (tw14 hw) rfl rfl (by decide) (by decide) rfl
  replace W := W.iloadN (pc' := 5) djdk_42_149_4 rfl rfl
  replace W := W.ifT (pc' := 27) djdk_42_149_5 (feq (by decide : ¬ ((2 : Int32) = (0 : Int32)))).2 (by decide) (by decide)
  replace W := W.gets (pc' := 30) djdk_42_149_27 (tw85 hw) O1 rfl
  replace W := W.ifF (pc' := 33) djdk_42_149_30 (feq P1).1 rfl
  replace W := W.aloadN (pc' := 34) djdk_42_149_33 rfl rfl rfl
  replace W := W.iloadN (pc' := 35) djdk_42_149_34 rfl rfl
  replace W := W.iloadN (pc' := 36) djdk_42_149_35 rfl rfl
  obtain ⟨V1, h1, r1, W1, K1, hQ1, SF1⟩ := W.callS (pc' := 39) (argsL := [(.ref ca), (.int (0 : Int32)), (.int (2 : Int32))]) (rest := []) (Wd := 0) (cells' := 2) (slots' := 6) (y := (⟨"java/lang/StringUTF16", "compress", "([CII)[B"⟩ : MethodName)) djdk_42_149_36 (cmp3_2w1 l Z a0 n0 hw hEL G1 O1 P1 O_as O_hi O_lo ro O_ro ca kc c0 c1 h0 W.old V_ca hq_c0 hq_c1 hp_c0 gt_c1) (tw86 hw) (tw87 hw) (tw88 hw) (tw89 hw) (by decide) (lenOf pd2 rfl) rfl rfl (by decide) (by decide) rfl sf0 all0 rfl rfl rfl (by decide) (by decide)
  clear W
  obtain ⟨t1, kt1, rfl, q1_1, q1_2⟩ := hQ1
  have z1 : h0.size ≤ h1.size := K1.1
  replace W1 := W1.cast (st' := [(.ref t1)]) rfl
  replace W1 := W1.astore (pc' := 41) (L' := #[.val (.ref xa), .val (.ref ca), .val (.int (0 : Int32)), .val (.int (2 : Int32)), .val .null, .val (.ref t1)]) djdk_42_149_39 rfl rfl rfl
  replace W1 := W1.aloadN (pc' := 42) djdk_42_149_41 rfl rfl rfl
  replace W1 := W1.aload (pc' := 44) djdk_42_149_42 rfl rfl rfl
  replace W1 := W1.iloadN (pc' := 45) djdk_42_149_44 rfl rfl
  obtain ⟨V2, h2, r2, W2, K2, hQ2, SF2⟩ := W1.callS (pc' := 48) (argsL := [(.ref t1), (.int (2 : Int32))]) (rest := [(.ref xa)]) (Wd := 1) (cells' := 2) (slots' := 6) (y := (⟨"java/lang/StringUTF16", "coderFromArrayLen", "([BI)B"⟩ : MethodName)) djdk_42_149_45 (codlw_2 l Z a0 n0 hw hEL G1 O1 P1 O_as O_hi O_lo ro O_ro t1 kt1 ([(.int (c0.toInt8.toInt32)), (.int ((c0 >>> ((8 : Int32) &&& 31)).toInt8.toInt32)), (.int (c1.toInt8.toInt32)), (.int ((c1 >>> ((8 : Int32) &&& 31)).toInt8.toInt32))]) h1 W1.old q1_1) (tw93 hw) (tw94 hw) (tw88 hw) (tw95 hw) (by decide) (lenOf pd3 rfl) rfl rfl (by decide) (by decide) rfl sf0 all0 rfl rfl rfl (by decide) (by decide)
  clear W1
  obtain ⟨rfl, hs2⟩ := hQ2
  subst hs2
  have sf3 := (SF1 xa E_xa.lt (hsf _ (List.mem_of_getElem? (i := 0) rfl)))
  have sf4 := SF2 xa (Nat.lt_of_lt_of_le E_xa.lt z1) sf3
  replace W2 := W2.cast (st' := [(.int (1 : Int32)), (.ref xa)]) rfl
  have f5 := (F_xa_coder.keep K1 nin0)
  have e6 := (E_xa.keep K1)
  obtain ⟨h7, W7, w7, SF7⟩ := W2.putf (pc' := 51) (ty := .byte) djdk_42_149_48 (tw22 hw) Via.refl f5 e6 (Or.inr ⟨(tw18 hw), rfl, hnm⟩) (tw3 hw) (by decide) rfl rfl sf4 (Or.inl (List.mem_of_getElem? (i := 0) rfl)) rfl
  clear W2
  have z7 : h1.size ≤ h7.size := Nat.le_of_eq w7.size.symm
  have f7 := f5.same w7
  replace W7 := W7.aloadN (pc' := 52) djdk_42_149_51 rfl rfl rfl
  replace W7 := W7.aload (pc' := 54) djdk_42_149_52 rfl rfl rfl
  have f8 := ((F_xa_value.keep K1 nin0).other w7 (Or.inr (slot_ne (C := "java/lang/String") (Or.inr (tw17 hw)) (Or.inr (tw18 hw)) (by decide) (t := (.array .byte)) (t' := .byte) (by decide) (by decide))))
  have e9 := (e6.wr w7)
  have sf10 := (SF7 xa sf4)
  obtain ⟨h11, W11, w11, SF11⟩ := W7.putf (pc' := 57) (ty := (.array .byte)) djdk_42_149_54 (tw21 hw) Via.refl f8 e9 (Or.inr ⟨(tw17 hw), rfl, hnm⟩) (tw3 hw) (by decide) rfl rfl sf10 (Or.inl (List.mem_of_getElem? (i := 0) rfl)) rfl
  clear W7
  have z11 : h7.size ≤ h11.size := Nat.le_of_eq w11.size.symm
  have f11 := f8.same w11
  have e12 := (e9.wr w11)
  have f13 := (f7.other w11 (Or.inr (slot_ne (C := "java/lang/String") (Or.inr (tw18 hw)) (Or.inr (tw17 hw)) (by decide) (t := .byte) (t' := (.array .byte)) (by decide) (by decide))))
  have v14 := ((q1_1.other w7 (Nat.ne_of_gt (Nat.lt_of_lt_of_le E_xa.lt q1_2))).other w11 (Nat.ne_of_gt (Nat.lt_of_lt_of_le E_xa.lt q1_2)))
  exact W11.vret djdk_42_149_57 rfl (by decide) (by decide) (fun V' cv => ⟨t1, kt1, rfl, e12, f13, f11, v14⟩)
theorem ef_new1_2w1 (m : MethodId) (xa : Addr) (ca : Addr) (kc : ClassId) (c0 : Int32) (c1 : Int32) : entryFrame m #[(.ref xa), (.ref ca)] 2 = mkF m 0 #[.val (.ref xa), .val (.ref ca)] [] := by first | (simp [entryFrame, mkF, argsToLocals, Value.category]; done) | rfl
set_option maxRecDepth 65536 in
set_option maxHeartbeats 40000000 in
theorem new1_2w1 (l : Launch) (Z : State) (a0 : Array Value) (n0 : Nat) (hw : ∀ d ∈ tables_1, d.before a0 Z = true) (hEL : EW Z a0 consts_1) (G1 : Int32) (O1 : Sta Z Z.heap "java/lang/String" "COMPACT_STRINGS" "Z" (.int G1)) (P1 : ¬ (G1 = (0 : Int32))) (O_as : Sta Z Z.heap "java/lang/StringUTF16" "$assertionsDisabled" "Z" (.int (1 : Int32))) (O_hi : Sta Z Z.heap "java/lang/StringUTF16" "HI_BYTE_SHIFT" "I" (.int (0 : Int32))) (O_lo : Sta Z Z.heap "java/lang/StringUTF16" "LO_BYTE_SHIFT" "I" (.int (8 : Int32))) (ro : Addr) (O_ro : Sta Z Z.heap "com/example/rolebind/rolebind/Decision$Reason" "ROLE" "Lcom/example/rolebind/rolebind/Decision$Reason;" (.ref ro)) (xa : Addr) (ca : Addr) (kc : ClassId) (c0 : Int32) (c1 : Int32) (h0 : Heap) (hO : Old Z n0 h0) (E_xa : Exa Z h0 xa "java/lang/String") (F_xa_value : Fld Z h0 xa "java/lang/String" "value" "[B" .null) (F_xa_coder : Fld Z h0 xa "java/lang/String" "coder" "B" (.int (0 : Int32))) (V_ca : Arv Z h0 ca kc .char (2 : Int32) [(.int c0), (.int c1)] (.int (0 : Int32))) (hq_c0 : ¬ c0 < 0 ∧ ¬ (65535 : Int32) < c0) (hq_c1 : ¬ c1 < 0 ∧ ¬ (65535 : Int32) < c1) (hp_c0 : ¬ c0 < 0 ∧ ¬ (255 : Int32) < c0) (gt_c1 : (255 : Int32) < c1) (g_xa : n0 ≤ xa) :
    Con l Z consts_1 n0 (⟨"java/lang/String", "<init>", "([C)V"⟩ : MethodName) jdk_42_method_3_code 2 none ({ frames := 5, cells := 2, slots := 6, locals := 74 } : Room) #[(.ref xa), (.ref ca)] h0 [xa] (fun v h V' => ∃ (t : Addr) (kt : ClassId), v = none ∧ Exa Z h xa "java/lang/String" ∧ Fld Z h xa "java/lang/String" "coder" "B" (.int (1 : Int32)) ∧ Fld Z h xa "java/lang/String" "value" "[B" (.ref t) ∧ Arv Z h t kt .byte (4 : Int32) [(.int (c0.toInt8.toInt32)), (.int ((c0 >>> ((8 : Int32) &&& 31)).toInt8.toInt32)), (.int (c1.toInt8.toInt32)), (.int ((c1 >>> ((8 : Int32) &&& 31)).toInt8.toInt32))] (.int (0 : Int32))) [] := by
  refine Con.of (a0 := a0) pf1 (fun m => ef_new1_2w1 m xa ca kc c0 c1) (allS g_xa all0) hO hEL ?_
  intro p e s m below meth c S0 hnm hsf W
  replace W := W.aloadN (pc' := 1) djdk_42_3_0 rfl rfl rfl
  replace W := W.aloadN (pc' := 2) djdk_42_3_1 rfl rfl rfl
  replace W := W.iconst (pc' := 3) (v := (0 : Int32)) djdk_42_3_2 rfl rfl
  replace W := W.aloadN (pc' := 4) djdk_42_3_3 rfl rfl rfl
  replace W := W.alen (pc' := 5) djdk_42_3_4 V_ca rfl
  replace W := W.aconstNull (pc' := 6) djdk_42_3_5 rfl
  obtain ⟨V1, h1, r1, W1, K1, hQ1, SF1⟩ := W.callI (pc' := 9) (argsL := [(.ref ca), (.int (0 : Int32)), (.int (2 : Int32)), .null]) (rest := []) (Wd := 0) (cells' := 2) (slots' := 6) (a := xa) (y := (⟨"java/lang/String", "<init>", "([CIILjava/lang/Void;)V"⟩ : MethodName)) djdk_42_3_6 (new4_2w1 l Z a0 n0 hw hEL G1 O1 P1 O_as O_hi O_lo ro O_ro xa ca kc c0 c1 h0 W.old E_xa F_xa_value F_xa_coder V_ca hq_c0 hq_c1 hp_c0 gt_c1 g_xa) rfl (tw8 hw) (tw9 hw) (tw4 hw) (tw11 hw) (by decide) (lenOf pd0 rfl) rfl rfl (by decide) (by decide) rfl (sfS (hsf _ (List.mem_of_getElem? (i := 0) rfl)) sf0) (allS (Or.inl (List.mem_of_getElem? (i := 0) rfl)) all0) rfl rfl rfl (by decide) (by decide)
  clear W
  obtain ⟨t1, kt1, rfl, q1_1, q1_2, q1_3, q1_4⟩ := hQ1
  have z1 : h0.size ≤ h1.size := K1.1
  replace W1 := W1.cast (st' := []) rfl
  exact W1.vret djdk_42_3_9 rfl (by decide) (by decide) (fun V' cv => ⟨t1, kt1, rfl, q1_1, q1_2, q1_3, q1_4⟩)
theorem ef_nbl_3 (m : MethodId)  : entryFrame m #[(.int (3 : Int32))] 1 = mkF m 0 #[.val (.int (3 : Int32))] [] := by first | (simp [entryFrame, mkF, argsToLocals, Value.category]; done) | rfl
set_option maxRecDepth 65536 in
set_option maxHeartbeats 40000000 in
theorem nbl_3 (l : Launch) (Z : State) (a0 : Array Value) (n0 : Nat) (hw : ∀ d ∈ tables_1, d.before a0 Z = true) (hEL : EW Z a0 consts_1) (G1 : Int32) (O1 : Sta Z Z.heap "java/lang/String" "COMPACT_STRINGS" "Z" (.int G1)) (P1 : ¬ (G1 = (0 : Int32))) (O_as : Sta Z Z.heap "java/lang/StringUTF16" "$assertionsDisabled" "Z" (.int (1 : Int32))) (O_hi : Sta Z Z.heap "java/lang/StringUTF16" "HI_BYTE_SHIFT" "I" (.int (0 : Int32))) (O_lo : Sta Z Z.heap "java/lang/StringUTF16" "LO_BYTE_SHIFT" "I" (.int (8 : Int32))) (ro : Addr) (O_ro : Sta Z Z.heap "com/example/rolebind/rolebind/Decision$Reason" "ROLE" "Lcom/example/rolebind/rolebind/Decision$Reason;" (.ref ro))  (h0 : Heap) (hO : Old Z n0 h0)  :
    Con l Z consts_1 n0 (⟨"java/lang/StringUTF16", "newBytesLength", "(I)I"⟩ : MethodName) jdk_52_method_3_code 1 (some .int) ({ frames := 0, cells := 0, slots := 0, locals := 0 } : Room) #[(.int (3 : Int32))] h0 [] (fun v h V' => v = some (.int (6 : Int32)) ∧ h0 = h) [] := by
  refine Con.of (a0 := a0) pf5 (fun m => ef_nbl_3 m ) all0 hO hEL ?_
  intro p e s m below meth c S0 hnm hsf W
  replace W := W.iloadN (pc' := 1) djdk_52_3_0 rfl rfl
  replace W := W.ifT (pc' := 12) djdk_52_3_1 (flt (by decide : ¬ ((3 : Int32) < (0 : Int32)))).2.1 (by decide) (by decide)
  replace W := W.iloadN (pc' := 13) djdk_52_3_12 rfl rfl
  replace W := W.ldcI (pc' := 15) djdk_52_3_13 (tw105 hw) rfl
  replace W := W.icmpT (pc' := 55) djdk_52_3_15 (tlt (by decide : (3 : Int32) < (1073741823 : Int32))).1 (by decide) (by decide)
  replace W := W.iloadN (pc' := 56) djdk_52_3_55 rfl rfl
  replace W := W.iconst (pc' := 57) (v := (1 : Int32)) djdk_52_3_56 rfl rfl
  replace W := W.ishl (pc' := 58) (v := (6 : Int32)) djdk_52_3_57 (by decide) rfl
  exact W.iret (t := .int) djdk_52_3_58 rfl (by simp) rfl (by decide) (by decide) (fun V' cv => ⟨rfl, rfl⟩)
theorem ef_nbf_3 (m : MethodId)  : entryFrame m #[(.int (3 : Int32))] 1 = mkF m 0 #[.val (.int (3 : Int32))] [] := by first | (simp [entryFrame, mkF, argsToLocals, Value.category]; done) | rfl
set_option maxRecDepth 65536 in
set_option maxHeartbeats 40000000 in
theorem nbf_3 (l : Launch) (Z : State) (a0 : Array Value) (n0 : Nat) (hw : ∀ d ∈ tables_1, d.before a0 Z = true) (hEL : EW Z a0 consts_1) (G1 : Int32) (O1 : Sta Z Z.heap "java/lang/String" "COMPACT_STRINGS" "Z" (.int G1)) (P1 : ¬ (G1 = (0 : Int32))) (O_as : Sta Z Z.heap "java/lang/StringUTF16" "$assertionsDisabled" "Z" (.int (1 : Int32))) (O_hi : Sta Z Z.heap "java/lang/StringUTF16" "HI_BYTE_SHIFT" "I" (.int (0 : Int32))) (O_lo : Sta Z Z.heap "java/lang/StringUTF16" "LO_BYTE_SHIFT" "I" (.int (8 : Int32))) (ro : Addr) (O_ro : Sta Z Z.heap "com/example/rolebind/rolebind/Decision$Reason" "ROLE" "Lcom/example/rolebind/rolebind/Decision$Reason;" (.ref ro))  (h0 : Heap) (hO : Old Z n0 h0)  :
    Con l Z consts_1 n0 (⟨"java/lang/StringUTF16", "newBytesFor", "(I)[B"⟩ : MethodName) jdk_52_method_2_code 1 (some (.array .byte)) ({ frames := 1, cells := 1, slots := 6, locals := 12 } : Room) #[(.int (3 : Int32))] h0 [] (fun v h V' => ∃ (t : Addr) (kt : ClassId), v = some (.ref t) ∧ Arv Z h t kt .byte (6 : Int32) [(.int (0 : Int32)), (.int (0 : Int32)), (.int (0 : Int32)), (.int (0 : Int32)), (.int (0 : Int32)), (.int (0 : Int32))] (.int (0 : Int32)) ∧ h0.size ≤ t ∧ Safe Z consts_1 V' h t) [] := by
  refine Con.of (a0 := a0) pf6 (fun m => ef_nbf_3 m ) all0 hO hEL ?_
  intro p e s m below meth c S0 hnm hsf W
  replace W := W.iloadN (pc' := 1) djdk_52_2_0 rfl rfl
  obtain ⟨V1, h1, r1, W1, K1, hQ1, SF1⟩ := W.callS (pc' := 4) (argsL := [(.int (3 : Int32))]) (rest := []) (Wd := 0) (cells' := 0) (slots' := 0) (y := (⟨"java/lang/StringUTF16", "newBytesLength", "(I)I"⟩ : MethodName)) djdk_52_2_1 (nbl_3 l Z a0 n0 hw hEL G1 O1 P1 O_as O_hi O_lo ro O_ro h0 W.old) (tw102 hw) (tw103 hw) (tw88 hw) (tw104 hw) (by decide) (lenOf pd4 rfl) rfl rfl (by decide) (by decide) rfl sf0 all0 rfl rfl rfl (by decide) (by decide)
  clear W
  obtain ⟨rfl, hs1⟩ := hQ1
  subst hs1
  replace W1 := W1.cast (st' := [(.int (6 : Int32))]) rfl
  obtain ⟨h2, a2, W2, E2, g2, ⟨k2, A2⟩, sf2, SF2⟩ := W1.newarr (pc' := 6) (cap := 6) (cells' := 1) (slots' := 6) djdk_52_2_4 (tw16 hw) (by decide) (by decide) (by decide) rfl rfl rfl (by decide) (by decide)
  clear W1
  rw [← g2] at A2
  have z2 : h0.size ≤ h2.size := E2.1
  have v2 : Arv Z h2 a2 k2 .byte (6 : Int32) [(.int (0 : Int32)), (.int (0 : Int32)), (.int (0 : Int32)), (.int (0 : Int32)), (.int (0 : Int32)), (.int (0 : Int32))] (.int (0 : Int32)) := A2.pad (pad_rep [] (.int (0 : Int32)) 6)
  exact W2.aret (t := (.array .byte)) djdk_52_2_6 rfl rfl rfl rfl (by decide) (by decide) (fun V' cv => ⟨a2, k2, rfl, v2, (Nat.le_of_eq g2.symm), (cv a2 v2.lt sf2)⟩)
theorem ef_putc_3_0 (m : MethodId) (ba : Addr) (kb : ClassId) (cz : Int32) (u0 : Int32) (u1 : Int32) (u2 : Int32) (u3 : Int32) (u4 : Int32) (u5 : Int32) : entryFrame m #[(.ref ba), (.int (0 : Int32)), (.int cz)] 3 = mkF m 0 #[.val (.ref ba), .val (.int (0 : Int32)), .val (.int cz)] [] := by first | (simp [entryFrame, mkF, argsToLocals, Value.category]; done) | rfl
set_option maxRecDepth 65536 in
set_option maxHeartbeats 40000000 in
theorem putc_3_0 (l : Launch) (Z : State) (a0 : Array Value) (n0 : Nat) (hw : ∀ d ∈ tables_1, d.before a0 Z = true) (hEL : EW Z a0 consts_1) (G1 : Int32) (O1 : Sta Z Z.heap "java/lang/String" "COMPACT_STRINGS" "Z" (.int G1)) (P1 : ¬ (G1 = (0 : Int32))) (O_as : Sta Z Z.heap "java/lang/StringUTF16" "$assertionsDisabled" "Z" (.int (1 : Int32))) (O_hi : Sta Z Z.heap "java/lang/StringUTF16" "HI_BYTE_SHIFT" "I" (.int (0 : Int32))) (O_lo : Sta Z Z.heap "java/lang/StringUTF16" "LO_BYTE_SHIFT" "I" (.int (8 : Int32))) (ro : Addr) (O_ro : Sta Z Z.heap "com/example/rolebind/rolebind/Decision$Reason" "ROLE" "Lcom/example/rolebind/rolebind/Decision$Reason;" (.ref ro)) (ba : Addr) (kb : ClassId) (cz : Int32) (u0 : Int32) (u1 : Int32) (u2 : Int32) (u3 : Int32) (u4 : Int32) (u5 : Int32) (h0 : Heap) (hO : Old Z n0 h0) (V_ba : Arv Z h0 ba kb .byte (6 : Int32) [(.int u0), (.int u1), (.int u2), (.int u3), (.int u4), (.int u5)] (.int (0 : Int32))) (g_ba : n0 ≤ ba) :
    Con l Z consts_1 n0 (⟨"java/lang/StringUTF16", "putChar", "([BII)V"⟩ : MethodName) jdk_52_method_4_code 3 none ({ frames := 0, cells := 0, slots := 0, locals := 0 } : Room) #[(.ref ba), (.int (0 : Int32)), (.int cz)] h0 [ba] (fun v h V' => v = none ∧ Arv Z h ba kb .byte (6 : Int32) [(.int (cz.toInt8.toInt32)), (.int ((cz >>> ((8 : Int32) &&& 31)).toInt8.toInt32)), (.int u2), (.int u3), (.int u4), (.int u5)] (.int (0 : Int32))) [] := by
  refine Con.of (a0 := a0) pf7 (fun m => ef_putc_3_0 m ba kb cz u0 u1 u2 u3 u4 u5) (allS g_ba all0) hO hEL ?_
  intro p e s m below meth c S0 hnm hsf W
  replace W := W.gets (pc' := 3) djdk_52_4_0 (tw109 hw) O_as rfl
  replace W := W.ifT (pc' := 28) djdk_52_4_3 (feq (by decide : ¬ ((1 : Int32) = (0 : Int32)))).2 (by decide) (by decide)
  replace W := W.iloadN (pc' := 29) djdk_52_4_28 rfl rfl
  replace W := W.iconst (pc' := 30) (v := (1 : Int32)) djdk_52_4_29 rfl rfl
  replace W := W.ishl (pc' := 31) (v := (0 : Int32)) djdk_52_4_30 (by decide) rfl
  replace W := W.istoreN (pc' := 32) (L' := #[.val (.ref ba), .val (.int (0 : Int32)), .val (.int cz)]) djdk_52_4_31 rfl rfl
  replace W := W.aloadN (pc' := 33) djdk_52_4_32 rfl rfl rfl
  replace W := W.iloadN (pc' := 34) djdk_52_4_33 rfl rfl
  replace W := W.iinc (pc' := 37) (v := (1 : Int32)) (L' := #[.val (.ref ba), .val (.int (1 : Int32)), .val (.int cz)]) djdk_52_4_34 rfl (by decide) rfl rfl
  replace W := W.iloadN (pc' := 38) djdk_52_4_37 rfl rfl
  replace W := W.gets (pc' := 41) djdk_52_4_38 (tw110 hw) O_hi rfl
  replace W := W.ishr (pc' := 42) (v := cz) djdk_52_4_41 (own_shr0 _) rfl
  replace W := W.i2b (pc' := 43) (v := (cz.toInt8.toInt32)) djdk_52_4_42 rfl rfl
  obtain ⟨h1, W1, w1, A1, SF1⟩ := W.bastore (pc' := 44) (i := 0) (x' := (cz.toInt8.toInt32)) djdk_52_4_43 V_ba ⟨by decide, by decide⟩ rfl (by show 0 < 6; decide) (own_narb _) (hsf _ (List.mem_of_getElem? (i := 0) rfl)) (Or.inl (List.mem_of_getElem? (i := 0) rfl)) rfl
  clear W
  have z1 : h0.size ≤ h1.size := Nat.le_of_eq w1.size.symm
  have v1 : Arv Z h1 ba kb .byte (6 : Int32) [(.int (cz.toInt8.toInt32)), (.int u1), (.int u2), (.int u3), (.int u4), (.int u5)] (.int (0 : Int32)) := A1
  replace W1 := W1.aloadN (pc' := 45) djdk_52_4_44 rfl rfl rfl
  replace W1 := W1.iloadN (pc' := 46) djdk_52_4_45 rfl rfl
  replace W1 := W1.iloadN (pc' := 47) djdk_52_4_46 rfl rfl
  replace W1 := W1.gets (pc' := 50) djdk_52_4_47 (tw111 hw) O_lo rfl
  replace W1 := W1.ishr (pc' := 51) (v := (cz >>> ((8 : Int32) &&& 31))) djdk_52_4_50 rfl rfl
  replace W1 := W1.i2b (pc' := 52) (v := ((cz >>> ((8 : Int32) &&& 31)).toInt8.toInt32)) djdk_52_4_51 rfl rfl
  have sf2 := (SF1 ba (hsf _ (List.mem_of_getElem? (i := 0) rfl)))
  obtain ⟨h3, W3, w3, A3, SF3⟩ := W1.bastore (pc' := 53) (i := 1) (x' := ((cz >>> ((8 : Int32) &&& 31)).toInt8.toInt32)) djdk_52_4_52 v1 ⟨by decide, by decide⟩ rfl (by show 1 < 6; decide) (own_narb _) sf2 (Or.inl (List.mem_of_getElem? (i := 0) rfl)) rfl
  clear W1
  have z3 : h1.size ≤ h3.size := Nat.le_of_eq w3.size.symm
  have v3 : Arv Z h3 ba kb .byte (6 : Int32) [(.int (cz.toInt8.toInt32)), (.int ((cz >>> ((8 : Int32) &&& 31)).toInt8.toInt32)), (.int u2), (.int u3), (.int u4), (.int u5)] (.int (0 : Int32)) := A3
  exact W3.vret djdk_52_4_53 rfl (by decide) (by decide) (fun V' cv => ⟨rfl, v3⟩)
theorem ef_putc_3_1 (m : MethodId) (ba : Addr) (kb : ClassId) (cz : Int32) (u0 : Int32) (u1 : Int32) (u2 : Int32) (u3 : Int32) (u4 : Int32) (u5 : Int32) : entryFrame m #[(.ref ba), (.int (1 : Int32)), (.int cz)] 3 = mkF m 0 #[.val (.ref ba), .val (.int (1 : Int32)), .val (.int cz)] [] := by first | (simp [entryFrame, mkF, argsToLocals, Value.category]; done) | rfl
set_option maxRecDepth 65536 in
set_option maxHeartbeats 40000000 in
theorem putc_3_1 (l : Launch) (Z : State) (a0 : Array Value) (n0 : Nat) (hw : ∀ d ∈ tables_1, d.before a0 Z = true) (hEL : EW Z a0 consts_1) (G1 : Int32) (O1 : Sta Z Z.heap "java/lang/String" "COMPACT_STRINGS" "Z" (.int G1)) (P1 : ¬ (G1 = (0 : Int32))) (O_as : Sta Z Z.heap "java/lang/StringUTF16" "$assertionsDisabled" "Z" (.int (1 : Int32))) (O_hi : Sta Z Z.heap "java/lang/StringUTF16" "HI_BYTE_SHIFT" "I" (.int (0 : Int32))) (O_lo : Sta Z Z.heap "java/lang/StringUTF16" "LO_BYTE_SHIFT" "I" (.int (8 : Int32))) (ro : Addr) (O_ro : Sta Z Z.heap "com/example/rolebind/rolebind/Decision$Reason" "ROLE" "Lcom/example/rolebind/rolebind/Decision$Reason;" (.ref ro)) (ba : Addr) (kb : ClassId) (cz : Int32) (u0 : Int32) (u1 : Int32) (u2 : Int32) (u3 : Int32) (u4 : Int32) (u5 : Int32) (h0 : Heap) (hO : Old Z n0 h0) (V_ba : Arv Z h0 ba kb .byte (6 : Int32) [(.int u0), (.int u1), (.int u2), (.int u3), (.int u4), (.int u5)] (.int (0 : Int32))) (g_ba : n0 ≤ ba) :
    Con l Z consts_1 n0 (⟨"java/lang/StringUTF16", "putChar", "([BII)V"⟩ : MethodName) jdk_52_method_4_code 3 none ({ frames := 0, cells := 0, slots := 0, locals := 0 } : Room) #[(.ref ba), (.int (1 : Int32)), (.int cz)] h0 [ba] (fun v h V' => v = none ∧ Arv Z h ba kb .byte (6 : Int32) [(.int u0), (.int u1), (.int (cz.toInt8.toInt32)), (.int ((cz >>> ((8 : Int32) &&& 31)).toInt8.toInt32)), (.int u4), (.int u5)] (.int (0 : Int32))) [] := by
  refine Con.of (a0 := a0) pf7 (fun m => ef_putc_3_1 m ba kb cz u0 u1 u2 u3 u4 u5) (allS g_ba all0) hO hEL ?_
  intro p e s m below meth c S0 hnm hsf W
  replace W := W.gets (pc' := 3) djdk_52_4_0 (tw109 hw) O_as rfl
  replace W := W.ifT (pc' := 28) djdk_52_4_3 (feq (by decide : ¬ ((1 : Int32) = (0 : Int32)))).2 (by decide) (by decide)
  replace W := W.iloadN (pc' := 29) djdk_52_4_28 rfl rfl
  replace W := W.iconst (pc' := 30) (v := (1 : Int32)) djdk_52_4_29 rfl rfl
  replace W := W.ishl (pc' := 31) (v := (2 : Int32)) djdk_52_4_30 (by decide) rfl
  replace W := W.istoreN (pc' := 32) (L' := #[.val (.ref ba), .val (.int (2 : Int32)), .val (.int cz)]) djdk_52_4_31 rfl rfl
  replace W := W.aloadN (pc' := 33) djdk_52_4_32 rfl rfl rfl
  replace W := W.iloadN (pc' := 34) djdk_52_4_33 rfl rfl
  replace W := W.iinc (pc' := 37) (v := (3 : Int32)) (L' := #[.val (.ref ba), .val (.int (3 : Int32)), .val (.int cz)]) djdk_52_4_34 rfl (by decide) rfl rfl
  replace W := W.iloadN (pc' := 38) djdk_52_4_37 rfl rfl
  replace W := W.gets (pc' := 41) djdk_52_4_38 (tw110 hw) O_hi rfl
  replace W := W.ishr (pc' := 42) (v := cz) djdk_52_4_41 (own_shr0 _) rfl
  replace W := W.i2b (pc' := 43) (v := (cz.toInt8.toInt32)) djdk_52_4_42 rfl rfl
  obtain ⟨h1, W1, w1, A1, SF1⟩ := W.bastore (pc' := 44) (i := 2) (x' := (cz.toInt8.toInt32)) djdk_52_4_43 V_ba ⟨by decide, by decide⟩ rfl (by show 2 < 6; decide) (own_narb _) (hsf _ (List.mem_of_getElem? (i := 0) rfl)) (Or.inl (List.mem_of_getElem? (i := 0) rfl)) rfl
  clear W
  have z1 : h0.size ≤ h1.size := Nat.le_of_eq w1.size.symm
  have v1 : Arv Z h1 ba kb .byte (6 : Int32) [(.int u0), (.int u1), (.int (cz.toInt8.toInt32)), (.int u3), (.int u4), (.int u5)] (.int (0 : Int32)) := A1
  replace W1 := W1.aloadN (pc' := 45) djdk_52_4_44 rfl rfl rfl
  replace W1 := W1.iloadN (pc' := 46) djdk_52_4_45 rfl rfl
  replace W1 := W1.iloadN (pc' := 47) djdk_52_4_46 rfl rfl
  replace W1 := W1.gets (pc' := 50) djdk_52_4_47 (tw111 hw) O_lo rfl
  replace W1 := W1.ishr (pc' := 51) (v := (cz >>> ((8 : Int32) &&& 31))) djdk_52_4_50 rfl rfl
  replace W1 := W1.i2b (pc' := 52) (v := ((cz >>> ((8 : Int32) &&& 31)).toInt8.toInt32)) djdk_52_4_51 rfl rfl
  have sf2 := (SF1 ba (hsf _ (List.mem_of_getElem? (i := 0) rfl)))
  obtain ⟨h3, W3, w3, A3, SF3⟩ := W1.bastore (pc' := 53) (i := 3) (x' := ((cz >>> ((8 : Int32) &&& 31)).toInt8.toInt32)) djdk_52_4_52 v1 ⟨by decide, by decide⟩ rfl (by show 3 < 6; decide) (own_narb _) sf2 (Or.inl (List.mem_of_getElem? (i := 0) rfl)) rfl
  clear W1
  have z3 : h1.size ≤ h3.size := Nat.le_of_eq w3.size.symm
  have v3 : Arv Z h3 ba kb .byte (6 : Int32) [(.int u0), (.int u1), (.int (cz.toInt8.toInt32)), (.int ((cz >>> ((8 : Int32) &&& 31)).toInt8.toInt32)), (.int u4), (.int u5)] (.int (0 : Int32)) := A3
  exact W3.vret djdk_52_4_53 rfl (by decide) (by decide) (fun V' cv => ⟨rfl, v3⟩)
theorem ef_putc_3_2 (m : MethodId) (ba : Addr) (kb : ClassId) (cz : Int32) (u0 : Int32) (u1 : Int32) (u2 : Int32) (u3 : Int32) (u4 : Int32) (u5 : Int32) : entryFrame m #[(.ref ba), (.int (2 : Int32)), (.int cz)] 3 = mkF m 0 #[.val (.ref ba), .val (.int (2 : Int32)), .val (.int cz)] [] := by first | (simp [entryFrame, mkF, argsToLocals, Value.category]; done) | rfl
set_option maxRecDepth 65536 in
set_option maxHeartbeats 40000000 in
theorem putc_3_2 (l : Launch) (Z : State) (a0 : Array Value) (n0 : Nat) (hw : ∀ d ∈ tables_1, d.before a0 Z = true) (hEL : EW Z a0 consts_1) (G1 : Int32) (O1 : Sta Z Z.heap "java/lang/String" "COMPACT_STRINGS" "Z" (.int G1)) (P1 : ¬ (G1 = (0 : Int32))) (O_as : Sta Z Z.heap "java/lang/StringUTF16" "$assertionsDisabled" "Z" (.int (1 : Int32))) (O_hi : Sta Z Z.heap "java/lang/StringUTF16" "HI_BYTE_SHIFT" "I" (.int (0 : Int32))) (O_lo : Sta Z Z.heap "java/lang/StringUTF16" "LO_BYTE_SHIFT" "I" (.int (8 : Int32))) (ro : Addr) (O_ro : Sta Z Z.heap "com/example/rolebind/rolebind/Decision$Reason" "ROLE" "Lcom/example/rolebind/rolebind/Decision$Reason;" (.ref ro)) (ba : Addr) (kb : ClassId) (cz : Int32) (u0 : Int32) (u1 : Int32) (u2 : Int32) (u3 : Int32) (u4 : Int32) (u5 : Int32) (h0 : Heap) (hO : Old Z n0 h0) (V_ba : Arv Z h0 ba kb .byte (6 : Int32) [(.int u0), (.int u1), (.int u2), (.int u3), (.int u4), (.int u5)] (.int (0 : Int32))) (g_ba : n0 ≤ ba) :
    Con l Z consts_1 n0 (⟨"java/lang/StringUTF16", "putChar", "([BII)V"⟩ : MethodName) jdk_52_method_4_code 3 none ({ frames := 0, cells := 0, slots := 0, locals := 0 } : Room) #[(.ref ba), (.int (2 : Int32)), (.int cz)] h0 [ba] (fun v h V' => v = none ∧ Arv Z h ba kb .byte (6 : Int32) [(.int u0), (.int u1), (.int u2), (.int u3), (.int (cz.toInt8.toInt32)), (.int ((cz >>> ((8 : Int32) &&& 31)).toInt8.toInt32))] (.int (0 : Int32))) [] := by
  refine Con.of (a0 := a0) pf7 (fun m => ef_putc_3_2 m ba kb cz u0 u1 u2 u3 u4 u5) (allS g_ba all0) hO hEL ?_
  intro p e s m below meth c S0 hnm hsf W
  replace W := W.gets (pc' := 3) djdk_52_4_0 (tw109 hw) O_as rfl
  replace W := W.ifT (pc' := 28) djdk_52_4_3 (feq (by decide : ¬ ((1 : Int32) = (0 : Int32)))).2 (by decide) (by decide)
  replace W := W.iloadN (pc' := 29) djdk_52_4_28 rfl rfl
  replace W := W.iconst (pc' := 30) (v := (1 : Int32)) djdk_52_4_29 rfl rfl
  replace W := W.ishl (pc' := 31) (v := (4 : Int32)) djdk_52_4_30 (by decide) rfl
  replace W := W.istoreN (pc' := 32) (L' := #[.val (.ref ba), .val (.int (4 : Int32)), .val (.int cz)]) djdk_52_4_31 rfl rfl
  replace W := W.aloadN (pc' := 33) djdk_52_4_32 rfl rfl rfl
  replace W := W.iloadN (pc' := 34) djdk_52_4_33 rfl rfl
  replace W := W.iinc (pc' := 37) (v := (5 : Int32)) (L' := #[.val (.ref ba), .val (.int (5 : Int32)), .val (.int cz)]) djdk_52_4_34 rfl (by decide) rfl rfl
  replace W := W.iloadN (pc' := 38) djdk_52_4_37 rfl rfl
  replace W := W.gets (pc' := 41) djdk_52_4_38 (tw110 hw) O_hi rfl
  replace W := W.ishr (pc' := 42) (v := cz) djdk_52_4_41 (own_shr0 _) rfl
  replace W := W.i2b (pc' := 43) (v := (cz.toInt8.toInt32)) djdk_52_4_42 rfl rfl
  obtain ⟨h1, W1, w1, A1, SF1⟩ := W.bastore (pc' := 44) (i := 4) (x' := (cz.toInt8.toInt32)) djdk_52_4_43 V_ba ⟨by decide, by decide⟩ rfl (by show 4 < 6; decide) (own_narb _) (hsf _ (List.mem_of_getElem? (i := 0) rfl)) (Or.inl (List.mem_of_getElem? (i := 0) rfl)) rfl
  clear W
  have z1 : h0.size ≤ h1.size := Nat.le_of_eq w1.size.symm
  have v1 : Arv Z h1 ba kb .byte (6 : Int32) [(.int u0), (.int u1), (.int u2), (.int u3), (.int (cz.toInt8.toInt32)), (.int u5)] (.int (0 : Int32)) := A1
  replace W1 := W1.aloadN (pc' := 45) djdk_52_4_44 rfl rfl rfl
  replace W1 := W1.iloadN (pc' := 46) djdk_52_4_45 rfl rfl
  replace W1 := W1.iloadN (pc' := 47) djdk_52_4_46 rfl rfl
  replace W1 := W1.gets (pc' := 50) djdk_52_4_47 (tw111 hw) O_lo rfl
  replace W1 := W1.ishr (pc' := 51) (v := (cz >>> ((8 : Int32) &&& 31))) djdk_52_4_50 rfl rfl
  replace W1 := W1.i2b (pc' := 52) (v := ((cz >>> ((8 : Int32) &&& 31)).toInt8.toInt32)) djdk_52_4_51 rfl rfl
  have sf2 := (SF1 ba (hsf _ (List.mem_of_getElem? (i := 0) rfl)))
  obtain ⟨h3, W3, w3, A3, SF3⟩ := W1.bastore (pc' := 53) (i := 5) (x' := ((cz >>> ((8 : Int32) &&& 31)).toInt8.toInt32)) djdk_52_4_52 v1 ⟨by decide, by decide⟩ rfl (by show 5 < 6; decide) (own_narb _) sf2 (Or.inl (List.mem_of_getElem? (i := 0) rfl)) rfl
  clear W1
  have z3 : h1.size ≤ h3.size := Nat.le_of_eq w3.size.symm
  have v3 : Arv Z h3 ba kb .byte (6 : Int32) [(.int u0), (.int u1), (.int u2), (.int u3), (.int (cz.toInt8.toInt32)), (.int ((cz >>> ((8 : Int32) &&& 31)).toInt8.toInt32))] (.int (0 : Int32)) := A3
  exact W3.vret djdk_52_4_53 rfl (by decide) (by decide) (fun V' cv => ⟨rfl, v3⟩)
theorem ef_tob_3 (m : MethodId) (ca : Addr) (kc : ClassId) (c0 : Int32) (c1 : Int32) (c2 : Int32) : entryFrame m #[(.ref ca), (.int (0 : Int32)), (.int (3 : Int32))] 5 = mkF m 0 #[.val (.ref ca), .val (.int (0 : Int32)), .val (.int (3 : Int32)), .unset, .unset] [] := by first | (simp [entryFrame, mkF, argsToLocals, Value.category]; done) | rfl
set_option maxRecDepth 65536 in
set_option maxHeartbeats 40000000 in
theorem tob_3 (l : Launch) (Z : State) (a0 : Array Value) (n0 : Nat) (hw : ∀ d ∈ tables_1, d.before a0 Z = true) (hEL : EW Z a0 consts_1) (G1 : Int32) (O1 : Sta Z Z.heap "java/lang/String" "COMPACT_STRINGS" "Z" (.int G1)) (P1 : ¬ (G1 = (0 : Int32))) (O_as : Sta Z Z.heap "java/lang/StringUTF16" "$assertionsDisabled" "Z" (.int (1 : Int32))) (O_hi : Sta Z Z.heap "java/lang/StringUTF16" "HI_BYTE_SHIFT" "I" (.int (0 : Int32))) (O_lo : Sta Z Z.heap "java/lang/StringUTF16" "LO_BYTE_SHIFT" "I" (.int (8 : Int32))) (ro : Addr) (O_ro : Sta Z Z.heap "com/example/rolebind/rolebind/Decision$Reason" "ROLE" "Lcom/example/rolebind/rolebind/Decision$Reason;" (.ref ro)) (ca : Addr) (kc : ClassId) (c0 : Int32) (c1 : Int32) (c2 : Int32) (h0 : Heap) (hO : Old Z n0 h0) (V_ca : Arv Z h0 ca kc .char (3 : Int32) [(.int c0), (.int c1), (.int c2)] (.int (0 : Int32))) :
    Con l Z consts_1 n0 (⟨"java/lang/StringUTF16", "toBytes", "([CII)[B"⟩ : MethodName) jdk_52_method_14_code 5 (some (.array .byte)) ({ frames := 2, cells := 1, slots := 6, locals := 24 } : Room) #[(.ref ca), (.int (0 : Int32)), (.int (3 : Int32))] h0 [] (fun v h V' => ∃ (t : Addr) (kt : ClassId), v = some (.ref t) ∧ Arv Z h t kt .byte (6 : Int32) [(.int (c0.toInt8.toInt32)), (.int ((c0 >>> ((8 : Int32) &&& 31)).toInt8.toInt32)), (.int (c1.toInt8.toInt32)), (.int ((c1 >>> ((8 : Int32) &&& 31)).toInt8.toInt32)), (.int (c2.toInt8.toInt32)), (.int ((c2 >>> ((8 : Int32) &&& 31)).toInt8.toInt32))] (.int (0 : Int32)) ∧ h0.size ≤ t) [] := by
  refine Con.of (a0 := a0) pf8 (fun m => ef_tob_3 m ca kc c0 c1 c2) all0 hO hEL ?_
  intro p e s m below meth c S0 hnm hsf W
  replace W := W.iloadN (pc' := 1) djdk_52_14_0 rfl rfl
  obtain ⟨V1, h1, r1, W1, K1, hQ1, SF1⟩ := W.callS (pc' := 4) (argsL := [(.int (3 : Int32))]) (rest := []) (Wd := 0) (cells' := 1) (slots' := 6) (y := (⟨"java/lang/StringUTF16", "newBytesFor", "(I)[B"⟩ : MethodName)) djdk_52_14_1 (nbf_3 l Z a0 n0 hw hEL G1 O1 P1 O_as O_hi O_lo ro O_ro h0 W.old) (tw99 hw) (tw100 hw) (tw88 hw) (tw101 hw) (by decide) (lenOf pd5 rfl) rfl rfl (by decide) (by decide) rfl sf0 all0 rfl rfl rfl (by decide) (by decide)
  clear W
  obtain ⟨t1, kt1, rfl, q1_1, q1_2, q1_3⟩ := hQ1
  have z1 : h0.size ≤ h1.size := K1.1
  replace W1 := W1.cast (st' := [(.ref t1)]) rfl
  replace W1 := W1.astoreN (pc' := 5) (L' := #[.val (.ref ca), .val (.int (0 : Int32)), .val (.int (3 : Int32)), .val (.ref t1), .unset]) djdk_52_14_4 rfl rfl rfl
  replace W1 := W1.iconst (pc' := 6) (v := (0 : Int32)) djdk_52_14_5 rfl rfl
  replace W1 := W1.istore (pc' := 8) (L' := #[.val (.ref ca), .val (.int (0 : Int32)), .val (.int (3 : Int32)), .val (.ref t1), .val (.int (0 : Int32))]) djdk_52_14_6 rfl rfl
  replace W1 := W1.iload (pc' := 10) djdk_52_14_8 rfl rfl
  replace W1 := W1.iloadN (pc' := 11) djdk_52_14_10 rfl rfl
  replace W1 := W1.icmpF (pc' := 14) djdk_52_14_11 (tlt (by decide : (0 : Int32) < (3 : Int32))).2.1 rfl
  replace W1 := W1.aloadN (pc' := 15) djdk_52_14_14 rfl rfl rfl
  replace W1 := W1.iload (pc' := 17) djdk_52_14_15 rfl rfl
  replace W1 := W1.aloadN (pc' := 18) djdk_52_14_17 rfl rfl rfl
  replace W1 := W1.iloadN (pc' := 19) djdk_52_14_18 rfl rfl
  have v2 := (V_ca.keep K1 nin0)
  replace W1 := W1.caload (pc' := 20) (w := (.int c0)) djdk_52_14_19 v2 ⟨by decide, by decide⟩ rfl rfl
  obtain ⟨V3, h3, r3, W3, K3, hQ3, SF3⟩ := W1.callS (pc' := 23) (argsL := [(.ref t1), (.int (0 : Int32)), (.int c0)]) (rest := []) (Wd := 0) (cells' := 1) (slots' := 6) (y := (⟨"java/lang/StringUTF16", "putChar", "([BII)V"⟩ : MethodName)) djdk_52_14_20 (putc_3_0 l Z a0 n0 hw hEL G1 O1 P1 O_as O_hi O_lo ro O_ro t1 kt1 c0 (0 : Int32) (0 : Int32) (0 : Int32) (0 : Int32) (0 : Int32) (0 : Int32) h1 W1.old q1_1 (Nat.le_trans W1.1.2.2.2.2.2.2.2.1 q1_2)) (tw106 hw) (tw107 hw) (tw88 hw) (tw108 hw) (by decide) (lenOf pd6 rfl) rfl rfl (by decide) (by decide) rfl (sfS q1_3 sf0) (allS (Or.inr q1_2) all0) rfl rfl rfl (by decide) (by decide)
  clear W1
  obtain ⟨rfl, q3_1⟩ := hQ3
  have z3 : h1.size ≤ h3.size := K3.1
  replace W3 := W3.cast (st' := []) rfl
  replace W3 := W3.iinc (pc' := 26) (v := (1 : Int32)) (L' := #[.val (.ref ca), .val (.int (1 : Int32)), .val (.int (3 : Int32)), .val (.ref t1), .val (.int (0 : Int32))]) djdk_52_14_23 rfl (by decide) rfl rfl
  replace W3 := W3.iinc (pc' := 29) (v := (1 : Int32)) (L' := #[.val (.ref ca), .val (.int (1 : Int32)), .val (.int (3 : Int32)), .val (.ref t1), .val (.int (1 : Int32))]) djdk_52_14_26 rfl (by decide) rfl rfl
  replace W3 := W3.goto (pc' := 8) djdk_52_14_29 (by decide) (by decide)
  replace W3 := W3.iload (pc' := 10) djdk_52_14_8 rfl rfl
  replace W3 := W3.iloadN (pc' := 11) djdk_52_14_10 rfl rfl
  replace W3 := W3.icmpF (pc' := 14) djdk_52_14_11 (tlt (by decide : (1 : Int32) < (3 : Int32))).2.1 rfl
  replace W3 := W3.aloadN (pc' := 15) djdk_52_14_14 rfl rfl rfl
  replace W3 := W3.iload (pc' := 17) djdk_52_14_15 rfl rfl
  replace W3 := W3.aloadN (pc' := 18) djdk_52_14_17 rfl rfl rfl
  replace W3 := W3.iloadN (pc' := 19) djdk_52_14_18 rfl rfl
  have v4 := (v2.keep K3 (ninS (Nat.ne_of_lt (Nat.lt_of_lt_of_le V_ca.lt q1_2)) nin0))
  replace W3 := W3.caload (pc' := 20) (w := (.int c1)) djdk_52_14_19 v4 ⟨by decide, by decide⟩ rfl rfl
  have sf5 := (SF3 t1 q1_1.lt q1_3)
  obtain ⟨V6, h6, r6, W6, K6, hQ6, SF6⟩ := W3.callS (pc' := 23) (argsL := [(.ref t1), (.int (1 : Int32)), (.int c1)]) (rest := []) (Wd := 0) (cells' := 1) (slots' := 6) (y := (⟨"java/lang/StringUTF16", "putChar", "([BII)V"⟩ : MethodName)) djdk_52_14_20 (putc_3_1 l Z a0 n0 hw hEL G1 O1 P1 O_as O_hi O_lo ro O_ro t1 kt1 c1 (c0.toInt8.toInt32) ((c0 >>> ((8 : Int32) &&& 31)).toInt8.toInt32) (0 : Int32) (0 : Int32) (0 : Int32) (0 : Int32) h3 W3.old q3_1 (Nat.le_trans W3.1.2.2.2.2.2.2.2.1 q1_2)) (tw106 hw) (tw107 hw) (tw88 hw) (tw108 hw) (by decide) (lenOf pd6 rfl) rfl rfl (by decide) (by decide) rfl (sfS sf5 sf0) (allS (Or.inr q1_2) all0) rfl rfl rfl (by decide) (by decide)
  clear W3
  obtain ⟨rfl, q6_1⟩ := hQ6
  have z6 : h3.size ≤ h6.size := K6.1
  replace W6 := W6.cast (st' := []) rfl
  replace W6 := W6.iinc (pc' := 26) (v := (2 : Int32)) (L' := #[.val (.ref ca), .val (.int (2 : Int32)), .val (.int (3 : Int32)), .val (.ref t1), .val (.int (1 : Int32))]) djdk_52_14_23 rfl (by decide) rfl rfl
  replace W6 := W6.iinc (pc' := 29) (v := (2 : Int32)) (L' := #[.val (.ref ca), .val (.int (2 : Int32)), .val (.int (3 : Int32)), .val (.ref t1), .val (.int (2 : Int32))]) djdk_52_14_26 rfl (by decide) rfl rfl
  replace W6 := W6.goto (pc' := 8) djdk_52_14_29 (by decide) (by decide)
  replace W6 := W6.iload (pc' := 10) djdk_52_14_8 rfl rfl
  replace W6 := W6.iloadN (pc' := 11) djdk_52_14_10 rfl rfl
  replace W6 := W6.icmpF (pc' := 14) djdk_52_14_11 (tlt (by decide : (2 : Int32) < (3 : Int32))).2.1 rfl
  replace W6 := W6.aloadN (pc' := 15) djdk_52_14_14 rfl rfl rfl
  replace W6 := W6.iload (pc' := 17) djdk_52_14_15 rfl rfl
  replace W6 := W6.aloadN (pc' := 18) djdk_52_14_17 rfl rfl rfl
  replace W6 := W6.iloadN (pc' := 19) djdk_52_14_18 rfl rfl
  have v7 := (v4.keep K6 (ninS (Nat.ne_of_lt (Nat.lt_of_lt_of_le V_ca.lt q1_2)) nin0))
  replace W6 := W6.caload (pc' := 20) (w := (.int c2)) djdk_52_14_19 v7 ⟨by decide, by decide⟩ rfl rfl
  have sf8 := (SF6 t1 q3_1.lt sf5)
  obtain ⟨V9, h9, r9, W9, K9, hQ9, SF9⟩ := W6.callS (pc' := 23) (argsL := [(.ref t1), (.int (2 : Int32)), (.int c2)]) (rest := []) (Wd := 0) (cells' := 1) (slots' := 6) (y := (⟨"java/lang/StringUTF16", "putChar", "([BII)V"⟩ : MethodName)) djdk_52_14_20 (putc_3_2 l Z a0 n0 hw hEL G1 O1 P1 O_as O_hi O_lo ro O_ro t1 kt1 c2 (c0.toInt8.toInt32) ((c0 >>> ((8 : Int32) &&& 31)).toInt8.toInt32) (c1.toInt8.toInt32) ((c1 >>> ((8 : Int32) &&& 31)).toInt8.toInt32) (0 : Int32) (0 : Int32) h6 W6.old q6_1 (Nat.le_trans W6.1.2.2.2.2.2.2.2.1 q1_2)) (tw106 hw) (tw107 hw) (tw88 hw) (tw108 hw) (by decide) (lenOf pd6 rfl) rfl rfl (by decide) (by decide) rfl (sfS sf8 sf0) (allS (Or.inr q1_2) all0) rfl rfl rfl (by decide) (by decide)
  clear W6
  obtain ⟨rfl, q9_1⟩ := hQ9
  have z9 : h6.size ≤ h9.size := K9.1
  replace W9 := W9.cast (st' := []) rfl
  replace W9 := W9.iinc (pc' := 26) (v := (3 : Int32)) (L' := #[.val (.ref ca), .val (.int (3 : Int32)), .val (.int (3 : Int32)), .val (.ref t1), .val (.int (2 : Int32))]) djdk_52_14_23 rfl (by decide) rfl rfl
  replace W9 := W9.iinc (pc' := 29) (v := (3 : Int32)) (L' := #[.val (.ref ca), .val (.int (3 : Int32)), .val (.int (3 : Int32)), .val (.ref t1), .val (.int (3 : Int32))]) djdk_52_14_26 rfl (by decide) rfl rfl
  replace W9 := W9.goto (pc' := 8) djdk_52_14_29 (by decide) (by decide)
  replace W9 := W9.iload (pc' := 10) djdk_52_14_8 rfl rfl
  replace W9 := W9.iloadN (pc' := 11) djdk_52_14_10 rfl rfl
  replace W9 := W9.icmpT (pc' := 32) djdk_52_14_11 (flt (by decide : ¬ ((3 : Int32) < (3 : Int32)))).2.1 (by decide) (by decide)
  replace W9 := W9.aloadN (pc' := 33) djdk_52_14_32 rfl rfl rfl
  exact W9.aret (t := (.array .byte)) djdk_52_14_33 rfl rfl rfl rfl (by decide) (by decide) (fun V' cv => ⟨t1, kt1, rfl, q9_1, q1_2⟩)
theorem ef_getc_3w0 (m : MethodId) (ba : Addr) (kb : ClassId) (cz : Int32) (u2 : Int32) (u3 : Int32) (u4 : Int32) (u5 : Int32) : entryFrame m #[(.ref ba), (.int (0 : Int32))] 2 = mkF m 0 #[.val (.ref ba), .val (.int (0 : Int32))] [] := by first | (simp [entryFrame, mkF, argsToLocals, Value.category]; done) | rfl
set_option maxRecDepth 65536 in
set_option maxHeartbeats 40000000 in
theorem getc_3w0 (l : Launch) (Z : State) (a0 : Array Value) (n0 : Nat) (hw : ∀ d ∈ tables_1, d.before a0 Z = true) (hEL : EW Z a0 consts_1) (G1 : Int32) (O1 : Sta Z Z.heap "java/lang/String" "COMPACT_STRINGS" "Z" (.int G1)) (P1 : ¬ (G1 = (0 : Int32))) (O_as : Sta Z Z.heap "java/lang/StringUTF16" "$assertionsDisabled" "Z" (.int (1 : Int32))) (O_hi : Sta Z Z.heap "java/lang/StringUTF16" "HI_BYTE_SHIFT" "I" (.int (0 : Int32))) (O_lo : Sta Z Z.heap "java/lang/StringUTF16" "LO_BYTE_SHIFT" "I" (.int (8 : Int32))) (ro : Addr) (O_ro : Sta Z Z.heap "com/example/rolebind/rolebind/Decision$Reason" "ROLE" "Lcom/example/rolebind/rolebind/Decision$Reason;" (.ref ro)) (ba : Addr) (kb : ClassId) (cz : Int32) (u2 : Int32) (u3 : Int32) (u4 : Int32) (u5 : Int32) (h0 : Heap) (hO : Old Z n0 h0) (V_ba : Arv Z h0 ba kb .byte (6 : Int32) [(.int (cz.toInt8.toInt32)), (.int ((cz >>> ((8 : Int32) &&& 31)).toInt8.toInt32)), (.int u2), (.int u3), (.int u4), (.int u5)] (.int (0 : Int32))) (hq_cz : ¬ cz < 0 ∧ ¬ (65535 : Int32) < cz) :
    Con l Z consts_1 n0 (⟨"java/lang/StringUTF16", "getChar", "([BI)C"⟩ : MethodName) jdk_52_method_5_code 2 (some .char) ({ frames := 0, cells := 0, slots := 0, locals := 0 } : Room) #[(.ref ba), (.int (0 : Int32))] h0 [] (fun v h V' => v = some (.int cz) ∧ h0 = h) [] := by
  refine Con.of (a0 := a0) pf9 (fun m => ef_getc_3w0 m ba kb cz u2 u3 u4 u5) all0 hO hEL ?_
  intro p e s m below meth c S0 hnm hsf W
  replace W := W.gets (pc' := 3) djdk_52_5_0 (tw109 hw) O_as rfl
  replace W := W.ifT (pc' := 28) djdk_52_5_3 (feq (by decide : ¬ ((1 : Int32) = (0 : Int32)))).2 (by decide) (by decide)
  replace W := W.iloadN (pc' := 29) djdk_52_5_28 rfl rfl
  replace W := W.iconst (pc' := 30) (v := (1 : Int32)) djdk_52_5_29 rfl rfl
  replace W := W.ishl (pc' := 31) (v := (0 : Int32)) djdk_52_5_30 (by decide) rfl
  replace W := W.istoreN (pc' := 32) (L' := #[.val (.ref ba), .val (.int (0 : Int32))]) djdk_52_5_31 rfl rfl
  replace W := W.aloadN (pc' := 33) djdk_52_5_32 rfl rfl rfl
  replace W := W.iloadN (pc' := 34) djdk_52_5_33 rfl rfl
  replace W := W.iinc (pc' := 37) (v := (1 : Int32)) (L' := #[.val (.ref ba), .val (.int (1 : Int32))]) djdk_52_5_34 rfl (by decide) rfl rfl
  replace W := W.baload (pc' := 38) (w := (.int (cz.toInt8.toInt32))) djdk_52_5_37 V_ba ⟨by decide, by decide⟩ rfl rfl
  replace W := W.sipush (pc' := 41) (v := (255 : Int32)) djdk_52_5_38 rfl rfl
  replace W := W.iand (pc' := 42) (v := ((cz.toInt8.toInt32) &&& (255 : Int32))) djdk_52_5_41 rfl rfl
  replace W := W.gets (pc' := 45) djdk_52_5_42 (tw110 hw) O_hi rfl
  replace W := W.ishl (pc' := 46) (v := (((cz.toInt8.toInt32) &&& (255 : Int32)) <<< ((0 : Int32) &&& 31))) djdk_52_5_45 rfl rfl
  replace W := W.aloadN (pc' := 47) djdk_52_5_46 rfl rfl rfl
  replace W := W.iloadN (pc' := 48) djdk_52_5_47 rfl rfl
  replace W := W.baload (pc' := 49) (w := (.int ((cz >>> ((8 : Int32) &&& 31)).toInt8.toInt32))) djdk_52_5_48 V_ba ⟨by decide, by decide⟩ rfl rfl
  replace W := W.sipush (pc' := 52) (v := (255 : Int32)) djdk_52_5_49 rfl rfl
  replace W := W.iand (pc' := 53) (v := (((cz >>> ((8 : Int32) &&& 31)).toInt8.toInt32) &&& (255 : Int32))) djdk_52_5_52 rfl rfl
  replace W := W.gets (pc' := 56) djdk_52_5_53 (tw111 hw) O_lo rfl
  replace W := W.ishl (pc' := 57) (v := ((((cz >>> ((8 : Int32) &&& 31)).toInt8.toInt32) &&& (255 : Int32)) <<< ((8 : Int32) &&& 31))) djdk_52_5_56 rfl rfl
  replace W := W.ior (pc' := 58) (v := ((((cz.toInt8.toInt32) &&& (255 : Int32)) <<< ((0 : Int32) &&& 31)) ||| ((((cz >>> ((8 : Int32) &&& 31)).toInt8.toInt32) &&& (255 : Int32)) <<< ((8 : Int32) &&& 31)))) djdk_52_5_57 rfl rfl
  replace W := W.i2c (pc' := 59) (v := cz) djdk_52_5_58 (own_pair hq_cz) rfl
  exact W.iret (t := .char) djdk_52_5_59 rfl (by simp) (own_narrow_char hq_cz) (by decide) (by decide) (fun V' cv => ⟨rfl, rfl⟩)
theorem ef_cmp5_3w0 (m : MethodId) (ca : Addr) (kc : ClassId) (ba : Addr) (kb : ClassId) (c0 : Int32) (c1 : Int32) (c2 : Int32) : entryFrame m #[(.ref ca), (.int (0 : Int32)), (.ref ba), (.int (0 : Int32)), (.int (3 : Int32))] 7 = mkF m 0 #[.val (.ref ca), .val (.int (0 : Int32)), .val (.ref ba), .val (.int (0 : Int32)), .val (.int (3 : Int32)), .unset, .unset] [] := by first | (simp [entryFrame, mkF, argsToLocals, Value.category]; done) | rfl
set_option maxRecDepth 65536 in
set_option maxHeartbeats 40000000 in
theorem cmp5_3w0 (l : Launch) (Z : State) (a0 : Array Value) (n0 : Nat) (hw : ∀ d ∈ tables_1, d.before a0 Z = true) (hEL : EW Z a0 consts_1) (G1 : Int32) (O1 : Sta Z Z.heap "java/lang/String" "COMPACT_STRINGS" "Z" (.int G1)) (P1 : ¬ (G1 = (0 : Int32))) (O_as : Sta Z Z.heap "java/lang/StringUTF16" "$assertionsDisabled" "Z" (.int (1 : Int32))) (O_hi : Sta Z Z.heap "java/lang/StringUTF16" "HI_BYTE_SHIFT" "I" (.int (0 : Int32))) (O_lo : Sta Z Z.heap "java/lang/StringUTF16" "LO_BYTE_SHIFT" "I" (.int (8 : Int32))) (ro : Addr) (O_ro : Sta Z Z.heap "com/example/rolebind/rolebind/Decision$Reason" "ROLE" "Lcom/example/rolebind/rolebind/Decision$Reason;" (.ref ro)) (ca : Addr) (kc : ClassId) (ba : Addr) (kb : ClassId) (c0 : Int32) (c1 : Int32) (c2 : Int32) (h0 : Heap) (hO : Old Z n0 h0) (V_ca : Arv Z h0 ca kc .char (3 : Int32) [(.int c0), (.int c1), (.int c2)] (.int (0 : Int32))) (V_ba : Arv Z h0 ba kb .byte (3 : Int32) [(.int (0 : Int32)), (.int (0 : Int32)), (.int (0 : Int32))] (.int (0 : Int32))) (N_ca_ba : ca ≠ ba) (gt_c0 : (255 : Int32) < c0) (g_ba : n0 ≤ ba) :
    Con l Z consts_1 n0 (⟨"java/lang/StringUTF16", "compress", "([CI[BII)I"⟩ : MethodName) jdk_52_method_21_code 7 (some .int) ({ frames := 0, cells := 0, slots := 0, locals := 0 } : Room) #[(.ref ca), (.int (0 : Int32)), (.ref ba), (.int (0 : Int32)), (.int (3 : Int32))] h0 [ba] (fun v h V' => v = some (.int (0 : Int32)) ∧ Arv Z h ba kb .byte (3 : Int32) [(.int (0 : Int32)), (.int (0 : Int32)), (.int (0 : Int32))] (.int (0 : Int32))) [] := by
  refine Con.of (a0 := a0) pf2 (fun m => ef_cmp5_3w0 m ca kc ba kb c0 c1 c2) (allS g_ba all0) hO hEL ?_
  intro p e s m below meth c S0 hnm hsf W
  replace W := W.iconst (pc' := 1) (v := (0 : Int32)) djdk_52_21_0 rfl rfl
  replace W := W.istore (pc' := 3) (L' := #[.val (.ref ca), .val (.int (0 : Int32)), .val (.ref ba), .val (.int (0 : Int32)), .val (.int (3 : Int32)), .val (.int (0 : Int32)), .unset]) djdk_52_21_1 rfl rfl
  replace W := W.iload (pc' := 5) djdk_52_21_3 rfl rfl
  replace W := W.iload (pc' := 7) djdk_52_21_5 rfl rfl
  replace W := W.icmpF (pc' := 10) djdk_52_21_7 (tlt (by decide : (0 : Int32) < (3 : Int32))).2.1 rfl
  replace W := W.aloadN (pc' := 11) djdk_52_21_10 rfl rfl rfl
  replace W := W.iloadN (pc' := 12) djdk_52_21_11 rfl rfl
  replace W := W.caload (pc' := 13) (w := (.int c0)) djdk_52_21_12 V_ca ⟨by decide, by decide⟩ rfl rfl
  replace W := W.istore (pc' := 15) (L' := #[.val (.ref ca), .val (.int (0 : Int32)), .val (.ref ba), .val (.int (0 : Int32)), .val (.int (3 : Int32)), .val (.int (0 : Int32)), .val (.int c0)]) djdk_52_21_13 rfl rfl
  replace W := W.iload (pc' := 17) djdk_52_21_15 rfl rfl
  replace W := W.sipush (pc' := 20) (v := (255 : Int32)) djdk_52_21_17 rfl rfl
  replace W := W.icmpF (pc' := 23) djdk_52_21_20 (tlt gt_c0).2.2.2 rfl
  replace W := W.iload (pc' := 25) djdk_52_21_23 rfl rfl
  exact W.iret (t := .int) djdk_52_21_25 rfl (by simp) rfl (by decide) (by decide) (fun V' cv => ⟨rfl, V_ba⟩)
theorem ef_cmp3_3w0 (m : MethodId) (ca : Addr) (kc : ClassId) (c0 : Int32) (c1 : Int32) (c2 : Int32) : entryFrame m #[(.ref ca), (.int (0 : Int32)), (.int (3 : Int32))] 6 = mkF m 0 #[.val (.ref ca), .val (.int (0 : Int32)), .val (.int (3 : Int32)), .unset, .unset, .unset] [] := by first | (simp [entryFrame, mkF, argsToLocals, Value.category]; done) | rfl
set_option maxRecDepth 65536 in
set_option maxHeartbeats 40000000 in
theorem cmp3_3w0 (l : Launch) (Z : State) (a0 : Array Value) (n0 : Nat) (hw : ∀ d ∈ tables_1, d.before a0 Z = true) (hEL : EW Z a0 consts_1) (G1 : Int32) (O1 : Sta Z Z.heap "java/lang/String" "COMPACT_STRINGS" "Z" (.int G1)) (P1 : ¬ (G1 = (0 : Int32))) (O_as : Sta Z Z.heap "java/lang/StringUTF16" "$assertionsDisabled" "Z" (.int (1 : Int32))) (O_hi : Sta Z Z.heap "java/lang/StringUTF16" "HI_BYTE_SHIFT" "I" (.int (0 : Int32))) (O_lo : Sta Z Z.heap "java/lang/StringUTF16" "LO_BYTE_SHIFT" "I" (.int (8 : Int32))) (ro : Addr) (O_ro : Sta Z Z.heap "com/example/rolebind/rolebind/Decision$Reason" "ROLE" "Lcom/example/rolebind/rolebind/Decision$Reason;" (.ref ro)) (ca : Addr) (kc : ClassId) (c0 : Int32) (c1 : Int32) (c2 : Int32) (h0 : Heap) (hO : Old Z n0 h0) (V_ca : Arv Z h0 ca kc .char (3 : Int32) [(.int c0), (.int c1), (.int c2)] (.int (0 : Int32))) (hq_c0 : ¬ c0 < 0 ∧ ¬ (65535 : Int32) < c0) (hq_c1 : ¬ c1 < 0 ∧ ¬ (65535 : Int32) < c1) (hq_c2 : ¬ c2 < 0 ∧ ¬ (65535 : Int32) < c2) (gt_c0 : (255 : Int32) < c0) :
    Con l Z consts_1 n0 (⟨"java/lang/StringUTF16", "compress", "([CII)[B"⟩ : MethodName) jdk_52_method_16_code 6 (some (.array .byte)) ({ frames := 3, cells := 2, slots := 9, locals := 40 } : Room) #[(.ref ca), (.int (0 : Int32)), (.int (3 : Int32))] h0 [] (fun v h V' => ∃ (t : Addr) (kt : ClassId), v = some (.ref t) ∧ Arv Z h t kt .byte (6 : Int32) [(.int (c0.toInt8.toInt32)), (.int ((c0 >>> ((8 : Int32) &&& 31)).toInt8.toInt32)), (.int (c1.toInt8.toInt32)), (.int ((c1 >>> ((8 : Int32) &&& 31)).toInt8.toInt32)), (.int (c2.toInt8.toInt32)), (.int ((c2 >>> ((8 : Int32) &&& 31)).toInt8.toInt32))] (.int (0 : Int32)) ∧ h0.size ≤ t) [] := by
  refine Con.of (a0 := a0) pf3 (fun m => ef_cmp3_3w0 m ca kc c0 c1 c2) all0 hO hEL ?_
  intro p e s m below meth c S0 hnm hsf W
  replace W := W.iloadN (pc' := 1) djdk_52_16_0 rfl rfl
  obtain ⟨h1, a1, W1, E1, g1, ⟨k1, A1⟩, sf1, SF1⟩ := W.newarr (pc' := 3) (cap := 3) (cells' := 1) (slots' := 3) djdk_52_16_1 (tw16 hw) (by decide) (by decide) (by decide) rfl rfl rfl (by decide) (by decide)
  clear W
  rw [← g1] at A1
  have z1 : h0.size ≤ h1.size := E1.1
  have v1 : Arv Z h1 a1 k1 .byte (3 : Int32) [(.int (0 : Int32)), (.int (0 : Int32)), (.int (0 : Int32))] (.int (0 : Int32)) := A1.pad (pad_rep [] (.int (0 : Int32)) 3)
  replace W1 := W1.astoreN (pc' := 4) (L' := #[.val (.ref ca), .val (.int (0 : Int32)), .val (.int (3 : Int32)), .val (.ref a1), .unset, .unset]) djdk_52_16_3 rfl rfl rfl
  replace W1 := W1.aloadN (pc' := 5) djdk_52_16_4 rfl rfl rfl
  replace W1 := W1.iloadN (pc' := 6) djdk_52_16_5 rfl rfl
  replace W1 := W1.aloadN (pc' := 7) djdk_52_16_6 rfl rfl rfl
  replace W1 := W1.iconst (pc' := 8) (v := (0 : Int32)) djdk_52_16_7 rfl rfl
  replace W1 := W1.iloadN (pc' := 9) djdk_52_16_8 rfl rfl
  have v2 := (V_ca.ext E1)
  obtain ⟨V3, h3, r3, W3, K3, hQ3, SF3⟩ := W1.callS (pc' := 12) (argsL := [(.ref ca), (.int (0 : Int32)), (.ref a1), (.int (0 : Int32)), (.int (3 : Int32))]) (rest := []) (Wd := 0) (cells' := 1) (slots' := 3) (y := (⟨"java/lang/StringUTF16", "compress", "([CI[BII)I"⟩ : MethodName)) djdk_52_16_9 (cmp5_3w0 l Z a0 n0 hw hEL G1 O1 P1 O_as O_hi O_lo ro O_ro ca kc a1 k1 c0 c1 c2 h1 W1.old v2 v1 (Nat.ne_of_lt (Nat.lt_of_lt_of_le V_ca.lt (Nat.le_of_eq g1.symm))) gt_c0 (Nat.le_trans W1.1.2.2.2.2.2.2.2.1 (Nat.le_of_eq g1.symm))) (tw90 hw) (tw91 hw) (tw88 hw) (tw92 hw) (by decide) (lenOf pd1 rfl) rfl rfl (by decide) (by decide) rfl (sfS sf1 sf0) (allS (Or.inr (Nat.le_of_eq g1.symm)) all0) rfl rfl rfl (by decide) (by decide)
  clear W1
  obtain ⟨rfl, q3_1⟩ := hQ3
  have z3 : h1.size ≤ h3.size := K3.1
  replace W3 := W3.cast (st' := [(.int (0 : Int32))]) rfl
  replace W3 := W3.istore (pc' := 14) (L' := #[.val (.ref ca), .val (.int (0 : Int32)), .val (.int (3 : Int32)), .val (.ref a1), .val (.int (0 : Int32)), .unset]) djdk_52_16_12 rfl rfl
  replace W3 := W3.iload (pc' := 16) djdk_52_16_14 rfl rfl
  replace W3 := W3.iloadN (pc' := 17) djdk_52_16_16 rfl rfl
  replace W3 := W3.icmpF (pc' := 20) djdk_52_16_17 (feq (by decide : ¬ ((0 : Int32) = (3 : Int32)))).1 rfl
  replace W3 := W3.aloadN (pc' := 21) djdk_52_16_20 rfl rfl rfl
  replace W3 := W3.iloadN (pc' := 22) djdk_52_16_21 rfl rfl
  replace W3 := W3.iloadN (pc' := 23) djdk_52_16_22 rfl rfl
  have v4 := (v2.keep K3 (ninS (Nat.ne_of_lt (Nat.lt_of_lt_of_le V_ca.lt (Nat.le_of_eq g1.symm))) nin0))
  obtain ⟨V5, h5, r5, W5, K5, hQ5, SF5⟩ := W3.callS (pc' := 26) (argsL := [(.ref ca), (.int (0 : Int32)), (.int (3 : Int32))]) (rest := []) (Wd := 0) (cells' := 2) (slots' := 9) (y := (⟨"java/lang/StringUTF16", "toBytes", "([CII)[B"⟩ : MethodName)) djdk_52_16_23 (tob_3 l Z a0 n0 hw hEL G1 O1 P1 O_as O_hi O_lo ro O_ro ca kc c0 c1 c2 h3 W3.old v4) (tw96 hw) (tw97 hw) (tw88 hw) (tw98 hw) (by decide) (lenOf pd2 rfl) rfl rfl (by decide) (by decide) rfl sf0 all0 rfl rfl rfl (by decide) (by decide)
  clear W3
  obtain ⟨t5, kt5, rfl, q5_1, q5_2⟩ := hQ5
  have z5 : h3.size ≤ h5.size := K5.1
  replace W5 := W5.cast (st' := [(.ref t5)]) rfl
  replace W5 := W5.astore (pc' := 28) (L' := #[.val (.ref ca), .val (.int (0 : Int32)), .val (.int (3 : Int32)), .val (.ref a1), .val (.int (0 : Int32)), .val (.ref t5)]) djdk_52_16_26 rfl rfl rfl
  replace W5 := W5.aload (pc' := 30) djdk_52_16_28 rfl rfl rfl
  replace W5 := W5.iload (pc' := 32) djdk_52_16_30 rfl rfl
  obtain ⟨V6, h6, r6, W6, K6, hQ6, SF6⟩ := W5.callS (pc' := 35) (argsL := [(.ref t5), (.int (0 : Int32))]) (rest := []) (Wd := 0) (cells' := 2) (slots' := 9) (y := (⟨"java/lang/StringUTF16", "getChar", "([BI)C"⟩ : MethodName)) djdk_52_16_32 (getc_3w0 l Z a0 n0 hw hEL G1 O1 P1 O_as O_hi O_lo ro O_ro t5 kt5 c0 (c1.toInt8.toInt32) ((c1 >>> ((8 : Int32) &&& 31)).toInt8.toInt32) (c2.toInt8.toInt32) ((c2 >>> ((8 : Int32) &&& 31)).toInt8.toInt32) h5 W5.old q5_1 hq_c0) (tw112 hw) (tw113 hw) (tw88 hw) (tw114 hw) (by decide) (lenOf pd7 rfl) rfl rfl (by decide) (by decide) rfl sf0 all0 rfl rfl rfl (by decide) (by decide)
  clear W5
  obtain ⟨rfl, hs6⟩ := hQ6
  subst hs6
  have sf7 := (SF5 a1 q3_1.lt (SF3 a1 v1.lt sf1))
  have sf8 := SF6 a1 (Nat.lt_of_lt_of_le q3_1.lt z5) sf7
  replace W6 := W6.cast (st' := [(.int c0)]) rfl
  replace W6 := W6.sipush (pc' := 38) (v := (255 : Int32)) djdk_52_16_35 rfl rfl
  replace W6 := W6.icmpT (pc' := 54) djdk_52_16_38 (tlt gt_c0).2.2.1 (by decide) (by decide)
  replace W6 := W6.aload (pc' := 56) djdk_52_16_54 rfl rfl rfl
  exact W6.aret (t := (.array .byte)) djdk_52_16_56 rfl rfl rfl rfl (by decide) (by decide) (fun V' cv => ⟨t5, kt5, rfl, q5_1, (Nat.le_trans (Nat.le_trans z1 z3) q5_2)⟩)
theorem ef_codlw_3 (m : MethodId) (ta : Addr) (kt : ClassId) (vt : List Value) : entryFrame m #[(.ref ta), (.int (3 : Int32))] 2 = mkF m 0 #[.val (.ref ta), .val (.int (3 : Int32))] [] := by first | (simp [entryFrame, mkF, argsToLocals, Value.category]; done) | rfl
set_option maxRecDepth 65536 in
set_option maxHeartbeats 40000000 in
theorem codlw_3 (l : Launch) (Z : State) (a0 : Array Value) (n0 : Nat) (hw : ∀ d ∈ tables_1, d.before a0 Z = true) (hEL : EW Z a0 consts_1) (G1 : Int32) (O1 : Sta Z Z.heap "java/lang/String" "COMPACT_STRINGS" "Z" (.int G1)) (P1 : ¬ (G1 = (0 : Int32))) (O_as : Sta Z Z.heap "java/lang/StringUTF16" "$assertionsDisabled" "Z" (.int (1 : Int32))) (O_hi : Sta Z Z.heap "java/lang/StringUTF16" "HI_BYTE_SHIFT" "I" (.int (0 : Int32))) (O_lo : Sta Z Z.heap "java/lang/StringUTF16" "LO_BYTE_SHIFT" "I" (.int (8 : Int32))) (ro : Addr) (O_ro : Sta Z Z.heap "com/example/rolebind/rolebind/Decision$Reason" "ROLE" "Lcom/example/rolebind/rolebind/Decision$Reason;" (.ref ro)) (ta : Addr) (kt : ClassId) (vt : List Value) (h0 : Heap) (hO : Old Z n0 h0) (V_ta : Arv Z h0 ta kt .byte (6 : Int32) vt (.int (0 : Int32))) :
    Con l Z consts_1 n0 (⟨"java/lang/StringUTF16", "coderFromArrayLen", "([BI)B"⟩ : MethodName) jdk_52_method_15_code 2 (some .byte) ({ frames := 0, cells := 0, slots := 0, locals := 0 } : Room) #[(.ref ta), (.int (3 : Int32))] h0 [] (fun v h V' => v = some (.int (1 : Int32)) ∧ h0 = h) [] := by
  refine Con.of (a0 := a0) pf4 (fun m => ef_codlw_3 m ta kt vt) all0 hO hEL ?_
  intro p e s m below meth c S0 hnm hsf W
  replace W := W.iloadN (pc' := 1) djdk_52_15_0 rfl rfl
  replace W := W.aloadN (pc' := 2) djdk_52_15_1 rfl rfl rfl
  replace W := W.alen (pc' := 3) djdk_52_15_2 V_ta rfl
  replace W := W.isub (pc' := 4) (v := (-3 : Int32)) djdk_52_15_3 (by decide) rfl
  replace W := W.bipush (pc' := 6) (v := (31 : Int32)) djdk_52_15_4 rfl rfl
  replace W := W.iushr (pc' := 7) (v := (1 : Int32)) djdk_52_15_6 (by decide) rfl
  replace W := W.i2b (pc' := 8) (v := (1 : Int32)) djdk_52_15_7 (by decide) rfl
  exact W.iret (t := .byte) djdk_52_15_8 rfl (by simp) (by decide) (by decide) (by decide) (fun V' cv => ⟨rfl, rfl⟩)
theorem ef_new4_3w0 (m : MethodId) (xa : Addr) (ca : Addr) (kc : ClassId) (c0 : Int32) (c1 : Int32) (c2 : Int32) : entryFrame m #[(.ref xa), (.ref ca), (.int (0 : Int32)), (.int (3 : Int32)), .null] 6 = mkF m 0 #[.val (.ref xa), .val (.ref ca), .val (.int (0 : Int32)), .val (.int (3 : Int32)), .val .null, .unset] [] := by first | (simp [entryFrame, mkF, argsToLocals, Value.category]; done) | rfl
set_option maxRecDepth 65536 in
set_option maxHeartbeats 40000000 in
theorem new4_3w0 (l : Launch) (Z : State) (a0 : Array Value) (n0 : Nat) (hw : ∀ d ∈ tables_1, d.before a0 Z = true) (hEL : EW Z a0 consts_1) (G1 : Int32) (O1 : Sta Z Z.heap "java/lang/String" "COMPACT_STRINGS" "Z" (.int G1)) (P1 : ¬ (G1 = (0 : Int32))) (O_as : Sta Z Z.heap "java/lang/StringUTF16" "$assertionsDisabled" "Z" (.int (1 : Int32))) (O_hi : Sta Z Z.heap "java/lang/StringUTF16" "HI_BYTE_SHIFT" "I" (.int (0 : Int32))) (O_lo : Sta Z Z.heap "java/lang/StringUTF16" "LO_BYTE_SHIFT" "I" (.int (8 : Int32))) (ro : Addr) (O_ro : Sta Z Z.heap "com/example/rolebind/rolebind/Decision$Reason" "ROLE" "Lcom/example/rolebind/rolebind/Decision$Reason;" (.ref ro)) (xa : Addr) (ca : Addr) (kc : ClassId) (c0 : Int32) (c1 : Int32) (c2 : Int32) (h0 : Heap) (hO : Old Z n0 h0) (E_xa : Exa Z h0 xa "java/lang/String") (F_xa_value : Fld Z h0 xa "java/lang/String" "value" "[B" .null) (F_xa_coder : Fld Z h0 xa "java/lang/String" "coder" "B" (.int (0 : Int32))) (V_ca : Arv Z h0 ca kc .char (3 : Int32) [(.int c0), (.int c1), (.int c2)] (.int (0 : Int32))) (hq_c0 : ¬ c0 < 0 ∧ ¬ (65535 : Int32) < c0) (hq_c1 : ¬ c1 < 0 ∧ ¬ (65535 : Int32) < c1) (hq_c2 : ¬ c2 < 0 ∧ ¬ (65535 : Int32) < c2) (gt_c0 : (255 : Int32) < c0) (g_xa : n0 ≤ xa) :
    Con l Z consts_1 n0 (⟨"java/lang/String", "<init>", "([CIILjava/lang/Void;)V"⟩ : MethodName) jdk_42_method_149_code 6 none ({ frames := 4, cells := 2, slots := 9, locals := 57 } : Room) #[(.ref xa), (.ref ca), (.int (0 : Int32)), (.int (3 : Int32)), .null] h0 [xa] (fun v h V' => ∃ (t : Addr) (kt : ClassId), v = none ∧ Exa Z h xa "java/lang/String" ∧ Fld Z h xa "java/lang/String" "coder" "B" (.int (1 : Int32)) ∧ Fld Z h xa "java/lang/String" "value" "[B" (.ref t) ∧ Arv Z h t kt .byte (6 : Int32) [(.int (c0.toInt8.toInt32)), (.int ((c0 >>> ((8 : Int32) &&& 31)).toInt8.toInt32)), (.int (c1.toInt8.toInt32)), (.int ((c1 >>> ((8 : Int32) &&& 31)).toInt8.toInt32)), (.int (c2.toInt8.toInt32)), (.int ((c2 >>> ((8 : Int32) &&& 31)).toInt8.toInt32))] (.int (0 : Int32))) [] := by
  refine Con.of (a0 := a0) pf0 (fun m => ef_new4_3w0 m xa ca kc c0 c1 c2) (allS g_xa all0) hO hEL ?_
  intro p e s m below meth c S0 hnm hsf W
  replace W := W.aloadN (pc' := 1) djdk_42_149_0 rfl rfl rfl
  replace W := W.initO (pc' := 4) (Wd := 0) djdk_42_149_1 (tw12 hw) (tw13 hw) (tw14 hw) rfl rfl (by decide) (by decide) rfl
  replace W := W.iloadN (pc' := 5) djdk_42_149_4 rfl rfl
  replace W := W.ifT (pc' := 27) djdk_42_149_5 (feq (by decide : ¬ ((3 : Int32) = (0 : Int32)))).2 (by decide) (by decide)
  replace W := W.gets (pc' := 30) djdk_42_149_27 (tw85 hw) O1 rfl
  replace W := W.ifF (pc' := 33) djdk_42_149_30 (feq P1).1 rfl
  replace W := W.aloadN (pc' := 34) djdk_42_149_33 rfl rfl rfl
  replace W := W.iloadN (pc' := 35) djdk_42_149_34 rfl rfl
  replace W := W.iloadN (pc' := 36) djdk_42_149_35 rfl rfl
  obtain ⟨V1, h1, r1, W1, K1, hQ1, SF1⟩ := W.callS (pc' := 39) (argsL := [(.ref ca), (.int (0 : Int32)), (.int (3 : Int32))]) (rest := []) (Wd := 0) (cells' := 2) (slots' := 9) (y := (⟨"java/lang/StringUTF16", "compress", "([CII)[B"⟩ : MethodName)) djdk_42_149_36 (cmp3_3w0 l Z a0 n0 hw hEL G1 O1 P1 O_as O_hi O_lo ro O_ro ca kc c0 c1 c2 h0 W.old V_ca hq_c0 hq_c1 hq_c2 gt_c0) (tw86 hw) (tw87 hw) (tw88 hw) (tw89 hw) (by decide) (lenOf pd2 rfl) rfl rfl (by decide) (by decide) rfl sf0 all0 rfl rfl rfl (by decide) (by decide)
  clear W
  obtain ⟨t1, kt1, rfl, q1_1, q1_2⟩ := hQ1
  have z1 : h0.size ≤ h1.size := K1.1
  replace W1 := W1.cast (st' := [(.ref t1)]) rfl
  replace W1 := W1.astore (pc' := 41) (L' := #[.val (.ref xa), .val (.ref ca), .val (.int (0 : Int32)), .val (.int (3 : Int32)), .val .null, .val (.ref t1)]) djdk_42_149_39 rfl rfl rfl
  replace W1 := W1.aloadN (pc' := 42) djdk_42_149_41 rfl rfl rfl
  replace W1 := W1.aload (pc' := 44) djdk_42_149_42 rfl rfl rfl
  replace W1 := W1.iloadN (pc' := 45) djdk_42_149_44 rfl rfl
  obtain ⟨V2, h2, r2, W2, K2, hQ2, SF2⟩ := W1.callS (pc' := 48) (argsL := [(.ref t1), (.int (3 : Int32))]) (rest := [(.ref xa)]) (Wd := 1) (cells' := 2) (slots' := 9) (y := (⟨"java/lang/StringUTF16", "coderFromArrayLen", "([BI)B"⟩ : MethodName)) djdk_42_149_45 (codlw_3 l Z a0 n0 hw hEL G1 O1 P1 O_as O_hi O_lo ro O_ro t1 kt1 ([(.int (c0.toInt8.toInt32)), (.int ((c0 >>> ((8 : Int32) &&& 31)).toInt8.toInt32)), (.int (c1.toInt8.toInt32)), (.int ((c1 >>> ((8 : Int32) &&& 31)).toInt8.toInt32)), (.int (c2.toInt8.toInt32)), (.int ((c2 >>> ((8 : Int32) &&& 31)).toInt8.toInt32))]) h1 W1.old q1_1) (tw93 hw) (tw94 hw) (tw88 hw) (tw95 hw) (by decide) (lenOf pd3 rfl) rfl rfl (by decide) (by decide) rfl sf0 all0 rfl rfl rfl (by decide) (by decide)
  clear W1
  obtain ⟨rfl, hs2⟩ := hQ2
  subst hs2
  have sf3 := (SF1 xa E_xa.lt (hsf _ (List.mem_of_getElem? (i := 0) rfl)))
  have sf4 := SF2 xa (Nat.lt_of_lt_of_le E_xa.lt z1) sf3
  replace W2 := W2.cast (st' := [(.int (1 : Int32)), (.ref xa)]) rfl
  have f5 := (F_xa_coder.keep K1 nin0)
  have e6 := (E_xa.keep K1)
  obtain ⟨h7, W7, w7, SF7⟩ := W2.putf (pc' := 51) (ty := .byte) djdk_42_149_48 (tw22 hw) Via.refl f5 e6 (Or.inr ⟨(tw18 hw), rfl, hnm⟩) (tw3 hw) (by decide) rfl rfl sf4 (Or.inl (List.mem_of_getElem? (i := 0) rfl)) rfl
  clear W2
  have z7 : h1.size ≤ h7.size := Nat.le_of_eq w7.size.symm
  have f7 := f5.same w7
  replace W7 := W7.aloadN (pc' := 52) djdk_42_149_51 rfl rfl rfl
  replace W7 := W7.aload (pc' := 54) djdk_42_149_52 rfl rfl rfl
  have f8 := ((F_xa_value.keep K1 nin0).other w7 (Or.inr (slot_ne (C := "java/lang/String") (Or.inr (tw17 hw)) (Or.inr (tw18 hw)) (by decide) (t := (.array .byte)) (t' := .byte) (by decide) (by decide))))
  have e9 := (e6.wr w7)
  have sf10 := (SF7 xa sf4)
  obtain ⟨h11, W11, w11, SF11⟩ := W7.putf (pc' := 57) (ty := (.array .byte)) djdk_42_149_54 (tw21 hw) Via.refl f8 e9 (Or.inr ⟨(tw17 hw), rfl, hnm⟩) (tw3 hw) (by decide) rfl rfl sf10 (Or.inl (List.mem_of_getElem? (i := 0) rfl)) rfl
  clear W7
  have z11 : h7.size ≤ h11.size := Nat.le_of_eq w11.size.symm
  have f11 := f8.same w11
  have e12 := (e9.wr w11)
  have f13 := (f7.other w11 (Or.inr (slot_ne (C := "java/lang/String") (Or.inr (tw18 hw)) (Or.inr (tw17 hw)) (by decide) (t := .byte) (t' := (.array .byte)) (by decide) (by decide))))
  have v14 := ((q1_1.other w7 (Nat.ne_of_gt (Nat.lt_of_lt_of_le E_xa.lt q1_2))).other w11 (Nat.ne_of_gt (Nat.lt_of_lt_of_le E_xa.lt q1_2)))
  exact W11.vret djdk_42_149_57 rfl (by decide) (by decide) (fun V' cv => ⟨t1, kt1, rfl, e12, f13, f11, v14⟩)
theorem ef_new1_3w0 (m : MethodId) (xa : Addr) (ca : Addr) (kc : ClassId) (c0 : Int32) (c1 : Int32) (c2 : Int32) : entryFrame m #[(.ref xa), (.ref ca)] 2 = mkF m 0 #[.val (.ref xa), .val (.ref ca)] [] := by first | (simp [entryFrame, mkF, argsToLocals, Value.category]; done) | rfl
set_option maxRecDepth 65536 in
set_option maxHeartbeats 40000000 in
theorem new1_3w0 (l : Launch) (Z : State) (a0 : Array Value) (n0 : Nat) (hw : ∀ d ∈ tables_1, d.before a0 Z = true) (hEL : EW Z a0 consts_1) (G1 : Int32) (O1 : Sta Z Z.heap "java/lang/String" "COMPACT_STRINGS" "Z" (.int G1)) (P1 : ¬ (G1 = (0 : Int32))) (O_as : Sta Z Z.heap "java/lang/StringUTF16" "$assertionsDisabled" "Z" (.int (1 : Int32))) (O_hi : Sta Z Z.heap "java/lang/StringUTF16" "HI_BYTE_SHIFT" "I" (.int (0 : Int32))) (O_lo : Sta Z Z.heap "java/lang/StringUTF16" "LO_BYTE_SHIFT" "I" (.int (8 : Int32))) (ro : Addr) (O_ro : Sta Z Z.heap "com/example/rolebind/rolebind/Decision$Reason" "ROLE" "Lcom/example/rolebind/rolebind/Decision$Reason;" (.ref ro)) (xa : Addr) (ca : Addr) (kc : ClassId) (c0 : Int32) (c1 : Int32) (c2 : Int32) (h0 : Heap) (hO : Old Z n0 h0) (E_xa : Exa Z h0 xa "java/lang/String") (F_xa_value : Fld Z h0 xa "java/lang/String" "value" "[B" .null) (F_xa_coder : Fld Z h0 xa "java/lang/String" "coder" "B" (.int (0 : Int32))) (V_ca : Arv Z h0 ca kc .char (3 : Int32) [(.int c0), (.int c1), (.int c2)] (.int (0 : Int32))) (hq_c0 : ¬ c0 < 0 ∧ ¬ (65535 : Int32) < c0) (hq_c1 : ¬ c1 < 0 ∧ ¬ (65535 : Int32) < c1) (hq_c2 : ¬ c2 < 0 ∧ ¬ (65535 : Int32) < c2) (gt_c0 : (255 : Int32) < c0) (g_xa : n0 ≤ xa) :
    Con l Z consts_1 n0 (⟨"java/lang/String", "<init>", "([C)V"⟩ : MethodName) jdk_42_method_3_code 2 none ({ frames := 5, cells := 2, slots := 9, locals := 74 } : Room) #[(.ref xa), (.ref ca)] h0 [xa] (fun v h V' => ∃ (t : Addr) (kt : ClassId), v = none ∧ Exa Z h xa "java/lang/String" ∧ Fld Z h xa "java/lang/String" "coder" "B" (.int (1 : Int32)) ∧ Fld Z h xa "java/lang/String" "value" "[B" (.ref t) ∧ Arv Z h t kt .byte (6 : Int32) [(.int (c0.toInt8.toInt32)), (.int ((c0 >>> ((8 : Int32) &&& 31)).toInt8.toInt32)), (.int (c1.toInt8.toInt32)), (.int ((c1 >>> ((8 : Int32) &&& 31)).toInt8.toInt32)), (.int (c2.toInt8.toInt32)), (.int ((c2 >>> ((8 : Int32) &&& 31)).toInt8.toInt32))] (.int (0 : Int32))) [] := by
  refine Con.of (a0 := a0) pf1 (fun m => ef_new1_3w0 m xa ca kc c0 c1 c2) (allS g_xa all0) hO hEL ?_
  intro p e s m below meth c S0 hnm hsf W
  replace W := W.aloadN (pc' := 1) djdk_42_3_0 rfl rfl rfl
  replace W := W.aloadN (pc' := 2) djdk_42_3_1 rfl rfl rfl
  replace W := W.iconst (pc' := 3) (v := (0 : Int32)) djdk_42_3_2 rfl rfl
  replace W := W.aloadN (pc' := 4) djdk_42_3_3 rfl rfl rfl
  replace W := W.alen (pc' := 5) djdk_42_3_4 V_ca rfl
  replace W := W.aconstNull (pc' := 6) djdk_42_3_5 rfl
  obtain ⟨V1, h1, r1, W1, K1, hQ1, SF1⟩ := W.callI (pc' := 9) (argsL := [(.ref ca), (.int (0 : Int32)), (.int (3 : Int32)), .null]) (rest := []) (Wd := 0) (cells' := 2) (slots' := 9) (a := xa) (y := (⟨"java/lang/String", "<init>", "([CIILjava/lang/Void;)V"⟩ : MethodName)) djdk_42_3_6 (new4_3w0 l Z a0 n0 hw hEL G1 O1 P1 O_as O_hi O_lo ro O_ro xa ca kc c0 c1 c2 h0 W.old E_xa F_xa_value F_xa_coder V_ca hq_c0 hq_c1 hq_c2 gt_c0 g_xa) rfl (tw8 hw) (tw9 hw) (tw4 hw) (tw11 hw) (by decide) (lenOf pd0 rfl) rfl rfl (by decide) (by decide) rfl (sfS (hsf _ (List.mem_of_getElem? (i := 0) rfl)) sf0) (allS (Or.inl (List.mem_of_getElem? (i := 0) rfl)) all0) rfl rfl rfl (by decide) (by decide)
  clear W
  obtain ⟨t1, kt1, rfl, q1_1, q1_2, q1_3, q1_4⟩ := hQ1
  have z1 : h0.size ≤ h1.size := K1.1
  replace W1 := W1.cast (st' := []) rfl
  exact W1.vret djdk_42_3_9 rfl (by decide) (by decide) (fun V' cv => ⟨t1, kt1, rfl, q1_1, q1_2, q1_3, q1_4⟩)
theorem ef_getc_3w1 (m : MethodId) (ba : Addr) (kb : ClassId) (cz : Int32) (u0 : Int32) (u1 : Int32) (u4 : Int32) (u5 : Int32) : entryFrame m #[(.ref ba), (.int (1 : Int32))] 2 = mkF m 0 #[.val (.ref ba), .val (.int (1 : Int32))] [] := by first | (simp [entryFrame, mkF, argsToLocals, Value.category]; done) | rfl
set_option maxRecDepth 65536 in
set_option maxHeartbeats 40000000 in
theorem getc_3w1 (l : Launch) (Z : State) (a0 : Array Value) (n0 : Nat) (hw : ∀ d ∈ tables_1, d.before a0 Z = true) (hEL : EW Z a0 consts_1) (G1 : Int32) (O1 : Sta Z Z.heap "java/lang/String" "COMPACT_STRINGS" "Z" (.int G1)) (P1 : ¬ (G1 = (0 : Int32))) (O_as : Sta Z Z.heap "java/lang/StringUTF16" "$assertionsDisabled" "Z" (.int (1 : Int32))) (O_hi : Sta Z Z.heap "java/lang/StringUTF16" "HI_BYTE_SHIFT" "I" (.int (0 : Int32))) (O_lo : Sta Z Z.heap "java/lang/StringUTF16" "LO_BYTE_SHIFT" "I" (.int (8 : Int32))) (ro : Addr) (O_ro : Sta Z Z.heap "com/example/rolebind/rolebind/Decision$Reason" "ROLE" "Lcom/example/rolebind/rolebind/Decision$Reason;" (.ref ro)) (ba : Addr) (kb : ClassId) (cz : Int32) (u0 : Int32) (u1 : Int32) (u4 : Int32) (u5 : Int32) (h0 : Heap) (hO : Old Z n0 h0) (V_ba : Arv Z h0 ba kb .byte (6 : Int32) [(.int u0), (.int u1), (.int (cz.toInt8.toInt32)), (.int ((cz >>> ((8 : Int32) &&& 31)).toInt8.toInt32)), (.int u4), (.int u5)] (.int (0 : Int32))) (hq_cz : ¬ cz < 0 ∧ ¬ (65535 : Int32) < cz) :
    Con l Z consts_1 n0 (⟨"java/lang/StringUTF16", "getChar", "([BI)C"⟩ : MethodName) jdk_52_method_5_code 2 (some .char) ({ frames := 0, cells := 0, slots := 0, locals := 0 } : Room) #[(.ref ba), (.int (1 : Int32))] h0 [] (fun v h V' => v = some (.int cz) ∧ h0 = h) [] := by
  refine Con.of (a0 := a0) pf9 (fun m => ef_getc_3w1 m ba kb cz u0 u1 u4 u5) all0 hO hEL ?_
  intro p e s m below meth c S0 hnm hsf W
  replace W := W.gets (pc' := 3) djdk_52_5_0 (tw109 hw) O_as rfl
  replace W := W.ifT (pc' := 28) djdk_52_5_3 (feq (by decide : ¬ ((1 : Int32) = (0 : Int32)))).2 (by decide) (by decide)
  replace W := W.iloadN (pc' := 29) djdk_52_5_28 rfl rfl
  replace W := W.iconst (pc' := 30) (v := (1 : Int32)) djdk_52_5_29 rfl rfl
  replace W := W.ishl (pc' := 31) (v := (2 : Int32)) djdk_52_5_30 (by decide) rfl
  replace W := W.istoreN (pc' := 32) (L' := #[.val (.ref ba), .val (.int (2 : Int32))]) djdk_52_5_31 rfl rfl
  replace W := W.aloadN (pc' := 33) djdk_52_5_32 rfl rfl rfl
  replace W := W.iloadN (pc' := 34) djdk_52_5_33 rfl rfl
  replace W := W.iinc (pc' := 37) (v := (3 : Int32)) (L' := #[.val (.ref ba), .val (.int (3 : Int32))]) djdk_52_5_34 rfl (by decide) rfl rfl
  replace W := W.baload (pc' := 38) (w := (.int (cz.toInt8.toInt32))) djdk_52_5_37 V_ba ⟨by decide, by decide⟩ rfl rfl
  replace W := W.sipush (pc' := 41) (v := (255 : Int32)) djdk_52_5_38 rfl rfl
  replace W := W.iand (pc' := 42) (v := ((cz.toInt8.toInt32) &&& (255 : Int32))) djdk_52_5_41 rfl rfl
  replace W := W.gets (pc' := 45) djdk_52_5_42 (tw110 hw) O_hi rfl
  replace W := W.ishl (pc' := 46) (v := (((cz.toInt8.toInt32) &&& (255 : Int32)) <<< ((0 : Int32) &&& 31))) djdk_52_5_45 rfl rfl
  replace W := W.aloadN (pc' := 47) djdk_52_5_46 rfl rfl rfl
  replace W := W.iloadN (pc' := 48) djdk_52_5_47 rfl rfl
  replace W := W.baload (pc' := 49) (w := (.int ((cz >>> ((8 : Int32) &&& 31)).toInt8.toInt32))) djdk_52_5_48 V_ba ⟨by decide, by decide⟩ rfl rfl
  replace W := W.sipush (pc' := 52) (v := (255 : Int32)) djdk_52_5_49 rfl rfl
  replace W := W.iand (pc' := 53) (v := (((cz >>> ((8 : Int32) &&& 31)).toInt8.toInt32) &&& (255 : Int32))) djdk_52_5_52 rfl rfl
  replace W := W.gets (pc' := 56) djdk_52_5_53 (tw111 hw) O_lo rfl
  replace W := W.ishl (pc' := 57) (v := ((((cz >>> ((8 : Int32) &&& 31)).toInt8.toInt32) &&& (255 : Int32)) <<< ((8 : Int32) &&& 31))) djdk_52_5_56 rfl rfl
  replace W := W.ior (pc' := 58) (v := ((((cz.toInt8.toInt32) &&& (255 : Int32)) <<< ((0 : Int32) &&& 31)) ||| ((((cz >>> ((8 : Int32) &&& 31)).toInt8.toInt32) &&& (255 : Int32)) <<< ((8 : Int32) &&& 31)))) djdk_52_5_57 rfl rfl
  replace W := W.i2c (pc' := 59) (v := cz) djdk_52_5_58 (own_pair hq_cz) rfl
  exact W.iret (t := .char) djdk_52_5_59 rfl (by simp) (own_narrow_char hq_cz) (by decide) (by decide) (fun V' cv => ⟨rfl, rfl⟩)
theorem ef_cmp5_3w1 (m : MethodId) (ca : Addr) (kc : ClassId) (ba : Addr) (kb : ClassId) (c0 : Int32) (c1 : Int32) (c2 : Int32) : entryFrame m #[(.ref ca), (.int (0 : Int32)), (.ref ba), (.int (0 : Int32)), (.int (3 : Int32))] 7 = mkF m 0 #[.val (.ref ca), .val (.int (0 : Int32)), .val (.ref ba), .val (.int (0 : Int32)), .val (.int (3 : Int32)), .unset, .unset] [] := by first | (simp [entryFrame, mkF, argsToLocals, Value.category]; done) | rfl
set_option maxRecDepth 65536 in
set_option maxHeartbeats 40000000 in
theorem cmp5_3w1 (l : Launch) (Z : State) (a0 : Array Value) (n0 : Nat) (hw : ∀ d ∈ tables_1, d.before a0 Z = true) (hEL : EW Z a0 consts_1) (G1 : Int32) (O1 : Sta Z Z.heap "java/lang/String" "COMPACT_STRINGS" "Z" (.int G1)) (P1 : ¬ (G1 = (0 : Int32))) (O_as : Sta Z Z.heap "java/lang/StringUTF16" "$assertionsDisabled" "Z" (.int (1 : Int32))) (O_hi : Sta Z Z.heap "java/lang/StringUTF16" "HI_BYTE_SHIFT" "I" (.int (0 : Int32))) (O_lo : Sta Z Z.heap "java/lang/StringUTF16" "LO_BYTE_SHIFT" "I" (.int (8 : Int32))) (ro : Addr) (O_ro : Sta Z Z.heap "com/example/rolebind/rolebind/Decision$Reason" "ROLE" "Lcom/example/rolebind/rolebind/Decision$Reason;" (.ref ro)) (ca : Addr) (kc : ClassId) (ba : Addr) (kb : ClassId) (c0 : Int32) (c1 : Int32) (c2 : Int32) (h0 : Heap) (hO : Old Z n0 h0) (V_ca : Arv Z h0 ca kc .char (3 : Int32) [(.int c0), (.int c1), (.int c2)] (.int (0 : Int32))) (V_ba : Arv Z h0 ba kb .byte (3 : Int32) [(.int (0 : Int32)), (.int (0 : Int32)), (.int (0 : Int32))] (.int (0 : Int32))) (N_ca_ba : ca ≠ ba) (hp_c0 : ¬ c0 < 0 ∧ ¬ (255 : Int32) < c0) (gt_c1 : (255 : Int32) < c1) (g_ba : n0 ≤ ba) :
    Con l Z consts_1 n0 (⟨"java/lang/StringUTF16", "compress", "([CI[BII)I"⟩ : MethodName) jdk_52_method_21_code 7 (some .int) ({ frames := 0, cells := 0, slots := 0, locals := 0 } : Room) #[(.ref ca), (.int (0 : Int32)), (.ref ba), (.int (0 : Int32)), (.int (3 : Int32))] h0 [ba] (fun v h V' => v = some (.int (1 : Int32)) ∧ Arv Z h ba kb .byte (3 : Int32) [(.int (c0.toInt8.toInt32)), (.int (0 : Int32)), (.int (0 : Int32))] (.int (0 : Int32))) [] := by
  refine Con.of (a0 := a0) pf2 (fun m => ef_cmp5_3w1 m ca kc ba kb c0 c1 c2) (allS g_ba all0) hO hEL ?_
  intro p e s m below meth c S0 hnm hsf W
  replace W := W.iconst (pc' := 1) (v := (0 : Int32)) djdk_52_21_0 rfl rfl
  replace W := W.istore (pc' := 3) (L' := #[.val (.ref ca), .val (.int (0 : Int32)), .val (.ref ba), .val (.int (0 : Int32)), .val (.int (3 : Int32)), .val (.int (0 : Int32)), .unset]) djdk_52_21_1 rfl rfl
  replace W := W.iload (pc' := 5) djdk_52_21_3 rfl rfl
  replace W := W.iload (pc' := 7) djdk_52_21_5 rfl rfl
  replace W := W.icmpF (pc' := 10) djdk_52_21_7 (tlt (by decide : (0 : Int32) < (3 : Int32))).2.1 rfl
  replace W := W.aloadN (pc' := 11) djdk_52_21_10 rfl rfl rfl
  replace W := W.iloadN (pc' := 12) djdk_52_21_11 rfl rfl
  replace W := W.caload (pc' := 13) (w := (.int c0)) djdk_52_21_12 V_ca ⟨by decide, by decide⟩ rfl rfl
  replace W := W.istore (pc' := 15) (L' := #[.val (.ref ca), .val (.int (0 : Int32)), .val (.ref ba), .val (.int (0 : Int32)), .val (.int (3 : Int32)), .val (.int (0 : Int32)), .val (.int c0)]) djdk_52_21_13 rfl rfl
  replace W := W.iload (pc' := 17) djdk_52_21_15 rfl rfl
  replace W := W.sipush (pc' := 20) (v := (255 : Int32)) djdk_52_21_17 rfl rfl
  replace W := W.icmpT (pc' := 26) djdk_52_21_20 (flt hp_c0.2).2.2.2 (by decide) (by decide)
  replace W := W.aloadN (pc' := 27) djdk_52_21_26 rfl rfl rfl
  replace W := W.iloadN (pc' := 28) djdk_52_21_27 rfl rfl
  replace W := W.iload (pc' := 30) djdk_52_21_28 rfl rfl
  replace W := W.i2b (pc' := 31) (v := (c0.toInt8.toInt32)) djdk_52_21_30 rfl rfl
  obtain ⟨h1, W1, w1, A1, SF1⟩ := W.bastore (pc' := 32) (i := 0) (x' := (c0.toInt8.toInt32)) djdk_52_21_31 V_ba ⟨by decide, by decide⟩ rfl (by show 0 < 3; decide) (own_narb _) (hsf _ (List.mem_of_getElem? (i := 0) rfl)) (Or.inl (List.mem_of_getElem? (i := 0) rfl)) rfl
  clear W
  have z1 : h0.size ≤ h1.size := Nat.le_of_eq w1.size.symm
  have v1 : Arv Z h1 ba kb .byte (3 : Int32) [(.int (c0.toInt8.toInt32)), (.int (0 : Int32)), (.int (0 : Int32))] (.int (0 : Int32)) := A1
  replace W1 := W1.iinc (pc' := 35) (v := (1 : Int32)) (L' := #[.val (.ref ca), .val (.int (1 : Int32)), .val (.ref ba), .val (.int (0 : Int32)), .val (.int (3 : Int32)), .val (.int (0 : Int32)), .val (.int c0)]) djdk_52_21_32 rfl (by decide) rfl rfl
  replace W1 := W1.iinc (pc' := 38) (v := (1 : Int32)) (L' := #[.val (.ref ca), .val (.int (1 : Int32)), .val (.ref ba), .val (.int (1 : Int32)), .val (.int (3 : Int32)), .val (.int (0 : Int32)), .val (.int c0)]) djdk_52_21_35 rfl (by decide) rfl rfl
  replace W1 := W1.iinc (pc' := 41) (v := (1 : Int32)) (L' := #[.val (.ref ca), .val (.int (1 : Int32)), .val (.ref ba), .val (.int (1 : Int32)), .val (.int (3 : Int32)), .val (.int (1 : Int32)), .val (.int c0)]) djdk_52_21_38 rfl (by decide) rfl rfl
  replace W1 := W1.goto (pc' := 3) djdk_52_21_41 (by decide) (by decide)
  replace W1 := W1.iload (pc' := 5) djdk_52_21_3 rfl rfl
  replace W1 := W1.iload (pc' := 7) djdk_52_21_5 rfl rfl
  replace W1 := W1.icmpF (pc' := 10) djdk_52_21_7 (tlt (by decide : (1 : Int32) < (3 : Int32))).2.1 rfl
  replace W1 := W1.aloadN (pc' := 11) djdk_52_21_10 rfl rfl rfl
  replace W1 := W1.iloadN (pc' := 12) djdk_52_21_11 rfl rfl
  have v2 := (V_ca.other w1 N_ca_ba)
  replace W1 := W1.caload (pc' := 13) (w := (.int c1)) djdk_52_21_12 v2 ⟨by decide, by decide⟩ rfl rfl
  replace W1 := W1.istore (pc' := 15) (L' := #[.val (.ref ca), .val (.int (1 : Int32)), .val (.ref ba), .val (.int (1 : Int32)), .val (.int (3 : Int32)), .val (.int (1 : Int32)), .val (.int c1)]) djdk_52_21_13 rfl rfl
  replace W1 := W1.iload (pc' := 17) djdk_52_21_15 rfl rfl
  replace W1 := W1.sipush (pc' := 20) (v := (255 : Int32)) djdk_52_21_17 rfl rfl
  replace W1 := W1.icmpF (pc' := 23) djdk_52_21_20 (tlt gt_c1).2.2.2 rfl
  replace W1 := W1.iload (pc' := 25) djdk_52_21_23 rfl rfl
  exact W1.iret (t := .int) djdk_52_21_25 rfl (by simp) rfl (by decide) (by decide) (fun V' cv => ⟨rfl, v1⟩)
theorem ef_cmp3_3w1 (m : MethodId) (ca : Addr) (kc : ClassId) (c0 : Int32) (c1 : Int32) (c2 : Int32) : entryFrame m #[(.ref ca), (.int (0 : Int32)), (.int (3 : Int32))] 6 = mkF m 0 #[.val (.ref ca), .val (.int (0 : Int32)), .val (.int (3 : Int32)), .unset, .unset, .unset] [] := by first | (simp [entryFrame, mkF, argsToLocals, Value.category]; done) | rfl
set_option maxRecDepth 65536 in
set_option maxHeartbeats 40000000 in
theorem cmp3_3w1 (l : Launch) (Z : State) (a0 : Array Value) (n0 : Nat) (hw : ∀ d ∈ tables_1, d.before a0 Z = true) (hEL : EW Z a0 consts_1) (G1 : Int32) (O1 : Sta Z Z.heap "java/lang/String" "COMPACT_STRINGS" "Z" (.int G1)) (P1 : ¬ (G1 = (0 : Int32))) (O_as : Sta Z Z.heap "java/lang/StringUTF16" "$assertionsDisabled" "Z" (.int (1 : Int32))) (O_hi : Sta Z Z.heap "java/lang/StringUTF16" "HI_BYTE_SHIFT" "I" (.int (0 : Int32))) (O_lo : Sta Z Z.heap "java/lang/StringUTF16" "LO_BYTE_SHIFT" "I" (.int (8 : Int32))) (ro : Addr) (O_ro : Sta Z Z.heap "com/example/rolebind/rolebind/Decision$Reason" "ROLE" "Lcom/example/rolebind/rolebind/Decision$Reason;" (.ref ro)) (ca : Addr) (kc : ClassId) (c0 : Int32) (c1 : Int32) (c2 : Int32) (h0 : Heap) (hO : Old Z n0 h0) (V_ca : Arv Z h0 ca kc .char (3 : Int32) [(.int c0), (.int c1), (.int c2)] (.int (0 : Int32))) (hq_c0 : ¬ c0 < 0 ∧ ¬ (65535 : Int32) < c0) (hq_c1 : ¬ c1 < 0 ∧ ¬ (65535 : Int32) < c1) (hq_c2 : ¬ c2 < 0 ∧ ¬ (65535 : Int32) < c2) (hp_c0 : ¬ c0 < 0 ∧ ¬ (255 : Int32) < c0) (gt_c1 : (255 : Int32) < c1) :
    Con l Z consts_1 n0 (⟨"java/lang/StringUTF16", "compress", "([CII)[B"⟩ : MethodName) jdk_52_method_16_code 6 (some (.array .byte)) ({ frames := 3, cells := 2, slots := 9, locals := 40 } : Room) #[(.ref ca), (.int (0 : Int32)), (.int (3 : Int32))] h0 [] (fun v h V' => ∃ (t : Addr) (kt : ClassId), v = some (.ref t) ∧ Arv Z h t kt .byte (6 : Int32) [(.int (c0.toInt8.toInt32)), (.int ((c0 >>> ((8 : Int32) &&& 31)).toInt8.toInt32)), (.int (c1.toInt8.toInt32)), (.int ((c1 >>> ((8 : Int32) &&& 31)).toInt8.toInt32)), (.int (c2.toInt8.toInt32)), (.int ((c2 >>> ((8 : Int32) &&& 31)).toInt8.toInt32))] (.int (0 : Int32)) ∧ h0.size ≤ t) [] := by
  refine Con.of (a0 := a0) pf3 (fun m => ef_cmp3_3w1 m ca kc c0 c1 c2) all0 hO hEL ?_
  intro p e s m below meth c S0 hnm hsf W
  replace W := W.iloadN (pc' := 1) djdk_52_16_0 rfl rfl
  obtain ⟨h1, a1, W1, E1, g1, ⟨k1, A1⟩, sf1, SF1⟩ := W.newarr (pc' := 3) (cap := 3) (cells' := 1) (slots' := 3) djdk_52_16_1 (tw16 hw) (by decide) (by decide) (by decide) rfl rfl rfl (by decide) (by decide)
  clear W
  rw [← g1] at A1
  have z1 : h0.size ≤ h1.size := E1.1
  have v1 : Arv Z h1 a1 k1 .byte (3 : Int32) [(.int (0 : Int32)), (.int (0 : Int32)), (.int (0 : Int32))] (.int (0 : Int32)) := A1.pad (pad_rep [] (.int (0 : Int32)) 3)
  replace W1 := W1.astoreN (pc' := 4) (L' := #[.val (.ref ca), .val (.int (0 : Int32)), .val (.int (3 : Int32)), .val (.ref a1), .unset, .unset]) djdk_52_16_3 rfl rfl rfl
  replace W1 := W1.aloadN (pc' := 5) djdk_52_16_4 rfl rfl rfl
  replace W1 := W1.iloadN (pc' := 6) djdk_52_16_5 rfl rfl
  replace W1 := W1.aloadN (pc' := 7) djdk_52_16_6 rfl rfl rfl
  replace W1 := W1.iconst (pc' := 8) (v := (0 : Int32)) djdk_52_16_7 rfl rfl
  replace W1 := W1.iloadN (pc' := 9) djdk_52_16_8 rfl rfl
  have v2 := (V_ca.ext E1)
  obtain ⟨V3, h3, r3, W3, K3, hQ3, SF3⟩ := W1.callS (pc' := 12) (argsL := [(.ref ca), (.int (0 : Int32)), (.ref a1), (.int (0 : Int32)), (.int (3 : Int32))]) (rest := []) (Wd := 0) (cells' := 1) (slots' := 3) (y := (⟨"java/lang/StringUTF16", "compress", "([CI[BII)I"⟩ : MethodName)) djdk_52_16_9 (cmp5_3w1 l Z a0 n0 hw hEL G1 O1 P1 O_as O_hi O_lo ro O_ro ca kc a1 k1 c0 c1 c2 h1 W1.old v2 v1 (Nat.ne_of_lt (Nat.lt_of_lt_of_le V_ca.lt (Nat.le_of_eq g1.symm))) hp_c0 gt_c1 (Nat.le_trans W1.1.2.2.2.2.2.2.2.1 (Nat.le_of_eq g1.symm))) (tw90 hw) (tw91 hw) (tw88 hw) (tw92 hw) (by decide) (lenOf pd1 rfl) rfl rfl (by decide) (by decide) rfl (sfS sf1 sf0) (allS (Or.inr (Nat.le_of_eq g1.symm)) all0) rfl rfl rfl (by decide) (by decide)
  clear W1
  obtain ⟨rfl, q3_1⟩ := hQ3
  have z3 : h1.size ≤ h3.size := K3.1
  replace W3 := W3.cast (st' := [(.int (1 : Int32))]) rfl
  replace W3 := W3.istore (pc' := 14) (L' := #[.val (.ref ca), .val (.int (0 : Int32)), .val (.int (3 : Int32)), .val (.ref a1), .val (.int (1 : Int32)), .unset]) djdk_52_16_12 rfl rfl
  replace W3 := W3.iload (pc' := 16) djdk_52_16_14 rfl rfl
  replace W3 := W3.iloadN (pc' := 17) djdk_52_16_16 rfl rfl
  replace W3 := W3.icmpF (pc' := 20) djdk_52_16_17 (feq (by decide : ¬ ((1 : Int32) = (3 : Int32)))).1 rfl
  replace W3 := W3.aloadN (pc' := 21) djdk_52_16_20 rfl rfl rfl
  replace W3 := W3.iloadN (pc' := 22) djdk_52_16_21 rfl rfl
  replace W3 := W3.iloadN (pc' := 23) djdk_52_16_22 rfl rfl
  have v4 := (v2.keep K3 (ninS (Nat.ne_of_lt (Nat.lt_of_lt_of_le V_ca.lt (Nat.le_of_eq g1.symm))) nin0))
  obtain ⟨V5, h5, r5, W5, K5, hQ5, SF5⟩ := W3.callS (pc' := 26) (argsL := [(.ref ca), (.int (0 : Int32)), (.int (3 : Int32))]) (rest := []) (Wd := 0) (cells' := 2) (slots' := 9) (y := (⟨"java/lang/StringUTF16", "toBytes", "([CII)[B"⟩ : MethodName)) djdk_52_16_23 (tob_3 l Z a0 n0 hw hEL G1 O1 P1 O_as O_hi O_lo ro O_ro ca kc c0 c1 c2 h3 W3.old v4) (tw96 hw) (tw97 hw) (tw88 hw) (tw98 hw) (by decide) (lenOf pd2 rfl) rfl rfl (by decide) (by decide) rfl sf0 all0 rfl rfl rfl (by decide) (by decide)
  clear W3
  obtain ⟨t5, kt5, rfl, q5_1, q5_2⟩ := hQ5
  have z5 : h3.size ≤ h5.size := K5.1
  replace W5 := W5.cast (st' := [(.ref t5)]) rfl
  replace W5 := W5.astore (pc' := 28) (L' := #[.val (.ref ca), .val (.int (0 : Int32)), .val (.int (3 : Int32)), .val (.ref a1), .val (.int (1 : Int32)), .val (.ref t5)]) djdk_52_16_26 rfl rfl rfl
  replace W5 := W5.aload (pc' := 30) djdk_52_16_28 rfl rfl rfl
  replace W5 := W5.iload (pc' := 32) djdk_52_16_30 rfl rfl
  obtain ⟨V6, h6, r6, W6, K6, hQ6, SF6⟩ := W5.callS (pc' := 35) (argsL := [(.ref t5), (.int (1 : Int32))]) (rest := []) (Wd := 0) (cells' := 2) (slots' := 9) (y := (⟨"java/lang/StringUTF16", "getChar", "([BI)C"⟩ : MethodName)) djdk_52_16_32 (getc_3w1 l Z a0 n0 hw hEL G1 O1 P1 O_as O_hi O_lo ro O_ro t5 kt5 c1 (c0.toInt8.toInt32) ((c0 >>> ((8 : Int32) &&& 31)).toInt8.toInt32) (c2.toInt8.toInt32) ((c2 >>> ((8 : Int32) &&& 31)).toInt8.toInt32) h5 W5.old q5_1 hq_c1) (tw112 hw) (tw113 hw) (tw88 hw) (tw114 hw) (by decide) (lenOf pd7 rfl) rfl rfl (by decide) (by decide) rfl sf0 all0 rfl rfl rfl (by decide) (by decide)
  clear W5
  obtain ⟨rfl, hs6⟩ := hQ6
  subst hs6
  have sf7 := (SF5 a1 q3_1.lt (SF3 a1 v1.lt sf1))
  have sf8 := SF6 a1 (Nat.lt_of_lt_of_le q3_1.lt z5) sf7
  replace W6 := W6.cast (st' := [(.int c1)]) rfl
  replace W6 := W6.sipush (pc' := 38) (v := (255 : Int32)) djdk_52_16_35 rfl rfl
  replace W6 := W6.icmpT (pc' := 54) djdk_52_16_38 (tlt gt_c1).2.2.1 (by decide) (by decide)
  replace W6 := W6.aload (pc' := 56) djdk_52_16_54 rfl rfl rfl
  exact W6.aret (t := (.array .byte)) djdk_52_16_56 rfl rfl rfl rfl (by decide) (by decide) (fun V' cv => ⟨t5, kt5, rfl, q5_1, (Nat.le_trans (Nat.le_trans z1 z3) q5_2)⟩)
theorem ef_new4_3w1 (m : MethodId) (xa : Addr) (ca : Addr) (kc : ClassId) (c0 : Int32) (c1 : Int32) (c2 : Int32) : entryFrame m #[(.ref xa), (.ref ca), (.int (0 : Int32)), (.int (3 : Int32)), .null] 6 = mkF m 0 #[.val (.ref xa), .val (.ref ca), .val (.int (0 : Int32)), .val (.int (3 : Int32)), .val .null, .unset] [] := by first | (simp [entryFrame, mkF, argsToLocals, Value.category]; done) | rfl
set_option maxRecDepth 65536 in
set_option maxHeartbeats 40000000 in
theorem new4_3w1 (l : Launch) (Z : State) (a0 : Array Value) (n0 : Nat) (hw : ∀ d ∈ tables_1, d.before a0 Z = true) (hEL : EW Z a0 consts_1) (G1 : Int32) (O1 : Sta Z Z.heap "java/lang/String" "COMPACT_STRINGS" "Z" (.int G1)) (P1 : ¬ (G1 = (0 : Int32))) (O_as : Sta Z Z.heap "java/lang/StringUTF16" "$assertionsDisabled" "Z" (.int (1 : Int32))) (O_hi : Sta Z Z.heap "java/lang/StringUTF16" "HI_BYTE_SHIFT" "I" (.int (0 : Int32))) (O_lo : Sta Z Z.heap "java/lang/StringUTF16" "LO_BYTE_SHIFT" "I" (.int (8 : Int32))) (ro : Addr) (O_ro : Sta Z Z.heap "com/example/rolebind/rolebind/Decision$Reason" "ROLE" "Lcom/example/rolebind/rolebind/Decision$Reason;" (.ref ro)) (xa : Addr) (ca : Addr) (kc : ClassId) (c0 : Int32) (c1 : Int32) (c2 : Int32) (h0 : Heap) (hO : Old Z n0 h0) (E_xa : Exa Z h0 xa "java/lang/String") (F_xa_value : Fld Z h0 xa "java/lang/String" "value" "[B" .null) (F_xa_coder : Fld Z h0 xa "java/lang/String" "coder" "B" (.int (0 : Int32))) (V_ca : Arv Z h0 ca kc .char (3 : Int32) [(.int c0), (.int c1), (.int c2)] (.int (0 : Int32))) (hq_c0 : ¬ c0 < 0 ∧ ¬ (65535 : Int32) < c0) (hq_c1 : ¬ c1 < 0 ∧ ¬ (65535 : Int32) < c1) (hq_c2 : ¬ c2 < 0 ∧ ¬ (65535 : Int32) < c2) (hp_c0 : ¬ c0 < 0 ∧ ¬ (255 : Int32) < c0) (gt_c1 : (255 : Int32) < c1) (g_xa : n0 ≤ xa) :
    Con l Z consts_1 n0 (⟨"java/lang/String", "<init>", "([CIILjava/lang/Void;)V"⟩ : MethodName) jdk_42_method_149_code 6 none ({ frames := 4, cells := 2, slots := 9, locals := 57 } : Room) #[(.ref xa), (.ref ca), (.int (0 : Int32)), (.int (3 : Int32)), .null] h0 [xa] (fun v h V' => ∃ (t : Addr) (kt : ClassId), v = none ∧ Exa Z h xa "java/lang/String" ∧ Fld Z h xa "java/lang/String" "coder" "B" (.int (1 : Int32)) ∧ Fld Z h xa "java/lang/String" "value" "[B" (.ref t) ∧ Arv Z h t kt .byte (6 : Int32) [(.int (c0.toInt8.toInt32)), (.int ((c0 >>> ((8 : Int32) &&& 31)).toInt8.toInt32)), (.int (c1.toInt8.toInt32)), (.int ((c1 >>> ((8 : Int32) &&& 31)).toInt8.toInt32)), (.int (c2.toInt8.toInt32)), (.int ((c2 >>> ((8 : Int32) &&& 31)).toInt8.toInt32))] (.int (0 : Int32))) [] := by
  refine Con.of (a0 := a0) pf0 (fun m => ef_new4_3w1 m xa ca kc c0 c1 c2) (allS g_xa all0) hO hEL ?_
  intro p e s m below meth c S0 hnm hsf W
  replace W := W.aloadN (pc' := 1) djdk_42_149_0 rfl rfl rfl
  replace W := W.initO (pc' := 4) (Wd := 0) djdk_42_149_1 (tw12 hw) (tw13 hw) (tw14 hw) rfl rfl (by decide) (by decide) rfl
  replace W := W.iloadN (pc' := 5) djdk_42_149_4 rfl rfl
  replace W := W.ifT (pc' := 27) djdk_42_149_5 (feq (by decide : ¬ ((3 : Int32) = (0 : Int32)))).2 (by decide) (by decide)
  replace W := W.gets (pc' := 30) djdk_42_149_27 (tw85 hw) O1 rfl
  replace W := W.ifF (pc' := 33) djdk_42_149_30 (feq P1).1 rfl
  replace W := W.aloadN (pc' := 34) djdk_42_149_33 rfl rfl rfl
  replace W := W.iloadN (pc' := 35) djdk_42_149_34 rfl rfl
  replace W := W.iloadN (pc' := 36) djdk_42_149_35 rfl rfl
  obtain ⟨V1, h1, r1, W1, K1, hQ1, SF1⟩ := W.callS (pc' := 39) (argsL := [(.ref ca), (.int (0 : Int32)), (.int (3 : Int32))]) (rest := []) (Wd := 0) (cells' := 2) (slots' := 9) (y := (⟨"java/lang/StringUTF16", "compress", "([CII)[B"⟩ : MethodName)) djdk_42_149_36 (cmp3_3w1 l Z a0 n0 hw hEL G1 O1 P1 O_as O_hi O_lo ro O_ro ca kc c0 c1 c2 h0 W.old V_ca hq_c0 hq_c1 hq_c2 hp_c0 gt_c1) (tw86 hw) (tw87 hw) (tw88 hw) (tw89 hw) (by decide) (lenOf pd2 rfl) rfl rfl (by decide) (by decide) rfl sf0 all0 rfl rfl rfl (by decide) (by decide)
  clear W
  obtain ⟨t1, kt1, rfl, q1_1, q1_2⟩ := hQ1
  have z1 : h0.size ≤ h1.size := K1.1
  replace W1 := W1.cast (st' := [(.ref t1)]) rfl
  replace W1 := W1.astore (pc' := 41) (L' := #[.val (.ref xa), .val (.ref ca), .val (.int (0 : Int32)), .val (.int (3 : Int32)), .val .null, .val (.ref t1)]) djdk_42_149_39 rfl rfl rfl
  replace W1 := W1.aloadN (pc' := 42) djdk_42_149_41 rfl rfl rfl
  replace W1 := W1.aload (pc' := 44) djdk_42_149_42 rfl rfl rfl
  replace W1 := W1.iloadN (pc' := 45) djdk_42_149_44 rfl rfl
  obtain ⟨V2, h2, r2, W2, K2, hQ2, SF2⟩ := W1.callS (pc' := 48) (argsL := [(.ref t1), (.int (3 : Int32))]) (rest := [(.ref xa)]) (Wd := 1) (cells' := 2) (slots' := 9) (y := (⟨"java/lang/StringUTF16", "coderFromArrayLen", "([BI)B"⟩ : MethodName)) djdk_42_149_45 (codlw_3 l Z a0 n0 hw hEL G1 O1 P1 O_as O_hi O_lo ro O_ro t1 kt1 ([(.int (c0.toInt8.toInt32)), (.int ((c0 >>> ((8 : Int32) &&& 31)).toInt8.toInt32)), (.int (c1.toInt8.toInt32)), (.int ((c1 >>> ((8 : Int32) &&& 31)).toInt8.toInt32)), (.int (c2.toInt8.toInt32)), (.int ((c2 >>> ((8 : Int32) &&& 31)).toInt8.toInt32))]) h1 W1.old q1_1) (tw93 hw) (tw94 hw) (tw88 hw) (tw95 hw) (by decide) (lenOf pd3 rfl) rfl rfl (by decide) (by decide) rfl sf0 all0 rfl rfl rfl (by decide) (by decide)
  clear W1
  obtain ⟨rfl, hs2⟩ := hQ2
  subst hs2
  have sf3 := (SF1 xa E_xa.lt (hsf _ (List.mem_of_getElem? (i := 0) rfl)))
  have sf4 := SF2 xa (Nat.lt_of_lt_of_le E_xa.lt z1) sf3
  replace W2 := W2.cast (st' := [(.int (1 : Int32)), (.ref xa)]) rfl
  have f5 := (F_xa_coder.keep K1 nin0)
  have e6 := (E_xa.keep K1)
  obtain ⟨h7, W7, w7, SF7⟩ := W2.putf (pc' := 51) (ty := .byte) djdk_42_149_48 (tw22 hw) Via.refl f5 e6 (Or.inr ⟨(tw18 hw), rfl, hnm⟩) (tw3 hw) (by decide) rfl rfl sf4 (Or.inl (List.mem_of_getElem? (i := 0) rfl)) rfl
  clear W2
  have z7 : h1.size ≤ h7.size := Nat.le_of_eq w7.size.symm
  have f7 := f5.same w7
  replace W7 := W7.aloadN (pc' := 52) djdk_42_149_51 rfl rfl rfl
  replace W7 := W7.aload (pc' := 54) djdk_42_149_52 rfl rfl rfl
  have f8 := ((F_xa_value.keep K1 nin0).other w7 (Or.inr (slot_ne (C := "java/lang/String") (Or.inr (tw17 hw)) (Or.inr (tw18 hw)) (by decide) (t := (.array .byte)) (t' := .byte) (by decide) (by decide))))
  have e9 := (e6.wr w7)
  have sf10 := (SF7 xa sf4)
  obtain ⟨h11, W11, w11, SF11⟩ := W7.putf (pc' := 57) (ty := (.array .byte)) djdk_42_149_54 (tw21 hw) Via.refl f8 e9 (Or.inr ⟨(tw17 hw), rfl, hnm⟩) (tw3 hw) (by decide) rfl rfl sf10 (Or.inl (List.mem_of_getElem? (i := 0) rfl)) rfl
  clear W7
  have z11 : h7.size ≤ h11.size := Nat.le_of_eq w11.size.symm
  have f11 := f8.same w11
  have e12 := (e9.wr w11)
  have f13 := (f7.other w11 (Or.inr (slot_ne (C := "java/lang/String") (Or.inr (tw18 hw)) (Or.inr (tw17 hw)) (by decide) (t := .byte) (t' := (.array .byte)) (by decide) (by decide))))
  have v14 := ((q1_1.other w7 (Nat.ne_of_gt (Nat.lt_of_lt_of_le E_xa.lt q1_2))).other w11 (Nat.ne_of_gt (Nat.lt_of_lt_of_le E_xa.lt q1_2)))
  exact W11.vret djdk_42_149_57 rfl (by decide) (by decide) (fun V' cv => ⟨t1, kt1, rfl, e12, f13, f11, v14⟩)
theorem ef_new1_3w1 (m : MethodId) (xa : Addr) (ca : Addr) (kc : ClassId) (c0 : Int32) (c1 : Int32) (c2 : Int32) : entryFrame m #[(.ref xa), (.ref ca)] 2 = mkF m 0 #[.val (.ref xa), .val (.ref ca)] [] := by first | (simp [entryFrame, mkF, argsToLocals, Value.category]; done) | rfl
set_option maxRecDepth 65536 in
set_option maxHeartbeats 40000000 in
theorem new1_3w1 (l : Launch) (Z : State) (a0 : Array Value) (n0 : Nat) (hw : ∀ d ∈ tables_1, d.before a0 Z = true) (hEL : EW Z a0 consts_1) (G1 : Int32) (O1 : Sta Z Z.heap "java/lang/String" "COMPACT_STRINGS" "Z" (.int G1)) (P1 : ¬ (G1 = (0 : Int32))) (O_as : Sta Z Z.heap "java/lang/StringUTF16" "$assertionsDisabled" "Z" (.int (1 : Int32))) (O_hi : Sta Z Z.heap "java/lang/StringUTF16" "HI_BYTE_SHIFT" "I" (.int (0 : Int32))) (O_lo : Sta Z Z.heap "java/lang/StringUTF16" "LO_BYTE_SHIFT" "I" (.int (8 : Int32))) (ro : Addr) (O_ro : Sta Z Z.heap "com/example/rolebind/rolebind/Decision$Reason" "ROLE" "Lcom/example/rolebind/rolebind/Decision$Reason;" (.ref ro)) (xa : Addr) (ca : Addr) (kc : ClassId) (c0 : Int32) (c1 : Int32) (c2 : Int32) (h0 : Heap) (hO : Old Z n0 h0) (E_xa : Exa Z h0 xa "java/lang/String") (F_xa_value : Fld Z h0 xa "java/lang/String" "value" "[B" .null) (F_xa_coder : Fld Z h0 xa "java/lang/String" "coder" "B" (.int (0 : Int32))) (V_ca : Arv Z h0 ca kc .char (3 : Int32) [(.int c0), (.int c1), (.int c2)] (.int (0 : Int32))) (hq_c0 : ¬ c0 < 0 ∧ ¬ (65535 : Int32) < c0) (hq_c1 : ¬ c1 < 0 ∧ ¬ (65535 : Int32) < c1) (hq_c2 : ¬ c2 < 0 ∧ ¬ (65535 : Int32) < c2) (hp_c0 : ¬ c0 < 0 ∧ ¬ (255 : Int32) < c0) (gt_c1 : (255 : Int32) < c1) (g_xa : n0 ≤ xa) :
    Con l Z consts_1 n0 (⟨"java/lang/String", "<init>", "([C)V"⟩ : MethodName) jdk_42_method_3_code 2 none ({ frames := 5, cells := 2, slots := 9, locals := 74 } : Room) #[(.ref xa), (.ref ca)] h0 [xa] (fun v h V' => ∃ (t : Addr) (kt : ClassId), v = none ∧ Exa Z h xa "java/lang/String" ∧ Fld Z h xa "java/lang/String" "coder" "B" (.int (1 : Int32)) ∧ Fld Z h xa "java/lang/String" "value" "[B" (.ref t) ∧ Arv Z h t kt .byte (6 : Int32) [(.int (c0.toInt8.toInt32)), (.int ((c0 >>> ((8 : Int32) &&& 31)).toInt8.toInt32)), (.int (c1.toInt8.toInt32)), (.int ((c1 >>> ((8 : Int32) &&& 31)).toInt8.toInt32)), (.int (c2.toInt8.toInt32)), (.int ((c2 >>> ((8 : Int32) &&& 31)).toInt8.toInt32))] (.int (0 : Int32))) [] := by
  refine Con.of (a0 := a0) pf1 (fun m => ef_new1_3w1 m xa ca kc c0 c1 c2) (allS g_xa all0) hO hEL ?_
  intro p e s m below meth c S0 hnm hsf W
  replace W := W.aloadN (pc' := 1) djdk_42_3_0 rfl rfl rfl
  replace W := W.aloadN (pc' := 2) djdk_42_3_1 rfl rfl rfl
  replace W := W.iconst (pc' := 3) (v := (0 : Int32)) djdk_42_3_2 rfl rfl
  replace W := W.aloadN (pc' := 4) djdk_42_3_3 rfl rfl rfl
  replace W := W.alen (pc' := 5) djdk_42_3_4 V_ca rfl
  replace W := W.aconstNull (pc' := 6) djdk_42_3_5 rfl
  obtain ⟨V1, h1, r1, W1, K1, hQ1, SF1⟩ := W.callI (pc' := 9) (argsL := [(.ref ca), (.int (0 : Int32)), (.int (3 : Int32)), .null]) (rest := []) (Wd := 0) (cells' := 2) (slots' := 9) (a := xa) (y := (⟨"java/lang/String", "<init>", "([CIILjava/lang/Void;)V"⟩ : MethodName)) djdk_42_3_6 (new4_3w1 l Z a0 n0 hw hEL G1 O1 P1 O_as O_hi O_lo ro O_ro xa ca kc c0 c1 c2 h0 W.old E_xa F_xa_value F_xa_coder V_ca hq_c0 hq_c1 hq_c2 hp_c0 gt_c1 g_xa) rfl (tw8 hw) (tw9 hw) (tw4 hw) (tw11 hw) (by decide) (lenOf pd0 rfl) rfl rfl (by decide) (by decide) rfl (sfS (hsf _ (List.mem_of_getElem? (i := 0) rfl)) sf0) (allS (Or.inl (List.mem_of_getElem? (i := 0) rfl)) all0) rfl rfl rfl (by decide) (by decide)
  clear W
  obtain ⟨t1, kt1, rfl, q1_1, q1_2, q1_3, q1_4⟩ := hQ1
  have z1 : h0.size ≤ h1.size := K1.1
  replace W1 := W1.cast (st' := []) rfl
  exact W1.vret djdk_42_3_9 rfl (by decide) (by decide) (fun V' cv => ⟨t1, kt1, rfl, q1_1, q1_2, q1_3, q1_4⟩)
theorem ef_getc_3w2 (m : MethodId) (ba : Addr) (kb : ClassId) (cz : Int32) (u0 : Int32) (u1 : Int32) (u2 : Int32) (u3 : Int32) : entryFrame m #[(.ref ba), (.int (2 : Int32))] 2 = mkF m 0 #[.val (.ref ba), .val (.int (2 : Int32))] [] := by first | (simp [entryFrame, mkF, argsToLocals, Value.category]; done) | rfl
set_option maxRecDepth 65536 in
set_option maxHeartbeats 40000000 in
theorem getc_3w2 (l : Launch) (Z : State) (a0 : Array Value) (n0 : Nat) (hw : ∀ d ∈ tables_1, d.before a0 Z = true) (hEL : EW Z a0 consts_1) (G1 : Int32) (O1 : Sta Z Z.heap "java/lang/String" "COMPACT_STRINGS" "Z" (.int G1)) (P1 : ¬ (G1 = (0 : Int32))) (O_as : Sta Z Z.heap "java/lang/StringUTF16" "$assertionsDisabled" "Z" (.int (1 : Int32))) (O_hi : Sta Z Z.heap "java/lang/StringUTF16" "HI_BYTE_SHIFT" "I" (.int (0 : Int32))) (O_lo : Sta Z Z.heap "java/lang/StringUTF16" "LO_BYTE_SHIFT" "I" (.int (8 : Int32))) (ro : Addr) (O_ro : Sta Z Z.heap "com/example/rolebind/rolebind/Decision$Reason" "ROLE" "Lcom/example/rolebind/rolebind/Decision$Reason;" (.ref ro)) (ba : Addr) (kb : ClassId) (cz : Int32) (u0 : Int32) (u1 : Int32) (u2 : Int32) (u3 : Int32) (h0 : Heap) (hO : Old Z n0 h0) (V_ba : Arv Z h0 ba kb .byte (6 : Int32) [(.int u0), (.int u1), (.int u2), (.int u3), (.int (cz.toInt8.toInt32)), (.int ((cz >>> ((8 : Int32) &&& 31)).toInt8.toInt32))] (.int (0 : Int32))) (hq_cz : ¬ cz < 0 ∧ ¬ (65535 : Int32) < cz) :
    Con l Z consts_1 n0 (⟨"java/lang/StringUTF16", "getChar", "([BI)C"⟩ : MethodName) jdk_52_method_5_code 2 (some .char) ({ frames := 0, cells := 0, slots := 0, locals := 0 } : Room) #[(.ref ba), (.int (2 : Int32))] h0 [] (fun v h V' => v = some (.int cz) ∧ h0 = h) [] := by
  refine Con.of (a0 := a0) pf9 (fun m => ef_getc_3w2 m ba kb cz u0 u1 u2 u3) all0 hO hEL ?_
  intro p e s m below meth c S0 hnm hsf W
  replace W := W.gets (pc' := 3) djdk_52_5_0 (tw109 hw) O_as rfl
  replace W := W.ifT (pc' := 28) djdk_52_5_3 (feq (by decide : ¬ ((1 : Int32) = (0 : Int32)))).2 (by decide) (by decide)
  replace W := W.iloadN (pc' := 29) djdk_52_5_28 rfl rfl
  replace W := W.iconst (pc' := 30) (v := (1 : Int32)) djdk_52_5_29 rfl rfl
  replace W := W.ishl (pc' := 31) (v := (4 : Int32)) djdk_52_5_30 (by decide) rfl
  replace W := W.istoreN (pc' := 32) (L' := #[.val (.ref ba), .val (.int (4 : Int32))]) djdk_52_5_31 rfl rfl
  replace W := W.aloadN (pc' := 33) djdk_52_5_32 rfl rfl rfl
  replace W := W.iloadN (pc' := 34) djdk_52_5_33 rfl rfl
  replace W := W.iinc (pc' := 37) (v := (5 : Int32)) (L' := #[.val (.ref ba), .val (.int (5 : Int32))]) djdk_52_5_34 rfl (by decide) rfl rfl
  replace W := W.baload (pc' := 38) (w := (.int (cz.toInt8.toInt32))) djdk_52_5_37 V_ba ⟨by decide, by decide⟩ rfl rfl
  replace W := W.sipush (pc' := 41) (v := (255 : Int32)) djdk_52_5_38 rfl rfl
  replace W := W.iand (pc' := 42) (v := ((cz.toInt8.toInt32) &&& (255 : Int32))) djdk_52_5_41 rfl rfl
  replace W := W.gets (pc' := 45) djdk_52_5_42 (tw110 hw) O_hi rfl
  replace W := W.ishl (pc' := 46) (v := (((cz.toInt8.toInt32) &&& (255 : Int32)) <<< ((0 : Int32) &&& 31))) djdk_52_5_45 rfl rfl
  replace W := W.aloadN (pc' := 47) djdk_52_5_46 rfl rfl rfl
  replace W := W.iloadN (pc' := 48) djdk_52_5_47 rfl rfl
  replace W := W.baload (pc' := 49) (w := (.int ((cz >>> ((8 : Int32) &&& 31)).toInt8.toInt32))) djdk_52_5_48 V_ba ⟨by decide, by decide⟩ rfl rfl
  replace W := W.sipush (pc' := 52) (v := (255 : Int32)) djdk_52_5_49 rfl rfl
  replace W := W.iand (pc' := 53) (v := (((cz >>> ((8 : Int32) &&& 31)).toInt8.toInt32) &&& (255 : Int32))) djdk_52_5_52 rfl rfl
  replace W := W.gets (pc' := 56) djdk_52_5_53 (tw111 hw) O_lo rfl
  replace W := W.ishl (pc' := 57) (v := ((((cz >>> ((8 : Int32) &&& 31)).toInt8.toInt32) &&& (255 : Int32)) <<< ((8 : Int32) &&& 31))) djdk_52_5_56 rfl rfl
  replace W := W.ior (pc' := 58) (v := ((((cz.toInt8.toInt32) &&& (255 : Int32)) <<< ((0 : Int32) &&& 31)) ||| ((((cz >>> ((8 : Int32) &&& 31)).toInt8.toInt32) &&& (255 : Int32)) <<< ((8 : Int32) &&& 31)))) djdk_52_5_57 rfl rfl
  replace W := W.i2c (pc' := 59) (v := cz) djdk_52_5_58 (own_pair hq_cz) rfl
  exact W.iret (t := .char) djdk_52_5_59 rfl (by simp) (own_narrow_char hq_cz) (by decide) (by decide) (fun V' cv => ⟨rfl, rfl⟩)
theorem ef_cmp5_3w2 (m : MethodId) (ca : Addr) (kc : ClassId) (ba : Addr) (kb : ClassId) (c0 : Int32) (c1 : Int32) (c2 : Int32) : entryFrame m #[(.ref ca), (.int (0 : Int32)), (.ref ba), (.int (0 : Int32)), (.int (3 : Int32))] 7 = mkF m 0 #[.val (.ref ca), .val (.int (0 : Int32)), .val (.ref ba), .val (.int (0 : Int32)), .val (.int (3 : Int32)), .unset, .unset] [] := by first | (simp [entryFrame, mkF, argsToLocals, Value.category]; done) | rfl
set_option maxRecDepth 65536 in
set_option maxHeartbeats 40000000 in
theorem cmp5_3w2 (l : Launch) (Z : State) (a0 : Array Value) (n0 : Nat) (hw : ∀ d ∈ tables_1, d.before a0 Z = true) (hEL : EW Z a0 consts_1) (G1 : Int32) (O1 : Sta Z Z.heap "java/lang/String" "COMPACT_STRINGS" "Z" (.int G1)) (P1 : ¬ (G1 = (0 : Int32))) (O_as : Sta Z Z.heap "java/lang/StringUTF16" "$assertionsDisabled" "Z" (.int (1 : Int32))) (O_hi : Sta Z Z.heap "java/lang/StringUTF16" "HI_BYTE_SHIFT" "I" (.int (0 : Int32))) (O_lo : Sta Z Z.heap "java/lang/StringUTF16" "LO_BYTE_SHIFT" "I" (.int (8 : Int32))) (ro : Addr) (O_ro : Sta Z Z.heap "com/example/rolebind/rolebind/Decision$Reason" "ROLE" "Lcom/example/rolebind/rolebind/Decision$Reason;" (.ref ro)) (ca : Addr) (kc : ClassId) (ba : Addr) (kb : ClassId) (c0 : Int32) (c1 : Int32) (c2 : Int32) (h0 : Heap) (hO : Old Z n0 h0) (V_ca : Arv Z h0 ca kc .char (3 : Int32) [(.int c0), (.int c1), (.int c2)] (.int (0 : Int32))) (V_ba : Arv Z h0 ba kb .byte (3 : Int32) [(.int (0 : Int32)), (.int (0 : Int32)), (.int (0 : Int32))] (.int (0 : Int32))) (N_ca_ba : ca ≠ ba) (hp_c0 : ¬ c0 < 0 ∧ ¬ (255 : Int32) < c0) (hp_c1 : ¬ c1 < 0 ∧ ¬ (255 : Int32) < c1) (gt_c2 : (255 : Int32) < c2) (g_ba : n0 ≤ ba) :
    Con l Z consts_1 n0 (⟨"java/lang/StringUTF16", "compress", "([CI[BII)I"⟩ : MethodName) jdk_52_method_21_code 7 (some .int) ({ frames := 0, cells := 0, slots := 0, locals := 0 } : Room) #[(.ref ca), (.int (0 : Int32)), (.ref ba), (.int (0 : Int32)), (.int (3 : Int32))] h0 [ba] (fun v h V' => v = some (.int (2 : Int32)) ∧ Arv Z h ba kb .byte (3 : Int32) [(.int (c0.toInt8.toInt32)), (.int (c1.toInt8.toInt32)), (.int (0 : Int32))] (.int (0 : Int32))) [] := by
  refine Con.of (a0 := a0) pf2 (fun m => ef_cmp5_3w2 m ca kc ba kb c0 c1 c2) (allS g_ba all0) hO hEL ?_
  intro p e s m below meth c S0 hnm hsf W
  replace W := W.iconst (pc' := 1) (v := (0 : Int32)) djdk_52_21_0 rfl rfl
  replace W := W.istore (pc' := 3) (L' := #[.val (.ref ca), .val (.int (0 : Int32)), .val (.ref ba), .val (.int (0 : Int32)), .val (.int (3 : Int32)), .val (.int (0 : Int32)), .unset]) djdk_52_21_1 rfl rfl
  replace W := W.iload (pc' := 5) djdk_52_21_3 rfl rfl
  replace W := W.iload (pc' := 7) djdk_52_21_5 rfl rfl
  replace W := W.icmpF (pc' := 10) djdk_52_21_7 (tlt (by decide : (0 : Int32) < (3 : Int32))).2.1 rfl
  replace W := W.aloadN (pc' := 11) djdk_52_21_10 rfl rfl rfl
  replace W := W.iloadN (pc' := 12) djdk_52_21_11 rfl rfl
  replace W := W.caload (pc' := 13) (w := (.int c0)) djdk_52_21_12 V_ca ⟨by decide, by decide⟩ rfl rfl
  replace W := W.istore (pc' := 15) (L' := #[.val (.ref ca), .val (.int (0 : Int32)), .val (.ref ba), .val (.int (0 : Int32)), .val (.int (3 : Int32)), .val (.int (0 : Int32)), .val (.int c0)]) djdk_52_21_13 rfl rfl
  replace W := W.iload (pc' := 17) djdk_52_21_15 rfl rfl
  replace W := W.sipush (pc' := 20) (v := (255 : Int32)) djdk_52_21_17 rfl rfl
  replace W := W.icmpT (pc' := 26) djdk_52_21_20 (flt hp_c0.2).2.2.2 (by decide) (by decide)
  replace W := W.aloadN (pc' := 27) djdk_52_21_26 rfl rfl rfl
  replace W := W.iloadN (pc' := 28) djdk_52_21_27 rfl rfl
  replace W := W.iload (pc' := 30) djdk_52_21_28 rfl rfl
  replace W := W.i2b (pc' := 31) (v := (c0.toInt8.toInt32)) djdk_52_21_30 rfl rfl
  obtain ⟨h1, W1, w1, A1, SF1⟩ := W.bastore (pc' := 32) (i := 0) (x' := (c0.toInt8.toInt32)) djdk_52_21_31 V_ba ⟨by decide, by decide⟩ rfl (by show 0 < 3; decide) (own_narb _) (hsf _ (List.mem_of_getElem? (i := 0) rfl)) (Or.inl (List.mem_of_getElem? (i := 0) rfl)) rfl
  clear W
  have z1 : h0.size ≤ h1.size := Nat.le_of_eq w1.size.symm
  have v1 : Arv Z h1 ba kb .byte (3 : Int32) [(.int (c0.toInt8.toInt32)), (.int (0 : Int32)), (.int (0 : Int32))] (.int (0 : Int32)) := A1
  replace W1 := W1.iinc (pc' := 35) (v := (1 : Int32)) (L' := #[.val (.ref ca), .val (.int (1 : Int32)), .val (.ref ba), .val (.int (0 : Int32)), .val (.int (3 : Int32)), .val (.int (0 : Int32)), .val (.int c0)]) djdk_52_21_32 rfl (by decide) rfl rfl
  replace W1 := W1.iinc (pc' := 38) (v := (1 : Int32)) (L' := #[.val (.ref ca), .val (.int (1 : Int32)), .val (.ref ba), .val (.int (1 : Int32)), .val (.int (3 : Int32)), .val (.int (0 : Int32)), .val (.int c0)]) djdk_52_21_35 rfl (by decide) rfl rfl
  replace W1 := W1.iinc (pc' := 41) (v := (1 : Int32)) (L' := #[.val (.ref ca), .val (.int (1 : Int32)), .val (.ref ba), .val (.int (1 : Int32)), .val (.int (3 : Int32)), .val (.int (1 : Int32)), .val (.int c0)]) djdk_52_21_38 rfl (by decide) rfl rfl
  replace W1 := W1.goto (pc' := 3) djdk_52_21_41 (by decide) (by decide)
  replace W1 := W1.iload (pc' := 5) djdk_52_21_3 rfl rfl
  replace W1 := W1.iload (pc' := 7) djdk_52_21_5 rfl rfl
  replace W1 := W1.icmpF (pc' := 10) djdk_52_21_7 (tlt (by decide : (1 : Int32) < (3 : Int32))).2.1 rfl
  replace W1 := W1.aloadN (pc' := 11) djdk_52_21_10 rfl rfl rfl
  replace W1 := W1.iloadN (pc' := 12) djdk_52_21_11 rfl rfl
  have v2 := (V_ca.other w1 N_ca_ba)
  replace W1 := W1.caload (pc' := 13) (w := (.int c1)) djdk_52_21_12 v2 ⟨by decide, by decide⟩ rfl rfl
  replace W1 := W1.istore (pc' := 15) (L' := #[.val (.ref ca), .val (.int (1 : Int32)), .val (.ref ba), .val (.int (1 : Int32)), .val (.int (3 : Int32)), .val (.int (1 : Int32)), .val (.int c1)]) djdk_52_21_13 rfl rfl
  replace W1 := W1.iload (pc' := 17) djdk_52_21_15 rfl rfl
  replace W1 := W1.sipush (pc' := 20) (v := (255 : Int32)) djdk_52_21_17 rfl rfl
  replace W1 := W1.icmpT (pc' := 26) djdk_52_21_20 (flt hp_c1.2).2.2.2 (by decide) (by decide)
  replace W1 := W1.aloadN (pc' := 27) djdk_52_21_26 rfl rfl rfl
  replace W1 := W1.iloadN (pc' := 28) djdk_52_21_27 rfl rfl
  replace W1 := W1.iload (pc' := 30) djdk_52_21_28 rfl rfl
  replace W1 := W1.i2b (pc' := 31) (v := (c1.toInt8.toInt32)) djdk_52_21_30 rfl rfl
  have sf3 := (SF1 ba (hsf _ (List.mem_of_getElem? (i := 0) rfl)))
  obtain ⟨h4, W4, w4, A4, SF4⟩ := W1.bastore (pc' := 32) (i := 1) (x' := (c1.toInt8.toInt32)) djdk_52_21_31 v1 ⟨by decide, by decide⟩ rfl (by show 1 < 3; decide) (own_narb _) sf3 (Or.inl (List.mem_of_getElem? (i := 0) rfl)) rfl
  clear W1
  have z4 : h1.size ≤ h4.size := Nat.le_of_eq w4.size.symm
  have v4 : Arv Z h4 ba kb .byte (3 : Int32) [(.int (c0.toInt8.toInt32)), (.int (c1.toInt8.toInt32)), (.int (0 : Int32))] (.int (0 : Int32)) := A4
  replace W4 := W4.iinc (pc' := 35) (v := (2 : Int32)) (L' := #[.val (.ref ca), .val (.int (2 : Int32)), .val (.ref ba), .val (.int (1 : Int32)), .val (.int (3 : Int32)), .val (.int (1 : Int32)), .val (.int c1)]) djdk_52_21_32 rfl (by decide) rfl rfl
  replace W4 := W4.iinc (pc' := 38) (v := (2 : Int32)) (L' := #[.val (.ref ca), .val (.int (2 : Int32)), .val (.ref ba), .val (.int (2 : Int32)), .val (.int (3 : Int32)), .val (.int (1 : Int32)), .val (.int c1)]) djdk_52_21_35 rfl (by decide) rfl rfl
  replace W4 := W4.iinc (pc' := 41) (v := (2 : Int32)) (L' := #[.val (.ref ca), .val (.int (2 : Int32)), .val (.ref ba), .val (.int (2 : Int32)), .val (.int (3 : Int32)), .val (.int (2 : Int32)), .val (.int c1)]) djdk_52_21_38 rfl (by decide) rfl rfl
  replace W4 := W4.goto (pc' := 3) djdk_52_21_41 (by decide) (by decide)
  replace W4 := W4.iload (pc' := 5) djdk_52_21_3 rfl rfl
  replace W4 := W4.iload (pc' := 7) djdk_52_21_5 rfl rfl
  replace W4 := W4.icmpF (pc' := 10) djdk_52_21_7 (tlt (by decide : (2 : Int32) < (3 : Int32))).2.1 rfl
  replace W4 := W4.aloadN (pc' := 11) djdk_52_21_10 rfl rfl rfl
  replace W4 := W4.iloadN (pc' := 12) djdk_52_21_11 rfl rfl
  have v5 := (v2.other w4 N_ca_ba)
  replace W4 := W4.caload (pc' := 13) (w := (.int c2)) djdk_52_21_12 v5 ⟨by decide, by decide⟩ rfl rfl
  replace W4 := W4.istore (pc' := 15) (L' := #[.val (.ref ca), .val (.int (2 : Int32)), .val (.ref ba), .val (.int (2 : Int32)), .val (.int (3 : Int32)), .val (.int (2 : Int32)), .val (.int c2)]) djdk_52_21_13 rfl rfl
  replace W4 := W4.iload (pc' := 17) djdk_52_21_15 rfl rfl
  replace W4 := W4.sipush (pc' := 20) (v := (255 : Int32)) djdk_52_21_17 rfl rfl
  replace W4 := W4.icmpF (pc' := 23) djdk_52_21_20 (tlt gt_c2).2.2.2 rfl
  replace W4 := W4.iload (pc' := 25) djdk_52_21_23 rfl rfl
  exact W4.iret (t := .int) djdk_52_21_25 rfl (by simp) rfl (by decide) (by decide) (fun V' cv => ⟨rfl, v4⟩)
theorem ef_cmp3_3w2 (m : MethodId) (ca : Addr) (kc : ClassId) (c0 : Int32) (c1 : Int32) (c2 : Int32) : entryFrame m #[(.ref ca), (.int (0 : Int32)), (.int (3 : Int32))] 6 = mkF m 0 #[.val (.ref ca), .val (.int (0 : Int32)), .val (.int (3 : Int32)), .unset, .unset, .unset] [] := by first | (simp [entryFrame, mkF, argsToLocals, Value.category]; done) | rfl
set_option maxRecDepth 65536 in
set_option maxHeartbeats 40000000 in
theorem cmp3_3w2 (l : Launch) (Z : State) (a0 : Array Value) (n0 : Nat) (hw : ∀ d ∈ tables_1, d.before a0 Z = true) (hEL : EW Z a0 consts_1) (G1 : Int32) (O1 : Sta Z Z.heap "java/lang/String" "COMPACT_STRINGS" "Z" (.int G1)) (P1 : ¬ (G1 = (0 : Int32))) (O_as : Sta Z Z.heap "java/lang/StringUTF16" "$assertionsDisabled" "Z" (.int (1 : Int32))) (O_hi : Sta Z Z.heap "java/lang/StringUTF16" "HI_BYTE_SHIFT" "I" (.int (0 : Int32))) (O_lo : Sta Z Z.heap "java/lang/StringUTF16" "LO_BYTE_SHIFT" "I" (.int (8 : Int32))) (ro : Addr) (O_ro : Sta Z Z.heap "com/example/rolebind/rolebind/Decision$Reason" "ROLE" "Lcom/example/rolebind/rolebind/Decision$Reason;" (.ref ro)) (ca : Addr) (kc : ClassId) (c0 : Int32) (c1 : Int32) (c2 : Int32) (h0 : Heap) (hO : Old Z n0 h0) (V_ca : Arv Z h0 ca kc .char (3 : Int32) [(.int c0), (.int c1), (.int c2)] (.int (0 : Int32))) (hq_c0 : ¬ c0 < 0 ∧ ¬ (65535 : Int32) < c0) (hq_c1 : ¬ c1 < 0 ∧ ¬ (65535 : Int32) < c1) (hq_c2 : ¬ c2 < 0 ∧ ¬ (65535 : Int32) < c2) (hp_c0 : ¬ c0 < 0 ∧ ¬ (255 : Int32) < c0) (hp_c1 : ¬ c1 < 0 ∧ ¬ (255 : Int32) < c1) (gt_c2 : (255 : Int32) < c2) :
    Con l Z consts_1 n0 (⟨"java/lang/StringUTF16", "compress", "([CII)[B"⟩ : MethodName) jdk_52_method_16_code 6 (some (.array .byte)) ({ frames := 3, cells := 2, slots := 9, locals := 40 } : Room) #[(.ref ca), (.int (0 : Int32)), (.int (3 : Int32))] h0 [] (fun v h V' => ∃ (t : Addr) (kt : ClassId), v = some (.ref t) ∧ Arv Z h t kt .byte (6 : Int32) [(.int (c0.toInt8.toInt32)), (.int ((c0 >>> ((8 : Int32) &&& 31)).toInt8.toInt32)), (.int (c1.toInt8.toInt32)), (.int ((c1 >>> ((8 : Int32) &&& 31)).toInt8.toInt32)), (.int (c2.toInt8.toInt32)), (.int ((c2 >>> ((8 : Int32) &&& 31)).toInt8.toInt32))] (.int (0 : Int32)) ∧ h0.size ≤ t) [] := by
  refine Con.of (a0 := a0) pf3 (fun m => ef_cmp3_3w2 m ca kc c0 c1 c2) all0 hO hEL ?_
  intro p e s m below meth c S0 hnm hsf W
  replace W := W.iloadN (pc' := 1) djdk_52_16_0 rfl rfl
  obtain ⟨h1, a1, W1, E1, g1, ⟨k1, A1⟩, sf1, SF1⟩ := W.newarr (pc' := 3) (cap := 3) (cells' := 1) (slots' := 3) djdk_52_16_1 (tw16 hw) (by decide) (by decide) (by decide) rfl rfl rfl (by decide) (by decide)
  clear W
  rw [← g1] at A1
  have z1 : h0.size ≤ h1.size := E1.1
  have v1 : Arv Z h1 a1 k1 .byte (3 : Int32) [(.int (0 : Int32)), (.int (0 : Int32)), (.int (0 : Int32))] (.int (0 : Int32)) := A1.pad (pad_rep [] (.int (0 : Int32)) 3)
  replace W1 := W1.astoreN (pc' := 4) (L' := #[.val (.ref ca), .val (.int (0 : Int32)), .val (.int (3 : Int32)), .val (.ref a1), .unset, .unset]) djdk_52_16_3 rfl rfl rfl
  replace W1 := W1.aloadN (pc' := 5) djdk_52_16_4 rfl rfl rfl
  replace W1 := W1.iloadN (pc' := 6) djdk_52_16_5 rfl rfl
  replace W1 := W1.aloadN (pc' := 7) djdk_52_16_6 rfl rfl rfl
  replace W1 := W1.iconst (pc' := 8) (v := (0 : Int32)) djdk_52_16_7 rfl rfl
  replace W1 := W1.iloadN (pc' := 9) djdk_52_16_8 rfl rfl
  have v2 := (V_ca.ext E1)
  obtain ⟨V3, h3, r3, W3, K3, hQ3, SF3⟩ := W1.callS (pc' := 12) (argsL := [(.ref ca), (.int (0 : Int32)), (.ref a1), (.int (0 : Int32)), (.int (3 : Int32))]) (rest := []) (Wd := 0) (cells' := 1) (slots' := 3) (y := (⟨"java/lang/StringUTF16", "compress", "([CI[BII)I"⟩ : MethodName)) djdk_52_16_9 (cmp5_3w2 l Z a0 n0 hw hEL G1 O1 P1 O_as O_hi O_lo ro O_ro ca kc a1 k1 c0 c1 c2 h1 W1.old v2 v1 (Nat.ne_of_lt (Nat.lt_of_lt_of_le V_ca.lt (Nat.le_of_eq g1.symm))) hp_c0 hp_c1 gt_c2 (Nat.le_trans W1.1.2.2.2.2.2.2.2.1 (Nat.le_of_eq g1.symm))) (tw90 hw) (tw91 hw) (tw88 hw) (tw92 hw) (by decide) (lenOf pd1 rfl) rfl rfl (by decide) (by decide) rfl (sfS sf1 sf0) (allS (Or.inr (Nat.le_of_eq g1.symm)) all0) rfl rfl rfl (by decide) (by decide)
  clear W1
  obtain ⟨rfl, q3_1⟩ := hQ3
  have z3 : h1.size ≤ h3.size := K3.1
  replace W3 := W3.cast (st' := [(.int (2 : Int32))]) rfl
  replace W3 := W3.istore (pc' := 14) (L' := #[.val (.ref ca), .val (.int (0 : Int32)), .val (.int (3 : Int32)), .val (.ref a1), .val (.int (2 : Int32)), .unset]) djdk_52_16_12 rfl rfl
  replace W3 := W3.iload (pc' := 16) djdk_52_16_14 rfl rfl
  replace W3 := W3.iloadN (pc' := 17) djdk_52_16_16 rfl rfl
  replace W3 := W3.icmpF (pc' := 20) djdk_52_16_17 (feq (by decide : ¬ ((2 : Int32) = (3 : Int32)))).1 rfl
  replace W3 := W3.aloadN (pc' := 21) djdk_52_16_20 rfl rfl rfl
  replace W3 := W3.iloadN (pc' := 22) djdk_52_16_21 rfl rfl
  replace W3 := W3.iloadN (pc' := 23) djdk_52_16_22 rfl rfl
  have v4 := (v2.keep K3 (ninS (Nat.ne_of_lt (Nat.lt_of_lt_of_le V_ca.lt (Nat.le_of_eq g1.symm))) nin0))
  obtain ⟨V5, h5, r5, W5, K5, hQ5, SF5⟩ := W3.callS (pc' := 26) (argsL := [(.ref ca), (.int (0 : Int32)), (.int (3 : Int32))]) (rest := []) (Wd := 0) (cells' := 2) (slots' := 9) (y := (⟨"java/lang/StringUTF16", "toBytes", "([CII)[B"⟩ : MethodName)) djdk_52_16_23 (tob_3 l Z a0 n0 hw hEL G1 O1 P1 O_as O_hi O_lo ro O_ro ca kc c0 c1 c2 h3 W3.old v4) (tw96 hw) (tw97 hw) (tw88 hw) (tw98 hw) (by decide) (lenOf pd2 rfl) rfl rfl (by decide) (by decide) rfl sf0 all0 rfl rfl rfl (by decide) (by decide)
  clear W3
  obtain ⟨t5, kt5, rfl, q5_1, q5_2⟩ := hQ5
  have z5 : h3.size ≤ h5.size := K5.1
  replace W5 := W5.cast (st' := [(.ref t5)]) rfl
  replace W5 := W5.astore (pc' := 28) (L' := #[.val (.ref ca), .val (.int (0 : Int32)), .val (.int (3 : Int32)), .val (.ref a1), .val (.int (2 : Int32)), .val (.ref t5)]) djdk_52_16_26 rfl rfl rfl
  replace W5 := W5.aload (pc' := 30) djdk_52_16_28 rfl rfl rfl
  replace W5 := W5.iload (pc' := 32) djdk_52_16_30 rfl rfl
  obtain ⟨V6, h6, r6, W6, K6, hQ6, SF6⟩ := W5.callS (pc' := 35) (argsL := [(.ref t5), (.int (2 : Int32))]) (rest := []) (Wd := 0) (cells' := 2) (slots' := 9) (y := (⟨"java/lang/StringUTF16", "getChar", "([BI)C"⟩ : MethodName)) djdk_52_16_32 (getc_3w2 l Z a0 n0 hw hEL G1 O1 P1 O_as O_hi O_lo ro O_ro t5 kt5 c2 (c0.toInt8.toInt32) ((c0 >>> ((8 : Int32) &&& 31)).toInt8.toInt32) (c1.toInt8.toInt32) ((c1 >>> ((8 : Int32) &&& 31)).toInt8.toInt32) h5 W5.old q5_1 hq_c2) (tw112 hw) (tw113 hw) (tw88 hw) (tw114 hw) (by decide) (lenOf pd7 rfl) rfl rfl (by decide) (by decide) rfl sf0 all0 rfl rfl rfl (by decide) (by decide)
  clear W5
  obtain ⟨rfl, hs6⟩ := hQ6
  subst hs6
  have sf7 := (SF5 a1 q3_1.lt (SF3 a1 v1.lt sf1))
  have sf8 := SF6 a1 (Nat.lt_of_lt_of_le q3_1.lt z5) sf7
  replace W6 := W6.cast (st' := [(.int c2)]) rfl
  replace W6 := W6.sipush (pc' := 38) (v := (255 : Int32)) djdk_52_16_35 rfl rfl
  replace W6 := W6.icmpT (pc' := 54) djdk_52_16_38 (tlt gt_c2).2.2.1 (by decide) (by decide)
  replace W6 := W6.aload (pc' := 56) djdk_52_16_54 rfl rfl rfl
  exact W6.aret (t := (.array .byte)) djdk_52_16_56 rfl rfl rfl rfl (by decide) (by decide) (fun V' cv => ⟨t5, kt5, rfl, q5_1, (Nat.le_trans (Nat.le_trans z1 z3) q5_2)⟩)
theorem ef_new4_3w2 (m : MethodId) (xa : Addr) (ca : Addr) (kc : ClassId) (c0 : Int32) (c1 : Int32) (c2 : Int32) : entryFrame m #[(.ref xa), (.ref ca), (.int (0 : Int32)), (.int (3 : Int32)), .null] 6 = mkF m 0 #[.val (.ref xa), .val (.ref ca), .val (.int (0 : Int32)), .val (.int (3 : Int32)), .val .null, .unset] [] := by first | (simp [entryFrame, mkF, argsToLocals, Value.category]; done) | rfl
set_option maxRecDepth 65536 in
set_option maxHeartbeats 40000000 in
theorem new4_3w2 (l : Launch) (Z : State) (a0 : Array Value) (n0 : Nat) (hw : ∀ d ∈ tables_1, d.before a0 Z = true) (hEL : EW Z a0 consts_1) (G1 : Int32) (O1 : Sta Z Z.heap "java/lang/String" "COMPACT_STRINGS" "Z" (.int G1)) (P1 : ¬ (G1 = (0 : Int32))) (O_as : Sta Z Z.heap "java/lang/StringUTF16" "$assertionsDisabled" "Z" (.int (1 : Int32))) (O_hi : Sta Z Z.heap "java/lang/StringUTF16" "HI_BYTE_SHIFT" "I" (.int (0 : Int32))) (O_lo : Sta Z Z.heap "java/lang/StringUTF16" "LO_BYTE_SHIFT" "I" (.int (8 : Int32))) (ro : Addr) (O_ro : Sta Z Z.heap "com/example/rolebind/rolebind/Decision$Reason" "ROLE" "Lcom/example/rolebind/rolebind/Decision$Reason;" (.ref ro)) (xa : Addr) (ca : Addr) (kc : ClassId) (c0 : Int32) (c1 : Int32) (c2 : Int32) (h0 : Heap) (hO : Old Z n0 h0) (E_xa : Exa Z h0 xa "java/lang/String") (F_xa_value : Fld Z h0 xa "java/lang/String" "value" "[B" .null) (F_xa_coder : Fld Z h0 xa "java/lang/String" "coder" "B" (.int (0 : Int32))) (V_ca : Arv Z h0 ca kc .char (3 : Int32) [(.int c0), (.int c1), (.int c2)] (.int (0 : Int32))) (hq_c0 : ¬ c0 < 0 ∧ ¬ (65535 : Int32) < c0) (hq_c1 : ¬ c1 < 0 ∧ ¬ (65535 : Int32) < c1) (hq_c2 : ¬ c2 < 0 ∧ ¬ (65535 : Int32) < c2) (hp_c0 : ¬ c0 < 0 ∧ ¬ (255 : Int32) < c0) (hp_c1 : ¬ c1 < 0 ∧ ¬ (255 : Int32) < c1) (gt_c2 : (255 : Int32) < c2) (g_xa : n0 ≤ xa) :
    Con l Z consts_1 n0 (⟨"java/lang/String", "<init>", "([CIILjava/lang/Void;)V"⟩ : MethodName) jdk_42_method_149_code 6 none ({ frames := 4, cells := 2, slots := 9, locals := 57 } : Room) #[(.ref xa), (.ref ca), (.int (0 : Int32)), (.int (3 : Int32)), .null] h0 [xa] (fun v h V' => ∃ (t : Addr) (kt : ClassId), v = none ∧ Exa Z h xa "java/lang/String" ∧ Fld Z h xa "java/lang/String" "coder" "B" (.int (1 : Int32)) ∧ Fld Z h xa "java/lang/String" "value" "[B" (.ref t) ∧ Arv Z h t kt .byte (6 : Int32) [(.int (c0.toInt8.toInt32)), (.int ((c0 >>> ((8 : Int32) &&& 31)).toInt8.toInt32)), (.int (c1.toInt8.toInt32)), (.int ((c1 >>> ((8 : Int32) &&& 31)).toInt8.toInt32)), (.int (c2.toInt8.toInt32)), (.int ((c2 >>> ((8 : Int32) &&& 31)).toInt8.toInt32))] (.int (0 : Int32))) [] := by
  refine Con.of (a0 := a0) pf0 (fun m => ef_new4_3w2 m xa ca kc c0 c1 c2) (allS g_xa all0) hO hEL ?_
  intro p e s m below meth c S0 hnm hsf W
  replace W := W.aloadN (pc' := 1) djdk_42_149_0 rfl rfl rfl
  replace W := W.initO (pc' := 4) (Wd := 0) djdk_42_149_1 (tw12 hw) (tw13 hw) (tw14 hw) rfl rfl (by decide) (by decide) rfl
  replace W := W.iloadN (pc' := 5) djdk_42_149_4 rfl rfl
  replace W := W.ifT (pc' := 27) djdk_42_149_5 (feq (by decide : ¬ ((3 : Int32) = (0 : Int32)))).2 (by decide) (by decide)
  replace W := W.gets (pc' := 30) djdk_42_149_27 (tw85 hw) O1 rfl
  replace W := W.ifF (pc' := 33) djdk_42_149_30 (feq P1).1 rfl
  replace W := W.aloadN (pc' := 34) djdk_42_149_33 rfl rfl rfl
  replace W := W.iloadN (pc' := 35) djdk_42_149_34 rfl rfl
  replace W := W.iloadN (pc' := 36) djdk_42_149_35 rfl rfl
  obtain ⟨V1, h1, r1, W1, K1, hQ1, SF1⟩ := W.callS (pc' := 39) (argsL := [(.ref ca), (.int (0 : Int32)), (.int (3 : Int32))]) (rest := []) (Wd := 0) (cells' := 2) (slots' := 9) (y := (⟨"java/lang/StringUTF16", "compress", "([CII)[B"⟩ : MethodName)) djdk_42_149_36 (cmp3_3w2 l Z a0 n0 hw hEL G1 O1 P1 O_as O_hi O_lo ro O_ro ca kc c0 c1 c2 h0 W.old V_ca hq_c0 hq_c1 hq_c2 hp_c0 hp_c1 gt_c2) (tw86 hw) (tw87 hw) (tw88 hw) (tw89 hw) (by decide) (lenOf pd2 rfl) rfl rfl (by decide) (by decide) rfl sf0 all0 rfl rfl rfl (by decide) (by decide)
  clear W
  obtain ⟨t1, kt1, rfl, q1_1, q1_2⟩ := hQ1
  have z1 : h0.size ≤ h1.size := K1.1
  replace W1 := W1.cast (st' := [(.ref t1)]) rfl
  replace W1 := W1.astore (pc' := 41) (L' := #[.val (.ref xa), .val (.ref ca), .val (.int (0 : Int32)), .val (.int (3 : Int32)), .val .null, .val (.ref t1)]) djdk_42_149_39 rfl rfl rfl
  replace W1 := W1.aloadN (pc' := 42) djdk_42_149_41 rfl rfl rfl
  replace W1 := W1.aload (pc' := 44) djdk_42_149_42 rfl rfl rfl
  replace W1 := W1.iloadN (pc' := 45) djdk_42_149_44 rfl rfl
  obtain ⟨V2, h2, r2, W2, K2, hQ2, SF2⟩ := W1.callS (pc' := 48) (argsL := [(.ref t1), (.int (3 : Int32))]) (rest := [(.ref xa)]) (Wd := 1) (cells' := 2) (slots' := 9) (y := (⟨"java/lang/StringUTF16", "coderFromArrayLen", "([BI)B"⟩ : MethodName)) djdk_42_149_45 (codlw_3 l Z a0 n0 hw hEL G1 O1 P1 O_as O_hi O_lo ro O_ro t1 kt1 ([(.int (c0.toInt8.toInt32)), (.int ((c0 >>> ((8 : Int32) &&& 31)).toInt8.toInt32)), (.int (c1.toInt8.toInt32)), (.int ((c1 >>> ((8 : Int32) &&& 31)).toInt8.toInt32)), (.int (c2.toInt8.toInt32)), (.int ((c2 >>> ((8 : Int32) &&& 31)).toInt8.toInt32))]) h1 W1.old q1_1) (tw93 hw) (tw94 hw) (tw88 hw) (tw95 hw) (by decide) (lenOf pd3 rfl) rfl rfl (by decide) (by decide) rfl sf0 all0 rfl rfl rfl (by decide) (by decide)
  clear W1
  obtain ⟨rfl, hs2⟩ := hQ2
  subst hs2
  have sf3 := (SF1 xa E_xa.lt (hsf _ (List.mem_of_getElem? (i := 0) rfl)))
  have sf4 := SF2 xa (Nat.lt_of_lt_of_le E_xa.lt z1) sf3
  replace W2 := W2.cast (st' := [(.int (1 : Int32)), (.ref xa)]) rfl
  have f5 := (F_xa_coder.keep K1 nin0)
  have e6 := (E_xa.keep K1)
  obtain ⟨h7, W7, w7, SF7⟩ := W2.putf (pc' := 51) (ty := .byte) djdk_42_149_48 (tw22 hw) Via.refl f5 e6 (Or.inr ⟨(tw18 hw), rfl, hnm⟩) (tw3 hw) (by decide) rfl rfl sf4 (Or.inl (List.mem_of_getElem? (i := 0) rfl)) rfl
  clear W2
  have z7 : h1.size ≤ h7.size := Nat.le_of_eq w7.size.symm
  have f7 := f5.same w7
  replace W7 := W7.aloadN (pc' := 52) djdk_42_149_51 rfl rfl rfl
  replace W7 := W7.aload (pc' := 54) djdk_42_149_52 rfl rfl rfl
  have f8 := ((F_xa_value.keep K1 nin0).other w7 (Or.inr (slot_ne (C := "java/lang/String") (Or.inr (tw17 hw)) (Or.inr (tw18 hw)) (by decide) (t := (.array .byte)) (t' := .byte) (by decide) (by decide))))
  have e9 := (e6.wr w7)
  have sf10 := (SF7 xa sf4)
  obtain ⟨h11, W11, w11, SF11⟩ := W7.putf (pc' := 57) (ty := (.array .byte)) djdk_42_149_54 (tw21 hw) Via.refl f8 e9 (Or.inr ⟨(tw17 hw), rfl, hnm⟩) (tw3 hw) (by decide) rfl rfl sf10 (Or.inl (List.mem_of_getElem? (i := 0) rfl)) rfl
  clear W7
  have z11 : h7.size ≤ h11.size := Nat.le_of_eq w11.size.symm
  have f11 := f8.same w11
  have e12 := (e9.wr w11)
  have f13 := (f7.other w11 (Or.inr (slot_ne (C := "java/lang/String") (Or.inr (tw18 hw)) (Or.inr (tw17 hw)) (by decide) (t := .byte) (t' := (.array .byte)) (by decide) (by decide))))
  have v14 := ((q1_1.other w7 (Nat.ne_of_gt (Nat.lt_of_lt_of_le E_xa.lt q1_2))).other w11 (Nat.ne_of_gt (Nat.lt_of_lt_of_le E_xa.lt q1_2)))
  exact W11.vret djdk_42_149_57 rfl (by decide) (by decide) (fun V' cv => ⟨t1, kt1, rfl, e12, f13, f11, v14⟩)
theorem ef_new1_3w2 (m : MethodId) (xa : Addr) (ca : Addr) (kc : ClassId) (c0 : Int32) (c1 : Int32) (c2 : Int32) : entryFrame m #[(.ref xa), (.ref ca)] 2 = mkF m 0 #[.val (.ref xa), .val (.ref ca)] [] := by first | (simp [entryFrame, mkF, argsToLocals, Value.category]; done) | rfl
set_option maxRecDepth 65536 in
set_option maxHeartbeats 40000000 in
theorem new1_3w2 (l : Launch) (Z : State) (a0 : Array Value) (n0 : Nat) (hw : ∀ d ∈ tables_1, d.before a0 Z = true) (hEL : EW Z a0 consts_1) (G1 : Int32) (O1 : Sta Z Z.heap "java/lang/String" "COMPACT_STRINGS" "Z" (.int G1)) (P1 : ¬ (G1 = (0 : Int32))) (O_as : Sta Z Z.heap "java/lang/StringUTF16" "$assertionsDisabled" "Z" (.int (1 : Int32))) (O_hi : Sta Z Z.heap "java/lang/StringUTF16" "HI_BYTE_SHIFT" "I" (.int (0 : Int32))) (O_lo : Sta Z Z.heap "java/lang/StringUTF16" "LO_BYTE_SHIFT" "I" (.int (8 : Int32))) (ro : Addr) (O_ro : Sta Z Z.heap "com/example/rolebind/rolebind/Decision$Reason" "ROLE" "Lcom/example/rolebind/rolebind/Decision$Reason;" (.ref ro)) (xa : Addr) (ca : Addr) (kc : ClassId) (c0 : Int32) (c1 : Int32) (c2 : Int32) (h0 : Heap) (hO : Old Z n0 h0) (E_xa : Exa Z h0 xa "java/lang/String") (F_xa_value : Fld Z h0 xa "java/lang/String" "value" "[B" .null) (F_xa_coder : Fld Z h0 xa "java/lang/String" "coder" "B" (.int (0 : Int32))) (V_ca : Arv Z h0 ca kc .char (3 : Int32) [(.int c0), (.int c1), (.int c2)] (.int (0 : Int32))) (hq_c0 : ¬ c0 < 0 ∧ ¬ (65535 : Int32) < c0) (hq_c1 : ¬ c1 < 0 ∧ ¬ (65535 : Int32) < c1) (hq_c2 : ¬ c2 < 0 ∧ ¬ (65535 : Int32) < c2) (hp_c0 : ¬ c0 < 0 ∧ ¬ (255 : Int32) < c0) (hp_c1 : ¬ c1 < 0 ∧ ¬ (255 : Int32) < c1) (gt_c2 : (255 : Int32) < c2) (g_xa : n0 ≤ xa) :
    Con l Z consts_1 n0 (⟨"java/lang/String", "<init>", "([C)V"⟩ : MethodName) jdk_42_method_3_code 2 none ({ frames := 5, cells := 2, slots := 9, locals := 74 } : Room) #[(.ref xa), (.ref ca)] h0 [xa] (fun v h V' => ∃ (t : Addr) (kt : ClassId), v = none ∧ Exa Z h xa "java/lang/String" ∧ Fld Z h xa "java/lang/String" "coder" "B" (.int (1 : Int32)) ∧ Fld Z h xa "java/lang/String" "value" "[B" (.ref t) ∧ Arv Z h t kt .byte (6 : Int32) [(.int (c0.toInt8.toInt32)), (.int ((c0 >>> ((8 : Int32) &&& 31)).toInt8.toInt32)), (.int (c1.toInt8.toInt32)), (.int ((c1 >>> ((8 : Int32) &&& 31)).toInt8.toInt32)), (.int (c2.toInt8.toInt32)), (.int ((c2 >>> ((8 : Int32) &&& 31)).toInt8.toInt32))] (.int (0 : Int32))) [] := by
  refine Con.of (a0 := a0) pf1 (fun m => ef_new1_3w2 m xa ca kc c0 c1 c2) (allS g_xa all0) hO hEL ?_
  intro p e s m below meth c S0 hnm hsf W
  replace W := W.aloadN (pc' := 1) djdk_42_3_0 rfl rfl rfl
  replace W := W.aloadN (pc' := 2) djdk_42_3_1 rfl rfl rfl
  replace W := W.iconst (pc' := 3) (v := (0 : Int32)) djdk_42_3_2 rfl rfl
  replace W := W.aloadN (pc' := 4) djdk_42_3_3 rfl rfl rfl
  replace W := W.alen (pc' := 5) djdk_42_3_4 V_ca rfl
  replace W := W.aconstNull (pc' := 6) djdk_42_3_5 rfl
  obtain ⟨V1, h1, r1, W1, K1, hQ1, SF1⟩ := W.callI (pc' := 9) (argsL := [(.ref ca), (.int (0 : Int32)), (.int (3 : Int32)), .null]) (rest := []) (Wd := 0) (cells' := 2) (slots' := 9) (a := xa) (y := (⟨"java/lang/String", "<init>", "([CIILjava/lang/Void;)V"⟩ : MethodName)) djdk_42_3_6 (new4_3w2 l Z a0 n0 hw hEL G1 O1 P1 O_as O_hi O_lo ro O_ro xa ca kc c0 c1 c2 h0 W.old E_xa F_xa_value F_xa_coder V_ca hq_c0 hq_c1 hq_c2 hp_c0 hp_c1 gt_c2 g_xa) rfl (tw8 hw) (tw9 hw) (tw4 hw) (tw11 hw) (by decide) (lenOf pd0 rfl) rfl rfl (by decide) (by decide) rfl (sfS (hsf _ (List.mem_of_getElem? (i := 0) rfl)) sf0) (allS (Or.inl (List.mem_of_getElem? (i := 0) rfl)) all0) rfl rfl rfl (by decide) (by decide)
  clear W
  obtain ⟨t1, kt1, rfl, q1_1, q1_2, q1_3, q1_4⟩ := hQ1
  have z1 : h0.size ≤ h1.size := K1.1
  replace W1 := W1.cast (st' := []) rfl
  exact W1.vret djdk_42_3_9 rfl (by decide) (by decide) (fun V' cv => ⟨t1, kt1, rfl, q1_1, q1_2, q1_3, q1_4⟩)
theorem ef_rnn2 (m : MethodId) (oa : Addr) (ma : Addr) : entryFrame m #[(.ref oa), (.ref ma)] 2 = mkF m 0 #[.val (.ref oa), .val (.ref ma)] [] := by first | (simp [entryFrame, mkF, argsToLocals, Value.category]; done) | rfl
set_option maxRecDepth 65536 in
set_option maxHeartbeats 40000000 in
theorem rnn2 (l : Launch) (Z : State) (a0 : Array Value) (n0 : Nat) (hw : ∀ d ∈ tables_1, d.before a0 Z = true) (hEL : EW Z a0 consts_1) (G1 : Int32) (O1 : Sta Z Z.heap "java/lang/String" "COMPACT_STRINGS" "Z" (.int G1)) (P1 : ¬ (G1 = (0 : Int32))) (O_as : Sta Z Z.heap "java/lang/StringUTF16" "$assertionsDisabled" "Z" (.int (1 : Int32))) (O_hi : Sta Z Z.heap "java/lang/StringUTF16" "HI_BYTE_SHIFT" "I" (.int (0 : Int32))) (O_lo : Sta Z Z.heap "java/lang/StringUTF16" "LO_BYTE_SHIFT" "I" (.int (8 : Int32))) (ro : Addr) (O_ro : Sta Z Z.heap "com/example/rolebind/rolebind/Decision$Reason" "ROLE" "Lcom/example/rolebind/rolebind/Decision$Reason;" (.ref ro)) (oa : Addr) (ma : Addr) (h0 : Heap) (hO : Old Z n0 h0)  :
    Con l Z consts_1 n0 (⟨"java/util/Objects", "requireNonNull", "(Ljava/lang/Object;Ljava/lang/String;)Ljava/lang/Object;"⟩ : MethodName) jdk_31_method_11_code 2 (some (.object "java/lang/Object")) ({ frames := 0, cells := 0, slots := 0, locals := 0 } : Room) #[(.ref oa), (.ref ma)] h0 [] (fun v h V' => v = some (.ref oa) ∧ h0 = h) [] := by
  refine Con.of (a0 := a0) pf10 (fun m => ef_rnn2 m oa ma) all0 hO hEL ?_
  intro p e s m below meth c S0 hnm hsf W
  replace W := W.aloadN (pc' := 1) djdk_31_11_0 rfl rfl rfl
  replace W := W.ifnonnullT (pc' := 13) djdk_31_11_1 (by decide) (by decide)
  replace W := W.aloadN (pc' := 14) djdk_31_11_13 rfl rfl rfl
  exact W.aret (t := (.object "java/lang/Object")) djdk_31_11_14 rfl rfl rfl rfl (by decide) (by decide) (fun V' cv => ⟨rfl, rfl⟩)
theorem ef_rec_init (m : MethodId) (oa : Addr) : entryFrame m #[(.ref oa)] 1 = mkF m 0 #[.val (.ref oa)] [] := by first | (simp [entryFrame, mkF, argsToLocals, Value.category]; done) | rfl
set_option maxRecDepth 65536 in
set_option maxHeartbeats 40000000 in
theorem rec_init (l : Launch) (Z : State) (a0 : Array Value) (n0 : Nat) (hw : ∀ d ∈ tables_1, d.before a0 Z = true) (hEL : EW Z a0 consts_1) (G1 : Int32) (O1 : Sta Z Z.heap "java/lang/String" "COMPACT_STRINGS" "Z" (.int G1)) (P1 : ¬ (G1 = (0 : Int32))) (O_as : Sta Z Z.heap "java/lang/StringUTF16" "$assertionsDisabled" "Z" (.int (1 : Int32))) (O_hi : Sta Z Z.heap "java/lang/StringUTF16" "HI_BYTE_SHIFT" "I" (.int (0 : Int32))) (O_lo : Sta Z Z.heap "java/lang/StringUTF16" "LO_BYTE_SHIFT" "I" (.int (8 : Int32))) (ro : Addr) (O_ro : Sta Z Z.heap "com/example/rolebind/rolebind/Decision$Reason" "ROLE" "Lcom/example/rolebind/rolebind/Decision$Reason;" (.ref ro)) (oa : Addr) (h0 : Heap) (hO : Old Z n0 h0)  :
    Con l Z consts_1 n0 (⟨"java/lang/Record", "<init>", "()V"⟩ : MethodName) jdk_30_method_1_code 1 none ({ frames := 1, cells := 0, slots := 0, locals := 12 } : Room) #[(.ref oa)] h0 [] (fun v h V' => v = none ∧ h0 = h) [] := by
  refine Con.of (a0 := a0) pf11 (fun m => ef_rec_init m oa) all0 hO hEL ?_
  intro p e s m below meth c S0 hnm hsf W
  replace W := W.aloadN (pc' := 1) djdk_30_1_0 rfl rfl rfl
  replace W := W.initO (pc' := 4) (Wd := 0) djdk_30_1_1 (tw46 hw) (tw13 hw) (tw14 hw) rfl rfl (by decide) (by decide) rfl
  exact W.vret djdk_30_1_4 rfl (by decide) (by decide) (fun V' cv => ⟨rfl, rfl⟩)
theorem ef_dec_init (m : MethodId) (da : Addr) (xa : Addr) : entryFrame m #[(.ref da), (.int (1 : Int32)), (.ref ro), (.ref xa)] 4 = mkF m 0 #[.val (.ref da), .val (.int (1 : Int32)), .val (.ref ro), .val (.ref xa)] [] := by first | (simp [entryFrame, mkF, argsToLocals, Value.category]; done) | rfl
set_option maxRecDepth 65536 in
set_option maxHeartbeats 40000000 in
theorem dec_init (l : Launch) (Z : State) (a0 : Array Value) (n0 : Nat) (hw : ∀ d ∈ tables_1, d.before a0 Z = true) (hEL : EW Z a0 consts_1) (G1 : Int32) (O1 : Sta Z Z.heap "java/lang/String" "COMPACT_STRINGS" "Z" (.int G1)) (P1 : ¬ (G1 = (0 : Int32))) (O_as : Sta Z Z.heap "java/lang/StringUTF16" "$assertionsDisabled" "Z" (.int (1 : Int32))) (O_hi : Sta Z Z.heap "java/lang/StringUTF16" "HI_BYTE_SHIFT" "I" (.int (0 : Int32))) (O_lo : Sta Z Z.heap "java/lang/StringUTF16" "LO_BYTE_SHIFT" "I" (.int (8 : Int32))) (ro : Addr) (O_ro : Sta Z Z.heap "com/example/rolebind/rolebind/Decision$Reason" "ROLE" "Lcom/example/rolebind/rolebind/Decision$Reason;" (.ref ro)) (da : Addr) (xa : Addr) (h0 : Heap) (hO : Old Z n0 h0) (E_da : Exa Z h0 da "com/example/rolebind/rolebind/Decision") (F_da_allowed : Fld Z h0 da "com/example/rolebind/rolebind/Decision" "allowed" "Z" (.int (0 : Int32))) (F_da_reason : Fld Z h0 da "com/example/rolebind/rolebind/Decision" "reason" "Lcom/example/rolebind/rolebind/Decision$Reason;" .null) (F_da_role : Fld Z h0 da "com/example/rolebind/rolebind/Decision" "role" "Ljava/lang/String;" .null) (g_da : n0 ≤ da) :
    Con l Z consts_1 n0 (⟨"com/example/rolebind/rolebind/Decision", "<init>", "(ZLcom/example/rolebind/rolebind/Decision$Reason;Ljava/lang/String;)V"⟩ : MethodName) prog_16_method_1_code 4 none ({ frames := 2, cells := 2, slots := 28, locals := 24 } : Room) #[(.ref da), (.int (1 : Int32)), (.ref ro), (.ref xa)] h0 [da] (fun v h V' => v = none ∧ Fld Z h da "com/example/rolebind/rolebind/Decision" "allowed" "Z" (.int (1 : Int32)) ∧ Fld Z h da "com/example/rolebind/rolebind/Decision" "reason" "Lcom/example/rolebind/rolebind/Decision$Reason;" (.ref ro) ∧ Fld Z h da "com/example/rolebind/rolebind/Decision" "role" "Ljava/lang/String;" (.ref xa)) [] := by
  refine Con.of (a0 := a0) pf12 (fun m => ef_dec_init m da xa) (allS g_da all0) hO hEL ?_
  intro p e s m below meth c S0 hnm hsf W
  replace W := W.aloadN (pc' := 1) dprog_16_1_0 rfl rfl rfl
  obtain ⟨V1, h1, r1, W1, K1, hQ1, SF1⟩ := W.callI (pc' := 4) (argsL := []) (rest := []) (Wd := 0) (cells' := 0) (slots' := 0) (a := da) (y := (⟨"java/lang/Record", "<init>", "()V"⟩ : MethodName)) dprog_16_1_1 (rec_init l Z a0 n0 hw hEL G1 O1 P1 O_as O_hi O_lo ro O_ro da h0 W.old) rfl (tw41 hw) (tw42 hw) (tw44 hw) (tw45 hw) (by decide) (lenOf pd8 rfl) rfl rfl (by decide) (by decide) rfl sf0 all0 rfl rfl rfl (by decide) (by decide)
  clear W
  obtain ⟨rfl, hs1⟩ := hQ1
  subst hs1
  replace W1 := W1.cast (st' := []) rfl
  replace W1 := W1.aloadN (pc' := 5) dprog_16_1_4 rfl rfl rfl
  obtain ⟨V2, h2, a2, W2, E2, t2, SF2⟩ := W1.ldcO (pc' := 7) (n := 24) (cells' := 2) (slots' := 28) dprog_16_1_5 (tw47 hw) (hSA hw) (by decide) (by decide) rfl rfl rfl (by decide) (by decide)
  clear W1
  have z2 : h0.size ≤ h2.size := E2.1
  obtain ⟨V3, h3, r3, W3, K3, hQ3, SF3⟩ := W2.callS (pc' := 10) (argsL := [(.ref ro), (.ref a2)]) (rest := []) (Wd := 0) (cells' := 2) (slots' := 28) (y := (⟨"java/util/Objects", "requireNonNull", "(Ljava/lang/Object;Ljava/lang/String;)Ljava/lang/Object;"⟩ : MethodName)) dprog_16_1_7 (rnn2 l Z a0 n0 hw hEL G1 O1 P1 O_as O_hi O_lo ro O_ro ro a2 h2 W2.old) (tw33 hw) (tw34 hw) (tw35 hw) (tw36 hw) (by decide) (lenOf pd9 rfl) rfl rfl (by decide) (by decide) rfl sf0 all0 rfl rfl rfl (by decide) (by decide)
  clear W2
  obtain ⟨rfl, hs3⟩ := hQ3
  subst hs3
  replace W3 := W3.cast (st' := [(.ref ro)]) rfl
  replace W3 := W3.pop (pc' := 11) dprog_16_1_10 rfl rfl
  replace W3 := W3.aloadN (pc' := 12) dprog_16_1_11 rfl rfl rfl
  replace W3 := W3.gets (pc' := 15) dprog_16_1_12 (tw29 hw) O_ro rfl
  replace W3 := W3.acmpF (pc' := 18) dprog_16_1_15 rfl rfl (by simp [Jvm.Free.XT.acmp]) rfl
  replace W3 := W3.iconst (pc' := 19) (v := (1 : Int32)) dprog_16_1_18 rfl rfl
  replace W3 := W3.goto (pc' := 23) dprog_16_1_19 (by decide) (by decide)
  replace W3 := W3.aloadN (pc' := 24) dprog_16_1_23 rfl rfl rfl
  replace W3 := W3.ifnullF (pc' := 27) dprog_16_1_24 rfl
  replace W3 := W3.iconst (pc' := 28) (v := (1 : Int32)) dprog_16_1_27 rfl rfl
  replace W3 := W3.goto (pc' := 32) dprog_16_1_28 (by decide) (by decide)
  replace W3 := W3.icmpT (pc' := 45) dprog_16_1_32 (teq (by decide : (1 : Int32) = (1 : Int32))).1 (by decide) (by decide)
  replace W3 := W3.aloadN (pc' := 46) dprog_16_1_45 rfl rfl rfl
  replace W3 := W3.iloadN (pc' := 47) dprog_16_1_46 rfl rfl
  have f4 := (F_da_allowed.ext E2)
  have e5 := (E_da.ext E2)
  obtain ⟨h6, W6, w6, SF6⟩ := W3.putf (pc' := 50) (ty := .boolean) dprog_16_1_47 (tw48 hw) Via.refl f4 e5 (Or.inr ⟨(tw49 hw), rfl, hnm⟩) (tw28 hw) (by decide) rfl rfl (W3.safeE e5 (by decide) (by decide)) (Or.inl (List.mem_of_getElem? (i := 0) rfl)) rfl
  clear W3
  have z6 : h2.size ≤ h6.size := Nat.le_of_eq w6.size.symm
  have f6 := f4.same w6
  replace W6 := W6.aloadN (pc' := 51) dprog_16_1_50 rfl rfl rfl
  replace W6 := W6.aloadN (pc' := 52) dprog_16_1_51 rfl rfl rfl
  have f7 := ((F_da_reason.ext E2).other w6 (Or.inr (slot_ne (C := "com/example/rolebind/rolebind/Decision") (Or.inr (tw51 hw)) (Or.inr (tw49 hw)) (by decide) (t := (.object "com/example/rolebind/rolebind/Decision$Reason")) (t' := .boolean) (by decide) (by decide))))
  have e8 := (e5.wr w6)
  obtain ⟨h9, W9, w9, SF9⟩ := W6.putf (pc' := 55) (ty := (.object "com/example/rolebind/rolebind/Decision$Reason")) dprog_16_1_52 (tw50 hw) Via.refl f7 e8 (Or.inr ⟨(tw51 hw), rfl, hnm⟩) (tw28 hw) (by decide) rfl rfl (W6.safeE e8 (by decide) (by decide)) (Or.inl (List.mem_of_getElem? (i := 0) rfl)) rfl
  clear W6
  have z9 : h6.size ≤ h9.size := Nat.le_of_eq w9.size.symm
  have f9 := f7.same w9
  replace W9 := W9.aloadN (pc' := 56) dprog_16_1_55 rfl rfl rfl
  replace W9 := W9.aloadN (pc' := 57) dprog_16_1_56 rfl rfl rfl
  have f10 := (((F_da_role.ext E2).other w6 (Or.inr (slot_ne (C := "com/example/rolebind/rolebind/Decision") (Or.inr (tw53 hw)) (Or.inr (tw49 hw)) (by decide) (t := (.object "java/lang/String")) (t' := .boolean) (by decide) (by decide)))).other w9 (Or.inr (slot_ne (C := "com/example/rolebind/rolebind/Decision") (Or.inr (tw53 hw)) (Or.inr (tw51 hw)) (by decide) (t := (.object "java/lang/String")) (t' := (.object "com/example/rolebind/rolebind/Decision$Reason")) (by decide) (by decide))))
  have e11 := (e8.wr w9)
  obtain ⟨h12, W12, w12, SF12⟩ := W9.putf (pc' := 60) (ty := (.object "java/lang/String")) dprog_16_1_57 (tw52 hw) Via.refl f10 e11 (Or.inr ⟨(tw53 hw), rfl, hnm⟩) (tw28 hw) (by decide) rfl rfl (W9.safeE e11 (by decide) (by decide)) (Or.inl (List.mem_of_getElem? (i := 0) rfl)) rfl
  clear W9
  have z12 : h9.size ≤ h12.size := Nat.le_of_eq w12.size.symm
  have f12 := f10.same w12
  have f13 := ((f6.other w9 (Or.inr (slot_ne (C := "com/example/rolebind/rolebind/Decision") (Or.inr (tw49 hw)) (Or.inr (tw51 hw)) (by decide) (t := .boolean) (t' := (.object "com/example/rolebind/rolebind/Decision$Reason")) (by decide) (by decide)))).other w12 (Or.inr (slot_ne (C := "com/example/rolebind/rolebind/Decision") (Or.inr (tw49 hw)) (Or.inr (tw53 hw)) (by decide) (t := .boolean) (t' := (.object "java/lang/String")) (by decide) (by decide))))
  have f14 := (f9.other w12 (Or.inr (slot_ne (C := "com/example/rolebind/rolebind/Decision") (Or.inr (tw51 hw)) (Or.inr (tw53 hw)) (by decide) (t := (.object "com/example/rolebind/rolebind/Decision$Reason")) (t' := (.object "java/lang/String")) (by decide) (by decide))))
  exact W12.vret dprog_16_1_60 rfl (by decide) (by decide) (fun V' cv => ⟨rfl, f13, f14, f12⟩)
theorem ef_abr (m : MethodId) (xa : Addr) : entryFrame m #[(.ref xa)] 1 = mkF m 0 #[.val (.ref xa)] [] := by first | (simp [entryFrame, mkF, argsToLocals, Value.category]; done) | rfl
set_option maxRecDepth 65536 in
set_option maxHeartbeats 40000000 in
theorem abr (l : Launch) (Z : State) (a0 : Array Value) (n0 : Nat) (hw : ∀ d ∈ tables_1, d.before a0 Z = true) (hEL : EW Z a0 consts_1) (G1 : Int32) (O1 : Sta Z Z.heap "java/lang/String" "COMPACT_STRINGS" "Z" (.int G1)) (P1 : ¬ (G1 = (0 : Int32))) (O_as : Sta Z Z.heap "java/lang/StringUTF16" "$assertionsDisabled" "Z" (.int (1 : Int32))) (O_hi : Sta Z Z.heap "java/lang/StringUTF16" "HI_BYTE_SHIFT" "I" (.int (0 : Int32))) (O_lo : Sta Z Z.heap "java/lang/StringUTF16" "LO_BYTE_SHIFT" "I" (.int (8 : Int32))) (ro : Addr) (O_ro : Sta Z Z.heap "com/example/rolebind/rolebind/Decision$Reason" "ROLE" "Lcom/example/rolebind/rolebind/Decision$Reason;" (.ref ro)) (xa : Addr) (h0 : Heap) (hO : Old Z n0 h0) (E_xa : Exa Z h0 xa "java/lang/String") :
    Con l Z consts_1 n0 (⟨"com/example/rolebind/rolebind/Decision", "allowedByRole", "(Ljava/lang/String;)Lcom/example/rolebind/rolebind/Decision;"⟩ : MethodName) prog_16_method_2_code 1 (some (.object "com/example/rolebind/rolebind/Decision")) ({ frames := 3, cells := 5, slots := 51, locals := 40 } : Room) #[(.ref xa)] h0 [] (fun v h V' => ∃ (r : Addr), v = some (.ref r) ∧ Exa Z h r "com/example/rolebind/rolebind/Decision" ∧ Fld Z h r "com/example/rolebind/rolebind/Decision" "allowed" "Z" (.int (1 : Int32)) ∧ Fld Z h r "com/example/rolebind/rolebind/Decision" "reason" "Lcom/example/rolebind/rolebind/Decision$Reason;" (.ref ro) ∧ Fld Z h r "com/example/rolebind/rolebind/Decision" "role" "Ljava/lang/String;" (.ref xa)) [] := by
  refine Con.of (a0 := a0) pf13 (fun m => ef_abr m xa) all0 hO hEL ?_
  intro p e s m below meth c S0 hnm hsf W
  obtain ⟨h1, a1, W1, E1, g1, ⟨A1, D1, U1⟩, sf1, SF1⟩ := W.new (pc' := 3) (cells' := 1) (slots' := 3) dprog_16_2_0 (tw27 hw) (tw28 hw) (tw25 hw) rfl rfl rfl (by decide) (by decide)
  clear W
  rw [← g1] at A1 D1 U1
  have z1 : h0.size ≤ h1.size := E1.1
  replace W1 := W1.dup (pc' := 4) dprog_16_2_3 rfl rfl
  replace W1 := W1.iconst (pc' := 5) (v := (1 : Int32)) dprog_16_2_4 rfl rfl
  replace W1 := W1.gets (pc' := 8) dprog_16_2_5 (tw29 hw) O_ro rfl
  replace W1 := W1.aloadN (pc' := 9) dprog_16_2_8 rfl rfl rfl
  obtain ⟨V2, h2, a2, W2, E2, t2, SF2⟩ := W1.ldcO (pc' := 11) (n := 16) (cells' := 3) (slots' := 23) dprog_16_2_9 (tw32 hw) (hSA hw) (by decide) (by decide) rfl rfl rfl (by decide) (by decide)
  clear W1
  have z2 : h1.size ≤ h2.size := E2.1
  obtain ⟨V3, h3, r3, W3, K3, hQ3, SF3⟩ := W2.callS (pc' := 14) (argsL := [(.ref xa), (.ref a2)]) (rest := [(.ref ro), (.int (1 : Int32)), (.ref a1), (.ref a1)]) (Wd := 4) (cells' := 3) (slots' := 23) (y := (⟨"java/util/Objects", "requireNonNull", "(Ljava/lang/Object;Ljava/lang/String;)Ljava/lang/Object;"⟩ : MethodName)) dprog_16_2_11 (rnn2 l Z a0 n0 hw hEL G1 O1 P1 O_as O_hi O_lo ro O_ro xa a2 h2 W2.old) (tw33 hw) (tw34 hw) (tw35 hw) (tw36 hw) (by decide) (lenOf pd9 rfl) rfl rfl (by decide) (by decide) rfl sf0 all0 rfl rfl rfl (by decide) (by decide)
  clear W2
  obtain ⟨rfl, hs3⟩ := hQ3
  subst hs3
  replace W3 := W3.cast (st' := [(.ref xa), (.ref ro), (.int (1 : Int32)), (.ref a1), (.ref a1)]) rfl
  have e4 := ((E_xa.ext E1).ext E2)
  replace W3 := W3.castY (pc' := 17) dprog_16_2_14 (tw37 hw) (Ins.self e4) rfl
  have e5 := (A1.ext E2)
  have f6 := ((D1 (Or.inr (tw49 hw)) (ty := .boolean) (by decide) : Fld Z h1 a1 "com/example/rolebind/rolebind/Decision" "allowed" "Z" (.int (0 : Int32))).ext E2)
  have f7 := ((D1 (Or.inr (tw51 hw)) (ty := (.object "com/example/rolebind/rolebind/Decision$Reason")) (by decide) : Fld Z h1 a1 "com/example/rolebind/rolebind/Decision" "reason" "Lcom/example/rolebind/rolebind/Decision$Reason;" .null).ext E2)
  have f8 := ((D1 (Or.inr (tw53 hw)) (ty := (.object "java/lang/String")) (by decide) : Fld Z h1 a1 "com/example/rolebind/rolebind/Decision" "role" "Ljava/lang/String;" .null).ext E2)
  obtain ⟨V9, h9, r9, W9, K9, hQ9, SF9⟩ := W3.callI (pc' := 20) (argsL := [(.int (1 : Int32)), (.ref ro), (.ref xa)]) (rest := [(.ref a1)]) (Wd := 1) (cells' := 5) (slots' := 51) (a := a1) (y := (⟨"com/example/rolebind/rolebind/Decision", "<init>", "(ZLcom/example/rolebind/rolebind/Decision$Reason;Ljava/lang/String;)V"⟩ : MethodName)) dprog_16_2_17 (dec_init l Z a0 n0 hw hEL G1 O1 P1 O_as O_hi O_lo ro O_ro a1 xa h2 W3.old e5 f6 f7 f8 (Nat.le_trans W3.1.2.2.2.2.2.2.2.1 (Nat.le_of_eq g1.symm))) rfl (tw38 hw) (tw39 hw) (tw25 hw) (tw40 hw) (by decide) (lenOf pd10 rfl) rfl rfl (by decide) (by decide) rfl (sfS (W3.safeE e5 (by decide) (by decide)) sf0) (allS (Or.inr (Nat.le_of_eq g1.symm)) all0) rfl rfl rfl (by decide) (by decide)
  clear W3
  obtain ⟨rfl, q9_1, q9_2, q9_3⟩ := hQ9
  have z9 : h2.size ≤ h9.size := K9.1
  replace W9 := W9.cast (st' := [(.ref a1)]) rfl
  have e10 := (e5.keep K9)
  exact W9.aret (t := (.object "com/example/rolebind/rolebind/Decision")) dprog_16_2_20 rfl rfl rfl rfl (by decide) (by decide) (fun V' cv => ⟨a1, rfl, e10, q9_1, q9_2, q9_3⟩)
theorem ef_g_al (m : MethodId) (da : Addr) : entryFrame m #[(.ref da)] 1 = mkF m 0 #[.val (.ref da)] [] := by first | (simp [entryFrame, mkF, argsToLocals, Value.category]; done) | rfl
set_option maxRecDepth 65536 in
set_option maxHeartbeats 40000000 in
theorem g_al (l : Launch) (Z : State) (a0 : Array Value) (n0 : Nat) (hw : ∀ d ∈ tables_1, d.before a0 Z = true) (hEL : EW Z a0 consts_1) (G1 : Int32) (O1 : Sta Z Z.heap "java/lang/String" "COMPACT_STRINGS" "Z" (.int G1)) (P1 : ¬ (G1 = (0 : Int32))) (O_as : Sta Z Z.heap "java/lang/StringUTF16" "$assertionsDisabled" "Z" (.int (1 : Int32))) (O_hi : Sta Z Z.heap "java/lang/StringUTF16" "HI_BYTE_SHIFT" "I" (.int (0 : Int32))) (O_lo : Sta Z Z.heap "java/lang/StringUTF16" "LO_BYTE_SHIFT" "I" (.int (8 : Int32))) (ro : Addr) (O_ro : Sta Z Z.heap "com/example/rolebind/rolebind/Decision$Reason" "ROLE" "Lcom/example/rolebind/rolebind/Decision$Reason;" (.ref ro)) (da : Addr) (h0 : Heap) (hO : Old Z n0 h0) (F_da_allowed : Fld Z h0 da "com/example/rolebind/rolebind/Decision" "allowed" "Z" (.int (1 : Int32))) :
    Con l Z consts_1 n0 (⟨"com/example/rolebind/rolebind/Decision", "allowed", "()Z"⟩ : MethodName) prog_16_method_11_code 1 (some .boolean) ({ frames := 0, cells := 0, slots := 0, locals := 0 } : Room) #[(.ref da)] h0 [] (fun v h V' => v = some (.int (1 : Int32)) ∧ h0 = h) [] := by
  refine Con.of (a0 := a0) pf14 (fun m => ef_g_al m da) all0 hO hEL ?_
  intro p e s m below meth c S0 hnm hsf W
  replace W := W.aloadN (pc' := 1) dprog_16_11_0 rfl rfl rfl
  replace W := W.getf (pc' := 4) dprog_16_11_1 (tw48 hw) Via.refl F_da_allowed rfl
  exact W.iret (t := .boolean) dprog_16_11_4 rfl (by simp) (by decide) (by decide) (by decide) (fun V' cv => ⟨rfl, rfl⟩)
theorem ef_g_re (m : MethodId) (da : Addr) (va : Addr) : entryFrame m #[(.ref da)] 1 = mkF m 0 #[.val (.ref da)] [] := by first | (simp [entryFrame, mkF, argsToLocals, Value.category]; done) | rfl
set_option maxRecDepth 65536 in
set_option maxHeartbeats 40000000 in
theorem g_re (l : Launch) (Z : State) (a0 : Array Value) (n0 : Nat) (hw : ∀ d ∈ tables_1, d.before a0 Z = true) (hEL : EW Z a0 consts_1) (G1 : Int32) (O1 : Sta Z Z.heap "java/lang/String" "COMPACT_STRINGS" "Z" (.int G1)) (P1 : ¬ (G1 = (0 : Int32))) (O_as : Sta Z Z.heap "java/lang/StringUTF16" "$assertionsDisabled" "Z" (.int (1 : Int32))) (O_hi : Sta Z Z.heap "java/lang/StringUTF16" "HI_BYTE_SHIFT" "I" (.int (0 : Int32))) (O_lo : Sta Z Z.heap "java/lang/StringUTF16" "LO_BYTE_SHIFT" "I" (.int (8 : Int32))) (ro : Addr) (O_ro : Sta Z Z.heap "com/example/rolebind/rolebind/Decision$Reason" "ROLE" "Lcom/example/rolebind/rolebind/Decision$Reason;" (.ref ro)) (da : Addr) (va : Addr) (h0 : Heap) (hO : Old Z n0 h0) (F_da_reason : Fld Z h0 da "com/example/rolebind/rolebind/Decision" "reason" "Lcom/example/rolebind/rolebind/Decision$Reason;" (.ref va)) :
    Con l Z consts_1 n0 (⟨"com/example/rolebind/rolebind/Decision", "reason", "()Lcom/example/rolebind/rolebind/Decision$Reason;"⟩ : MethodName) prog_16_method_12_code 1 (some (.object "com/example/rolebind/rolebind/Decision$Reason")) ({ frames := 0, cells := 0, slots := 0, locals := 0 } : Room) #[(.ref da)] h0 [] (fun v h V' => v = some (.ref va) ∧ h0 = h) [] := by
  refine Con.of (a0 := a0) pf15 (fun m => ef_g_re m da va) all0 hO hEL ?_
  intro p e s m below meth c S0 hnm hsf W
  replace W := W.aloadN (pc' := 1) dprog_16_12_0 rfl rfl rfl
  replace W := W.getf (pc' := 4) dprog_16_12_1 (tw50 hw) Via.refl F_da_reason rfl
  exact W.aret (t := (.object "com/example/rolebind/rolebind/Decision$Reason")) dprog_16_12_4 rfl rfl rfl rfl (by decide) (by decide) (fun V' cv => ⟨rfl, rfl⟩)
theorem ef_g_ro (m : MethodId) (da : Addr) (va : Addr) : entryFrame m #[(.ref da)] 1 = mkF m 0 #[.val (.ref da)] [] := by first | (simp [entryFrame, mkF, argsToLocals, Value.category]; done) | rfl
set_option maxRecDepth 65536 in
set_option maxHeartbeats 40000000 in
theorem g_ro (l : Launch) (Z : State) (a0 : Array Value) (n0 : Nat) (hw : ∀ d ∈ tables_1, d.before a0 Z = true) (hEL : EW Z a0 consts_1) (G1 : Int32) (O1 : Sta Z Z.heap "java/lang/String" "COMPACT_STRINGS" "Z" (.int G1)) (P1 : ¬ (G1 = (0 : Int32))) (O_as : Sta Z Z.heap "java/lang/StringUTF16" "$assertionsDisabled" "Z" (.int (1 : Int32))) (O_hi : Sta Z Z.heap "java/lang/StringUTF16" "HI_BYTE_SHIFT" "I" (.int (0 : Int32))) (O_lo : Sta Z Z.heap "java/lang/StringUTF16" "LO_BYTE_SHIFT" "I" (.int (8 : Int32))) (ro : Addr) (O_ro : Sta Z Z.heap "com/example/rolebind/rolebind/Decision$Reason" "ROLE" "Lcom/example/rolebind/rolebind/Decision$Reason;" (.ref ro)) (da : Addr) (va : Addr) (h0 : Heap) (hO : Old Z n0 h0) (F_da_role : Fld Z h0 da "com/example/rolebind/rolebind/Decision" "role" "Ljava/lang/String;" (.ref va)) :
    Con l Z consts_1 n0 (⟨"com/example/rolebind/rolebind/Decision", "role", "()Ljava/lang/String;"⟩ : MethodName) prog_16_method_13_code 1 (some (.object "java/lang/String")) ({ frames := 0, cells := 0, slots := 0, locals := 0 } : Room) #[(.ref da)] h0 [] (fun v h V' => v = some (.ref va) ∧ h0 = h) [] := by
  refine Con.of (a0 := a0) pf16 (fun m => ef_g_ro m da va) all0 hO hEL ?_
  intro p e s m below meth c S0 hnm hsf W
  replace W := W.aloadN (pc' := 1) dprog_16_13_0 rfl rfl rfl
  replace W := W.getf (pc' := 4) dprog_16_13_1 (tw52 hw) Via.refl F_da_role rfl
  exact W.aret (t := (.object "java/lang/String")) dprog_16_13_4 rfl rfl rfl rfl (by decide) (by decide) (fun V' cv => ⟨rfl, rfl⟩)
theorem ef_eq_self (m : MethodId) (xa : Addr) : entryFrame m #[(.ref xa), (.ref xa)] 3 = mkF m 0 #[.val (.ref xa), .val (.ref xa), .unset] [] := by first | (simp [entryFrame, mkF, argsToLocals, Value.category]; done) | rfl
set_option maxRecDepth 65536 in
set_option maxHeartbeats 40000000 in
theorem eq_self (l : Launch) (Z : State) (a0 : Array Value) (n0 : Nat) (hw : ∀ d ∈ tables_1, d.before a0 Z = true) (hEL : EW Z a0 consts_1) (G1 : Int32) (O1 : Sta Z Z.heap "java/lang/String" "COMPACT_STRINGS" "Z" (.int G1)) (P1 : ¬ (G1 = (0 : Int32))) (O_as : Sta Z Z.heap "java/lang/StringUTF16" "$assertionsDisabled" "Z" (.int (1 : Int32))) (O_hi : Sta Z Z.heap "java/lang/StringUTF16" "HI_BYTE_SHIFT" "I" (.int (0 : Int32))) (O_lo : Sta Z Z.heap "java/lang/StringUTF16" "LO_BYTE_SHIFT" "I" (.int (8 : Int32))) (ro : Addr) (O_ro : Sta Z Z.heap "com/example/rolebind/rolebind/Decision$Reason" "ROLE" "Lcom/example/rolebind/rolebind/Decision$Reason;" (.ref ro)) (xa : Addr) (h0 : Heap) (hO : Old Z n0 h0)  :
    Con l Z consts_1 n0 (⟨"java/lang/String", "equals", "(Ljava/lang/Object;)Z"⟩ : MethodName) jdk_42_method_66_code 3 (some .boolean) ({ frames := 0, cells := 0, slots := 0, locals := 0 } : Room) #[(.ref xa), (.ref xa)] h0 [] (fun v h V' => v = some (.int (1 : Int32)) ∧ h0 = h) [] := by
  refine Con.of (a0 := a0) pf17 (fun m => ef_eq_self m xa) all0 hO hEL ?_
  intro p e s m below meth c S0 hnm hsf W
  replace W := W.aloadN (pc' := 1) djdk_42_66_0 rfl rfl rfl
  replace W := W.aloadN (pc' := 2) djdk_42_66_1 rfl rfl rfl
  replace W := W.acmpF (pc' := 5) djdk_42_66_2 rfl rfl (by simp [Jvm.Free.XT.acmp]) rfl
  replace W := W.iconst (pc' := 6) (v := (1 : Int32)) djdk_42_66_5 rfl rfl
  exact W.iret (t := .boolean) djdk_42_66_6 rfl (by simp) (by decide) (by decide) (by decide) (fun V' cv => ⟨rfl, rfl⟩)
theorem ef_coder_0 (m : MethodId) (xa : Addr) : entryFrame m #[(.ref xa)] 1 = mkF m 0 #[.val (.ref xa)] [] := by first | (simp [entryFrame, mkF, argsToLocals, Value.category]; done) | rfl
set_option maxRecDepth 65536 in
set_option maxHeartbeats 40000000 in
theorem coder_0 (l : Launch) (Z : State) (a0 : Array Value) (n0 : Nat) (hw : ∀ d ∈ tables_1, d.before a0 Z = true) (hEL : EW Z a0 consts_1) (G1 : Int32) (O1 : Sta Z Z.heap "java/lang/String" "COMPACT_STRINGS" "Z" (.int G1)) (P1 : ¬ (G1 = (0 : Int32))) (O_as : Sta Z Z.heap "java/lang/StringUTF16" "$assertionsDisabled" "Z" (.int (1 : Int32))) (O_hi : Sta Z Z.heap "java/lang/StringUTF16" "HI_BYTE_SHIFT" "I" (.int (0 : Int32))) (O_lo : Sta Z Z.heap "java/lang/StringUTF16" "LO_BYTE_SHIFT" "I" (.int (8 : Int32))) (ro : Addr) (O_ro : Sta Z Z.heap "com/example/rolebind/rolebind/Decision$Reason" "ROLE" "Lcom/example/rolebind/rolebind/Decision$Reason;" (.ref ro)) (xa : Addr) (h0 : Heap) (hO : Old Z n0 h0) (F_xa_coder : Fld Z h0 xa "java/lang/String" "coder" "B" (.int (0 : Int32))) :
    Con l Z consts_1 n0 (⟨"java/lang/String", "coder", "()B"⟩ : MethodName) jdk_42_method_152_code 1 (some .byte) ({ frames := 0, cells := 0, slots := 0, locals := 0 } : Room) #[(.ref xa)] h0 [] (fun v h V' => v = some (.int (0 : Int32)) ∧ h0 = h) [] := by
  refine Con.of (a0 := a0) pf18 (fun m => ef_coder_0 m xa) all0 hO hEL ?_
  intro p e s m below meth c S0 hnm hsf W
  replace W := W.gets (pc' := 3) djdk_42_152_0 (tw85 hw) O1 rfl
  replace W := W.ifF (pc' := 6) djdk_42_152_3 (feq P1).1 rfl
  replace W := W.aloadN (pc' := 7) djdk_42_152_6 rfl rfl rfl
  replace W := W.getf (pc' := 10) djdk_42_152_7 (tw22 hw) Via.refl F_xa_coder rfl
  replace W := W.goto (pc' := 14) djdk_42_152_10 (by decide) (by decide)
  exact W.iret (t := .byte) djdk_42_152_14 rfl (by simp) (by decide) (by decide) (by decide) (fun V' cv => ⟨rfl, rfl⟩)
theorem ef_coder_1 (m : MethodId) (xa : Addr) : entryFrame m #[(.ref xa)] 1 = mkF m 0 #[.val (.ref xa)] [] := by first | (simp [entryFrame, mkF, argsToLocals, Value.category]; done) | rfl
set_option maxRecDepth 65536 in
set_option maxHeartbeats 40000000 in
theorem coder_1 (l : Launch) (Z : State) (a0 : Array Value) (n0 : Nat) (hw : ∀ d ∈ tables_1, d.before a0 Z = true) (hEL : EW Z a0 consts_1) (G1 : Int32) (O1 : Sta Z Z.heap "java/lang/String" "COMPACT_STRINGS" "Z" (.int G1)) (P1 : ¬ (G1 = (0 : Int32))) (O_as : Sta Z Z.heap "java/lang/StringUTF16" "$assertionsDisabled" "Z" (.int (1 : Int32))) (O_hi : Sta Z Z.heap "java/lang/StringUTF16" "HI_BYTE_SHIFT" "I" (.int (0 : Int32))) (O_lo : Sta Z Z.heap "java/lang/StringUTF16" "LO_BYTE_SHIFT" "I" (.int (8 : Int32))) (ro : Addr) (O_ro : Sta Z Z.heap "com/example/rolebind/rolebind/Decision$Reason" "ROLE" "Lcom/example/rolebind/rolebind/Decision$Reason;" (.ref ro)) (xa : Addr) (h0 : Heap) (hO : Old Z n0 h0) (F_xa_coder : Fld Z h0 xa "java/lang/String" "coder" "B" (.int (1 : Int32))) :
    Con l Z consts_1 n0 (⟨"java/lang/String", "coder", "()B"⟩ : MethodName) jdk_42_method_152_code 1 (some .byte) ({ frames := 0, cells := 0, slots := 0, locals := 0 } : Room) #[(.ref xa)] h0 [] (fun v h V' => v = some (.int (1 : Int32)) ∧ h0 = h) [] := by
  refine Con.of (a0 := a0) pf18 (fun m => ef_coder_1 m xa) all0 hO hEL ?_
  intro p e s m below meth c S0 hnm hsf W
  replace W := W.gets (pc' := 3) djdk_42_152_0 (tw85 hw) O1 rfl
  replace W := W.ifF (pc' := 6) djdk_42_152_3 (feq P1).1 rfl
  replace W := W.aloadN (pc' := 7) djdk_42_152_6 rfl rfl rfl
  replace W := W.getf (pc' := 10) djdk_42_152_7 (tw22 hw) Via.refl F_xa_coder rfl
  replace W := W.goto (pc' := 14) djdk_42_152_10 (by decide) (by decide)
  exact W.iret (t := .byte) djdk_42_152_14 rfl (by simp) (by decide) (by decide) (by decide) (fun V' cv => ⟨rfl, rfl⟩)
theorem ef_len_0_0 (m : MethodId) (xa : Addr) (ta : Addr) (kt : ClassId) (vt : List Value) : entryFrame m #[(.ref xa)] 1 = mkF m 0 #[.val (.ref xa)] [] := by first | (simp [entryFrame, mkF, argsToLocals, Value.category]; done) | rfl
set_option maxRecDepth 65536 in
set_option maxHeartbeats 40000000 in
theorem len_0_0 (l : Launch) (Z : State) (a0 : Array Value) (n0 : Nat) (hw : ∀ d ∈ tables_1, d.before a0 Z = true) (hEL : EW Z a0 consts_1) (G1 : Int32) (O1 : Sta Z Z.heap "java/lang/String" "COMPACT_STRINGS" "Z" (.int G1)) (P1 : ¬ (G1 = (0 : Int32))) (O_as : Sta Z Z.heap "java/lang/StringUTF16" "$assertionsDisabled" "Z" (.int (1 : Int32))) (O_hi : Sta Z Z.heap "java/lang/StringUTF16" "HI_BYTE_SHIFT" "I" (.int (0 : Int32))) (O_lo : Sta Z Z.heap "java/lang/StringUTF16" "LO_BYTE_SHIFT" "I" (.int (8 : Int32))) (ro : Addr) (O_ro : Sta Z Z.heap "com/example/rolebind/rolebind/Decision$Reason" "ROLE" "Lcom/example/rolebind/rolebind/Decision$Reason;" (.ref ro)) (xa : Addr) (ta : Addr) (kt : ClassId) (vt : List Value) (h0 : Heap) (hO : Old Z n0 h0) (E_xa : Exa Z h0 xa "java/lang/String") (F_xa_coder : Fld Z h0 xa "java/lang/String" "coder" "B" (.int (0 : Int32))) (F_xa_value : Fld Z h0 xa "java/lang/String" "value" "[B" (.ref ta)) (V_ta : Arv Z h0 ta kt .byte (0 : Int32) vt (.int (0 : Int32))) :
    Con l Z consts_1 n0 (⟨"java/lang/String", "length", "()I"⟩ : MethodName) jdk_42_method_54_code 1 (some .int) ({ frames := 1, cells := 0, slots := 0, locals := 13 } : Room) #[(.ref xa)] h0 [] (fun v h V' => v = some (.int (0 : Int32)) ∧ h0 = h) [] := by
  refine Con.of (a0 := a0) pf19 (fun m => ef_len_0_0 m xa ta kt vt) all0 hO hEL ?_
  intro p e s m below meth c S0 hnm hsf W
  replace W := W.aloadN (pc' := 1) djdk_42_54_0 rfl rfl rfl
  replace W := W.getf (pc' := 4) djdk_42_54_1 (tw21 hw) Via.refl F_xa_value rfl
  replace W := W.alen (pc' := 5) djdk_42_54_4 V_ta rfl
  replace W := W.aloadN (pc' := 6) djdk_42_54_5 rfl rfl rfl
  obtain ⟨V1, h1, r1, W1, K1, hQ1, SF1⟩ := W.callV (pc' := 9) (argsL := []) (rest := [(.int (0 : Int32))]) (Wd := 1) (cells' := 0) (slots' := 0) (a := xa) (C := "java/lang/String") (y := (⟨"java/lang/String", "coder", "()B"⟩ : MethodName)) (z := (⟨"java/lang/String", "coder", "()B"⟩ : MethodName)) djdk_42_54_6 (coder_0 l Z a0 n0 hw hEL G1 O1 P1 O_as O_hi O_lo ro O_ro xa h0 W.old F_xa_coder) E_xa (tw80 hw) (tw81 hw) (Or.inl (tw83 hw)) (tw83 hw) (tw82 hw) (tw4 hw) (tw84 hw) (by decide) (lenOf pd11 rfl) rfl rfl (by decide) (by decide) rfl sf0 all0 rfl rfl rfl (by decide) (by decide)
  clear W
  obtain ⟨rfl, hs1⟩ := hQ1
  subst hs1
  replace W1 := W1.cast (st' := [(.int (0 : Int32)), (.int (0 : Int32))]) rfl
  replace W1 := W1.ishr (pc' := 10) (v := (0 : Int32)) djdk_42_54_9 (by decide) rfl
  exact W1.iret (t := .int) djdk_42_54_10 rfl (by simp) rfl (by decide) (by decide) (fun V' cv => ⟨rfl, rfl⟩)
theorem ef_len_1_0 (m : MethodId) (xa : Addr) (ta : Addr) (kt : ClassId) (vt : List Value) : entryFrame m #[(.ref xa)] 1 = mkF m 0 #[.val (.ref xa)] [] := by first | (simp [entryFrame, mkF, argsToLocals, Value.category]; done) | rfl
set_option maxRecDepth 65536 in
set_option maxHeartbeats 40000000 in
theorem len_1_0 (l : Launch) (Z : State) (a0 : Array Value) (n0 : Nat) (hw : ∀ d ∈ tables_1, d.before a0 Z = true) (hEL : EW Z a0 consts_1) (G1 : Int32) (O1 : Sta Z Z.heap "java/lang/String" "COMPACT_STRINGS" "Z" (.int G1)) (P1 : ¬ (G1 = (0 : Int32))) (O_as : Sta Z Z.heap "java/lang/StringUTF16" "$assertionsDisabled" "Z" (.int (1 : Int32))) (O_hi : Sta Z Z.heap "java/lang/StringUTF16" "HI_BYTE_SHIFT" "I" (.int (0 : Int32))) (O_lo : Sta Z Z.heap "java/lang/StringUTF16" "LO_BYTE_SHIFT" "I" (.int (8 : Int32))) (ro : Addr) (O_ro : Sta Z Z.heap "com/example/rolebind/rolebind/Decision$Reason" "ROLE" "Lcom/example/rolebind/rolebind/Decision$Reason;" (.ref ro)) (xa : Addr) (ta : Addr) (kt : ClassId) (vt : List Value) (h0 : Heap) (hO : Old Z n0 h0) (E_xa : Exa Z h0 xa "java/lang/String") (F_xa_coder : Fld Z h0 xa "java/lang/String" "coder" "B" (.int (0 : Int32))) (F_xa_value : Fld Z h0 xa "java/lang/String" "value" "[B" (.ref ta)) (V_ta : Arv Z h0 ta kt .byte (1 : Int32) vt (.int (0 : Int32))) :
    Con l Z consts_1 n0 (⟨"java/lang/String", "length", "()I"⟩ : MethodName) jdk_42_method_54_code 1 (some .int) ({ frames := 1, cells := 0, slots := 0, locals := 13 } : Room) #[(.ref xa)] h0 [] (fun v h V' => v = some (.int (1 : Int32)) ∧ h0 = h) [] := by
  refine Con.of (a0 := a0) pf19 (fun m => ef_len_1_0 m xa ta kt vt) all0 hO hEL ?_
  intro p e s m below meth c S0 hnm hsf W
  replace W := W.aloadN (pc' := 1) djdk_42_54_0 rfl rfl rfl
  replace W := W.getf (pc' := 4) djdk_42_54_1 (tw21 hw) Via.refl F_xa_value rfl
  replace W := W.alen (pc' := 5) djdk_42_54_4 V_ta rfl
  replace W := W.aloadN (pc' := 6) djdk_42_54_5 rfl rfl rfl
  obtain ⟨V1, h1, r1, W1, K1, hQ1, SF1⟩ := W.callV (pc' := 9) (argsL := []) (rest := [(.int (1 : Int32))]) (Wd := 1) (cells' := 0) (slots' := 0) (a := xa) (C := "java/lang/String") (y := (⟨"java/lang/String", "coder", "()B"⟩ : MethodName)) (z := (⟨"java/lang/String", "coder", "()B"⟩ : MethodName)) djdk_42_54_6 (coder_0 l Z a0 n0 hw hEL G1 O1 P1 O_as O_hi O_lo ro O_ro xa h0 W.old F_xa_coder) E_xa (tw80 hw) (tw81 hw) (Or.inl (tw83 hw)) (tw83 hw) (tw82 hw) (tw4 hw) (tw84 hw) (by decide) (lenOf pd11 rfl) rfl rfl (by decide) (by decide) rfl sf0 all0 rfl rfl rfl (by decide) (by decide)
  clear W
  obtain ⟨rfl, hs1⟩ := hQ1
  subst hs1
  replace W1 := W1.cast (st' := [(.int (0 : Int32)), (.int (1 : Int32))]) rfl
  replace W1 := W1.ishr (pc' := 10) (v := (1 : Int32)) djdk_42_54_9 (by decide) rfl
  exact W1.iret (t := .int) djdk_42_54_10 rfl (by simp) rfl (by decide) (by decide) (fun V' cv => ⟨rfl, rfl⟩)
theorem ef_len_1_1 (m : MethodId) (xa : Addr) (ta : Addr) (kt : ClassId) (vt : List Value) : entryFrame m #[(.ref xa)] 1 = mkF m 0 #[.val (.ref xa)] [] := by first | (simp [entryFrame, mkF, argsToLocals, Value.category]; done) | rfl
set_option maxRecDepth 65536 in
set_option maxHeartbeats 40000000 in
theorem len_1_1 (l : Launch) (Z : State) (a0 : Array Value) (n0 : Nat) (hw : ∀ d ∈ tables_1, d.before a0 Z = true) (hEL : EW Z a0 consts_1) (G1 : Int32) (O1 : Sta Z Z.heap "java/lang/String" "COMPACT_STRINGS" "Z" (.int G1)) (P1 : ¬ (G1 = (0 : Int32))) (O_as : Sta Z Z.heap "java/lang/StringUTF16" "$assertionsDisabled" "Z" (.int (1 : Int32))) (O_hi : Sta Z Z.heap "java/lang/StringUTF16" "HI_BYTE_SHIFT" "I" (.int (0 : Int32))) (O_lo : Sta Z Z.heap "java/lang/StringUTF16" "LO_BYTE_SHIFT" "I" (.int (8 : Int32))) (ro : Addr) (O_ro : Sta Z Z.heap "com/example/rolebind/rolebind/Decision$Reason" "ROLE" "Lcom/example/rolebind/rolebind/Decision$Reason;" (.ref ro)) (xa : Addr) (ta : Addr) (kt : ClassId) (vt : List Value) (h0 : Heap) (hO : Old Z n0 h0) (E_xa : Exa Z h0 xa "java/lang/String") (F_xa_coder : Fld Z h0 xa "java/lang/String" "coder" "B" (.int (1 : Int32))) (F_xa_value : Fld Z h0 xa "java/lang/String" "value" "[B" (.ref ta)) (V_ta : Arv Z h0 ta kt .byte (2 : Int32) vt (.int (0 : Int32))) :
    Con l Z consts_1 n0 (⟨"java/lang/String", "length", "()I"⟩ : MethodName) jdk_42_method_54_code 1 (some .int) ({ frames := 1, cells := 0, slots := 0, locals := 13 } : Room) #[(.ref xa)] h0 [] (fun v h V' => v = some (.int (1 : Int32)) ∧ h0 = h) [] := by
  refine Con.of (a0 := a0) pf19 (fun m => ef_len_1_1 m xa ta kt vt) all0 hO hEL ?_
  intro p e s m below meth c S0 hnm hsf W
  replace W := W.aloadN (pc' := 1) djdk_42_54_0 rfl rfl rfl
  replace W := W.getf (pc' := 4) djdk_42_54_1 (tw21 hw) Via.refl F_xa_value rfl
  replace W := W.alen (pc' := 5) djdk_42_54_4 V_ta rfl
  replace W := W.aloadN (pc' := 6) djdk_42_54_5 rfl rfl rfl
  obtain ⟨V1, h1, r1, W1, K1, hQ1, SF1⟩ := W.callV (pc' := 9) (argsL := []) (rest := [(.int (2 : Int32))]) (Wd := 1) (cells' := 0) (slots' := 0) (a := xa) (C := "java/lang/String") (y := (⟨"java/lang/String", "coder", "()B"⟩ : MethodName)) (z := (⟨"java/lang/String", "coder", "()B"⟩ : MethodName)) djdk_42_54_6 (coder_1 l Z a0 n0 hw hEL G1 O1 P1 O_as O_hi O_lo ro O_ro xa h0 W.old F_xa_coder) E_xa (tw80 hw) (tw81 hw) (Or.inl (tw83 hw)) (tw83 hw) (tw82 hw) (tw4 hw) (tw84 hw) (by decide) (lenOf pd11 rfl) rfl rfl (by decide) (by decide) rfl sf0 all0 rfl rfl rfl (by decide) (by decide)
  clear W
  obtain ⟨rfl, hs1⟩ := hQ1
  subst hs1
  replace W1 := W1.cast (st' := [(.int (1 : Int32)), (.int (2 : Int32))]) rfl
  replace W1 := W1.ishr (pc' := 10) (v := (1 : Int32)) djdk_42_54_9 (by decide) rfl
  exact W1.iret (t := .int) djdk_42_54_10 rfl (by simp) rfl (by decide) (by decide) (fun V' cv => ⟨rfl, rfl⟩)
theorem ef_len_2_0 (m : MethodId) (xa : Addr) (ta : Addr) (kt : ClassId) (vt : List Value) : entryFrame m #[(.ref xa)] 1 = mkF m 0 #[.val (.ref xa)] [] := by first | (simp [entryFrame, mkF, argsToLocals, Value.category]; done) | rfl
set_option maxRecDepth 65536 in
set_option maxHeartbeats 40000000 in
theorem len_2_0 (l : Launch) (Z : State) (a0 : Array Value) (n0 : Nat) (hw : ∀ d ∈ tables_1, d.before a0 Z = true) (hEL : EW Z a0 consts_1) (G1 : Int32) (O1 : Sta Z Z.heap "java/lang/String" "COMPACT_STRINGS" "Z" (.int G1)) (P1 : ¬ (G1 = (0 : Int32))) (O_as : Sta Z Z.heap "java/lang/StringUTF16" "$assertionsDisabled" "Z" (.int (1 : Int32))) (O_hi : Sta Z Z.heap "java/lang/StringUTF16" "HI_BYTE_SHIFT" "I" (.int (0 : Int32))) (O_lo : Sta Z Z.heap "java/lang/StringUTF16" "LO_BYTE_SHIFT" "I" (.int (8 : Int32))) (ro : Addr) (O_ro : Sta Z Z.heap "com/example/rolebind/rolebind/Decision$Reason" "ROLE" "Lcom/example/rolebind/rolebind/Decision$Reason;" (.ref ro)) (xa : Addr) (ta : Addr) (kt : ClassId) (vt : List Value) (h0 : Heap) (hO : Old Z n0 h0) (E_xa : Exa Z h0 xa "java/lang/String") (F_xa_coder : Fld Z h0 xa "java/lang/String" "coder" "B" (.int (0 : Int32))) (F_xa_value : Fld Z h0 xa "java/lang/String" "value" "[B" (.ref ta)) (V_ta : Arv Z h0 ta kt .byte (2 : Int32) vt (.int (0 : Int32))) :
    Con l Z consts_1 n0 (⟨"java/lang/String", "length", "()I"⟩ : MethodName) jdk_42_method_54_code 1 (some .int) ({ frames := 1, cells := 0, slots := 0, locals := 13 } : Room) #[(.ref xa)] h0 [] (fun v h V' => v = some (.int (2 : Int32)) ∧ h0 = h) [] := by
  refine Con.of (a0 := a0) pf19 (fun m => ef_len_2_0 m xa ta kt vt) all0 hO hEL ?_
  intro p e s m below meth c S0 hnm hsf W
  replace W := W.aloadN (pc' := 1) djdk_42_54_0 rfl rfl rfl
  replace W := W.getf (pc' := 4) djdk_42_54_1 (tw21 hw) Via.refl F_xa_value rfl
  replace W := W.alen (pc' := 5) djdk_42_54_4 V_ta rfl
  replace W := W.aloadN (pc' := 6) djdk_42_54_5 rfl rfl rfl
  obtain ⟨V1, h1, r1, W1, K1, hQ1, SF1⟩ := W.callV (pc' := 9) (argsL := []) (rest := [(.int (2 : Int32))]) (Wd := 1) (cells' := 0) (slots' := 0) (a := xa) (C := "java/lang/String") (y := (⟨"java/lang/String", "coder", "()B"⟩ : MethodName)) (z := (⟨"java/lang/String", "coder", "()B"⟩ : MethodName)) djdk_42_54_6 (coder_0 l Z a0 n0 hw hEL G1 O1 P1 O_as O_hi O_lo ro O_ro xa h0 W.old F_xa_coder) E_xa (tw80 hw) (tw81 hw) (Or.inl (tw83 hw)) (tw83 hw) (tw82 hw) (tw4 hw) (tw84 hw) (by decide) (lenOf pd11 rfl) rfl rfl (by decide) (by decide) rfl sf0 all0 rfl rfl rfl (by decide) (by decide)
  clear W
  obtain ⟨rfl, hs1⟩ := hQ1
  subst hs1
  replace W1 := W1.cast (st' := [(.int (0 : Int32)), (.int (2 : Int32))]) rfl
  replace W1 := W1.ishr (pc' := 10) (v := (2 : Int32)) djdk_42_54_9 (by decide) rfl
  exact W1.iret (t := .int) djdk_42_54_10 rfl (by simp) rfl (by decide) (by decide) (fun V' cv => ⟨rfl, rfl⟩)
theorem ef_len_2_1 (m : MethodId) (xa : Addr) (ta : Addr) (kt : ClassId) (vt : List Value) : entryFrame m #[(.ref xa)] 1 = mkF m 0 #[.val (.ref xa)] [] := by first | (simp [entryFrame, mkF, argsToLocals, Value.category]; done) | rfl
set_option maxRecDepth 65536 in
set_option maxHeartbeats 40000000 in
theorem len_2_1 (l : Launch) (Z : State) (a0 : Array Value) (n0 : Nat) (hw : ∀ d ∈ tables_1, d.before a0 Z = true) (hEL : EW Z a0 consts_1) (G1 : Int32) (O1 : Sta Z Z.heap "java/lang/String" "COMPACT_STRINGS" "Z" (.int G1)) (P1 : ¬ (G1 = (0 : Int32))) (O_as : Sta Z Z.heap "java/lang/StringUTF16" "$assertionsDisabled" "Z" (.int (1 : Int32))) (O_hi : Sta Z Z.heap "java/lang/StringUTF16" "HI_BYTE_SHIFT" "I" (.int (0 : Int32))) (O_lo : Sta Z Z.heap "java/lang/StringUTF16" "LO_BYTE_SHIFT" "I" (.int (8 : Int32))) (ro : Addr) (O_ro : Sta Z Z.heap "com/example/rolebind/rolebind/Decision$Reason" "ROLE" "Lcom/example/rolebind/rolebind/Decision$Reason;" (.ref ro)) (xa : Addr) (ta : Addr) (kt : ClassId) (vt : List Value) (h0 : Heap) (hO : Old Z n0 h0) (E_xa : Exa Z h0 xa "java/lang/String") (F_xa_coder : Fld Z h0 xa "java/lang/String" "coder" "B" (.int (1 : Int32))) (F_xa_value : Fld Z h0 xa "java/lang/String" "value" "[B" (.ref ta)) (V_ta : Arv Z h0 ta kt .byte (4 : Int32) vt (.int (0 : Int32))) :
    Con l Z consts_1 n0 (⟨"java/lang/String", "length", "()I"⟩ : MethodName) jdk_42_method_54_code 1 (some .int) ({ frames := 1, cells := 0, slots := 0, locals := 13 } : Room) #[(.ref xa)] h0 [] (fun v h V' => v = some (.int (2 : Int32)) ∧ h0 = h) [] := by
  refine Con.of (a0 := a0) pf19 (fun m => ef_len_2_1 m xa ta kt vt) all0 hO hEL ?_
  intro p e s m below meth c S0 hnm hsf W
  replace W := W.aloadN (pc' := 1) djdk_42_54_0 rfl rfl rfl
  replace W := W.getf (pc' := 4) djdk_42_54_1 (tw21 hw) Via.refl F_xa_value rfl
  replace W := W.alen (pc' := 5) djdk_42_54_4 V_ta rfl
  replace W := W.aloadN (pc' := 6) djdk_42_54_5 rfl rfl rfl
  obtain ⟨V1, h1, r1, W1, K1, hQ1, SF1⟩ := W.callV (pc' := 9) (argsL := []) (rest := [(.int (4 : Int32))]) (Wd := 1) (cells' := 0) (slots' := 0) (a := xa) (C := "java/lang/String") (y := (⟨"java/lang/String", "coder", "()B"⟩ : MethodName)) (z := (⟨"java/lang/String", "coder", "()B"⟩ : MethodName)) djdk_42_54_6 (coder_1 l Z a0 n0 hw hEL G1 O1 P1 O_as O_hi O_lo ro O_ro xa h0 W.old F_xa_coder) E_xa (tw80 hw) (tw81 hw) (Or.inl (tw83 hw)) (tw83 hw) (tw82 hw) (tw4 hw) (tw84 hw) (by decide) (lenOf pd11 rfl) rfl rfl (by decide) (by decide) rfl sf0 all0 rfl rfl rfl (by decide) (by decide)
  clear W
  obtain ⟨rfl, hs1⟩ := hQ1
  subst hs1
  replace W1 := W1.cast (st' := [(.int (1 : Int32)), (.int (4 : Int32))]) rfl
  replace W1 := W1.ishr (pc' := 10) (v := (2 : Int32)) djdk_42_54_9 (by decide) rfl
  exact W1.iret (t := .int) djdk_42_54_10 rfl (by simp) rfl (by decide) (by decide) (fun V' cv => ⟨rfl, rfl⟩)
theorem ef_len_3_0 (m : MethodId) (xa : Addr) (ta : Addr) (kt : ClassId) (vt : List Value) : entryFrame m #[(.ref xa)] 1 = mkF m 0 #[.val (.ref xa)] [] := by first | (simp [entryFrame, mkF, argsToLocals, Value.category]; done) | rfl
set_option maxRecDepth 65536 in
set_option maxHeartbeats 40000000 in
theorem len_3_0 (l : Launch) (Z : State) (a0 : Array Value) (n0 : Nat) (hw : ∀ d ∈ tables_1, d.before a0 Z = true) (hEL : EW Z a0 consts_1) (G1 : Int32) (O1 : Sta Z Z.heap "java/lang/String" "COMPACT_STRINGS" "Z" (.int G1)) (P1 : ¬ (G1 = (0 : Int32))) (O_as : Sta Z Z.heap "java/lang/StringUTF16" "$assertionsDisabled" "Z" (.int (1 : Int32))) (O_hi : Sta Z Z.heap "java/lang/StringUTF16" "HI_BYTE_SHIFT" "I" (.int (0 : Int32))) (O_lo : Sta Z Z.heap "java/lang/StringUTF16" "LO_BYTE_SHIFT" "I" (.int (8 : Int32))) (ro : Addr) (O_ro : Sta Z Z.heap "com/example/rolebind/rolebind/Decision$Reason" "ROLE" "Lcom/example/rolebind/rolebind/Decision$Reason;" (.ref ro)) (xa : Addr) (ta : Addr) (kt : ClassId) (vt : List Value) (h0 : Heap) (hO : Old Z n0 h0) (E_xa : Exa Z h0 xa "java/lang/String") (F_xa_coder : Fld Z h0 xa "java/lang/String" "coder" "B" (.int (0 : Int32))) (F_xa_value : Fld Z h0 xa "java/lang/String" "value" "[B" (.ref ta)) (V_ta : Arv Z h0 ta kt .byte (3 : Int32) vt (.int (0 : Int32))) :
    Con l Z consts_1 n0 (⟨"java/lang/String", "length", "()I"⟩ : MethodName) jdk_42_method_54_code 1 (some .int) ({ frames := 1, cells := 0, slots := 0, locals := 13 } : Room) #[(.ref xa)] h0 [] (fun v h V' => v = some (.int (3 : Int32)) ∧ h0 = h) [] := by
  refine Con.of (a0 := a0) pf19 (fun m => ef_len_3_0 m xa ta kt vt) all0 hO hEL ?_
  intro p e s m below meth c S0 hnm hsf W
  replace W := W.aloadN (pc' := 1) djdk_42_54_0 rfl rfl rfl
  replace W := W.getf (pc' := 4) djdk_42_54_1 (tw21 hw) Via.refl F_xa_value rfl
  replace W := W.alen (pc' := 5) djdk_42_54_4 V_ta rfl
  replace W := W.aloadN (pc' := 6) djdk_42_54_5 rfl rfl rfl
  obtain ⟨V1, h1, r1, W1, K1, hQ1, SF1⟩ := W.callV (pc' := 9) (argsL := []) (rest := [(.int (3 : Int32))]) (Wd := 1) (cells' := 0) (slots' := 0) (a := xa) (C := "java/lang/String") (y := (⟨"java/lang/String", "coder", "()B"⟩ : MethodName)) (z := (⟨"java/lang/String", "coder", "()B"⟩ : MethodName)) djdk_42_54_6 (coder_0 l Z a0 n0 hw hEL G1 O1 P1 O_as O_hi O_lo ro O_ro xa h0 W.old F_xa_coder) E_xa (tw80 hw) (tw81 hw) (Or.inl (tw83 hw)) (tw83 hw) (tw82 hw) (tw4 hw) (tw84 hw) (by decide) (lenOf pd11 rfl) rfl rfl (by decide) (by decide) rfl sf0 all0 rfl rfl rfl (by decide) (by decide)
  clear W
  obtain ⟨rfl, hs1⟩ := hQ1
  subst hs1
  replace W1 := W1.cast (st' := [(.int (0 : Int32)), (.int (3 : Int32))]) rfl
  replace W1 := W1.ishr (pc' := 10) (v := (3 : Int32)) djdk_42_54_9 (by decide) rfl
  exact W1.iret (t := .int) djdk_42_54_10 rfl (by simp) rfl (by decide) (by decide) (fun V' cv => ⟨rfl, rfl⟩)
theorem ef_len_3_1 (m : MethodId) (xa : Addr) (ta : Addr) (kt : ClassId) (vt : List Value) : entryFrame m #[(.ref xa)] 1 = mkF m 0 #[.val (.ref xa)] [] := by first | (simp [entryFrame, mkF, argsToLocals, Value.category]; done) | rfl
set_option maxRecDepth 65536 in
set_option maxHeartbeats 40000000 in
theorem len_3_1 (l : Launch) (Z : State) (a0 : Array Value) (n0 : Nat) (hw : ∀ d ∈ tables_1, d.before a0 Z = true) (hEL : EW Z a0 consts_1) (G1 : Int32) (O1 : Sta Z Z.heap "java/lang/String" "COMPACT_STRINGS" "Z" (.int G1)) (P1 : ¬ (G1 = (0 : Int32))) (O_as : Sta Z Z.heap "java/lang/StringUTF16" "$assertionsDisabled" "Z" (.int (1 : Int32))) (O_hi : Sta Z Z.heap "java/lang/StringUTF16" "HI_BYTE_SHIFT" "I" (.int (0 : Int32))) (O_lo : Sta Z Z.heap "java/lang/StringUTF16" "LO_BYTE_SHIFT" "I" (.int (8 : Int32))) (ro : Addr) (O_ro : Sta Z Z.heap "com/example/rolebind/rolebind/Decision$Reason" "ROLE" "Lcom/example/rolebind/rolebind/Decision$Reason;" (.ref ro)) (xa : Addr) (ta : Addr) (kt : ClassId) (vt : List Value) (h0 : Heap) (hO : Old Z n0 h0) (E_xa : Exa Z h0 xa "java/lang/String") (F_xa_coder : Fld Z h0 xa "java/lang/String" "coder" "B" (.int (1 : Int32))) (F_xa_value : Fld Z h0 xa "java/lang/String" "value" "[B" (.ref ta)) (V_ta : Arv Z h0 ta kt .byte (6 : Int32) vt (.int (0 : Int32))) :
    Con l Z consts_1 n0 (⟨"java/lang/String", "length", "()I"⟩ : MethodName) jdk_42_method_54_code 1 (some .int) ({ frames := 1, cells := 0, slots := 0, locals := 13 } : Room) #[(.ref xa)] h0 [] (fun v h V' => v = some (.int (3 : Int32)) ∧ h0 = h) [] := by
  refine Con.of (a0 := a0) pf19 (fun m => ef_len_3_1 m xa ta kt vt) all0 hO hEL ?_
  intro p e s m below meth c S0 hnm hsf W
  replace W := W.aloadN (pc' := 1) djdk_42_54_0 rfl rfl rfl
  replace W := W.getf (pc' := 4) djdk_42_54_1 (tw21 hw) Via.refl F_xa_value rfl
  replace W := W.alen (pc' := 5) djdk_42_54_4 V_ta rfl
  replace W := W.aloadN (pc' := 6) djdk_42_54_5 rfl rfl rfl
  obtain ⟨V1, h1, r1, W1, K1, hQ1, SF1⟩ := W.callV (pc' := 9) (argsL := []) (rest := [(.int (6 : Int32))]) (Wd := 1) (cells' := 0) (slots' := 0) (a := xa) (C := "java/lang/String") (y := (⟨"java/lang/String", "coder", "()B"⟩ : MethodName)) (z := (⟨"java/lang/String", "coder", "()B"⟩ : MethodName)) djdk_42_54_6 (coder_1 l Z a0 n0 hw hEL G1 O1 P1 O_as O_hi O_lo ro O_ro xa h0 W.old F_xa_coder) E_xa (tw80 hw) (tw81 hw) (Or.inl (tw83 hw)) (tw83 hw) (tw82 hw) (tw4 hw) (tw84 hw) (by decide) (lenOf pd11 rfl) rfl rfl (by decide) (by decide) rfl sf0 all0 rfl rfl rfl (by decide) (by decide)
  clear W
  obtain ⟨rfl, hs1⟩ := hQ1
  subst hs1
  replace W1 := W1.cast (st' := [(.int (1 : Int32)), (.int (6 : Int32))]) rfl
  replace W1 := W1.ishr (pc' := 10) (v := (3 : Int32)) djdk_42_54_9 (by decide) rfl
  exact W1.iret (t := .int) djdk_42_54_10 rfl (by simp) rfl (by decide) (by decide) (fun V' cv => ⟨rfl, rfl⟩)
theorem ef_law_c (m : MethodId) (p0 : Int32) (p1 : Int32) (p2 : Int32) (p3 : Int32) : entryFrame m #[(.int p0), (.int p1), (.int p2), (.int p3)] maxLocals = mkF m 0 #[.val (.int p0), .val (.int p1), .val (.int p2), .val (.int p3), .unset, .unset, .unset, .unset, .unset, .unset, .unset, .unset] [] := by first | (simp [entryFrame, mkF, argsToLocals, Value.category, maxLocals]; done) | rfl
set_option maxRecDepth 65536 in
set_option maxHeartbeats 40000000 in
theorem law_c (l : Launch) (Z : State) (a0 : Array Value) (n0 : Nat) (hw : ∀ d ∈ tables_1, d.before a0 Z = true) (hEL : EW Z a0 consts_1) (G1 : Int32) (O1 : Sta Z Z.heap "java/lang/String" "COMPACT_STRINGS" "Z" (.int G1)) (P1 : ¬ (G1 = (0 : Int32))) (O_as : Sta Z Z.heap "java/lang/StringUTF16" "$assertionsDisabled" "Z" (.int (1 : Int32))) (O_hi : Sta Z Z.heap "java/lang/StringUTF16" "HI_BYTE_SHIFT" "I" (.int (0 : Int32))) (O_lo : Sta Z Z.heap "java/lang/StringUTF16" "LO_BYTE_SHIFT" "I" (.int (8 : Int32))) (ro : Addr) (O_ro : Sta Z Z.heap "com/example/rolebind/rolebind/Decision$Reason" "ROLE" "Lcom/example/rolebind/rolebind/Decision$Reason;" (.ref ro)) (p0 : Int32) (p1 : Int32) (p2 : Int32) (p3 : Int32) (h0 : Heap) (hO : Old Z n0 h0)  (wds : List Jvm.Cond) :
    Con l Z consts_1 n0 x code maxLocals ret room_1 #[(.int p0), (.int p1), (.int p2), (.int p3)] h0 [] (fun v h V' => v = some (.int (1 : Int32))) wds := by
  refine Con.of (a0 := a0) pf20 (fun m => ef_law_c m p0 p1 p2 p3) all0 hO hEL ?_
  intro p e s m below meth c S0 hnm hsf W
  replace W := W.iloadN (pc' := 1) at_0 rfl rfl
  replace W := W.iconst (pc' := 2) (v := (3 : Int32)) at_1 rfl rfl
  obtain ⟨nn, hnn⟩ : ∃ z, (p0 &&& (3 : Int32)) = z := ⟨_, rfl⟩
  replace W := W.iand (pc' := 3) (v := nn) at_2 hnn rfl
  rcases own_and3 hnn with rfl | rfl | rfl | rfl
  · replace W := W.istore (pc' := 5) (L' := #[.val (.int p0), .val (.int p1), .val (.int p2), .val (.int p3), .val (.int (0 : Int32)), .unset, .unset, .unset, .unset, .unset, .unset, .unset]) at_3 rfl rfl
    replace W := W.iloadN (pc' := 6) at_5 rfl rfl
    replace W := W.ldcI (pc' := 8) at_6 (tw0 hw) rfl
    replace W := W.iand (pc' := 9) (v := (p1 &&& (65535 : Int32))) at_8 rfl rfl
    replace W := W.i2c (pc' := 10) (v := (p1 &&& (65535 : Int32))) at_9 (own_i2c (own_and65535 _)) rfl
    replace W := W.istore (pc' := 12) (L' := #[.val (.int p0), .val (.int p1), .val (.int p2), .val (.int p3), .val (.int (0 : Int32)), .val (.int (p1 &&& (65535 : Int32))), .unset, .unset, .unset, .unset, .unset, .unset]) at_10 rfl rfl
    replace W := W.iloadN (pc' := 13) at_12 rfl rfl
    replace W := W.ldcI (pc' := 15) at_13 (tw0 hw) rfl
    replace W := W.iand (pc' := 16) (v := (p2 &&& (65535 : Int32))) at_15 rfl rfl
    replace W := W.i2c (pc' := 17) (v := (p2 &&& (65535 : Int32))) at_16 (own_i2c (own_and65535 _)) rfl
    replace W := W.istore (pc' := 19) (L' := #[.val (.int p0), .val (.int p1), .val (.int p2), .val (.int p3), .val (.int (0 : Int32)), .val (.int (p1 &&& (65535 : Int32))), .val (.int (p2 &&& (65535 : Int32))), .unset, .unset, .unset, .unset, .unset]) at_17 rfl rfl
    replace W := W.iloadN (pc' := 20) at_19 rfl rfl
    replace W := W.ldcI (pc' := 22) at_20 (tw0 hw) rfl
    replace W := W.iand (pc' := 23) (v := (p3 &&& (65535 : Int32))) at_22 rfl rfl
    replace W := W.i2c (pc' := 24) (v := (p3 &&& (65535 : Int32))) at_23 (own_i2c (own_and65535 _)) rfl
    replace W := W.istore (pc' := 26) (L' := #[.val (.int p0), .val (.int p1), .val (.int p2), .val (.int p3), .val (.int (0 : Int32)), .val (.int (p1 &&& (65535 : Int32))), .val (.int (p2 &&& (65535 : Int32))), .val (.int (p3 &&& (65535 : Int32))), .unset, .unset, .unset, .unset]) at_24 rfl rfl
    replace W := W.iload (pc' := 28) at_26 rfl rfl
    replace W := W.ifF (pc' := 31) at_28 (teq (by decide : (0 : Int32) = (0 : Int32))).2 rfl
    replace W := W.iconst (pc' := 32) (v := (0 : Int32)) at_31 rfl rfl
    obtain ⟨h1, a1, W1, E1, g1, ⟨k1, A1⟩, sf1, SF1⟩ := W.newarr (pc' := 34) (cap := 0) (cells' := 1) (slots' := 0) at_32 (tw1 hw) (by decide) (by decide) (by decide) rfl rfl rfl (by decide) (by decide)
    clear W
    rw [← g1] at A1
    have z1 : h0.size ≤ h1.size := E1.1
    have v1 : Arv Z h1 a1 k1 .char (0 : Int32) [] (.int (0 : Int32)) := A1.pad (pad_rep [] (.int (0 : Int32)) 0)
    replace W1 := W1.astore (pc' := 36) (L' := #[.val (.int p0), .val (.int p1), .val (.int p2), .val (.int p3), .val (.int (0 : Int32)), .val (.int (p1 &&& (65535 : Int32))), .val (.int (p2 &&& (65535 : Int32))), .val (.int (p3 &&& (65535 : Int32))), .val (.ref a1), .unset, .unset, .unset]) at_34 rfl rfl rfl
    replace W1 := W1.goto (pc' := 102) at_36 (by decide) (by decide)
    obtain ⟨h2, a2, W2, E2, g2, ⟨A2, D2, U2⟩, sf2, SF2⟩ := W1.new (pc' := 105) (cells' := 2) (slots' := 4) at_102 (tw2 hw) (tw3 hw) (tw4 hw) rfl rfl rfl (by decide) (by decide)
    clear W1
    rw [← g2] at A2 D2 U2
    have z2 : h1.size ≤ h2.size := E2.1
    replace W2 := W2.dup (pc' := 106) at_105 rfl rfl
    replace W2 := W2.aload (pc' := 108) at_106 rfl rfl rfl
    have v3 := (v1.ext E2)
    obtain ⟨V4, h4, r4, W4, K4, hQ4, SF4⟩ := W2.callI (pc' := 111) (argsL := [(.ref a1)]) (rest := [(.ref a2)]) (Wd := 1) (cells' := 4) (slots' := 8) (a := a2) (y := (⟨"java/lang/String", "<init>", "([C)V"⟩ : MethodName)) at_108 (new1_0 l Z a0 n0 hw hEL G1 O1 P1 O_as O_hi O_lo ro O_ro a2 a1 k1 h2 W2.old A2 (D2 (Or.inr (tw17 hw)) (ty := (.array .byte)) (by decide) : Fld Z h2 a2 "java/lang/String" "value" "[B" .null) (D2 (Or.inr (tw18 hw)) (ty := .byte) (by decide) : Fld Z h2 a2 "java/lang/String" "coder" "B" (.int (0 : Int32))) v3 (Nat.le_trans W2.1.2.2.2.2.2.2.2.1 (Nat.le_trans z1 (Nat.le_of_eq g2.symm)))) rfl (tw5 hw) (tw6 hw) (tw4 hw) (tw7 hw) (by decide) (lenOf pd12 rfl) rfl rfl (by decide) (by decide) rfl (sfS sf2 sf0) (allS (Or.inr (Nat.le_trans z1 (Nat.le_of_eq g2.symm))) all0) rfl rfl rfl (by decide) (by decide)
    clear W2
    obtain ⟨t4, kt4, rfl, q4_1, q4_2, q4_3, q4_4⟩ := hQ4
    have z4 : h2.size ≤ h4.size := K4.1
    replace W4 := W4.cast (st' := [(.ref a2)]) rfl
    replace W4 := W4.astore (pc' := 113) (L' := #[.val (.int p0), .val (.int p1), .val (.int p2), .val (.int p3), .val (.int (0 : Int32)), .val (.int (p1 &&& (65535 : Int32))), .val (.int (p2 &&& (65535 : Int32))), .val (.int (p3 &&& (65535 : Int32))), .val (.ref a1), .val (.ref a2), .unset, .unset]) at_111 rfl rfl rfl
    replace W4 := W4.aload (pc' := 115) at_113 rfl rfl rfl
    obtain ⟨V5, h5, r5, W5, K5, hQ5, SF5⟩ := W4.callS (pc' := 118) (argsL := [(.ref a2)]) (rest := []) (Wd := 0) (cells' := 9) (slots' := 59) (y := (⟨"com/example/rolebind/rolebind/Decision", "allowedByRole", "(Ljava/lang/String;)Lcom/example/rolebind/rolebind/Decision;"⟩ : MethodName)) at_115 (abr l Z a0 n0 hw hEL G1 O1 P1 O_as O_hi O_lo ro O_ro a2 h4 W4.old q4_1) (tw23 hw) (tw24 hw) (tw25 hw) (tw26 hw) (by decide) (lenOf pd13 rfl) rfl rfl (by decide) (by decide) rfl sf0 all0 rfl rfl rfl (by decide) (by decide)
    clear W4
    obtain ⟨r5, rfl, q5_1, q5_2, q5_3, q5_4⟩ := hQ5
    have z5 : h4.size ≤ h5.size := K5.1
    replace W5 := W5.cast (st' := [(.ref r5)]) rfl
    replace W5 := W5.astore (pc' := 120) (L' := #[.val (.int p0), .val (.int p1), .val (.int p2), .val (.int p3), .val (.int (0 : Int32)), .val (.int (p1 &&& (65535 : Int32))), .val (.int (p2 &&& (65535 : Int32))), .val (.int (p3 &&& (65535 : Int32))), .val (.ref a1), .val (.ref a2), .val (.ref r5), .unset]) at_118 rfl rfl rfl
    replace W5 := W5.aload (pc' := 122) at_120 rfl rfl rfl
    obtain ⟨V6, h6, r6, W6, K6, hQ6, SF6⟩ := W5.callV (pc' := 125) (argsL := []) (rest := []) (Wd := 0) (cells' := 9) (slots' := 59) (a := r5) (C := "com/example/rolebind/rolebind/Decision") (y := (⟨"com/example/rolebind/rolebind/Decision", "allowed", "()Z"⟩ : MethodName)) (z := (⟨"com/example/rolebind/rolebind/Decision", "allowed", "()Z"⟩ : MethodName)) at_122 (g_al l Z a0 n0 hw hEL G1 O1 P1 O_as O_hi O_lo ro O_ro r5 h5 W5.old q5_2) q5_1 (tw54 hw) (tw55 hw) (Or.inl (tw57 hw)) (tw57 hw) (tw56 hw) (tw25 hw) (tw58 hw) (by decide) (lenOf pd14 rfl) rfl rfl (by decide) (by decide) rfl sf0 all0 rfl rfl rfl (by decide) (by decide)
    clear W5
    obtain ⟨rfl, hs6⟩ := hQ6
    subst hs6
    have sf7 := (SF5 a2 q4_1.lt (SF4 a2 A2.lt sf2))
    have sf8 := SF6 a2 (Nat.lt_of_lt_of_le q4_1.lt z5) sf7
    replace W6 := W6.cast (st' := [(.int (1 : Int32))]) rfl
    replace W6 := W6.ifT (pc' := 130) at_125 (feq (by decide : ¬ ((1 : Int32) = (0 : Int32)))).2 (by decide) (by decide)
    replace W6 := W6.aload (pc' := 132) at_130 rfl rfl rfl
    obtain ⟨V9, h9, r9, W9, K9, hQ9, SF9⟩ := W6.callV (pc' := 135) (argsL := []) (rest := []) (Wd := 0) (cells' := 9) (slots' := 59) (a := r5) (C := "com/example/rolebind/rolebind/Decision") (y := (⟨"com/example/rolebind/rolebind/Decision", "reason", "()Lcom/example/rolebind/rolebind/Decision$Reason;"⟩ : MethodName)) (z := (⟨"com/example/rolebind/rolebind/Decision", "reason", "()Lcom/example/rolebind/rolebind/Decision$Reason;"⟩ : MethodName)) at_132 (g_re l Z a0 n0 hw hEL G1 O1 P1 O_as O_hi O_lo ro O_ro r5 ro h5 W6.old q5_3) q5_1 (tw59 hw) (tw60 hw) (Or.inl (tw62 hw)) (tw62 hw) (tw61 hw) (tw25 hw) (tw63 hw) (by decide) (lenOf pd15 rfl) rfl rfl (by decide) (by decide) rfl sf0 all0 rfl rfl rfl (by decide) (by decide)
    clear W6
    obtain ⟨rfl, hs9⟩ := hQ9
    subst hs9
    have sf10 := SF9 a2 (Nat.lt_of_lt_of_le q4_1.lt z5) sf8
    replace W9 := W9.cast (st' := [(.ref ro)]) rfl
    replace W9 := W9.gets (pc' := 138) at_135 (tw64 hw) O_ro rfl
    replace W9 := W9.acmpT (pc' := 143) at_138 rfl rfl (by simp [Jvm.Free.XT.acmp]) (by decide) (by decide)
    replace W9 := W9.aload (pc' := 145) at_143 rfl rfl rfl
    obtain ⟨V11, h11, r11, W11, K11, hQ11, SF11⟩ := W9.callV (pc' := 148) (argsL := []) (rest := []) (Wd := 0) (cells' := 9) (slots' := 59) (a := r5) (C := "com/example/rolebind/rolebind/Decision") (y := (⟨"com/example/rolebind/rolebind/Decision", "role", "()Ljava/lang/String;"⟩ : MethodName)) (z := (⟨"com/example/rolebind/rolebind/Decision", "role", "()Ljava/lang/String;"⟩ : MethodName)) at_145 (g_ro l Z a0 n0 hw hEL G1 O1 P1 O_as O_hi O_lo ro O_ro r5 a2 h5 W9.old q5_4) q5_1 (tw65 hw) (tw66 hw) (Or.inl (tw68 hw)) (tw68 hw) (tw67 hw) (tw25 hw) (tw69 hw) (by decide) (lenOf pd16 rfl) rfl rfl (by decide) (by decide) rfl sf0 all0 rfl rfl rfl (by decide) (by decide)
    clear W9
    obtain ⟨rfl, hs11⟩ := hQ11
    subst hs11
    have sf12 := SF11 a2 (Nat.lt_of_lt_of_le q4_1.lt z5) sf10
    replace W11 := W11.cast (st' := [(.ref a2)]) rfl
    replace W11 := W11.astore (pc' := 150) (L' := #[.val (.int p0), .val (.int p1), .val (.int p2), .val (.int p3), .val (.int (0 : Int32)), .val (.int (p1 &&& (65535 : Int32))), .val (.int (p2 &&& (65535 : Int32))), .val (.int (p3 &&& (65535 : Int32))), .val (.ref a1), .val (.ref a2), .val (.ref r5), .val (.ref a2)]) at_148 rfl rfl rfl
    replace W11 := W11.aload (pc' := 152) at_150 rfl rfl rfl
    replace W11 := W11.ifnonnullT (pc' := 157) at_152 (by decide) (by decide)
    replace W11 := W11.aload (pc' := 159) at_157 rfl rfl rfl
    replace W11 := W11.aload (pc' := 161) at_159 rfl rfl rfl
    have e14 := (q4_1.keep K5)
    obtain ⟨V13, h13, r13, W13, K13, hQ13, SF13⟩ := W11.callV (pc' := 164) (argsL := [(.ref a2)]) (rest := []) (Wd := 0) (cells' := 9) (slots' := 59) (a := a2) (C := "java/lang/String") (y := (⟨"java/lang/String", "equals", "(Ljava/lang/Object;)Z"⟩ : MethodName)) (z := (⟨"java/lang/String", "equals", "(Ljava/lang/Object;)Z"⟩ : MethodName)) at_161 (eq_self l Z a0 n0 hw hEL G1 O1 P1 O_as O_hi O_lo ro O_ro a2 h5 W11.old) e14 (tw70 hw) (tw71 hw) (Or.inl (tw73 hw)) (tw73 hw) (tw72 hw) (tw4 hw) (tw74 hw) (by decide) (lenOf pd17 rfl) rfl rfl (by decide) (by decide) rfl sf0 all0 rfl rfl rfl (by decide) (by decide)
    clear W11
    obtain ⟨rfl, hs13⟩ := hQ13
    subst hs13
    have sf15 := SF13 a2 (Nat.lt_of_lt_of_le q4_1.lt z5) sf12
    replace W13 := W13.cast (st' := [(.int (1 : Int32))]) rfl
    replace W13 := W13.ifF (pc' := 167) at_164 (feq (by decide : ¬ ((1 : Int32) = (0 : Int32)))).1 rfl
    replace W13 := W13.aload (pc' := 169) at_167 rfl rfl rfl
    have f16 := (q4_2.keep K5 nin0)
    have f17 := (q4_3.keep K5 nin0)
    have v18 := (q4_4.keep K5 nin0)
    obtain ⟨V19, h19, r19, W19, K19, hQ19, SF19⟩ := W13.callV (pc' := 172) (argsL := []) (rest := []) (Wd := 0) (cells' := 9) (slots' := 59) (a := a2) (C := "java/lang/String") (y := (⟨"java/lang/String", "length", "()I"⟩ : MethodName)) (z := (⟨"java/lang/String", "length", "()I"⟩ : MethodName)) at_169 (len_0_0 l Z a0 n0 hw hEL G1 O1 P1 O_as O_hi O_lo ro O_ro a2 t4 kt4 ([]) h5 W13.old e14 f16 f17 v18) e14 (tw75 hw) (tw76 hw) (Or.inl (tw78 hw)) (tw78 hw) (tw77 hw) (tw4 hw) (tw79 hw) (by decide) (lenOf pd18 rfl) rfl rfl (by decide) (by decide) rfl sf0 all0 rfl rfl rfl (by decide) (by decide)
    clear W13
    obtain ⟨rfl, hs19⟩ := hQ19
    subst hs19
    have sf20 := SF19 a2 (Nat.lt_of_lt_of_le q4_1.lt z5) sf15
    replace W19 := W19.cast (st' := [(.int (0 : Int32))]) rfl
    replace W19 := W19.iload (pc' := 174) at_172 rfl rfl
    replace W19 := W19.icmpF (pc' := 177) at_174 (teq (by decide : (0 : Int32) = (0 : Int32))).2 rfl
    replace W19 := W19.iconst (pc' := 178) (v := (1 : Int32)) at_177 rfl rfl
    replace W19 := W19.goto (pc' := 182) at_178 (by decide) (by decide)
    exact W19.iret (t := .boolean) at_182 rfl (by simp) (by decide) (by decide) (by decide) (fun V' cv => rfl)
  · replace W := W.istore (pc' := 5) (L' := #[.val (.int p0), .val (.int p1), .val (.int p2), .val (.int p3), .val (.int (1 : Int32)), .unset, .unset, .unset, .unset, .unset, .unset, .unset]) at_3 rfl rfl
    replace W := W.iloadN (pc' := 6) at_5 rfl rfl
    replace W := W.ldcI (pc' := 8) at_6 (tw0 hw) rfl
    replace W := W.iand (pc' := 9) (v := (p1 &&& (65535 : Int32))) at_8 rfl rfl
    replace W := W.i2c (pc' := 10) (v := (p1 &&& (65535 : Int32))) at_9 (own_i2c (own_and65535 _)) rfl
    replace W := W.istore (pc' := 12) (L' := #[.val (.int p0), .val (.int p1), .val (.int p2), .val (.int p3), .val (.int (1 : Int32)), .val (.int (p1 &&& (65535 : Int32))), .unset, .unset, .unset, .unset, .unset, .unset]) at_10 rfl rfl
    replace W := W.iloadN (pc' := 13) at_12 rfl rfl
    replace W := W.ldcI (pc' := 15) at_13 (tw0 hw) rfl
    replace W := W.iand (pc' := 16) (v := (p2 &&& (65535 : Int32))) at_15 rfl rfl
    replace W := W.i2c (pc' := 17) (v := (p2 &&& (65535 : Int32))) at_16 (own_i2c (own_and65535 _)) rfl
    replace W := W.istore (pc' := 19) (L' := #[.val (.int p0), .val (.int p1), .val (.int p2), .val (.int p3), .val (.int (1 : Int32)), .val (.int (p1 &&& (65535 : Int32))), .val (.int (p2 &&& (65535 : Int32))), .unset, .unset, .unset, .unset, .unset]) at_17 rfl rfl
    replace W := W.iloadN (pc' := 20) at_19 rfl rfl
    replace W := W.ldcI (pc' := 22) at_20 (tw0 hw) rfl
    replace W := W.iand (pc' := 23) (v := (p3 &&& (65535 : Int32))) at_22 rfl rfl
    replace W := W.i2c (pc' := 24) (v := (p3 &&& (65535 : Int32))) at_23 (own_i2c (own_and65535 _)) rfl
    replace W := W.istore (pc' := 26) (L' := #[.val (.int p0), .val (.int p1), .val (.int p2), .val (.int p3), .val (.int (1 : Int32)), .val (.int (p1 &&& (65535 : Int32))), .val (.int (p2 &&& (65535 : Int32))), .val (.int (p3 &&& (65535 : Int32))), .unset, .unset, .unset, .unset]) at_24 rfl rfl
    replace W := W.iload (pc' := 28) at_26 rfl rfl
    replace W := W.ifT (pc' := 39) at_28 (feq (by decide : ¬ ((1 : Int32) = (0 : Int32)))).2 (by decide) (by decide)
    replace W := W.iload (pc' := 41) at_39 rfl rfl
    replace W := W.iconst (pc' := 42) (v := (1 : Int32)) at_41 rfl rfl
    replace W := W.icmpF (pc' := 45) at_42 (teq (by decide : (1 : Int32) = (1 : Int32))).2 rfl
    replace W := W.iconst (pc' := 46) (v := (1 : Int32)) at_45 rfl rfl
    obtain ⟨h21, a21, W21, E21, g21, ⟨k21, A21⟩, sf21, SF21⟩ := W.newarr (pc' := 48) (cap := 1) (cells' := 1) (slots' := 1) at_46 (tw1 hw) (by decide) (by decide) (by decide) rfl rfl rfl (by decide) (by decide)
    clear W
    rw [← g21] at A21
    have z21 : h0.size ≤ h21.size := E21.1
    have v21 : Arv Z h21 a21 k21 .char (1 : Int32) [(.int (0 : Int32))] (.int (0 : Int32)) := A21.pad (pad_rep [] (.int (0 : Int32)) 1)
    replace W21 := W21.dup (pc' := 49) at_48 rfl rfl
    replace W21 := W21.iconst (pc' := 50) (v := (0 : Int32)) at_49 rfl rfl
    replace W21 := W21.iload (pc' := 52) at_50 rfl rfl
    obtain ⟨h22, W22, w22, A22, SF22⟩ := W21.castore (pc' := 53) (i := 0) (x' := (p1 &&& (65535 : Int32))) at_52 v21 ⟨by decide, by decide⟩ rfl (by show 0 < 1; decide) (own_narc (own_and65535 _)) (W21.safeA v21 (by decide)) (Or.inr (Nat.le_of_eq g21.symm)) rfl
    clear W21
    have z22 : h21.size ≤ h22.size := Nat.le_of_eq w22.size.symm
    have v22 : Arv Z h22 a21 k21 .char (1 : Int32) [(.int (p1 &&& (65535 : Int32)))] (.int (0 : Int32)) := A22
    replace W22 := W22.astore (pc' := 55) (L' := #[.val (.int p0), .val (.int p1), .val (.int p2), .val (.int p3), .val (.int (1 : Int32)), .val (.int (p1 &&& (65535 : Int32))), .val (.int (p2 &&& (65535 : Int32))), .val (.int (p3 &&& (65535 : Int32))), .val (.ref a21), .unset, .unset, .unset]) at_53 rfl rfl rfl
    replace W22 := W22.goto (pc' := 102) at_55 (by decide) (by decide)
    obtain ⟨h23, a23, W23, E23, g23, ⟨A23, D23, U23⟩, sf23, SF23⟩ := W22.new (pc' := 105) (cells' := 2) (slots' := 5) at_102 (tw2 hw) (tw3 hw) (tw4 hw) rfl rfl rfl (by decide) (by decide)
    clear W22
    rw [← g23] at A23 D23 U23
    have z23 : h22.size ≤ h23.size := E23.1
    replace W23 := W23.dup (pc' := 106) at_105 rfl rfl
    replace W23 := W23.aload (pc' := 108) at_106 rfl rfl rfl
    by_cases hc24 : (255 : Int32) < (p1 &&& (65535 : Int32))
    · have v25 := (v22.ext E23)
      obtain ⟨V26, h26, r26, W26, K26, hQ26, SF26⟩ := W23.callI (pc' := 111) (argsL := [(.ref a21)]) (rest := [(.ref a23)]) (Wd := 1) (cells' := 4) (slots' := 8) (a := a23) (y := (⟨"java/lang/String", "<init>", "([C)V"⟩ : MethodName)) at_108 (new1_1w0 l Z a0 n0 hw hEL G1 O1 P1 O_as O_hi O_lo ro O_ro a23 a21 k21 (p1 &&& (65535 : Int32)) h23 W23.old A23 (D23 (Or.inr (tw17 hw)) (ty := (.array .byte)) (by decide) : Fld Z h23 a23 "java/lang/String" "value" "[B" .null) (D23 (Or.inr (tw18 hw)) (ty := .byte) (by decide) : Fld Z h23 a23 "java/lang/String" "coder" "B" (.int (0 : Int32))) v25 (own_and65535 _) hc24 (Nat.le_trans W23.1.2.2.2.2.2.2.2.1 (Nat.le_trans (Nat.le_trans z21 z22) (Nat.le_of_eq g23.symm)))) rfl (tw5 hw) (tw6 hw) (tw4 hw) (tw7 hw) (by decide) (lenOf pd12 rfl) rfl rfl (by decide) (by decide) rfl (sfS sf23 sf0) (allS (Or.inr (Nat.le_trans (Nat.le_trans z21 z22) (Nat.le_of_eq g23.symm))) all0) rfl rfl rfl (by decide) (by decide)
      clear W23
      obtain ⟨t26, kt26, rfl, q26_1, q26_2, q26_3, q26_4⟩ := hQ26
      have z26 : h23.size ≤ h26.size := K26.1
      replace W26 := W26.cast (st' := [(.ref a23)]) rfl
      replace W26 := W26.astore (pc' := 113) (L' := #[.val (.int p0), .val (.int p1), .val (.int p2), .val (.int p3), .val (.int (1 : Int32)), .val (.int (p1 &&& (65535 : Int32))), .val (.int (p2 &&& (65535 : Int32))), .val (.int (p3 &&& (65535 : Int32))), .val (.ref a21), .val (.ref a23), .unset, .unset]) at_111 rfl rfl rfl
      replace W26 := W26.aload (pc' := 115) at_113 rfl rfl rfl
      obtain ⟨V27, h27, r27, W27, K27, hQ27, SF27⟩ := W26.callS (pc' := 118) (argsL := [(.ref a23)]) (rest := []) (Wd := 0) (cells' := 9) (slots' := 59) (y := (⟨"com/example/rolebind/rolebind/Decision", "allowedByRole", "(Ljava/lang/String;)Lcom/example/rolebind/rolebind/Decision;"⟩ : MethodName)) at_115 (abr l Z a0 n0 hw hEL G1 O1 P1 O_as O_hi O_lo ro O_ro a23 h26 W26.old q26_1) (tw23 hw) (tw24 hw) (tw25 hw) (tw26 hw) (by decide) (lenOf pd13 rfl) rfl rfl (by decide) (by decide) rfl sf0 all0 rfl rfl rfl (by decide) (by decide)
      clear W26
      obtain ⟨r27, rfl, q27_1, q27_2, q27_3, q27_4⟩ := hQ27
      have z27 : h26.size ≤ h27.size := K27.1
      replace W27 := W27.cast (st' := [(.ref r27)]) rfl
      replace W27 := W27.astore (pc' := 120) (L' := #[.val (.int p0), .val (.int p1), .val (.int p2), .val (.int p3), .val (.int (1 : Int32)), .val (.int (p1 &&& (65535 : Int32))), .val (.int (p2 &&& (65535 : Int32))), .val (.int (p3 &&& (65535 : Int32))), .val (.ref a21), .val (.ref a23), .val (.ref r27), .unset]) at_118 rfl rfl rfl
      replace W27 := W27.aload (pc' := 122) at_120 rfl rfl rfl
      obtain ⟨V28, h28, r28, W28, K28, hQ28, SF28⟩ := W27.callV (pc' := 125) (argsL := []) (rest := []) (Wd := 0) (cells' := 9) (slots' := 59) (a := r27) (C := "com/example/rolebind/rolebind/Decision") (y := (⟨"com/example/rolebind/rolebind/Decision", "allowed", "()Z"⟩ : MethodName)) (z := (⟨"com/example/rolebind/rolebind/Decision", "allowed", "()Z"⟩ : MethodName)) at_122 (g_al l Z a0 n0 hw hEL G1 O1 P1 O_as O_hi O_lo ro O_ro r27 h27 W27.old q27_2) q27_1 (tw54 hw) (tw55 hw) (Or.inl (tw57 hw)) (tw57 hw) (tw56 hw) (tw25 hw) (tw58 hw) (by decide) (lenOf pd14 rfl) rfl rfl (by decide) (by decide) rfl sf0 all0 rfl rfl rfl (by decide) (by decide)
      clear W27
      obtain ⟨rfl, hs28⟩ := hQ28
      subst hs28
      have sf29 := (SF27 a23 q26_1.lt (SF26 a23 A23.lt sf23))
      have sf30 := SF28 a23 (Nat.lt_of_lt_of_le q26_1.lt z27) sf29
      replace W28 := W28.cast (st' := [(.int (1 : Int32))]) rfl
      replace W28 := W28.ifT (pc' := 130) at_125 (feq (by decide : ¬ ((1 : Int32) = (0 : Int32)))).2 (by decide) (by decide)
      replace W28 := W28.aload (pc' := 132) at_130 rfl rfl rfl
      obtain ⟨V31, h31, r31, W31, K31, hQ31, SF31⟩ := W28.callV (pc' := 135) (argsL := []) (rest := []) (Wd := 0) (cells' := 9) (slots' := 59) (a := r27) (C := "com/example/rolebind/rolebind/Decision") (y := (⟨"com/example/rolebind/rolebind/Decision", "reason", "()Lcom/example/rolebind/rolebind/Decision$Reason;"⟩ : MethodName)) (z := (⟨"com/example/rolebind/rolebind/Decision", "reason", "()Lcom/example/rolebind/rolebind/Decision$Reason;"⟩ : MethodName)) at_132 (g_re l Z a0 n0 hw hEL G1 O1 P1 O_as O_hi O_lo ro O_ro r27 ro h27 W28.old q27_3) q27_1 (tw59 hw) (tw60 hw) (Or.inl (tw62 hw)) (tw62 hw) (tw61 hw) (tw25 hw) (tw63 hw) (by decide) (lenOf pd15 rfl) rfl rfl (by decide) (by decide) rfl sf0 all0 rfl rfl rfl (by decide) (by decide)
      clear W28
      obtain ⟨rfl, hs31⟩ := hQ31
      subst hs31
      have sf32 := SF31 a23 (Nat.lt_of_lt_of_le q26_1.lt z27) sf30
      replace W31 := W31.cast (st' := [(.ref ro)]) rfl
      replace W31 := W31.gets (pc' := 138) at_135 (tw64 hw) O_ro rfl
      replace W31 := W31.acmpT (pc' := 143) at_138 rfl rfl (by simp [Jvm.Free.XT.acmp]) (by decide) (by decide)
      replace W31 := W31.aload (pc' := 145) at_143 rfl rfl rfl
      obtain ⟨V33, h33, r33, W33, K33, hQ33, SF33⟩ := W31.callV (pc' := 148) (argsL := []) (rest := []) (Wd := 0) (cells' := 9) (slots' := 59) (a := r27) (C := "com/example/rolebind/rolebind/Decision") (y := (⟨"com/example/rolebind/rolebind/Decision", "role", "()Ljava/lang/String;"⟩ : MethodName)) (z := (⟨"com/example/rolebind/rolebind/Decision", "role", "()Ljava/lang/String;"⟩ : MethodName)) at_145 (g_ro l Z a0 n0 hw hEL G1 O1 P1 O_as O_hi O_lo ro O_ro r27 a23 h27 W31.old q27_4) q27_1 (tw65 hw) (tw66 hw) (Or.inl (tw68 hw)) (tw68 hw) (tw67 hw) (tw25 hw) (tw69 hw) (by decide) (lenOf pd16 rfl) rfl rfl (by decide) (by decide) rfl sf0 all0 rfl rfl rfl (by decide) (by decide)
      clear W31
      obtain ⟨rfl, hs33⟩ := hQ33
      subst hs33
      have sf34 := SF33 a23 (Nat.lt_of_lt_of_le q26_1.lt z27) sf32
      replace W33 := W33.cast (st' := [(.ref a23)]) rfl
      replace W33 := W33.astore (pc' := 150) (L' := #[.val (.int p0), .val (.int p1), .val (.int p2), .val (.int p3), .val (.int (1 : Int32)), .val (.int (p1 &&& (65535 : Int32))), .val (.int (p2 &&& (65535 : Int32))), .val (.int (p3 &&& (65535 : Int32))), .val (.ref a21), .val (.ref a23), .val (.ref r27), .val (.ref a23)]) at_148 rfl rfl rfl
      replace W33 := W33.aload (pc' := 152) at_150 rfl rfl rfl
      replace W33 := W33.ifnonnullT (pc' := 157) at_152 (by decide) (by decide)
      replace W33 := W33.aload (pc' := 159) at_157 rfl rfl rfl
      replace W33 := W33.aload (pc' := 161) at_159 rfl rfl rfl
      have e36 := (q26_1.keep K27)
      obtain ⟨V35, h35, r35, W35, K35, hQ35, SF35⟩ := W33.callV (pc' := 164) (argsL := [(.ref a23)]) (rest := []) (Wd := 0) (cells' := 9) (slots' := 59) (a := a23) (C := "java/lang/String") (y := (⟨"java/lang/String", "equals", "(Ljava/lang/Object;)Z"⟩ : MethodName)) (z := (⟨"java/lang/String", "equals", "(Ljava/lang/Object;)Z"⟩ : MethodName)) at_161 (eq_self l Z a0 n0 hw hEL G1 O1 P1 O_as O_hi O_lo ro O_ro a23 h27 W33.old) e36 (tw70 hw) (tw71 hw) (Or.inl (tw73 hw)) (tw73 hw) (tw72 hw) (tw4 hw) (tw74 hw) (by decide) (lenOf pd17 rfl) rfl rfl (by decide) (by decide) rfl sf0 all0 rfl rfl rfl (by decide) (by decide)
      clear W33
      obtain ⟨rfl, hs35⟩ := hQ35
      subst hs35
      have sf37 := SF35 a23 (Nat.lt_of_lt_of_le q26_1.lt z27) sf34
      replace W35 := W35.cast (st' := [(.int (1 : Int32))]) rfl
      replace W35 := W35.ifF (pc' := 167) at_164 (feq (by decide : ¬ ((1 : Int32) = (0 : Int32)))).1 rfl
      replace W35 := W35.aload (pc' := 169) at_167 rfl rfl rfl
      have f38 := (q26_2.keep K27 nin0)
      have f39 := (q26_3.keep K27 nin0)
      have v40 := (q26_4.keep K27 nin0)
      obtain ⟨V41, h41, r41, W41, K41, hQ41, SF41⟩ := W35.callV (pc' := 172) (argsL := []) (rest := []) (Wd := 0) (cells' := 9) (slots' := 59) (a := a23) (C := "java/lang/String") (y := (⟨"java/lang/String", "length", "()I"⟩ : MethodName)) (z := (⟨"java/lang/String", "length", "()I"⟩ : MethodName)) at_169 (len_1_1 l Z a0 n0 hw hEL G1 O1 P1 O_as O_hi O_lo ro O_ro a23 t26 kt26 ([(.int ((p1 &&& (65535 : Int32)).toInt8.toInt32)), (.int (((p1 &&& (65535 : Int32)) >>> ((8 : Int32) &&& 31)).toInt8.toInt32))]) h27 W35.old e36 f38 f39 v40) e36 (tw75 hw) (tw76 hw) (Or.inl (tw78 hw)) (tw78 hw) (tw77 hw) (tw4 hw) (tw79 hw) (by decide) (lenOf pd18 rfl) rfl rfl (by decide) (by decide) rfl sf0 all0 rfl rfl rfl (by decide) (by decide)
      clear W35
      obtain ⟨rfl, hs41⟩ := hQ41
      subst hs41
      have sf42 := SF41 a23 (Nat.lt_of_lt_of_le q26_1.lt z27) sf37
      replace W41 := W41.cast (st' := [(.int (1 : Int32))]) rfl
      replace W41 := W41.iload (pc' := 174) at_172 rfl rfl
      replace W41 := W41.icmpF (pc' := 177) at_174 (teq (by decide : (1 : Int32) = (1 : Int32))).2 rfl
      replace W41 := W41.iconst (pc' := 178) (v := (1 : Int32)) at_177 rfl rfl
      replace W41 := W41.goto (pc' := 182) at_178 (by decide) (by decide)
      exact W41.iret (t := .boolean) at_182 rfl (by simp) (by decide) (by decide) (by decide) (fun V' cv => rfl)
    · have v43 := (v22.ext E23)
      obtain ⟨V44, h44, r44, W44, K44, hQ44, SF44⟩ := W23.callI (pc' := 111) (argsL := [(.ref a21)]) (rest := [(.ref a23)]) (Wd := 1) (cells' := 3) (slots' := 6) (a := a23) (y := (⟨"java/lang/String", "<init>", "([C)V"⟩ : MethodName)) at_108 (new1_1 l Z a0 n0 hw hEL G1 O1 P1 O_as O_hi O_lo ro O_ro a23 a21 k21 (p1 &&& (65535 : Int32)) h23 W23.old A23 (D23 (Or.inr (tw17 hw)) (ty := (.array .byte)) (by decide) : Fld Z h23 a23 "java/lang/String" "value" "[B" .null) (D23 (Or.inr (tw18 hw)) (ty := .byte) (by decide) : Fld Z h23 a23 "java/lang/String" "coder" "B" (.int (0 : Int32))) v43 (own_lat (own_and65535 _) hc24) (Nat.le_trans W23.1.2.2.2.2.2.2.2.1 (Nat.le_trans (Nat.le_trans z21 z22) (Nat.le_of_eq g23.symm)))) rfl (tw5 hw) (tw6 hw) (tw4 hw) (tw7 hw) (by decide) (lenOf pd12 rfl) rfl rfl (by decide) (by decide) rfl (sfS sf23 sf0) (allS (Or.inr (Nat.le_trans (Nat.le_trans z21 z22) (Nat.le_of_eq g23.symm))) all0) rfl rfl rfl (by decide) (by decide)
      clear W23
      obtain ⟨t44, kt44, rfl, q44_1, q44_2, q44_3, q44_4⟩ := hQ44
      have z44 : h23.size ≤ h44.size := K44.1
      replace W44 := W44.cast (st' := [(.ref a23)]) rfl
      replace W44 := W44.astore (pc' := 113) (L' := #[.val (.int p0), .val (.int p1), .val (.int p2), .val (.int p3), .val (.int (1 : Int32)), .val (.int (p1 &&& (65535 : Int32))), .val (.int (p2 &&& (65535 : Int32))), .val (.int (p3 &&& (65535 : Int32))), .val (.ref a21), .val (.ref a23), .unset, .unset]) at_111 rfl rfl rfl
      replace W44 := W44.aload (pc' := 115) at_113 rfl rfl rfl
      obtain ⟨V45, h45, r45, W45, K45, hQ45, SF45⟩ := W44.callS (pc' := 118) (argsL := [(.ref a23)]) (rest := []) (Wd := 0) (cells' := 8) (slots' := 57) (y := (⟨"com/example/rolebind/rolebind/Decision", "allowedByRole", "(Ljava/lang/String;)Lcom/example/rolebind/rolebind/Decision;"⟩ : MethodName)) at_115 (abr l Z a0 n0 hw hEL G1 O1 P1 O_as O_hi O_lo ro O_ro a23 h44 W44.old q44_1) (tw23 hw) (tw24 hw) (tw25 hw) (tw26 hw) (by decide) (lenOf pd13 rfl) rfl rfl (by decide) (by decide) rfl sf0 all0 rfl rfl rfl (by decide) (by decide)
      clear W44
      obtain ⟨r45, rfl, q45_1, q45_2, q45_3, q45_4⟩ := hQ45
      have z45 : h44.size ≤ h45.size := K45.1
      replace W45 := W45.cast (st' := [(.ref r45)]) rfl
      replace W45 := W45.astore (pc' := 120) (L' := #[.val (.int p0), .val (.int p1), .val (.int p2), .val (.int p3), .val (.int (1 : Int32)), .val (.int (p1 &&& (65535 : Int32))), .val (.int (p2 &&& (65535 : Int32))), .val (.int (p3 &&& (65535 : Int32))), .val (.ref a21), .val (.ref a23), .val (.ref r45), .unset]) at_118 rfl rfl rfl
      replace W45 := W45.aload (pc' := 122) at_120 rfl rfl rfl
      obtain ⟨V46, h46, r46, W46, K46, hQ46, SF46⟩ := W45.callV (pc' := 125) (argsL := []) (rest := []) (Wd := 0) (cells' := 8) (slots' := 57) (a := r45) (C := "com/example/rolebind/rolebind/Decision") (y := (⟨"com/example/rolebind/rolebind/Decision", "allowed", "()Z"⟩ : MethodName)) (z := (⟨"com/example/rolebind/rolebind/Decision", "allowed", "()Z"⟩ : MethodName)) at_122 (g_al l Z a0 n0 hw hEL G1 O1 P1 O_as O_hi O_lo ro O_ro r45 h45 W45.old q45_2) q45_1 (tw54 hw) (tw55 hw) (Or.inl (tw57 hw)) (tw57 hw) (tw56 hw) (tw25 hw) (tw58 hw) (by decide) (lenOf pd14 rfl) rfl rfl (by decide) (by decide) rfl sf0 all0 rfl rfl rfl (by decide) (by decide)
      clear W45
      obtain ⟨rfl, hs46⟩ := hQ46
      subst hs46
      have sf47 := (SF45 a23 q44_1.lt (SF44 a23 A23.lt sf23))
      have sf48 := SF46 a23 (Nat.lt_of_lt_of_le q44_1.lt z45) sf47
      replace W46 := W46.cast (st' := [(.int (1 : Int32))]) rfl
      replace W46 := W46.ifT (pc' := 130) at_125 (feq (by decide : ¬ ((1 : Int32) = (0 : Int32)))).2 (by decide) (by decide)
      replace W46 := W46.aload (pc' := 132) at_130 rfl rfl rfl
      obtain ⟨V49, h49, r49, W49, K49, hQ49, SF49⟩ := W46.callV (pc' := 135) (argsL := []) (rest := []) (Wd := 0) (cells' := 8) (slots' := 57) (a := r45) (C := "com/example/rolebind/rolebind/Decision") (y := (⟨"com/example/rolebind/rolebind/Decision", "reason", "()Lcom/example/rolebind/rolebind/Decision$Reason;"⟩ : MethodName)) (z := (⟨"com/example/rolebind/rolebind/Decision", "reason", "()Lcom/example/rolebind/rolebind/Decision$Reason;"⟩ : MethodName)) at_132 (g_re l Z a0 n0 hw hEL G1 O1 P1 O_as O_hi O_lo ro O_ro r45 ro h45 W46.old q45_3) q45_1 (tw59 hw) (tw60 hw) (Or.inl (tw62 hw)) (tw62 hw) (tw61 hw) (tw25 hw) (tw63 hw) (by decide) (lenOf pd15 rfl) rfl rfl (by decide) (by decide) rfl sf0 all0 rfl rfl rfl (by decide) (by decide)
      clear W46
      obtain ⟨rfl, hs49⟩ := hQ49
      subst hs49
      have sf50 := SF49 a23 (Nat.lt_of_lt_of_le q44_1.lt z45) sf48
      replace W49 := W49.cast (st' := [(.ref ro)]) rfl
      replace W49 := W49.gets (pc' := 138) at_135 (tw64 hw) O_ro rfl
      replace W49 := W49.acmpT (pc' := 143) at_138 rfl rfl (by simp [Jvm.Free.XT.acmp]) (by decide) (by decide)
      replace W49 := W49.aload (pc' := 145) at_143 rfl rfl rfl
      obtain ⟨V51, h51, r51, W51, K51, hQ51, SF51⟩ := W49.callV (pc' := 148) (argsL := []) (rest := []) (Wd := 0) (cells' := 8) (slots' := 57) (a := r45) (C := "com/example/rolebind/rolebind/Decision") (y := (⟨"com/example/rolebind/rolebind/Decision", "role", "()Ljava/lang/String;"⟩ : MethodName)) (z := (⟨"com/example/rolebind/rolebind/Decision", "role", "()Ljava/lang/String;"⟩ : MethodName)) at_145 (g_ro l Z a0 n0 hw hEL G1 O1 P1 O_as O_hi O_lo ro O_ro r45 a23 h45 W49.old q45_4) q45_1 (tw65 hw) (tw66 hw) (Or.inl (tw68 hw)) (tw68 hw) (tw67 hw) (tw25 hw) (tw69 hw) (by decide) (lenOf pd16 rfl) rfl rfl (by decide) (by decide) rfl sf0 all0 rfl rfl rfl (by decide) (by decide)
      clear W49
      obtain ⟨rfl, hs51⟩ := hQ51
      subst hs51
      have sf52 := SF51 a23 (Nat.lt_of_lt_of_le q44_1.lt z45) sf50
      replace W51 := W51.cast (st' := [(.ref a23)]) rfl
      replace W51 := W51.astore (pc' := 150) (L' := #[.val (.int p0), .val (.int p1), .val (.int p2), .val (.int p3), .val (.int (1 : Int32)), .val (.int (p1 &&& (65535 : Int32))), .val (.int (p2 &&& (65535 : Int32))), .val (.int (p3 &&& (65535 : Int32))), .val (.ref a21), .val (.ref a23), .val (.ref r45), .val (.ref a23)]) at_148 rfl rfl rfl
      replace W51 := W51.aload (pc' := 152) at_150 rfl rfl rfl
      replace W51 := W51.ifnonnullT (pc' := 157) at_152 (by decide) (by decide)
      replace W51 := W51.aload (pc' := 159) at_157 rfl rfl rfl
      replace W51 := W51.aload (pc' := 161) at_159 rfl rfl rfl
      have e54 := (q44_1.keep K45)
      obtain ⟨V53, h53, r53, W53, K53, hQ53, SF53⟩ := W51.callV (pc' := 164) (argsL := [(.ref a23)]) (rest := []) (Wd := 0) (cells' := 8) (slots' := 57) (a := a23) (C := "java/lang/String") (y := (⟨"java/lang/String", "equals", "(Ljava/lang/Object;)Z"⟩ : MethodName)) (z := (⟨"java/lang/String", "equals", "(Ljava/lang/Object;)Z"⟩ : MethodName)) at_161 (eq_self l Z a0 n0 hw hEL G1 O1 P1 O_as O_hi O_lo ro O_ro a23 h45 W51.old) e54 (tw70 hw) (tw71 hw) (Or.inl (tw73 hw)) (tw73 hw) (tw72 hw) (tw4 hw) (tw74 hw) (by decide) (lenOf pd17 rfl) rfl rfl (by decide) (by decide) rfl sf0 all0 rfl rfl rfl (by decide) (by decide)
      clear W51
      obtain ⟨rfl, hs53⟩ := hQ53
      subst hs53
      have sf55 := SF53 a23 (Nat.lt_of_lt_of_le q44_1.lt z45) sf52
      replace W53 := W53.cast (st' := [(.int (1 : Int32))]) rfl
      replace W53 := W53.ifF (pc' := 167) at_164 (feq (by decide : ¬ ((1 : Int32) = (0 : Int32)))).1 rfl
      replace W53 := W53.aload (pc' := 169) at_167 rfl rfl rfl
      have f56 := (q44_2.keep K45 nin0)
      have f57 := (q44_3.keep K45 nin0)
      have v58 := (q44_4.keep K45 nin0)
      obtain ⟨V59, h59, r59, W59, K59, hQ59, SF59⟩ := W53.callV (pc' := 172) (argsL := []) (rest := []) (Wd := 0) (cells' := 8) (slots' := 57) (a := a23) (C := "java/lang/String") (y := (⟨"java/lang/String", "length", "()I"⟩ : MethodName)) (z := (⟨"java/lang/String", "length", "()I"⟩ : MethodName)) at_169 (len_1_0 l Z a0 n0 hw hEL G1 O1 P1 O_as O_hi O_lo ro O_ro a23 t44 kt44 ([(.int ((p1 &&& (65535 : Int32)).toInt8.toInt32))]) h45 W53.old e54 f56 f57 v58) e54 (tw75 hw) (tw76 hw) (Or.inl (tw78 hw)) (tw78 hw) (tw77 hw) (tw4 hw) (tw79 hw) (by decide) (lenOf pd18 rfl) rfl rfl (by decide) (by decide) rfl sf0 all0 rfl rfl rfl (by decide) (by decide)
      clear W53
      obtain ⟨rfl, hs59⟩ := hQ59
      subst hs59
      have sf60 := SF59 a23 (Nat.lt_of_lt_of_le q44_1.lt z45) sf55
      replace W59 := W59.cast (st' := [(.int (1 : Int32))]) rfl
      replace W59 := W59.iload (pc' := 174) at_172 rfl rfl
      replace W59 := W59.icmpF (pc' := 177) at_174 (teq (by decide : (1 : Int32) = (1 : Int32))).2 rfl
      replace W59 := W59.iconst (pc' := 178) (v := (1 : Int32)) at_177 rfl rfl
      replace W59 := W59.goto (pc' := 182) at_178 (by decide) (by decide)
      exact W59.iret (t := .boolean) at_182 rfl (by simp) (by decide) (by decide) (by decide) (fun V' cv => rfl)
  · replace W := W.istore (pc' := 5) (L' := #[.val (.int p0), .val (.int p1), .val (.int p2), .val (.int p3), .val (.int (2 : Int32)), .unset, .unset, .unset, .unset, .unset, .unset, .unset]) at_3 rfl rfl
    replace W := W.iloadN (pc' := 6) at_5 rfl rfl
    replace W := W.ldcI (pc' := 8) at_6 (tw0 hw) rfl
    replace W := W.iand (pc' := 9) (v := (p1 &&& (65535 : Int32))) at_8 rfl rfl
    replace W := W.i2c (pc' := 10) (v := (p1 &&& (65535 : Int32))) at_9 (own_i2c (own_and65535 _)) rfl
    replace W := W.istore (pc' := 12) (L' := #[.val (.int p0), .val (.int p1), .val (.int p2), .val (.int p3), .val (.int (2 : Int32)), .val (.int (p1 &&& (65535 : Int32))), .unset, .unset, .unset, .unset, .unset, .unset]) at_10 rfl rfl
    replace W := W.iloadN (pc' := 13) at_12 rfl rfl
    replace W := W.ldcI (pc' := 15) at_13 (tw0 hw) rfl
    replace W := W.iand (pc' := 16) (v := (p2 &&& (65535 : Int32))) at_15 rfl rfl
    replace W := W.i2c (pc' := 17) (v := (p2 &&& (65535 : Int32))) at_16 (own_i2c (own_and65535 _)) rfl
    replace W := W.istore (pc' := 19) (L' := #[.val (.int p0), .val (.int p1), .val (.int p2), .val (.int p3), .val (.int (2 : Int32)), .val (.int (p1 &&& (65535 : Int32))), .val (.int (p2 &&& (65535 : Int32))), .unset, .unset, .unset, .unset, .unset]) at_17 rfl rfl
    replace W := W.iloadN (pc' := 20) at_19 rfl rfl
    replace W := W.ldcI (pc' := 22) at_20 (tw0 hw) rfl
    replace W := W.iand (pc' := 23) (v := (p3 &&& (65535 : Int32))) at_22 rfl rfl
    replace W := W.i2c (pc' := 24) (v := (p3 &&& (65535 : Int32))) at_23 (own_i2c (own_and65535 _)) rfl
    replace W := W.istore (pc' := 26) (L' := #[.val (.int p0), .val (.int p1), .val (.int p2), .val (.int p3), .val (.int (2 : Int32)), .val (.int (p1 &&& (65535 : Int32))), .val (.int (p2 &&& (65535 : Int32))), .val (.int (p3 &&& (65535 : Int32))), .unset, .unset, .unset, .unset]) at_24 rfl rfl
    replace W := W.iload (pc' := 28) at_26 rfl rfl
    replace W := W.ifT (pc' := 39) at_28 (feq (by decide : ¬ ((2 : Int32) = (0 : Int32)))).2 (by decide) (by decide)
    replace W := W.iload (pc' := 41) at_39 rfl rfl
    replace W := W.iconst (pc' := 42) (v := (1 : Int32)) at_41 rfl rfl
    replace W := W.icmpT (pc' := 58) at_42 (feq (by decide : ¬ ((2 : Int32) = (1 : Int32)))).2 (by decide) (by decide)
    replace W := W.iload (pc' := 60) at_58 rfl rfl
    replace W := W.iconst (pc' := 61) (v := (2 : Int32)) at_60 rfl rfl
    replace W := W.icmpF (pc' := 64) at_61 (teq (by decide : (2 : Int32) = (2 : Int32))).2 rfl
    replace W := W.iconst (pc' := 65) (v := (2 : Int32)) at_64 rfl rfl
    obtain ⟨h61, a61, W61, E61, g61, ⟨k61, A61⟩, sf61, SF61⟩ := W.newarr (pc' := 67) (cap := 2) (cells' := 1) (slots' := 2) at_65 (tw1 hw) (by decide) (by decide) (by decide) rfl rfl rfl (by decide) (by decide)
    clear W
    rw [← g61] at A61
    have z61 : h0.size ≤ h61.size := E61.1
    have v61 : Arv Z h61 a61 k61 .char (2 : Int32) [(.int (0 : Int32)), (.int (0 : Int32))] (.int (0 : Int32)) := A61.pad (pad_rep [] (.int (0 : Int32)) 2)
    replace W61 := W61.dup (pc' := 68) at_67 rfl rfl
    replace W61 := W61.iconst (pc' := 69) (v := (0 : Int32)) at_68 rfl rfl
    replace W61 := W61.iload (pc' := 71) at_69 rfl rfl
    obtain ⟨h62, W62, w62, A62, SF62⟩ := W61.castore (pc' := 72) (i := 0) (x' := (p1 &&& (65535 : Int32))) at_71 v61 ⟨by decide, by decide⟩ rfl (by show 0 < 2; decide) (own_narc (own_and65535 _)) (W61.safeA v61 (by decide)) (Or.inr (Nat.le_of_eq g61.symm)) rfl
    clear W61
    have z62 : h61.size ≤ h62.size := Nat.le_of_eq w62.size.symm
    have v62 : Arv Z h62 a61 k61 .char (2 : Int32) [(.int (p1 &&& (65535 : Int32))), (.int (0 : Int32))] (.int (0 : Int32)) := A62
    replace W62 := W62.dup (pc' := 73) at_72 rfl rfl
    replace W62 := W62.iconst (pc' := 74) (v := (1 : Int32)) at_73 rfl rfl
    replace W62 := W62.iload (pc' := 76) at_74 rfl rfl
    obtain ⟨h63, W63, w63, A63, SF63⟩ := W62.castore (pc' := 77) (i := 1) (x' := (p2 &&& (65535 : Int32))) at_76 v62 ⟨by decide, by decide⟩ rfl (by show 1 < 2; decide) (own_narc (own_and65535 _)) (W62.safeA v62 (by decide)) (Or.inr (Nat.le_of_eq g61.symm)) rfl
    clear W62
    have z63 : h62.size ≤ h63.size := Nat.le_of_eq w63.size.symm
    have v63 : Arv Z h63 a61 k61 .char (2 : Int32) [(.int (p1 &&& (65535 : Int32))), (.int (p2 &&& (65535 : Int32)))] (.int (0 : Int32)) := A63
    replace W63 := W63.astore (pc' := 79) (L' := #[.val (.int p0), .val (.int p1), .val (.int p2), .val (.int p3), .val (.int (2 : Int32)), .val (.int (p1 &&& (65535 : Int32))), .val (.int (p2 &&& (65535 : Int32))), .val (.int (p3 &&& (65535 : Int32))), .val (.ref a61), .unset, .unset, .unset]) at_77 rfl rfl rfl
    replace W63 := W63.goto (pc' := 102) at_79 (by decide) (by decide)
    obtain ⟨h64, a64, W64, E64, g64, ⟨A64, D64, U64⟩, sf64, SF64⟩ := W63.new (pc' := 105) (cells' := 2) (slots' := 6) at_102 (tw2 hw) (tw3 hw) (tw4 hw) rfl rfl rfl (by decide) (by decide)
    clear W63
    rw [← g64] at A64 D64 U64
    have z64 : h63.size ≤ h64.size := E64.1
    replace W64 := W64.dup (pc' := 106) at_105 rfl rfl
    replace W64 := W64.aload (pc' := 108) at_106 rfl rfl rfl
    by_cases hc65 : (255 : Int32) < (p1 &&& (65535 : Int32))
    · have v66 := (v63.ext E64)
      obtain ⟨V67, h67, r67, W67, K67, hQ67, SF67⟩ := W64.callI (pc' := 111) (argsL := [(.ref a61)]) (rest := [(.ref a64)]) (Wd := 1) (cells' := 4) (slots' := 12) (a := a64) (y := (⟨"java/lang/String", "<init>", "([C)V"⟩ : MethodName)) at_108 (new1_2w0 l Z a0 n0 hw hEL G1 O1 P1 O_as O_hi O_lo ro O_ro a64 a61 k61 (p1 &&& (65535 : Int32)) (p2 &&& (65535 : Int32)) h64 W64.old A64 (D64 (Or.inr (tw17 hw)) (ty := (.array .byte)) (by decide) : Fld Z h64 a64 "java/lang/String" "value" "[B" .null) (D64 (Or.inr (tw18 hw)) (ty := .byte) (by decide) : Fld Z h64 a64 "java/lang/String" "coder" "B" (.int (0 : Int32))) v66 (own_and65535 _) (own_and65535 _) hc65 (Nat.le_trans W64.1.2.2.2.2.2.2.2.1 (Nat.le_trans (Nat.le_trans (Nat.le_trans z61 z62) z63) (Nat.le_of_eq g64.symm)))) rfl (tw5 hw) (tw6 hw) (tw4 hw) (tw7 hw) (by decide) (lenOf pd12 rfl) rfl rfl (by decide) (by decide) rfl (sfS sf64 sf0) (allS (Or.inr (Nat.le_trans (Nat.le_trans (Nat.le_trans z61 z62) z63) (Nat.le_of_eq g64.symm))) all0) rfl rfl rfl (by decide) (by decide)
      clear W64
      obtain ⟨t67, kt67, rfl, q67_1, q67_2, q67_3, q67_4⟩ := hQ67
      have z67 : h64.size ≤ h67.size := K67.1
      replace W67 := W67.cast (st' := [(.ref a64)]) rfl
      replace W67 := W67.astore (pc' := 113) (L' := #[.val (.int p0), .val (.int p1), .val (.int p2), .val (.int p3), .val (.int (2 : Int32)), .val (.int (p1 &&& (65535 : Int32))), .val (.int (p2 &&& (65535 : Int32))), .val (.int (p3 &&& (65535 : Int32))), .val (.ref a61), .val (.ref a64), .unset, .unset]) at_111 rfl rfl rfl
      replace W67 := W67.aload (pc' := 115) at_113 rfl rfl rfl
      obtain ⟨V68, h68, r68, W68, K68, hQ68, SF68⟩ := W67.callS (pc' := 118) (argsL := [(.ref a64)]) (rest := []) (Wd := 0) (cells' := 9) (slots' := 63) (y := (⟨"com/example/rolebind/rolebind/Decision", "allowedByRole", "(Ljava/lang/String;)Lcom/example/rolebind/rolebind/Decision;"⟩ : MethodName)) at_115 (abr l Z a0 n0 hw hEL G1 O1 P1 O_as O_hi O_lo ro O_ro a64 h67 W67.old q67_1) (tw23 hw) (tw24 hw) (tw25 hw) (tw26 hw) (by decide) (lenOf pd13 rfl) rfl rfl (by decide) (by decide) rfl sf0 all0 rfl rfl rfl (by decide) (by decide)
      clear W67
      obtain ⟨r68, rfl, q68_1, q68_2, q68_3, q68_4⟩ := hQ68
      have z68 : h67.size ≤ h68.size := K68.1
      replace W68 := W68.cast (st' := [(.ref r68)]) rfl
      replace W68 := W68.astore (pc' := 120) (L' := #[.val (.int p0), .val (.int p1), .val (.int p2), .val (.int p3), .val (.int (2 : Int32)), .val (.int (p1 &&& (65535 : Int32))), .val (.int (p2 &&& (65535 : Int32))), .val (.int (p3 &&& (65535 : Int32))), .val (.ref a61), .val (.ref a64), .val (.ref r68), .unset]) at_118 rfl rfl rfl
      replace W68 := W68.aload (pc' := 122) at_120 rfl rfl rfl
      obtain ⟨V69, h69, r69, W69, K69, hQ69, SF69⟩ := W68.callV (pc' := 125) (argsL := []) (rest := []) (Wd := 0) (cells' := 9) (slots' := 63) (a := r68) (C := "com/example/rolebind/rolebind/Decision") (y := (⟨"com/example/rolebind/rolebind/Decision", "allowed", "()Z"⟩ : MethodName)) (z := (⟨"com/example/rolebind/rolebind/Decision", "allowed", "()Z"⟩ : MethodName)) at_122 (g_al l Z a0 n0 hw hEL G1 O1 P1 O_as O_hi O_lo ro O_ro r68 h68 W68.old q68_2) q68_1 (tw54 hw) (tw55 hw) (Or.inl (tw57 hw)) (tw57 hw) (tw56 hw) (tw25 hw) (tw58 hw) (by decide) (lenOf pd14 rfl) rfl rfl (by decide) (by decide) rfl sf0 all0 rfl rfl rfl (by decide) (by decide)
      clear W68
      obtain ⟨rfl, hs69⟩ := hQ69
      subst hs69
      have sf70 := (SF68 a64 q67_1.lt (SF67 a64 A64.lt sf64))
      have sf71 := SF69 a64 (Nat.lt_of_lt_of_le q67_1.lt z68) sf70
      replace W69 := W69.cast (st' := [(.int (1 : Int32))]) rfl
      replace W69 := W69.ifT (pc' := 130) at_125 (feq (by decide : ¬ ((1 : Int32) = (0 : Int32)))).2 (by decide) (by decide)
      replace W69 := W69.aload (pc' := 132) at_130 rfl rfl rfl
      obtain ⟨V72, h72, r72, W72, K72, hQ72, SF72⟩ := W69.callV (pc' := 135) (argsL := []) (rest := []) (Wd := 0) (cells' := 9) (slots' := 63) (a := r68) (C := "com/example/rolebind/rolebind/Decision") (y := (⟨"com/example/rolebind/rolebind/Decision", "reason", "()Lcom/example/rolebind/rolebind/Decision$Reason;"⟩ : MethodName)) (z := (⟨"com/example/rolebind/rolebind/Decision", "reason", "()Lcom/example/rolebind/rolebind/Decision$Reason;"⟩ : MethodName)) at_132 (g_re l Z a0 n0 hw hEL G1 O1 P1 O_as O_hi O_lo ro O_ro r68 ro h68 W69.old q68_3) q68_1 (tw59 hw) (tw60 hw) (Or.inl (tw62 hw)) (tw62 hw) (tw61 hw) (tw25 hw) (tw63 hw) (by decide) (lenOf pd15 rfl) rfl rfl (by decide) (by decide) rfl sf0 all0 rfl rfl rfl (by decide) (by decide)
      clear W69
      obtain ⟨rfl, hs72⟩ := hQ72
      subst hs72
      have sf73 := SF72 a64 (Nat.lt_of_lt_of_le q67_1.lt z68) sf71
      replace W72 := W72.cast (st' := [(.ref ro)]) rfl
      replace W72 := W72.gets (pc' := 138) at_135 (tw64 hw) O_ro rfl
      replace W72 := W72.acmpT (pc' := 143) at_138 rfl rfl (by simp [Jvm.Free.XT.acmp]) (by decide) (by decide)
      replace W72 := W72.aload (pc' := 145) at_143 rfl rfl rfl
      obtain ⟨V74, h74, r74, W74, K74, hQ74, SF74⟩ := W72.callV (pc' := 148) (argsL := []) (rest := []) (Wd := 0) (cells' := 9) (slots' := 63) (a := r68) (C := "com/example/rolebind/rolebind/Decision") (y := (⟨"com/example/rolebind/rolebind/Decision", "role", "()Ljava/lang/String;"⟩ : MethodName)) (z := (⟨"com/example/rolebind/rolebind/Decision", "role", "()Ljava/lang/String;"⟩ : MethodName)) at_145 (g_ro l Z a0 n0 hw hEL G1 O1 P1 O_as O_hi O_lo ro O_ro r68 a64 h68 W72.old q68_4) q68_1 (tw65 hw) (tw66 hw) (Or.inl (tw68 hw)) (tw68 hw) (tw67 hw) (tw25 hw) (tw69 hw) (by decide) (lenOf pd16 rfl) rfl rfl (by decide) (by decide) rfl sf0 all0 rfl rfl rfl (by decide) (by decide)
      clear W72
      obtain ⟨rfl, hs74⟩ := hQ74
      subst hs74
      have sf75 := SF74 a64 (Nat.lt_of_lt_of_le q67_1.lt z68) sf73
      replace W74 := W74.cast (st' := [(.ref a64)]) rfl
      replace W74 := W74.astore (pc' := 150) (L' := #[.val (.int p0), .val (.int p1), .val (.int p2), .val (.int p3), .val (.int (2 : Int32)), .val (.int (p1 &&& (65535 : Int32))), .val (.int (p2 &&& (65535 : Int32))), .val (.int (p3 &&& (65535 : Int32))), .val (.ref a61), .val (.ref a64), .val (.ref r68), .val (.ref a64)]) at_148 rfl rfl rfl
      replace W74 := W74.aload (pc' := 152) at_150 rfl rfl rfl
      replace W74 := W74.ifnonnullT (pc' := 157) at_152 (by decide) (by decide)
      replace W74 := W74.aload (pc' := 159) at_157 rfl rfl rfl
      replace W74 := W74.aload (pc' := 161) at_159 rfl rfl rfl
      have e77 := (q67_1.keep K68)
      obtain ⟨V76, h76, r76, W76, K76, hQ76, SF76⟩ := W74.callV (pc' := 164) (argsL := [(.ref a64)]) (rest := []) (Wd := 0) (cells' := 9) (slots' := 63) (a := a64) (C := "java/lang/String") (y := (⟨"java/lang/String", "equals", "(Ljava/lang/Object;)Z"⟩ : MethodName)) (z := (⟨"java/lang/String", "equals", "(Ljava/lang/Object;)Z"⟩ : MethodName)) at_161 (eq_self l Z a0 n0 hw hEL G1 O1 P1 O_as O_hi O_lo ro O_ro a64 h68 W74.old) e77 (tw70 hw) (tw71 hw) (Or.inl (tw73 hw)) (tw73 hw) (tw72 hw) (tw4 hw) (tw74 hw) (by decide) (lenOf pd17 rfl) rfl rfl (by decide) (by decide) rfl sf0 all0 rfl rfl rfl (by decide) (by decide)
      clear W74
      obtain ⟨rfl, hs76⟩ := hQ76
      subst hs76
      have sf78 := SF76 a64 (Nat.lt_of_lt_of_le q67_1.lt z68) sf75
      replace W76 := W76.cast (st' := [(.int (1 : Int32))]) rfl
      replace W76 := W76.ifF (pc' := 167) at_164 (feq (by decide : ¬ ((1 : Int32) = (0 : Int32)))).1 rfl
      replace W76 := W76.aload (pc' := 169) at_167 rfl rfl rfl
      have f79 := (q67_2.keep K68 nin0)
      have f80 := (q67_3.keep K68 nin0)
      have v81 := (q67_4.keep K68 nin0)
      obtain ⟨V82, h82, r82, W82, K82, hQ82, SF82⟩ := W76.callV (pc' := 172) (argsL := []) (rest := []) (Wd := 0) (cells' := 9) (slots' := 63) (a := a64) (C := "java/lang/String") (y := (⟨"java/lang/String", "length", "()I"⟩ : MethodName)) (z := (⟨"java/lang/String", "length", "()I"⟩ : MethodName)) at_169 (len_2_1 l Z a0 n0 hw hEL G1 O1 P1 O_as O_hi O_lo ro O_ro a64 t67 kt67 ([(.int ((p1 &&& (65535 : Int32)).toInt8.toInt32)), (.int (((p1 &&& (65535 : Int32)) >>> ((8 : Int32) &&& 31)).toInt8.toInt32)), (.int ((p2 &&& (65535 : Int32)).toInt8.toInt32)), (.int (((p2 &&& (65535 : Int32)) >>> ((8 : Int32) &&& 31)).toInt8.toInt32))]) h68 W76.old e77 f79 f80 v81) e77 (tw75 hw) (tw76 hw) (Or.inl (tw78 hw)) (tw78 hw) (tw77 hw) (tw4 hw) (tw79 hw) (by decide) (lenOf pd18 rfl) rfl rfl (by decide) (by decide) rfl sf0 all0 rfl rfl rfl (by decide) (by decide)
      clear W76
      obtain ⟨rfl, hs82⟩ := hQ82
      subst hs82
      have sf83 := SF82 a64 (Nat.lt_of_lt_of_le q67_1.lt z68) sf78
      replace W82 := W82.cast (st' := [(.int (2 : Int32))]) rfl
      replace W82 := W82.iload (pc' := 174) at_172 rfl rfl
      replace W82 := W82.icmpF (pc' := 177) at_174 (teq (by decide : (2 : Int32) = (2 : Int32))).2 rfl
      replace W82 := W82.iconst (pc' := 178) (v := (1 : Int32)) at_177 rfl rfl
      replace W82 := W82.goto (pc' := 182) at_178 (by decide) (by decide)
      exact W82.iret (t := .boolean) at_182 rfl (by simp) (by decide) (by decide) (by decide) (fun V' cv => rfl)
    · by_cases hc84 : (255 : Int32) < (p2 &&& (65535 : Int32))
      · have v85 := (v63.ext E64)
        obtain ⟨V86, h86, r86, W86, K86, hQ86, SF86⟩ := W64.callI (pc' := 111) (argsL := [(.ref a61)]) (rest := [(.ref a64)]) (Wd := 1) (cells' := 4) (slots' := 12) (a := a64) (y := (⟨"java/lang/String", "<init>", "([C)V"⟩ : MethodName)) at_108 (new1_2w1 l Z a0 n0 hw hEL G1 O1 P1 O_as O_hi O_lo ro O_ro a64 a61 k61 (p1 &&& (65535 : Int32)) (p2 &&& (65535 : Int32)) h64 W64.old A64 (D64 (Or.inr (tw17 hw)) (ty := (.array .byte)) (by decide) : Fld Z h64 a64 "java/lang/String" "value" "[B" .null) (D64 (Or.inr (tw18 hw)) (ty := .byte) (by decide) : Fld Z h64 a64 "java/lang/String" "coder" "B" (.int (0 : Int32))) v85 (own_and65535 _) (own_and65535 _) (own_lat (own_and65535 _) hc65) hc84 (Nat.le_trans W64.1.2.2.2.2.2.2.2.1 (Nat.le_trans (Nat.le_trans (Nat.le_trans z61 z62) z63) (Nat.le_of_eq g64.symm)))) rfl (tw5 hw) (tw6 hw) (tw4 hw) (tw7 hw) (by decide) (lenOf pd12 rfl) rfl rfl (by decide) (by decide) rfl (sfS sf64 sf0) (allS (Or.inr (Nat.le_trans (Nat.le_trans (Nat.le_trans z61 z62) z63) (Nat.le_of_eq g64.symm))) all0) rfl rfl rfl (by decide) (by decide)
        clear W64
        obtain ⟨t86, kt86, rfl, q86_1, q86_2, q86_3, q86_4⟩ := hQ86
        have z86 : h64.size ≤ h86.size := K86.1
        replace W86 := W86.cast (st' := [(.ref a64)]) rfl
        replace W86 := W86.astore (pc' := 113) (L' := #[.val (.int p0), .val (.int p1), .val (.int p2), .val (.int p3), .val (.int (2 : Int32)), .val (.int (p1 &&& (65535 : Int32))), .val (.int (p2 &&& (65535 : Int32))), .val (.int (p3 &&& (65535 : Int32))), .val (.ref a61), .val (.ref a64), .unset, .unset]) at_111 rfl rfl rfl
        replace W86 := W86.aload (pc' := 115) at_113 rfl rfl rfl
        obtain ⟨V87, h87, r87, W87, K87, hQ87, SF87⟩ := W86.callS (pc' := 118) (argsL := [(.ref a64)]) (rest := []) (Wd := 0) (cells' := 9) (slots' := 63) (y := (⟨"com/example/rolebind/rolebind/Decision", "allowedByRole", "(Ljava/lang/String;)Lcom/example/rolebind/rolebind/Decision;"⟩ : MethodName)) at_115 (abr l Z a0 n0 hw hEL G1 O1 P1 O_as O_hi O_lo ro O_ro a64 h86 W86.old q86_1) (tw23 hw) (tw24 hw) (tw25 hw) (tw26 hw) (by decide) (lenOf pd13 rfl) rfl rfl (by decide) (by decide) rfl sf0 all0 rfl rfl rfl (by decide) (by decide)
        clear W86
        obtain ⟨r87, rfl, q87_1, q87_2, q87_3, q87_4⟩ := hQ87
        have z87 : h86.size ≤ h87.size := K87.1
        replace W87 := W87.cast (st' := [(.ref r87)]) rfl
        replace W87 := W87.astore (pc' := 120) (L' := #[.val (.int p0), .val (.int p1), .val (.int p2), .val (.int p3), .val (.int (2 : Int32)), .val (.int (p1 &&& (65535 : Int32))), .val (.int (p2 &&& (65535 : Int32))), .val (.int (p3 &&& (65535 : Int32))), .val (.ref a61), .val (.ref a64), .val (.ref r87), .unset]) at_118 rfl rfl rfl
        replace W87 := W87.aload (pc' := 122) at_120 rfl rfl rfl
        obtain ⟨V88, h88, r88, W88, K88, hQ88, SF88⟩ := W87.callV (pc' := 125) (argsL := []) (rest := []) (Wd := 0) (cells' := 9) (slots' := 63) (a := r87) (C := "com/example/rolebind/rolebind/Decision") (y := (⟨"com/example/rolebind/rolebind/Decision", "allowed", "()Z"⟩ : MethodName)) (z := (⟨"com/example/rolebind/rolebind/Decision", "allowed", "()Z"⟩ : MethodName)) at_122 (g_al l Z a0 n0 hw hEL G1 O1 P1 O_as O_hi O_lo ro O_ro r87 h87 W87.old q87_2) q87_1 (tw54 hw) (tw55 hw) (Or.inl (tw57 hw)) (tw57 hw) (tw56 hw) (tw25 hw) (tw58 hw) (by decide) (lenOf pd14 rfl) rfl rfl (by decide) (by decide) rfl sf0 all0 rfl rfl rfl (by decide) (by decide)
        clear W87
        obtain ⟨rfl, hs88⟩ := hQ88
        subst hs88
        have sf89 := (SF87 a64 q86_1.lt (SF86 a64 A64.lt sf64))
        have sf90 := SF88 a64 (Nat.lt_of_lt_of_le q86_1.lt z87) sf89
        replace W88 := W88.cast (st' := [(.int (1 : Int32))]) rfl
        replace W88 := W88.ifT (pc' := 130) at_125 (feq (by decide : ¬ ((1 : Int32) = (0 : Int32)))).2 (by decide) (by decide)
        replace W88 := W88.aload (pc' := 132) at_130 rfl rfl rfl
        obtain ⟨V91, h91, r91, W91, K91, hQ91, SF91⟩ := W88.callV (pc' := 135) (argsL := []) (rest := []) (Wd := 0) (cells' := 9) (slots' := 63) (a := r87) (C := "com/example/rolebind/rolebind/Decision") (y := (⟨"com/example/rolebind/rolebind/Decision", "reason", "()Lcom/example/rolebind/rolebind/Decision$Reason;"⟩ : MethodName)) (z := (⟨"com/example/rolebind/rolebind/Decision", "reason", "()Lcom/example/rolebind/rolebind/Decision$Reason;"⟩ : MethodName)) at_132 (g_re l Z a0 n0 hw hEL G1 O1 P1 O_as O_hi O_lo ro O_ro r87 ro h87 W88.old q87_3) q87_1 (tw59 hw) (tw60 hw) (Or.inl (tw62 hw)) (tw62 hw) (tw61 hw) (tw25 hw) (tw63 hw) (by decide) (lenOf pd15 rfl) rfl rfl (by decide) (by decide) rfl sf0 all0 rfl rfl rfl (by decide) (by decide)
        clear W88
        obtain ⟨rfl, hs91⟩ := hQ91
        subst hs91
        have sf92 := SF91 a64 (Nat.lt_of_lt_of_le q86_1.lt z87) sf90
        replace W91 := W91.cast (st' := [(.ref ro)]) rfl
        replace W91 := W91.gets (pc' := 138) at_135 (tw64 hw) O_ro rfl
        replace W91 := W91.acmpT (pc' := 143) at_138 rfl rfl (by simp [Jvm.Free.XT.acmp]) (by decide) (by decide)
        replace W91 := W91.aload (pc' := 145) at_143 rfl rfl rfl
        obtain ⟨V93, h93, r93, W93, K93, hQ93, SF93⟩ := W91.callV (pc' := 148) (argsL := []) (rest := []) (Wd := 0) (cells' := 9) (slots' := 63) (a := r87) (C := "com/example/rolebind/rolebind/Decision") (y := (⟨"com/example/rolebind/rolebind/Decision", "role", "()Ljava/lang/String;"⟩ : MethodName)) (z := (⟨"com/example/rolebind/rolebind/Decision", "role", "()Ljava/lang/String;"⟩ : MethodName)) at_145 (g_ro l Z a0 n0 hw hEL G1 O1 P1 O_as O_hi O_lo ro O_ro r87 a64 h87 W91.old q87_4) q87_1 (tw65 hw) (tw66 hw) (Or.inl (tw68 hw)) (tw68 hw) (tw67 hw) (tw25 hw) (tw69 hw) (by decide) (lenOf pd16 rfl) rfl rfl (by decide) (by decide) rfl sf0 all0 rfl rfl rfl (by decide) (by decide)
        clear W91
        obtain ⟨rfl, hs93⟩ := hQ93
        subst hs93
        have sf94 := SF93 a64 (Nat.lt_of_lt_of_le q86_1.lt z87) sf92
        replace W93 := W93.cast (st' := [(.ref a64)]) rfl
        replace W93 := W93.astore (pc' := 150) (L' := #[.val (.int p0), .val (.int p1), .val (.int p2), .val (.int p3), .val (.int (2 : Int32)), .val (.int (p1 &&& (65535 : Int32))), .val (.int (p2 &&& (65535 : Int32))), .val (.int (p3 &&& (65535 : Int32))), .val (.ref a61), .val (.ref a64), .val (.ref r87), .val (.ref a64)]) at_148 rfl rfl rfl
        replace W93 := W93.aload (pc' := 152) at_150 rfl rfl rfl
        replace W93 := W93.ifnonnullT (pc' := 157) at_152 (by decide) (by decide)
        replace W93 := W93.aload (pc' := 159) at_157 rfl rfl rfl
        replace W93 := W93.aload (pc' := 161) at_159 rfl rfl rfl
        have e96 := (q86_1.keep K87)
        obtain ⟨V95, h95, r95, W95, K95, hQ95, SF95⟩ := W93.callV (pc' := 164) (argsL := [(.ref a64)]) (rest := []) (Wd := 0) (cells' := 9) (slots' := 63) (a := a64) (C := "java/lang/String") (y := (⟨"java/lang/String", "equals", "(Ljava/lang/Object;)Z"⟩ : MethodName)) (z := (⟨"java/lang/String", "equals", "(Ljava/lang/Object;)Z"⟩ : MethodName)) at_161 (eq_self l Z a0 n0 hw hEL G1 O1 P1 O_as O_hi O_lo ro O_ro a64 h87 W93.old) e96 (tw70 hw) (tw71 hw) (Or.inl (tw73 hw)) (tw73 hw) (tw72 hw) (tw4 hw) (tw74 hw) (by decide) (lenOf pd17 rfl) rfl rfl (by decide) (by decide) rfl sf0 all0 rfl rfl rfl (by decide) (by decide)
        clear W93
        obtain ⟨rfl, hs95⟩ := hQ95
        subst hs95
        have sf97 := SF95 a64 (Nat.lt_of_lt_of_le q86_1.lt z87) sf94
        replace W95 := W95.cast (st' := [(.int (1 : Int32))]) rfl
        replace W95 := W95.ifF (pc' := 167) at_164 (feq (by decide : ¬ ((1 : Int32) = (0 : Int32)))).1 rfl
        replace W95 := W95.aload (pc' := 169) at_167 rfl rfl rfl
        have f98 := (q86_2.keep K87 nin0)
        have f99 := (q86_3.keep K87 nin0)
        have v100 := (q86_4.keep K87 nin0)
        obtain ⟨V101, h101, r101, W101, K101, hQ101, SF101⟩ := W95.callV (pc' := 172) (argsL := []) (rest := []) (Wd := 0) (cells' := 9) (slots' := 63) (a := a64) (C := "java/lang/String") (y := (⟨"java/lang/String", "length", "()I"⟩ : MethodName)) (z := (⟨"java/lang/String", "length", "()I"⟩ : MethodName)) at_169 (len_2_1 l Z a0 n0 hw hEL G1 O1 P1 O_as O_hi O_lo ro O_ro a64 t86 kt86 ([(.int ((p1 &&& (65535 : Int32)).toInt8.toInt32)), (.int (((p1 &&& (65535 : Int32)) >>> ((8 : Int32) &&& 31)).toInt8.toInt32)), (.int ((p2 &&& (65535 : Int32)).toInt8.toInt32)), (.int (((p2 &&& (65535 : Int32)) >>> ((8 : Int32) &&& 31)).toInt8.toInt32))]) h87 W95.old e96 f98 f99 v100) e96 (tw75 hw) (tw76 hw) (Or.inl (tw78 hw)) (tw78 hw) (tw77 hw) (tw4 hw) (tw79 hw) (by decide) (lenOf pd18 rfl) rfl rfl (by decide) (by decide) rfl sf0 all0 rfl rfl rfl (by decide) (by decide)
        clear W95
        obtain ⟨rfl, hs101⟩ := hQ101
        subst hs101
        have sf102 := SF101 a64 (Nat.lt_of_lt_of_le q86_1.lt z87) sf97
        replace W101 := W101.cast (st' := [(.int (2 : Int32))]) rfl
        replace W101 := W101.iload (pc' := 174) at_172 rfl rfl
        replace W101 := W101.icmpF (pc' := 177) at_174 (teq (by decide : (2 : Int32) = (2 : Int32))).2 rfl
        replace W101 := W101.iconst (pc' := 178) (v := (1 : Int32)) at_177 rfl rfl
        replace W101 := W101.goto (pc' := 182) at_178 (by decide) (by decide)
        exact W101.iret (t := .boolean) at_182 rfl (by simp) (by decide) (by decide) (by decide) (fun V' cv => rfl)
      · have v103 := (v63.ext E64)
        obtain ⟨V104, h104, r104, W104, K104, hQ104, SF104⟩ := W64.callI (pc' := 111) (argsL := [(.ref a61)]) (rest := [(.ref a64)]) (Wd := 1) (cells' := 3) (slots' := 8) (a := a64) (y := (⟨"java/lang/String", "<init>", "([C)V"⟩ : MethodName)) at_108 (new1_2 l Z a0 n0 hw hEL G1 O1 P1 O_as O_hi O_lo ro O_ro a64 a61 k61 (p1 &&& (65535 : Int32)) (p2 &&& (65535 : Int32)) h64 W64.old A64 (D64 (Or.inr (tw17 hw)) (ty := (.array .byte)) (by decide) : Fld Z h64 a64 "java/lang/String" "value" "[B" .null) (D64 (Or.inr (tw18 hw)) (ty := .byte) (by decide) : Fld Z h64 a64 "java/lang/String" "coder" "B" (.int (0 : Int32))) v103 (own_lat (own_and65535 _) hc65) (own_lat (own_and65535 _) hc84) (Nat.le_trans W64.1.2.2.2.2.2.2.2.1 (Nat.le_trans (Nat.le_trans (Nat.le_trans z61 z62) z63) (Nat.le_of_eq g64.symm)))) rfl (tw5 hw) (tw6 hw) (tw4 hw) (tw7 hw) (by decide) (lenOf pd12 rfl) rfl rfl (by decide) (by decide) rfl (sfS sf64 sf0) (allS (Or.inr (Nat.le_trans (Nat.le_trans (Nat.le_trans z61 z62) z63) (Nat.le_of_eq g64.symm))) all0) rfl rfl rfl (by decide) (by decide)
        clear W64
        obtain ⟨t104, kt104, rfl, q104_1, q104_2, q104_3, q104_4⟩ := hQ104
        have z104 : h64.size ≤ h104.size := K104.1
        replace W104 := W104.cast (st' := [(.ref a64)]) rfl
        replace W104 := W104.astore (pc' := 113) (L' := #[.val (.int p0), .val (.int p1), .val (.int p2), .val (.int p3), .val (.int (2 : Int32)), .val (.int (p1 &&& (65535 : Int32))), .val (.int (p2 &&& (65535 : Int32))), .val (.int (p3 &&& (65535 : Int32))), .val (.ref a61), .val (.ref a64), .unset, .unset]) at_111 rfl rfl rfl
        replace W104 := W104.aload (pc' := 115) at_113 rfl rfl rfl
        obtain ⟨V105, h105, r105, W105, K105, hQ105, SF105⟩ := W104.callS (pc' := 118) (argsL := [(.ref a64)]) (rest := []) (Wd := 0) (cells' := 8) (slots' := 59) (y := (⟨"com/example/rolebind/rolebind/Decision", "allowedByRole", "(Ljava/lang/String;)Lcom/example/rolebind/rolebind/Decision;"⟩ : MethodName)) at_115 (abr l Z a0 n0 hw hEL G1 O1 P1 O_as O_hi O_lo ro O_ro a64 h104 W104.old q104_1) (tw23 hw) (tw24 hw) (tw25 hw) (tw26 hw) (by decide) (lenOf pd13 rfl) rfl rfl (by decide) (by decide) rfl sf0 all0 rfl rfl rfl (by decide) (by decide)
        clear W104
        obtain ⟨r105, rfl, q105_1, q105_2, q105_3, q105_4⟩ := hQ105
        have z105 : h104.size ≤ h105.size := K105.1
        replace W105 := W105.cast (st' := [(.ref r105)]) rfl
        replace W105 := W105.astore (pc' := 120) (L' := #[.val (.int p0), .val (.int p1), .val (.int p2), .val (.int p3), .val (.int (2 : Int32)), .val (.int (p1 &&& (65535 : Int32))), .val (.int (p2 &&& (65535 : Int32))), .val (.int (p3 &&& (65535 : Int32))), .val (.ref a61), .val (.ref a64), .val (.ref r105), .unset]) at_118 rfl rfl rfl
        replace W105 := W105.aload (pc' := 122) at_120 rfl rfl rfl
        obtain ⟨V106, h106, r106, W106, K106, hQ106, SF106⟩ := W105.callV (pc' := 125) (argsL := []) (rest := []) (Wd := 0) (cells' := 8) (slots' := 59) (a := r105) (C := "com/example/rolebind/rolebind/Decision") (y := (⟨"com/example/rolebind/rolebind/Decision", "allowed", "()Z"⟩ : MethodName)) (z := (⟨"com/example/rolebind/rolebind/Decision", "allowed", "()Z"⟩ : MethodName)) at_122 (g_al l Z a0 n0 hw hEL G1 O1 P1 O_as O_hi O_lo ro O_ro r105 h105 W105.old q105_2) q105_1 (tw54 hw) (tw55 hw) (Or.inl (tw57 hw)) (tw57 hw) (tw56 hw) (tw25 hw) (tw58 hw) (by decide) (lenOf pd14 rfl) rfl rfl (by decide) (by decide) rfl sf0 all0 rfl rfl rfl (by decide) (by decide)
        clear W105
        obtain ⟨rfl, hs106⟩ := hQ106
        subst hs106
        have sf107 := (SF105 a64 q104_1.lt (SF104 a64 A64.lt sf64))
        have sf108 := SF106 a64 (Nat.lt_of_lt_of_le q104_1.lt z105) sf107
        replace W106 := W106.cast (st' := [(.int (1 : Int32))]) rfl
        replace W106 := W106.ifT (pc' := 130) at_125 (feq (by decide : ¬ ((1 : Int32) = (0 : Int32)))).2 (by decide) (by decide)
        replace W106 := W106.aload (pc' := 132) at_130 rfl rfl rfl
        obtain ⟨V109, h109, r109, W109, K109, hQ109, SF109⟩ := W106.callV (pc' := 135) (argsL := []) (rest := []) (Wd := 0) (cells' := 8) (slots' := 59) (a := r105) (C := "com/example/rolebind/rolebind/Decision") (y := (⟨"com/example/rolebind/rolebind/Decision", "reason", "()Lcom/example/rolebind/rolebind/Decision$Reason;"⟩ : MethodName)) (z := (⟨"com/example/rolebind/rolebind/Decision", "reason", "()Lcom/example/rolebind/rolebind/Decision$Reason;"⟩ : MethodName)) at_132 (g_re l Z a0 n0 hw hEL G1 O1 P1 O_as O_hi O_lo ro O_ro r105 ro h105 W106.old q105_3) q105_1 (tw59 hw) (tw60 hw) (Or.inl (tw62 hw)) (tw62 hw) (tw61 hw) (tw25 hw) (tw63 hw) (by decide) (lenOf pd15 rfl) rfl rfl (by decide) (by decide) rfl sf0 all0 rfl rfl rfl (by decide) (by decide)
        clear W106
        obtain ⟨rfl, hs109⟩ := hQ109
        subst hs109
        have sf110 := SF109 a64 (Nat.lt_of_lt_of_le q104_1.lt z105) sf108
        replace W109 := W109.cast (st' := [(.ref ro)]) rfl
        replace W109 := W109.gets (pc' := 138) at_135 (tw64 hw) O_ro rfl
        replace W109 := W109.acmpT (pc' := 143) at_138 rfl rfl (by simp [Jvm.Free.XT.acmp]) (by decide) (by decide)
        replace W109 := W109.aload (pc' := 145) at_143 rfl rfl rfl
        obtain ⟨V111, h111, r111, W111, K111, hQ111, SF111⟩ := W109.callV (pc' := 148) (argsL := []) (rest := []) (Wd := 0) (cells' := 8) (slots' := 59) (a := r105) (C := "com/example/rolebind/rolebind/Decision") (y := (⟨"com/example/rolebind/rolebind/Decision", "role", "()Ljava/lang/String;"⟩ : MethodName)) (z := (⟨"com/example/rolebind/rolebind/Decision", "role", "()Ljava/lang/String;"⟩ : MethodName)) at_145 (g_ro l Z a0 n0 hw hEL G1 O1 P1 O_as O_hi O_lo ro O_ro r105 a64 h105 W109.old q105_4) q105_1 (tw65 hw) (tw66 hw) (Or.inl (tw68 hw)) (tw68 hw) (tw67 hw) (tw25 hw) (tw69 hw) (by decide) (lenOf pd16 rfl) rfl rfl (by decide) (by decide) rfl sf0 all0 rfl rfl rfl (by decide) (by decide)
        clear W109
        obtain ⟨rfl, hs111⟩ := hQ111
        subst hs111
        have sf112 := SF111 a64 (Nat.lt_of_lt_of_le q104_1.lt z105) sf110
        replace W111 := W111.cast (st' := [(.ref a64)]) rfl
        replace W111 := W111.astore (pc' := 150) (L' := #[.val (.int p0), .val (.int p1), .val (.int p2), .val (.int p3), .val (.int (2 : Int32)), .val (.int (p1 &&& (65535 : Int32))), .val (.int (p2 &&& (65535 : Int32))), .val (.int (p3 &&& (65535 : Int32))), .val (.ref a61), .val (.ref a64), .val (.ref r105), .val (.ref a64)]) at_148 rfl rfl rfl
        replace W111 := W111.aload (pc' := 152) at_150 rfl rfl rfl
        replace W111 := W111.ifnonnullT (pc' := 157) at_152 (by decide) (by decide)
        replace W111 := W111.aload (pc' := 159) at_157 rfl rfl rfl
        replace W111 := W111.aload (pc' := 161) at_159 rfl rfl rfl
        have e114 := (q104_1.keep K105)
        obtain ⟨V113, h113, r113, W113, K113, hQ113, SF113⟩ := W111.callV (pc' := 164) (argsL := [(.ref a64)]) (rest := []) (Wd := 0) (cells' := 8) (slots' := 59) (a := a64) (C := "java/lang/String") (y := (⟨"java/lang/String", "equals", "(Ljava/lang/Object;)Z"⟩ : MethodName)) (z := (⟨"java/lang/String", "equals", "(Ljava/lang/Object;)Z"⟩ : MethodName)) at_161 (eq_self l Z a0 n0 hw hEL G1 O1 P1 O_as O_hi O_lo ro O_ro a64 h105 W111.old) e114 (tw70 hw) (tw71 hw) (Or.inl (tw73 hw)) (tw73 hw) (tw72 hw) (tw4 hw) (tw74 hw) (by decide) (lenOf pd17 rfl) rfl rfl (by decide) (by decide) rfl sf0 all0 rfl rfl rfl (by decide) (by decide)
        clear W111
        obtain ⟨rfl, hs113⟩ := hQ113
        subst hs113
        have sf115 := SF113 a64 (Nat.lt_of_lt_of_le q104_1.lt z105) sf112
        replace W113 := W113.cast (st' := [(.int (1 : Int32))]) rfl
        replace W113 := W113.ifF (pc' := 167) at_164 (feq (by decide : ¬ ((1 : Int32) = (0 : Int32)))).1 rfl
        replace W113 := W113.aload (pc' := 169) at_167 rfl rfl rfl
        have f116 := (q104_2.keep K105 nin0)
        have f117 := (q104_3.keep K105 nin0)
        have v118 := (q104_4.keep K105 nin0)
        obtain ⟨V119, h119, r119, W119, K119, hQ119, SF119⟩ := W113.callV (pc' := 172) (argsL := []) (rest := []) (Wd := 0) (cells' := 8) (slots' := 59) (a := a64) (C := "java/lang/String") (y := (⟨"java/lang/String", "length", "()I"⟩ : MethodName)) (z := (⟨"java/lang/String", "length", "()I"⟩ : MethodName)) at_169 (len_2_0 l Z a0 n0 hw hEL G1 O1 P1 O_as O_hi O_lo ro O_ro a64 t104 kt104 ([(.int ((p1 &&& (65535 : Int32)).toInt8.toInt32)), (.int ((p2 &&& (65535 : Int32)).toInt8.toInt32))]) h105 W113.old e114 f116 f117 v118) e114 (tw75 hw) (tw76 hw) (Or.inl (tw78 hw)) (tw78 hw) (tw77 hw) (tw4 hw) (tw79 hw) (by decide) (lenOf pd18 rfl) rfl rfl (by decide) (by decide) rfl sf0 all0 rfl rfl rfl (by decide) (by decide)
        clear W113
        obtain ⟨rfl, hs119⟩ := hQ119
        subst hs119
        have sf120 := SF119 a64 (Nat.lt_of_lt_of_le q104_1.lt z105) sf115
        replace W119 := W119.cast (st' := [(.int (2 : Int32))]) rfl
        replace W119 := W119.iload (pc' := 174) at_172 rfl rfl
        replace W119 := W119.icmpF (pc' := 177) at_174 (teq (by decide : (2 : Int32) = (2 : Int32))).2 rfl
        replace W119 := W119.iconst (pc' := 178) (v := (1 : Int32)) at_177 rfl rfl
        replace W119 := W119.goto (pc' := 182) at_178 (by decide) (by decide)
        exact W119.iret (t := .boolean) at_182 rfl (by simp) (by decide) (by decide) (by decide) (fun V' cv => rfl)
  · replace W := W.istore (pc' := 5) (L' := #[.val (.int p0), .val (.int p1), .val (.int p2), .val (.int p3), .val (.int (3 : Int32)), .unset, .unset, .unset, .unset, .unset, .unset, .unset]) at_3 rfl rfl
    replace W := W.iloadN (pc' := 6) at_5 rfl rfl
    replace W := W.ldcI (pc' := 8) at_6 (tw0 hw) rfl
    replace W := W.iand (pc' := 9) (v := (p1 &&& (65535 : Int32))) at_8 rfl rfl
    replace W := W.i2c (pc' := 10) (v := (p1 &&& (65535 : Int32))) at_9 (own_i2c (own_and65535 _)) rfl
    replace W := W.istore (pc' := 12) (L' := #[.val (.int p0), .val (.int p1), .val (.int p2), .val (.int p3), .val (.int (3 : Int32)), .val (.int (p1 &&& (65535 : Int32))), .unset, .unset, .unset, .unset, .unset, .unset]) at_10 rfl rfl
    replace W := W.iloadN (pc' := 13) at_12 rfl rfl
    replace W := W.ldcI (pc' := 15) at_13 (tw0 hw) rfl
    replace W := W.iand (pc' := 16) (v := (p2 &&& (65535 : Int32))) at_15 rfl rfl
    replace W := W.i2c (pc' := 17) (v := (p2 &&& (65535 : Int32))) at_16 (own_i2c (own_and65535 _)) rfl
    replace W := W.istore (pc' := 19) (L' := #[.val (.int p0), .val (.int p1), .val (.int p2), .val (.int p3), .val (.int (3 : Int32)), .val (.int (p1 &&& (65535 : Int32))), .val (.int (p2 &&& (65535 : Int32))), .unset, .unset, .unset, .unset, .unset]) at_17 rfl rfl
    replace W := W.iloadN (pc' := 20) at_19 rfl rfl
    replace W := W.ldcI (pc' := 22) at_20 (tw0 hw) rfl
    replace W := W.iand (pc' := 23) (v := (p3 &&& (65535 : Int32))) at_22 rfl rfl
    replace W := W.i2c (pc' := 24) (v := (p3 &&& (65535 : Int32))) at_23 (own_i2c (own_and65535 _)) rfl
    replace W := W.istore (pc' := 26) (L' := #[.val (.int p0), .val (.int p1), .val (.int p2), .val (.int p3), .val (.int (3 : Int32)), .val (.int (p1 &&& (65535 : Int32))), .val (.int (p2 &&& (65535 : Int32))), .val (.int (p3 &&& (65535 : Int32))), .unset, .unset, .unset, .unset]) at_24 rfl rfl
    replace W := W.iload (pc' := 28) at_26 rfl rfl
    replace W := W.ifT (pc' := 39) at_28 (feq (by decide : ¬ ((3 : Int32) = (0 : Int32)))).2 (by decide) (by decide)
    replace W := W.iload (pc' := 41) at_39 rfl rfl
    replace W := W.iconst (pc' := 42) (v := (1 : Int32)) at_41 rfl rfl
    replace W := W.icmpT (pc' := 58) at_42 (feq (by decide : ¬ ((3 : Int32) = (1 : Int32)))).2 (by decide) (by decide)
    replace W := W.iload (pc' := 60) at_58 rfl rfl
    replace W := W.iconst (pc' := 61) (v := (2 : Int32)) at_60 rfl rfl
    replace W := W.icmpT (pc' := 82) at_61 (feq (by decide : ¬ ((3 : Int32) = (2 : Int32)))).2 (by decide) (by decide)
    replace W := W.iconst (pc' := 83) (v := (3 : Int32)) at_82 rfl rfl
    obtain ⟨h121, a121, W121, E121, g121, ⟨k121, A121⟩, sf121, SF121⟩ := W.newarr (pc' := 85) (cap := 3) (cells' := 1) (slots' := 3) at_83 (tw1 hw) (by decide) (by decide) (by decide) rfl rfl rfl (by decide) (by decide)
    clear W
    rw [← g121] at A121
    have z121 : h0.size ≤ h121.size := E121.1
    have v121 : Arv Z h121 a121 k121 .char (3 : Int32) [(.int (0 : Int32)), (.int (0 : Int32)), (.int (0 : Int32))] (.int (0 : Int32)) := A121.pad (pad_rep [] (.int (0 : Int32)) 3)
    replace W121 := W121.dup (pc' := 86) at_85 rfl rfl
    replace W121 := W121.iconst (pc' := 87) (v := (0 : Int32)) at_86 rfl rfl
    replace W121 := W121.iload (pc' := 89) at_87 rfl rfl
    obtain ⟨h122, W122, w122, A122, SF122⟩ := W121.castore (pc' := 90) (i := 0) (x' := (p1 &&& (65535 : Int32))) at_89 v121 ⟨by decide, by decide⟩ rfl (by show 0 < 3; decide) (own_narc (own_and65535 _)) (W121.safeA v121 (by decide)) (Or.inr (Nat.le_of_eq g121.symm)) rfl
    clear W121
    have z122 : h121.size ≤ h122.size := Nat.le_of_eq w122.size.symm
    have v122 : Arv Z h122 a121 k121 .char (3 : Int32) [(.int (p1 &&& (65535 : Int32))), (.int (0 : Int32)), (.int (0 : Int32))] (.int (0 : Int32)) := A122
    replace W122 := W122.dup (pc' := 91) at_90 rfl rfl
    replace W122 := W122.iconst (pc' := 92) (v := (1 : Int32)) at_91 rfl rfl
    replace W122 := W122.iload (pc' := 94) at_92 rfl rfl
    obtain ⟨h123, W123, w123, A123, SF123⟩ := W122.castore (pc' := 95) (i := 1) (x' := (p2 &&& (65535 : Int32))) at_94 v122 ⟨by decide, by decide⟩ rfl (by show 1 < 3; decide) (own_narc (own_and65535 _)) (W122.safeA v122 (by decide)) (Or.inr (Nat.le_of_eq g121.symm)) rfl
    clear W122
    have z123 : h122.size ≤ h123.size := Nat.le_of_eq w123.size.symm
    have v123 : Arv Z h123 a121 k121 .char (3 : Int32) [(.int (p1 &&& (65535 : Int32))), (.int (p2 &&& (65535 : Int32))), (.int (0 : Int32))] (.int (0 : Int32)) := A123
    replace W123 := W123.dup (pc' := 96) at_95 rfl rfl
    replace W123 := W123.iconst (pc' := 97) (v := (2 : Int32)) at_96 rfl rfl
    replace W123 := W123.iload (pc' := 99) at_97 rfl rfl
    obtain ⟨h124, W124, w124, A124, SF124⟩ := W123.castore (pc' := 100) (i := 2) (x' := (p3 &&& (65535 : Int32))) at_99 v123 ⟨by decide, by decide⟩ rfl (by show 2 < 3; decide) (own_narc (own_and65535 _)) (W123.safeA v123 (by decide)) (Or.inr (Nat.le_of_eq g121.symm)) rfl
    clear W123
    have z124 : h123.size ≤ h124.size := Nat.le_of_eq w124.size.symm
    have v124 : Arv Z h124 a121 k121 .char (3 : Int32) [(.int (p1 &&& (65535 : Int32))), (.int (p2 &&& (65535 : Int32))), (.int (p3 &&& (65535 : Int32)))] (.int (0 : Int32)) := A124
    replace W124 := W124.astore (pc' := 102) (L' := #[.val (.int p0), .val (.int p1), .val (.int p2), .val (.int p3), .val (.int (3 : Int32)), .val (.int (p1 &&& (65535 : Int32))), .val (.int (p2 &&& (65535 : Int32))), .val (.int (p3 &&& (65535 : Int32))), .val (.ref a121), .unset, .unset, .unset]) at_100 rfl rfl rfl
    obtain ⟨h125, a125, W125, E125, g125, ⟨A125, D125, U125⟩, sf125, SF125⟩ := W124.new (pc' := 105) (cells' := 2) (slots' := 7) at_102 (tw2 hw) (tw3 hw) (tw4 hw) rfl rfl rfl (by decide) (by decide)
    clear W124
    rw [← g125] at A125 D125 U125
    have z125 : h124.size ≤ h125.size := E125.1
    replace W125 := W125.dup (pc' := 106) at_105 rfl rfl
    replace W125 := W125.aload (pc' := 108) at_106 rfl rfl rfl
    by_cases hc126 : (255 : Int32) < (p1 &&& (65535 : Int32))
    · have v127 := (v124.ext E125)
      obtain ⟨V128, h128, r128, W128, K128, hQ128, SF128⟩ := W125.callI (pc' := 111) (argsL := [(.ref a121)]) (rest := [(.ref a125)]) (Wd := 1) (cells' := 4) (slots' := 16) (a := a125) (y := (⟨"java/lang/String", "<init>", "([C)V"⟩ : MethodName)) at_108 (new1_3w0 l Z a0 n0 hw hEL G1 O1 P1 O_as O_hi O_lo ro O_ro a125 a121 k121 (p1 &&& (65535 : Int32)) (p2 &&& (65535 : Int32)) (p3 &&& (65535 : Int32)) h125 W125.old A125 (D125 (Or.inr (tw17 hw)) (ty := (.array .byte)) (by decide) : Fld Z h125 a125 "java/lang/String" "value" "[B" .null) (D125 (Or.inr (tw18 hw)) (ty := .byte) (by decide) : Fld Z h125 a125 "java/lang/String" "coder" "B" (.int (0 : Int32))) v127 (own_and65535 _) (own_and65535 _) (own_and65535 _) hc126 (Nat.le_trans W125.1.2.2.2.2.2.2.2.1 (Nat.le_trans (Nat.le_trans (Nat.le_trans (Nat.le_trans z121 z122) z123) z124) (Nat.le_of_eq g125.symm)))) rfl (tw5 hw) (tw6 hw) (tw4 hw) (tw7 hw) (by decide) (lenOf pd12 rfl) rfl rfl (by decide) (by decide) rfl (sfS sf125 sf0) (allS (Or.inr (Nat.le_trans (Nat.le_trans (Nat.le_trans (Nat.le_trans z121 z122) z123) z124) (Nat.le_of_eq g125.symm))) all0) rfl rfl rfl (by decide) (by decide)
      clear W125
      obtain ⟨t128, kt128, rfl, q128_1, q128_2, q128_3, q128_4⟩ := hQ128
      have z128 : h125.size ≤ h128.size := K128.1
      replace W128 := W128.cast (st' := [(.ref a125)]) rfl
      replace W128 := W128.astore (pc' := 113) (L' := #[.val (.int p0), .val (.int p1), .val (.int p2), .val (.int p3), .val (.int (3 : Int32)), .val (.int (p1 &&& (65535 : Int32))), .val (.int (p2 &&& (65535 : Int32))), .val (.int (p3 &&& (65535 : Int32))), .val (.ref a121), .val (.ref a125), .unset, .unset]) at_111 rfl rfl rfl
      replace W128 := W128.aload (pc' := 115) at_113 rfl rfl rfl
      obtain ⟨V129, h129, r129, W129, K129, hQ129, SF129⟩ := W128.callS (pc' := 118) (argsL := [(.ref a125)]) (rest := []) (Wd := 0) (cells' := 9) (slots' := 67) (y := (⟨"com/example/rolebind/rolebind/Decision", "allowedByRole", "(Ljava/lang/String;)Lcom/example/rolebind/rolebind/Decision;"⟩ : MethodName)) at_115 (abr l Z a0 n0 hw hEL G1 O1 P1 O_as O_hi O_lo ro O_ro a125 h128 W128.old q128_1) (tw23 hw) (tw24 hw) (tw25 hw) (tw26 hw) (by decide) (lenOf pd13 rfl) rfl rfl (by decide) (by decide) rfl sf0 all0 rfl rfl rfl (by decide) (by decide)
      clear W128
      obtain ⟨r129, rfl, q129_1, q129_2, q129_3, q129_4⟩ := hQ129
      have z129 : h128.size ≤ h129.size := K129.1
      replace W129 := W129.cast (st' := [(.ref r129)]) rfl
      replace W129 := W129.astore (pc' := 120) (L' := #[.val (.int p0), .val (.int p1), .val (.int p2), .val (.int p3), .val (.int (3 : Int32)), .val (.int (p1 &&& (65535 : Int32))), .val (.int (p2 &&& (65535 : Int32))), .val (.int (p3 &&& (65535 : Int32))), .val (.ref a121), .val (.ref a125), .val (.ref r129), .unset]) at_118 rfl rfl rfl
      replace W129 := W129.aload (pc' := 122) at_120 rfl rfl rfl
      obtain ⟨V130, h130, r130, W130, K130, hQ130, SF130⟩ := W129.callV (pc' := 125) (argsL := []) (rest := []) (Wd := 0) (cells' := 9) (slots' := 67) (a := r129) (C := "com/example/rolebind/rolebind/Decision") (y := (⟨"com/example/rolebind/rolebind/Decision", "allowed", "()Z"⟩ : MethodName)) (z := (⟨"com/example/rolebind/rolebind/Decision", "allowed", "()Z"⟩ : MethodName)) at_122 (g_al l Z a0 n0 hw hEL G1 O1 P1 O_as O_hi O_lo ro O_ro r129 h129 W129.old q129_2) q129_1 (tw54 hw) (tw55 hw) (Or.inl (tw57 hw)) (tw57 hw) (tw56 hw) (tw25 hw) (tw58 hw) (by decide) (lenOf pd14 rfl) rfl rfl (by decide) (by decide) rfl sf0 all0 rfl rfl rfl (by decide) (by decide)
      clear W129
      obtain ⟨rfl, hs130⟩ := hQ130
      subst hs130
      have sf131 := (SF129 a125 q128_1.lt (SF128 a125 A125.lt sf125))
      have sf132 := SF130 a125 (Nat.lt_of_lt_of_le q128_1.lt z129) sf131
      replace W130 := W130.cast (st' := [(.int (1 : Int32))]) rfl
      replace W130 := W130.ifT (pc' := 130) at_125 (feq (by decide : ¬ ((1 : Int32) = (0 : Int32)))).2 (by decide) (by decide)
      replace W130 := W130.aload (pc' := 132) at_130 rfl rfl rfl
      obtain ⟨V133, h133, r133, W133, K133, hQ133, SF133⟩ := W130.callV (pc' := 135) (argsL := []) (rest := []) (Wd := 0) (cells' := 9) (slots' := 67) (a := r129) (C := "com/example/rolebind/rolebind/Decision") (y := (⟨"com/example/rolebind/rolebind/Decision", "reason", "()Lcom/example/rolebind/rolebind/Decision$Reason;"⟩ : MethodName)) (z := (⟨"com/example/rolebind/rolebind/Decision", "reason", "()Lcom/example/rolebind/rolebind/Decision$Reason;"⟩ : MethodName)) at_132 (g_re l Z a0 n0 hw hEL G1 O1 P1 O_as O_hi O_lo ro O_ro r129 ro h129 W130.old q129_3) q129_1 (tw59 hw) (tw60 hw) (Or.inl (tw62 hw)) (tw62 hw) (tw61 hw) (tw25 hw) (tw63 hw) (by decide) (lenOf pd15 rfl) rfl rfl (by decide) (by decide) rfl sf0 all0 rfl rfl rfl (by decide) (by decide)
      clear W130
      obtain ⟨rfl, hs133⟩ := hQ133
      subst hs133
      have sf134 := SF133 a125 (Nat.lt_of_lt_of_le q128_1.lt z129) sf132
      replace W133 := W133.cast (st' := [(.ref ro)]) rfl
      replace W133 := W133.gets (pc' := 138) at_135 (tw64 hw) O_ro rfl
      replace W133 := W133.acmpT (pc' := 143) at_138 rfl rfl (by simp [Jvm.Free.XT.acmp]) (by decide) (by decide)
      replace W133 := W133.aload (pc' := 145) at_143 rfl rfl rfl
      obtain ⟨V135, h135, r135, W135, K135, hQ135, SF135⟩ := W133.callV (pc' := 148) (argsL := []) (rest := []) (Wd := 0) (cells' := 9) (slots' := 67) (a := r129) (C := "com/example/rolebind/rolebind/Decision") (y := (⟨"com/example/rolebind/rolebind/Decision", "role", "()Ljava/lang/String;"⟩ : MethodName)) (z := (⟨"com/example/rolebind/rolebind/Decision", "role", "()Ljava/lang/String;"⟩ : MethodName)) at_145 (g_ro l Z a0 n0 hw hEL G1 O1 P1 O_as O_hi O_lo ro O_ro r129 a125 h129 W133.old q129_4) q129_1 (tw65 hw) (tw66 hw) (Or.inl (tw68 hw)) (tw68 hw) (tw67 hw) (tw25 hw) (tw69 hw) (by decide) (lenOf pd16 rfl) rfl rfl (by decide) (by decide) rfl sf0 all0 rfl rfl rfl (by decide) (by decide)
      clear W133
      obtain ⟨rfl, hs135⟩ := hQ135
      subst hs135
      have sf136 := SF135 a125 (Nat.lt_of_lt_of_le q128_1.lt z129) sf134
      replace W135 := W135.cast (st' := [(.ref a125)]) rfl
      replace W135 := W135.astore (pc' := 150) (L' := #[.val (.int p0), .val (.int p1), .val (.int p2), .val (.int p3), .val (.int (3 : Int32)), .val (.int (p1 &&& (65535 : Int32))), .val (.int (p2 &&& (65535 : Int32))), .val (.int (p3 &&& (65535 : Int32))), .val (.ref a121), .val (.ref a125), .val (.ref r129), .val (.ref a125)]) at_148 rfl rfl rfl
      replace W135 := W135.aload (pc' := 152) at_150 rfl rfl rfl
      replace W135 := W135.ifnonnullT (pc' := 157) at_152 (by decide) (by decide)
      replace W135 := W135.aload (pc' := 159) at_157 rfl rfl rfl
      replace W135 := W135.aload (pc' := 161) at_159 rfl rfl rfl
      have e138 := (q128_1.keep K129)
      obtain ⟨V137, h137, r137, W137, K137, hQ137, SF137⟩ := W135.callV (pc' := 164) (argsL := [(.ref a125)]) (rest := []) (Wd := 0) (cells' := 9) (slots' := 67) (a := a125) (C := "java/lang/String") (y := (⟨"java/lang/String", "equals", "(Ljava/lang/Object;)Z"⟩ : MethodName)) (z := (⟨"java/lang/String", "equals", "(Ljava/lang/Object;)Z"⟩ : MethodName)) at_161 (eq_self l Z a0 n0 hw hEL G1 O1 P1 O_as O_hi O_lo ro O_ro a125 h129 W135.old) e138 (tw70 hw) (tw71 hw) (Or.inl (tw73 hw)) (tw73 hw) (tw72 hw) (tw4 hw) (tw74 hw) (by decide) (lenOf pd17 rfl) rfl rfl (by decide) (by decide) rfl sf0 all0 rfl rfl rfl (by decide) (by decide)
      clear W135
      obtain ⟨rfl, hs137⟩ := hQ137
      subst hs137
      have sf139 := SF137 a125 (Nat.lt_of_lt_of_le q128_1.lt z129) sf136
      replace W137 := W137.cast (st' := [(.int (1 : Int32))]) rfl
      replace W137 := W137.ifF (pc' := 167) at_164 (feq (by decide : ¬ ((1 : Int32) = (0 : Int32)))).1 rfl
      replace W137 := W137.aload (pc' := 169) at_167 rfl rfl rfl
      have f140 := (q128_2.keep K129 nin0)
      have f141 := (q128_3.keep K129 nin0)
      have v142 := (q128_4.keep K129 nin0)
      obtain ⟨V143, h143, r143, W143, K143, hQ143, SF143⟩ := W137.callV (pc' := 172) (argsL := []) (rest := []) (Wd := 0) (cells' := 9) (slots' := 67) (a := a125) (C := "java/lang/String") (y := (⟨"java/lang/String", "length", "()I"⟩ : MethodName)) (z := (⟨"java/lang/String", "length", "()I"⟩ : MethodName)) at_169 (len_3_1 l Z a0 n0 hw hEL G1 O1 P1 O_as O_hi O_lo ro O_ro a125 t128 kt128 ([(.int ((p1 &&& (65535 : Int32)).toInt8.toInt32)), (.int (((p1 &&& (65535 : Int32)) >>> ((8 : Int32) &&& 31)).toInt8.toInt32)), (.int ((p2 &&& (65535 : Int32)).toInt8.toInt32)), (.int (((p2 &&& (65535 : Int32)) >>> ((8 : Int32) &&& 31)).toInt8.toInt32)), (.int ((p3 &&& (65535 : Int32)).toInt8.toInt32)), (.int (((p3 &&& (65535 : Int32)) >>> ((8 : Int32) &&& 31)).toInt8.toInt32))]) h129 W137.old e138 f140 f141 v142) e138 (tw75 hw) (tw76 hw) (Or.inl (tw78 hw)) (tw78 hw) (tw77 hw) (tw4 hw) (tw79 hw) (by decide) (lenOf pd18 rfl) rfl rfl (by decide) (by decide) rfl sf0 all0 rfl rfl rfl (by decide) (by decide)
      clear W137
      obtain ⟨rfl, hs143⟩ := hQ143
      subst hs143
      have sf144 := SF143 a125 (Nat.lt_of_lt_of_le q128_1.lt z129) sf139
      replace W143 := W143.cast (st' := [(.int (3 : Int32))]) rfl
      replace W143 := W143.iload (pc' := 174) at_172 rfl rfl
      replace W143 := W143.icmpF (pc' := 177) at_174 (teq (by decide : (3 : Int32) = (3 : Int32))).2 rfl
      replace W143 := W143.iconst (pc' := 178) (v := (1 : Int32)) at_177 rfl rfl
      replace W143 := W143.goto (pc' := 182) at_178 (by decide) (by decide)
      exact W143.iret (t := .boolean) at_182 rfl (by simp) (by decide) (by decide) (by decide) (fun V' cv => rfl)
    · by_cases hc145 : (255 : Int32) < (p2 &&& (65535 : Int32))
      · have v146 := (v124.ext E125)
        obtain ⟨V147, h147, r147, W147, K147, hQ147, SF147⟩ := W125.callI (pc' := 111) (argsL := [(.ref a121)]) (rest := [(.ref a125)]) (Wd := 1) (cells' := 4) (slots' := 16) (a := a125) (y := (⟨"java/lang/String", "<init>", "([C)V"⟩ : MethodName)) at_108 (new1_3w1 l Z a0 n0 hw hEL G1 O1 P1 O_as O_hi O_lo ro O_ro a125 a121 k121 (p1 &&& (65535 : Int32)) (p2 &&& (65535 : Int32)) (p3 &&& (65535 : Int32)) h125 W125.old A125 (D125 (Or.inr (tw17 hw)) (ty := (.array .byte)) (by decide) : Fld Z h125 a125 "java/lang/String" "value" "[B" .null) (D125 (Or.inr (tw18 hw)) (ty := .byte) (by decide) : Fld Z h125 a125 "java/lang/String" "coder" "B" (.int (0 : Int32))) v146 (own_and65535 _) (own_and65535 _) (own_and65535 _) (own_lat (own_and65535 _) hc126) hc145 (Nat.le_trans W125.1.2.2.2.2.2.2.2.1 (Nat.le_trans (Nat.le_trans (Nat.le_trans (Nat.le_trans z121 z122) z123) z124) (Nat.le_of_eq g125.symm)))) rfl (tw5 hw) (tw6 hw) (tw4 hw) (tw7 hw) (by decide) (lenOf pd12 rfl) rfl rfl (by decide) (by decide) rfl (sfS sf125 sf0) (allS (Or.inr (Nat.le_trans (Nat.le_trans (Nat.le_trans (Nat.le_trans z121 z122) z123) z124) (Nat.le_of_eq g125.symm))) all0) rfl rfl rfl (by decide) (by decide)
        clear W125
        obtain ⟨t147, kt147, rfl, q147_1, q147_2, q147_3, q147_4⟩ := hQ147
        have z147 : h125.size ≤ h147.size := K147.1
        replace W147 := W147.cast (st' := [(.ref a125)]) rfl
        replace W147 := W147.astore (pc' := 113) (L' := #[.val (.int p0), .val (.int p1), .val (.int p2), .val (.int p3), .val (.int (3 : Int32)), .val (.int (p1 &&& (65535 : Int32))), .val (.int (p2 &&& (65535 : Int32))), .val (.int (p3 &&& (65535 : Int32))), .val (.ref a121), .val (.ref a125), .unset, .unset]) at_111 rfl rfl rfl
        replace W147 := W147.aload (pc' := 115) at_113 rfl rfl rfl
        obtain ⟨V148, h148, r148, W148, K148, hQ148, SF148⟩ := W147.callS (pc' := 118) (argsL := [(.ref a125)]) (rest := []) (Wd := 0) (cells' := 9) (slots' := 67) (y := (⟨"com/example/rolebind/rolebind/Decision", "allowedByRole", "(Ljava/lang/String;)Lcom/example/rolebind/rolebind/Decision;"⟩ : MethodName)) at_115 (abr l Z a0 n0 hw hEL G1 O1 P1 O_as O_hi O_lo ro O_ro a125 h147 W147.old q147_1) (tw23 hw) (tw24 hw) (tw25 hw) (tw26 hw) (by decide) (lenOf pd13 rfl) rfl rfl (by decide) (by decide) rfl sf0 all0 rfl rfl rfl (by decide) (by decide)
        clear W147
        obtain ⟨r148, rfl, q148_1, q148_2, q148_3, q148_4⟩ := hQ148
        have z148 : h147.size ≤ h148.size := K148.1
        replace W148 := W148.cast (st' := [(.ref r148)]) rfl
        replace W148 := W148.astore (pc' := 120) (L' := #[.val (.int p0), .val (.int p1), .val (.int p2), .val (.int p3), .val (.int (3 : Int32)), .val (.int (p1 &&& (65535 : Int32))), .val (.int (p2 &&& (65535 : Int32))), .val (.int (p3 &&& (65535 : Int32))), .val (.ref a121), .val (.ref a125), .val (.ref r148), .unset]) at_118 rfl rfl rfl
        replace W148 := W148.aload (pc' := 122) at_120 rfl rfl rfl
        obtain ⟨V149, h149, r149, W149, K149, hQ149, SF149⟩ := W148.callV (pc' := 125) (argsL := []) (rest := []) (Wd := 0) (cells' := 9) (slots' := 67) (a := r148) (C := "com/example/rolebind/rolebind/Decision") (y := (⟨"com/example/rolebind/rolebind/Decision", "allowed", "()Z"⟩ : MethodName)) (z := (⟨"com/example/rolebind/rolebind/Decision", "allowed", "()Z"⟩ : MethodName)) at_122 (g_al l Z a0 n0 hw hEL G1 O1 P1 O_as O_hi O_lo ro O_ro r148 h148 W148.old q148_2) q148_1 (tw54 hw) (tw55 hw) (Or.inl (tw57 hw)) (tw57 hw) (tw56 hw) (tw25 hw) (tw58 hw) (by decide) (lenOf pd14 rfl) rfl rfl (by decide) (by decide) rfl sf0 all0 rfl rfl rfl (by decide) (by decide)
        clear W148
        obtain ⟨rfl, hs149⟩ := hQ149
        subst hs149
        have sf150 := (SF148 a125 q147_1.lt (SF147 a125 A125.lt sf125))
        have sf151 := SF149 a125 (Nat.lt_of_lt_of_le q147_1.lt z148) sf150
        replace W149 := W149.cast (st' := [(.int (1 : Int32))]) rfl
        replace W149 := W149.ifT (pc' := 130) at_125 (feq (by decide : ¬ ((1 : Int32) = (0 : Int32)))).2 (by decide) (by decide)
        replace W149 := W149.aload (pc' := 132) at_130 rfl rfl rfl
        obtain ⟨V152, h152, r152, W152, K152, hQ152, SF152⟩ := W149.callV (pc' := 135) (argsL := []) (rest := []) (Wd := 0) (cells' := 9) (slots' := 67) (a := r148) (C := "com/example/rolebind/rolebind/Decision") (y := (⟨"com/example/rolebind/rolebind/Decision", "reason", "()Lcom/example/rolebind/rolebind/Decision$Reason;"⟩ : MethodName)) (z := (⟨"com/example/rolebind/rolebind/Decision", "reason", "()Lcom/example/rolebind/rolebind/Decision$Reason;"⟩ : MethodName)) at_132 (g_re l Z a0 n0 hw hEL G1 O1 P1 O_as O_hi O_lo ro O_ro r148 ro h148 W149.old q148_3) q148_1 (tw59 hw) (tw60 hw) (Or.inl (tw62 hw)) (tw62 hw) (tw61 hw) (tw25 hw) (tw63 hw) (by decide) (lenOf pd15 rfl) rfl rfl (by decide) (by decide) rfl sf0 all0 rfl rfl rfl (by decide) (by decide)
        clear W149
        obtain ⟨rfl, hs152⟩ := hQ152
        subst hs152
        have sf153 := SF152 a125 (Nat.lt_of_lt_of_le q147_1.lt z148) sf151
        replace W152 := W152.cast (st' := [(.ref ro)]) rfl
        replace W152 := W152.gets (pc' := 138) at_135 (tw64 hw) O_ro rfl
        replace W152 := W152.acmpT (pc' := 143) at_138 rfl rfl (by simp [Jvm.Free.XT.acmp]) (by decide) (by decide)
        replace W152 := W152.aload (pc' := 145) at_143 rfl rfl rfl
        obtain ⟨V154, h154, r154, W154, K154, hQ154, SF154⟩ := W152.callV (pc' := 148) (argsL := []) (rest := []) (Wd := 0) (cells' := 9) (slots' := 67) (a := r148) (C := "com/example/rolebind/rolebind/Decision") (y := (⟨"com/example/rolebind/rolebind/Decision", "role", "()Ljava/lang/String;"⟩ : MethodName)) (z := (⟨"com/example/rolebind/rolebind/Decision", "role", "()Ljava/lang/String;"⟩ : MethodName)) at_145 (g_ro l Z a0 n0 hw hEL G1 O1 P1 O_as O_hi O_lo ro O_ro r148 a125 h148 W152.old q148_4) q148_1 (tw65 hw) (tw66 hw) (Or.inl (tw68 hw)) (tw68 hw) (tw67 hw) (tw25 hw) (tw69 hw) (by decide) (lenOf pd16 rfl) rfl rfl (by decide) (by decide) rfl sf0 all0 rfl rfl rfl (by decide) (by decide)
        clear W152
        obtain ⟨rfl, hs154⟩ := hQ154
        subst hs154
        have sf155 := SF154 a125 (Nat.lt_of_lt_of_le q147_1.lt z148) sf153
        replace W154 := W154.cast (st' := [(.ref a125)]) rfl
        replace W154 := W154.astore (pc' := 150) (L' := #[.val (.int p0), .val (.int p1), .val (.int p2), .val (.int p3), .val (.int (3 : Int32)), .val (.int (p1 &&& (65535 : Int32))), .val (.int (p2 &&& (65535 : Int32))), .val (.int (p3 &&& (65535 : Int32))), .val (.ref a121), .val (.ref a125), .val (.ref r148), .val (.ref a125)]) at_148 rfl rfl rfl
        replace W154 := W154.aload (pc' := 152) at_150 rfl rfl rfl
        replace W154 := W154.ifnonnullT (pc' := 157) at_152 (by decide) (by decide)
        replace W154 := W154.aload (pc' := 159) at_157 rfl rfl rfl
        replace W154 := W154.aload (pc' := 161) at_159 rfl rfl rfl
        have e157 := (q147_1.keep K148)
        obtain ⟨V156, h156, r156, W156, K156, hQ156, SF156⟩ := W154.callV (pc' := 164) (argsL := [(.ref a125)]) (rest := []) (Wd := 0) (cells' := 9) (slots' := 67) (a := a125) (C := "java/lang/String") (y := (⟨"java/lang/String", "equals", "(Ljava/lang/Object;)Z"⟩ : MethodName)) (z := (⟨"java/lang/String", "equals", "(Ljava/lang/Object;)Z"⟩ : MethodName)) at_161 (eq_self l Z a0 n0 hw hEL G1 O1 P1 O_as O_hi O_lo ro O_ro a125 h148 W154.old) e157 (tw70 hw) (tw71 hw) (Or.inl (tw73 hw)) (tw73 hw) (tw72 hw) (tw4 hw) (tw74 hw) (by decide) (lenOf pd17 rfl) rfl rfl (by decide) (by decide) rfl sf0 all0 rfl rfl rfl (by decide) (by decide)
        clear W154
        obtain ⟨rfl, hs156⟩ := hQ156
        subst hs156
        have sf158 := SF156 a125 (Nat.lt_of_lt_of_le q147_1.lt z148) sf155
        replace W156 := W156.cast (st' := [(.int (1 : Int32))]) rfl
        replace W156 := W156.ifF (pc' := 167) at_164 (feq (by decide : ¬ ((1 : Int32) = (0 : Int32)))).1 rfl
        replace W156 := W156.aload (pc' := 169) at_167 rfl rfl rfl
        have f159 := (q147_2.keep K148 nin0)
        have f160 := (q147_3.keep K148 nin0)
        have v161 := (q147_4.keep K148 nin0)
        obtain ⟨V162, h162, r162, W162, K162, hQ162, SF162⟩ := W156.callV (pc' := 172) (argsL := []) (rest := []) (Wd := 0) (cells' := 9) (slots' := 67) (a := a125) (C := "java/lang/String") (y := (⟨"java/lang/String", "length", "()I"⟩ : MethodName)) (z := (⟨"java/lang/String", "length", "()I"⟩ : MethodName)) at_169 (len_3_1 l Z a0 n0 hw hEL G1 O1 P1 O_as O_hi O_lo ro O_ro a125 t147 kt147 ([(.int ((p1 &&& (65535 : Int32)).toInt8.toInt32)), (.int (((p1 &&& (65535 : Int32)) >>> ((8 : Int32) &&& 31)).toInt8.toInt32)), (.int ((p2 &&& (65535 : Int32)).toInt8.toInt32)), (.int (((p2 &&& (65535 : Int32)) >>> ((8 : Int32) &&& 31)).toInt8.toInt32)), (.int ((p3 &&& (65535 : Int32)).toInt8.toInt32)), (.int (((p3 &&& (65535 : Int32)) >>> ((8 : Int32) &&& 31)).toInt8.toInt32))]) h148 W156.old e157 f159 f160 v161) e157 (tw75 hw) (tw76 hw) (Or.inl (tw78 hw)) (tw78 hw) (tw77 hw) (tw4 hw) (tw79 hw) (by decide) (lenOf pd18 rfl) rfl rfl (by decide) (by decide) rfl sf0 all0 rfl rfl rfl (by decide) (by decide)
        clear W156
        obtain ⟨rfl, hs162⟩ := hQ162
        subst hs162
        have sf163 := SF162 a125 (Nat.lt_of_lt_of_le q147_1.lt z148) sf158
        replace W162 := W162.cast (st' := [(.int (3 : Int32))]) rfl
        replace W162 := W162.iload (pc' := 174) at_172 rfl rfl
        replace W162 := W162.icmpF (pc' := 177) at_174 (teq (by decide : (3 : Int32) = (3 : Int32))).2 rfl
        replace W162 := W162.iconst (pc' := 178) (v := (1 : Int32)) at_177 rfl rfl
        replace W162 := W162.goto (pc' := 182) at_178 (by decide) (by decide)
        exact W162.iret (t := .boolean) at_182 rfl (by simp) (by decide) (by decide) (by decide) (fun V' cv => rfl)
      · by_cases hc164 : (255 : Int32) < (p3 &&& (65535 : Int32))
        · have v165 := (v124.ext E125)
          obtain ⟨V166, h166, r166, W166, K166, hQ166, SF166⟩ := W125.callI (pc' := 111) (argsL := [(.ref a121)]) (rest := [(.ref a125)]) (Wd := 1) (cells' := 4) (slots' := 16) (a := a125) (y := (⟨"java/lang/String", "<init>", "([C)V"⟩ : MethodName)) at_108 (new1_3w2 l Z a0 n0 hw hEL G1 O1 P1 O_as O_hi O_lo ro O_ro a125 a121 k121 (p1 &&& (65535 : Int32)) (p2 &&& (65535 : Int32)) (p3 &&& (65535 : Int32)) h125 W125.old A125 (D125 (Or.inr (tw17 hw)) (ty := (.array .byte)) (by decide) : Fld Z h125 a125 "java/lang/String" "value" "[B" .null) (D125 (Or.inr (tw18 hw)) (ty := .byte) (by decide) : Fld Z h125 a125 "java/lang/String" "coder" "B" (.int (0 : Int32))) v165 (own_and65535 _) (own_and65535 _) (own_and65535 _) (own_lat (own_and65535 _) hc126) (own_lat (own_and65535 _) hc145) hc164 (Nat.le_trans W125.1.2.2.2.2.2.2.2.1 (Nat.le_trans (Nat.le_trans (Nat.le_trans (Nat.le_trans z121 z122) z123) z124) (Nat.le_of_eq g125.symm)))) rfl (tw5 hw) (tw6 hw) (tw4 hw) (tw7 hw) (by decide) (lenOf pd12 rfl) rfl rfl (by decide) (by decide) rfl (sfS sf125 sf0) (allS (Or.inr (Nat.le_trans (Nat.le_trans (Nat.le_trans (Nat.le_trans z121 z122) z123) z124) (Nat.le_of_eq g125.symm))) all0) rfl rfl rfl (by decide) (by decide)
          clear W125
          obtain ⟨t166, kt166, rfl, q166_1, q166_2, q166_3, q166_4⟩ := hQ166
          have z166 : h125.size ≤ h166.size := K166.1
          replace W166 := W166.cast (st' := [(.ref a125)]) rfl
          replace W166 := W166.astore (pc' := 113) (L' := #[.val (.int p0), .val (.int p1), .val (.int p2), .val (.int p3), .val (.int (3 : Int32)), .val (.int (p1 &&& (65535 : Int32))), .val (.int (p2 &&& (65535 : Int32))), .val (.int (p3 &&& (65535 : Int32))), .val (.ref a121), .val (.ref a125), .unset, .unset]) at_111 rfl rfl rfl
          replace W166 := W166.aload (pc' := 115) at_113 rfl rfl rfl
          obtain ⟨V167, h167, r167, W167, K167, hQ167, SF167⟩ := W166.callS (pc' := 118) (argsL := [(.ref a125)]) (rest := []) (Wd := 0) (cells' := 9) (slots' := 67) (y := (⟨"com/example/rolebind/rolebind/Decision", "allowedByRole", "(Ljava/lang/String;)Lcom/example/rolebind/rolebind/Decision;"⟩ : MethodName)) at_115 (abr l Z a0 n0 hw hEL G1 O1 P1 O_as O_hi O_lo ro O_ro a125 h166 W166.old q166_1) (tw23 hw) (tw24 hw) (tw25 hw) (tw26 hw) (by decide) (lenOf pd13 rfl) rfl rfl (by decide) (by decide) rfl sf0 all0 rfl rfl rfl (by decide) (by decide)
          clear W166
          obtain ⟨r167, rfl, q167_1, q167_2, q167_3, q167_4⟩ := hQ167
          have z167 : h166.size ≤ h167.size := K167.1
          replace W167 := W167.cast (st' := [(.ref r167)]) rfl
          replace W167 := W167.astore (pc' := 120) (L' := #[.val (.int p0), .val (.int p1), .val (.int p2), .val (.int p3), .val (.int (3 : Int32)), .val (.int (p1 &&& (65535 : Int32))), .val (.int (p2 &&& (65535 : Int32))), .val (.int (p3 &&& (65535 : Int32))), .val (.ref a121), .val (.ref a125), .val (.ref r167), .unset]) at_118 rfl rfl rfl
          replace W167 := W167.aload (pc' := 122) at_120 rfl rfl rfl
          obtain ⟨V168, h168, r168, W168, K168, hQ168, SF168⟩ := W167.callV (pc' := 125) (argsL := []) (rest := []) (Wd := 0) (cells' := 9) (slots' := 67) (a := r167) (C := "com/example/rolebind/rolebind/Decision") (y := (⟨"com/example/rolebind/rolebind/Decision", "allowed", "()Z"⟩ : MethodName)) (z := (⟨"com/example/rolebind/rolebind/Decision", "allowed", "()Z"⟩ : MethodName)) at_122 (g_al l Z a0 n0 hw hEL G1 O1 P1 O_as O_hi O_lo ro O_ro r167 h167 W167.old q167_2) q167_1 (tw54 hw) (tw55 hw) (Or.inl (tw57 hw)) (tw57 hw) (tw56 hw) (tw25 hw) (tw58 hw) (by decide) (lenOf pd14 rfl) rfl rfl (by decide) (by decide) rfl sf0 all0 rfl rfl rfl (by decide) (by decide)
          clear W167
          obtain ⟨rfl, hs168⟩ := hQ168
          subst hs168
          have sf169 := (SF167 a125 q166_1.lt (SF166 a125 A125.lt sf125))
          have sf170 := SF168 a125 (Nat.lt_of_lt_of_le q166_1.lt z167) sf169
          replace W168 := W168.cast (st' := [(.int (1 : Int32))]) rfl
          replace W168 := W168.ifT (pc' := 130) at_125 (feq (by decide : ¬ ((1 : Int32) = (0 : Int32)))).2 (by decide) (by decide)
          replace W168 := W168.aload (pc' := 132) at_130 rfl rfl rfl
          obtain ⟨V171, h171, r171, W171, K171, hQ171, SF171⟩ := W168.callV (pc' := 135) (argsL := []) (rest := []) (Wd := 0) (cells' := 9) (slots' := 67) (a := r167) (C := "com/example/rolebind/rolebind/Decision") (y := (⟨"com/example/rolebind/rolebind/Decision", "reason", "()Lcom/example/rolebind/rolebind/Decision$Reason;"⟩ : MethodName)) (z := (⟨"com/example/rolebind/rolebind/Decision", "reason", "()Lcom/example/rolebind/rolebind/Decision$Reason;"⟩ : MethodName)) at_132 (g_re l Z a0 n0 hw hEL G1 O1 P1 O_as O_hi O_lo ro O_ro r167 ro h167 W168.old q167_3) q167_1 (tw59 hw) (tw60 hw) (Or.inl (tw62 hw)) (tw62 hw) (tw61 hw) (tw25 hw) (tw63 hw) (by decide) (lenOf pd15 rfl) rfl rfl (by decide) (by decide) rfl sf0 all0 rfl rfl rfl (by decide) (by decide)
          clear W168
          obtain ⟨rfl, hs171⟩ := hQ171
          subst hs171
          have sf172 := SF171 a125 (Nat.lt_of_lt_of_le q166_1.lt z167) sf170
          replace W171 := W171.cast (st' := [(.ref ro)]) rfl
          replace W171 := W171.gets (pc' := 138) at_135 (tw64 hw) O_ro rfl
          replace W171 := W171.acmpT (pc' := 143) at_138 rfl rfl (by simp [Jvm.Free.XT.acmp]) (by decide) (by decide)
          replace W171 := W171.aload (pc' := 145) at_143 rfl rfl rfl
          obtain ⟨V173, h173, r173, W173, K173, hQ173, SF173⟩ := W171.callV (pc' := 148) (argsL := []) (rest := []) (Wd := 0) (cells' := 9) (slots' := 67) (a := r167) (C := "com/example/rolebind/rolebind/Decision") (y := (⟨"com/example/rolebind/rolebind/Decision", "role", "()Ljava/lang/String;"⟩ : MethodName)) (z := (⟨"com/example/rolebind/rolebind/Decision", "role", "()Ljava/lang/String;"⟩ : MethodName)) at_145 (g_ro l Z a0 n0 hw hEL G1 O1 P1 O_as O_hi O_lo ro O_ro r167 a125 h167 W171.old q167_4) q167_1 (tw65 hw) (tw66 hw) (Or.inl (tw68 hw)) (tw68 hw) (tw67 hw) (tw25 hw) (tw69 hw) (by decide) (lenOf pd16 rfl) rfl rfl (by decide) (by decide) rfl sf0 all0 rfl rfl rfl (by decide) (by decide)
          clear W171
          obtain ⟨rfl, hs173⟩ := hQ173
          subst hs173
          have sf174 := SF173 a125 (Nat.lt_of_lt_of_le q166_1.lt z167) sf172
          replace W173 := W173.cast (st' := [(.ref a125)]) rfl
          replace W173 := W173.astore (pc' := 150) (L' := #[.val (.int p0), .val (.int p1), .val (.int p2), .val (.int p3), .val (.int (3 : Int32)), .val (.int (p1 &&& (65535 : Int32))), .val (.int (p2 &&& (65535 : Int32))), .val (.int (p3 &&& (65535 : Int32))), .val (.ref a121), .val (.ref a125), .val (.ref r167), .val (.ref a125)]) at_148 rfl rfl rfl
          replace W173 := W173.aload (pc' := 152) at_150 rfl rfl rfl
          replace W173 := W173.ifnonnullT (pc' := 157) at_152 (by decide) (by decide)
          replace W173 := W173.aload (pc' := 159) at_157 rfl rfl rfl
          replace W173 := W173.aload (pc' := 161) at_159 rfl rfl rfl
          have e176 := (q166_1.keep K167)
          obtain ⟨V175, h175, r175, W175, K175, hQ175, SF175⟩ := W173.callV (pc' := 164) (argsL := [(.ref a125)]) (rest := []) (Wd := 0) (cells' := 9) (slots' := 67) (a := a125) (C := "java/lang/String") (y := (⟨"java/lang/String", "equals", "(Ljava/lang/Object;)Z"⟩ : MethodName)) (z := (⟨"java/lang/String", "equals", "(Ljava/lang/Object;)Z"⟩ : MethodName)) at_161 (eq_self l Z a0 n0 hw hEL G1 O1 P1 O_as O_hi O_lo ro O_ro a125 h167 W173.old) e176 (tw70 hw) (tw71 hw) (Or.inl (tw73 hw)) (tw73 hw) (tw72 hw) (tw4 hw) (tw74 hw) (by decide) (lenOf pd17 rfl) rfl rfl (by decide) (by decide) rfl sf0 all0 rfl rfl rfl (by decide) (by decide)
          clear W173
          obtain ⟨rfl, hs175⟩ := hQ175
          subst hs175
          have sf177 := SF175 a125 (Nat.lt_of_lt_of_le q166_1.lt z167) sf174
          replace W175 := W175.cast (st' := [(.int (1 : Int32))]) rfl
          replace W175 := W175.ifF (pc' := 167) at_164 (feq (by decide : ¬ ((1 : Int32) = (0 : Int32)))).1 rfl
          replace W175 := W175.aload (pc' := 169) at_167 rfl rfl rfl
          have f178 := (q166_2.keep K167 nin0)
          have f179 := (q166_3.keep K167 nin0)
          have v180 := (q166_4.keep K167 nin0)
          obtain ⟨V181, h181, r181, W181, K181, hQ181, SF181⟩ := W175.callV (pc' := 172) (argsL := []) (rest := []) (Wd := 0) (cells' := 9) (slots' := 67) (a := a125) (C := "java/lang/String") (y := (⟨"java/lang/String", "length", "()I"⟩ : MethodName)) (z := (⟨"java/lang/String", "length", "()I"⟩ : MethodName)) at_169 (len_3_1 l Z a0 n0 hw hEL G1 O1 P1 O_as O_hi O_lo ro O_ro a125 t166 kt166 ([(.int ((p1 &&& (65535 : Int32)).toInt8.toInt32)), (.int (((p1 &&& (65535 : Int32)) >>> ((8 : Int32) &&& 31)).toInt8.toInt32)), (.int ((p2 &&& (65535 : Int32)).toInt8.toInt32)), (.int (((p2 &&& (65535 : Int32)) >>> ((8 : Int32) &&& 31)).toInt8.toInt32)), (.int ((p3 &&& (65535 : Int32)).toInt8.toInt32)), (.int (((p3 &&& (65535 : Int32)) >>> ((8 : Int32) &&& 31)).toInt8.toInt32))]) h167 W175.old e176 f178 f179 v180) e176 (tw75 hw) (tw76 hw) (Or.inl (tw78 hw)) (tw78 hw) (tw77 hw) (tw4 hw) (tw79 hw) (by decide) (lenOf pd18 rfl) rfl rfl (by decide) (by decide) rfl sf0 all0 rfl rfl rfl (by decide) (by decide)
          clear W175
          obtain ⟨rfl, hs181⟩ := hQ181
          subst hs181
          have sf182 := SF181 a125 (Nat.lt_of_lt_of_le q166_1.lt z167) sf177
          replace W181 := W181.cast (st' := [(.int (3 : Int32))]) rfl
          replace W181 := W181.iload (pc' := 174) at_172 rfl rfl
          replace W181 := W181.icmpF (pc' := 177) at_174 (teq (by decide : (3 : Int32) = (3 : Int32))).2 rfl
          replace W181 := W181.iconst (pc' := 178) (v := (1 : Int32)) at_177 rfl rfl
          replace W181 := W181.goto (pc' := 182) at_178 (by decide) (by decide)
          exact W181.iret (t := .boolean) at_182 rfl (by simp) (by decide) (by decide) (by decide) (fun V' cv => rfl)
        · have v183 := (v124.ext E125)
          obtain ⟨V184, h184, r184, W184, K184, hQ184, SF184⟩ := W125.callI (pc' := 111) (argsL := [(.ref a121)]) (rest := [(.ref a125)]) (Wd := 1) (cells' := 3) (slots' := 10) (a := a125) (y := (⟨"java/lang/String", "<init>", "([C)V"⟩ : MethodName)) at_108 (new1_3 l Z a0 n0 hw hEL G1 O1 P1 O_as O_hi O_lo ro O_ro a125 a121 k121 (p1 &&& (65535 : Int32)) (p2 &&& (65535 : Int32)) (p3 &&& (65535 : Int32)) h125 W125.old A125 (D125 (Or.inr (tw17 hw)) (ty := (.array .byte)) (by decide) : Fld Z h125 a125 "java/lang/String" "value" "[B" .null) (D125 (Or.inr (tw18 hw)) (ty := .byte) (by decide) : Fld Z h125 a125 "java/lang/String" "coder" "B" (.int (0 : Int32))) v183 (own_lat (own_and65535 _) hc126) (own_lat (own_and65535 _) hc145) (own_lat (own_and65535 _) hc164) (Nat.le_trans W125.1.2.2.2.2.2.2.2.1 (Nat.le_trans (Nat.le_trans (Nat.le_trans (Nat.le_trans z121 z122) z123) z124) (Nat.le_of_eq g125.symm)))) rfl (tw5 hw) (tw6 hw) (tw4 hw) (tw7 hw) (by decide) (lenOf pd12 rfl) rfl rfl (by decide) (by decide) rfl (sfS sf125 sf0) (allS (Or.inr (Nat.le_trans (Nat.le_trans (Nat.le_trans (Nat.le_trans z121 z122) z123) z124) (Nat.le_of_eq g125.symm))) all0) rfl rfl rfl (by decide) (by decide)
          clear W125
          obtain ⟨t184, kt184, rfl, q184_1, q184_2, q184_3, q184_4⟩ := hQ184
          have z184 : h125.size ≤ h184.size := K184.1
          replace W184 := W184.cast (st' := [(.ref a125)]) rfl
          replace W184 := W184.astore (pc' := 113) (L' := #[.val (.int p0), .val (.int p1), .val (.int p2), .val (.int p3), .val (.int (3 : Int32)), .val (.int (p1 &&& (65535 : Int32))), .val (.int (p2 &&& (65535 : Int32))), .val (.int (p3 &&& (65535 : Int32))), .val (.ref a121), .val (.ref a125), .unset, .unset]) at_111 rfl rfl rfl
          replace W184 := W184.aload (pc' := 115) at_113 rfl rfl rfl
          obtain ⟨V185, h185, r185, W185, K185, hQ185, SF185⟩ := W184.callS (pc' := 118) (argsL := [(.ref a125)]) (rest := []) (Wd := 0) (cells' := 8) (slots' := 61) (y := (⟨"com/example/rolebind/rolebind/Decision", "allowedByRole", "(Ljava/lang/String;)Lcom/example/rolebind/rolebind/Decision;"⟩ : MethodName)) at_115 (abr l Z a0 n0 hw hEL G1 O1 P1 O_as O_hi O_lo ro O_ro a125 h184 W184.old q184_1) (tw23 hw) (tw24 hw) (tw25 hw) (tw26 hw) (by decide) (lenOf pd13 rfl) rfl rfl (by decide) (by decide) rfl sf0 all0 rfl rfl rfl (by decide) (by decide)
          clear W184
          obtain ⟨r185, rfl, q185_1, q185_2, q185_3, q185_4⟩ := hQ185
          have z185 : h184.size ≤ h185.size := K185.1
          replace W185 := W185.cast (st' := [(.ref r185)]) rfl
          replace W185 := W185.astore (pc' := 120) (L' := #[.val (.int p0), .val (.int p1), .val (.int p2), .val (.int p3), .val (.int (3 : Int32)), .val (.int (p1 &&& (65535 : Int32))), .val (.int (p2 &&& (65535 : Int32))), .val (.int (p3 &&& (65535 : Int32))), .val (.ref a121), .val (.ref a125), .val (.ref r185), .unset]) at_118 rfl rfl rfl
          replace W185 := W185.aload (pc' := 122) at_120 rfl rfl rfl
          obtain ⟨V186, h186, r186, W186, K186, hQ186, SF186⟩ := W185.callV (pc' := 125) (argsL := []) (rest := []) (Wd := 0) (cells' := 8) (slots' := 61) (a := r185) (C := "com/example/rolebind/rolebind/Decision") (y := (⟨"com/example/rolebind/rolebind/Decision", "allowed", "()Z"⟩ : MethodName)) (z := (⟨"com/example/rolebind/rolebind/Decision", "allowed", "()Z"⟩ : MethodName)) at_122 (g_al l Z a0 n0 hw hEL G1 O1 P1 O_as O_hi O_lo ro O_ro r185 h185 W185.old q185_2) q185_1 (tw54 hw) (tw55 hw) (Or.inl (tw57 hw)) (tw57 hw) (tw56 hw) (tw25 hw) (tw58 hw) (by decide) (lenOf pd14 rfl) rfl rfl (by decide) (by decide) rfl sf0 all0 rfl rfl rfl (by decide) (by decide)
          clear W185
          obtain ⟨rfl, hs186⟩ := hQ186
          subst hs186
          have sf187 := (SF185 a125 q184_1.lt (SF184 a125 A125.lt sf125))
          have sf188 := SF186 a125 (Nat.lt_of_lt_of_le q184_1.lt z185) sf187
          replace W186 := W186.cast (st' := [(.int (1 : Int32))]) rfl
          replace W186 := W186.ifT (pc' := 130) at_125 (feq (by decide : ¬ ((1 : Int32) = (0 : Int32)))).2 (by decide) (by decide)
          replace W186 := W186.aload (pc' := 132) at_130 rfl rfl rfl
          obtain ⟨V189, h189, r189, W189, K189, hQ189, SF189⟩ := W186.callV (pc' := 135) (argsL := []) (rest := []) (Wd := 0) (cells' := 8) (slots' := 61) (a := r185) (C := "com/example/rolebind/rolebind/Decision") (y := (⟨"com/example/rolebind/rolebind/Decision", "reason", "()Lcom/example/rolebind/rolebind/Decision$Reason;"⟩ : MethodName)) (z := (⟨"com/example/rolebind/rolebind/Decision", "reason", "()Lcom/example/rolebind/rolebind/Decision$Reason;"⟩ : MethodName)) at_132 (g_re l Z a0 n0 hw hEL G1 O1 P1 O_as O_hi O_lo ro O_ro r185 ro h185 W186.old q185_3) q185_1 (tw59 hw) (tw60 hw) (Or.inl (tw62 hw)) (tw62 hw) (tw61 hw) (tw25 hw) (tw63 hw) (by decide) (lenOf pd15 rfl) rfl rfl (by decide) (by decide) rfl sf0 all0 rfl rfl rfl (by decide) (by decide)
          clear W186
          obtain ⟨rfl, hs189⟩ := hQ189
          subst hs189
          have sf190 := SF189 a125 (Nat.lt_of_lt_of_le q184_1.lt z185) sf188
          replace W189 := W189.cast (st' := [(.ref ro)]) rfl
          replace W189 := W189.gets (pc' := 138) at_135 (tw64 hw) O_ro rfl
          replace W189 := W189.acmpT (pc' := 143) at_138 rfl rfl (by simp [Jvm.Free.XT.acmp]) (by decide) (by decide)
          replace W189 := W189.aload (pc' := 145) at_143 rfl rfl rfl
          obtain ⟨V191, h191, r191, W191, K191, hQ191, SF191⟩ := W189.callV (pc' := 148) (argsL := []) (rest := []) (Wd := 0) (cells' := 8) (slots' := 61) (a := r185) (C := "com/example/rolebind/rolebind/Decision") (y := (⟨"com/example/rolebind/rolebind/Decision", "role", "()Ljava/lang/String;"⟩ : MethodName)) (z := (⟨"com/example/rolebind/rolebind/Decision", "role", "()Ljava/lang/String;"⟩ : MethodName)) at_145 (g_ro l Z a0 n0 hw hEL G1 O1 P1 O_as O_hi O_lo ro O_ro r185 a125 h185 W189.old q185_4) q185_1 (tw65 hw) (tw66 hw) (Or.inl (tw68 hw)) (tw68 hw) (tw67 hw) (tw25 hw) (tw69 hw) (by decide) (lenOf pd16 rfl) rfl rfl (by decide) (by decide) rfl sf0 all0 rfl rfl rfl (by decide) (by decide)
          clear W189
          obtain ⟨rfl, hs191⟩ := hQ191
          subst hs191
          have sf192 := SF191 a125 (Nat.lt_of_lt_of_le q184_1.lt z185) sf190
          replace W191 := W191.cast (st' := [(.ref a125)]) rfl
          replace W191 := W191.astore (pc' := 150) (L' := #[.val (.int p0), .val (.int p1), .val (.int p2), .val (.int p3), .val (.int (3 : Int32)), .val (.int (p1 &&& (65535 : Int32))), .val (.int (p2 &&& (65535 : Int32))), .val (.int (p3 &&& (65535 : Int32))), .val (.ref a121), .val (.ref a125), .val (.ref r185), .val (.ref a125)]) at_148 rfl rfl rfl
          replace W191 := W191.aload (pc' := 152) at_150 rfl rfl rfl
          replace W191 := W191.ifnonnullT (pc' := 157) at_152 (by decide) (by decide)
          replace W191 := W191.aload (pc' := 159) at_157 rfl rfl rfl
          replace W191 := W191.aload (pc' := 161) at_159 rfl rfl rfl
          have e194 := (q184_1.keep K185)
          obtain ⟨V193, h193, r193, W193, K193, hQ193, SF193⟩ := W191.callV (pc' := 164) (argsL := [(.ref a125)]) (rest := []) (Wd := 0) (cells' := 8) (slots' := 61) (a := a125) (C := "java/lang/String") (y := (⟨"java/lang/String", "equals", "(Ljava/lang/Object;)Z"⟩ : MethodName)) (z := (⟨"java/lang/String", "equals", "(Ljava/lang/Object;)Z"⟩ : MethodName)) at_161 (eq_self l Z a0 n0 hw hEL G1 O1 P1 O_as O_hi O_lo ro O_ro a125 h185 W191.old) e194 (tw70 hw) (tw71 hw) (Or.inl (tw73 hw)) (tw73 hw) (tw72 hw) (tw4 hw) (tw74 hw) (by decide) (lenOf pd17 rfl) rfl rfl (by decide) (by decide) rfl sf0 all0 rfl rfl rfl (by decide) (by decide)
          clear W191
          obtain ⟨rfl, hs193⟩ := hQ193
          subst hs193
          have sf195 := SF193 a125 (Nat.lt_of_lt_of_le q184_1.lt z185) sf192
          replace W193 := W193.cast (st' := [(.int (1 : Int32))]) rfl
          replace W193 := W193.ifF (pc' := 167) at_164 (feq (by decide : ¬ ((1 : Int32) = (0 : Int32)))).1 rfl
          replace W193 := W193.aload (pc' := 169) at_167 rfl rfl rfl
          have f196 := (q184_2.keep K185 nin0)
          have f197 := (q184_3.keep K185 nin0)
          have v198 := (q184_4.keep K185 nin0)
          obtain ⟨V199, h199, r199, W199, K199, hQ199, SF199⟩ := W193.callV (pc' := 172) (argsL := []) (rest := []) (Wd := 0) (cells' := 8) (slots' := 61) (a := a125) (C := "java/lang/String") (y := (⟨"java/lang/String", "length", "()I"⟩ : MethodName)) (z := (⟨"java/lang/String", "length", "()I"⟩ : MethodName)) at_169 (len_3_0 l Z a0 n0 hw hEL G1 O1 P1 O_as O_hi O_lo ro O_ro a125 t184 kt184 ([(.int ((p1 &&& (65535 : Int32)).toInt8.toInt32)), (.int ((p2 &&& (65535 : Int32)).toInt8.toInt32)), (.int ((p3 &&& (65535 : Int32)).toInt8.toInt32))]) h185 W193.old e194 f196 f197 v198) e194 (tw75 hw) (tw76 hw) (Or.inl (tw78 hw)) (tw78 hw) (tw77 hw) (tw4 hw) (tw79 hw) (by decide) (lenOf pd18 rfl) rfl rfl (by decide) (by decide) rfl sf0 all0 rfl rfl rfl (by decide) (by decide)
          clear W193
          obtain ⟨rfl, hs199⟩ := hQ199
          subst hs199
          have sf200 := SF199 a125 (Nat.lt_of_lt_of_le q184_1.lt z185) sf195
          replace W199 := W199.cast (st' := [(.int (3 : Int32))]) rfl
          replace W199 := W199.iload (pc' := 174) at_172 rfl rfl
          replace W199 := W199.icmpF (pc' := 177) at_174 (teq (by decide : (3 : Int32) = (3 : Int32))).2 rfl
          replace W199 := W199.iconst (pc' := 178) (v := (1 : Int32)) at_177 rfl rfl
          replace W199 := W199.goto (pc' := 182) at_178 (by decide) (by decide)
          exact W199.iret (t := .boolean) at_182 rfl (by simp) (by decide) (by decide) (by decide) (fun V' cv => rfl)
set_option maxRecDepth 65536 in
set_option maxHeartbeats 40000000 in
theorem comes_1 {Post : Tables → Env → Array Value → State → Outcome → State → Prop} (hpost : ∀ tb e args s v u, (limb_1_1.after args s (.returned v) u = true ∧ limb_1_2.after args s (.returned v) u = true ∧ True) → FramedW s (.returned v) u (Jvm.fieldLocs frame_1_writes args s ++ Jvm.arrayLocs frame_1_arrays args s ++ Jvm.staticLocs frame_1_statics s) 24 3200 → Post tb e args s (.returned v) u) :
    ArmFor flags0 classFile x code maxLocals ret World_1 tables_1 room_1 Calls_1 rest_1 Pre_1 Post := by
  intro l hfl _ _ p e ha hc hk s m args below hf hA hF happ hP
  obtain ⟨hcalls, hrest, hpre⟩ := hP
  obtain ⟨-, -, -, hnamed, -, -, -, hat⟩ := (Spec.applies_iff hf).mp happ
  obtain ⟨hg, hn⟩ := and_e (Cond.before_iff.mp (show (Jvm.Cond.and given_1 narrow_1).before args s = true from hpre))
  obtain ⟨hcount, hr0⟩ := and_e hg
  obtain ⟨ha0, hr1⟩ := and_e hr0
  obtain ⟨ha1, hr2⟩ := and_e hr1
  obtain ⟨ha2, hr3⟩ := and_e hr2
  have ha3 := hr3
  obtain ⟨w0, w1, w2, w3, rfl⟩ : ∃ w0 w1 w2 w3 : Value, args = #[w0, w1, w2, w3] := by
    have hs : args.size = 4 := by simpa [Cond.value, given_1] using hcount
    obtain ⟨L⟩ := args
    match L, hs with
    | [w0, w1, w2, w3], _ => exact ⟨w0, w1, w2, w3, rfl⟩
  have hw := fun d (hd : d ∈ tables_1) => atoms_spec (ws := Jvm.Cond.code x code maxLocals ret :: tables_1) hat d (List.mem_cons_of_mem _ hd)
  obtain ⟨hsets, hown0⟩ := atoms_of _ (rest_1_c_eq ▸ (show rest_1_c.before _ s = true from hrest))
  obtain ⟨i0, ei0⟩ := is_v ha0
  obtain rfl : w0 = (.int i0) := Option.some.inj ei0
  obtain ⟨i1, ei1⟩ := is_v ha1
  obtain rfl : w1 = (.int i1) := Option.some.inj ei1
  obtain ⟨i2, ei2⟩ := is_v ha2
  obtain rfl : w2 = (.int i2) := Option.some.inj ei2
  obtain ⟨i3, ei3⟩ := is_v ha3
  obtain rfl : w3 = (.int i3) := Option.some.inj ei3
  have n5 := not_v (Cond.before_iff.mp (hsets _ (List.mem_of_getElem? (i := 2) rfl)))
  obtain ⟨i11, e10⟩ := is_v (Cond.before_iff.mp (hsets _ (List.mem_of_getElem? (i := 1) rfl)))
  have S12 : Sta s s.heap "java/lang/String" "COMPACT_STRINGS" "Z" (.int i11) := Sta.start e10 (Or.inl (hsets _ (List.mem_of_getElem? (i := 0) rfl)))
  have c17 : ¬ (i11 = (0 : Int32)) := gotF (Cond.eq_ints e10 (Term.int_eval (0))) n5
  have SO_as : Sta s s.heap "java/lang/StringUTF16" "$assertionsDisabled" "Z" (.int (1 : Int32)) := Sta.start (eqv_i (Term.int_eval (1)) (Cond.before_iff.mp (hsets _ (List.mem_of_getElem? (i := 12) rfl)))) (Or.inl (hsets _ (List.mem_of_getElem? (i := 11) rfl)))
  have SO_hi : Sta s s.heap "java/lang/StringUTF16" "HI_BYTE_SHIFT" "I" (.int (0 : Int32)) := Sta.start (eqv_i (Term.int_eval (0)) (Cond.before_iff.mp (hsets _ (List.mem_of_getElem? (i := 15) rfl)))) (Or.inl (hsets _ (List.mem_of_getElem? (i := 14) rfl)))
  have SO_lo : Sta s s.heap "java/lang/StringUTF16" "LO_BYTE_SHIFT" "I" (.int (8 : Int32)) := Sta.start (eqv_i (Term.int_eval (8)) (Cond.before_iff.mp (hsets _ (List.mem_of_getElem? (i := 18) rfl)))) (Or.inl (hsets _ (List.mem_of_getElem? (i := 17) rfl)))
  obtain ⟨ro, ero⟩ := exa_v hn
  have Sro : Sta s s.heap "com/example/rolebind/rolebind/Decision$Reason" "ROLE" "Lcom/example/rolebind/rolebind/Decision$Reason;" (.ref ro) := Sta.start ero (Or.inr ⟨(tw30 hw), (tw31 hw)⟩)
  have hCH : CHv s consts_1 s.vm s.heap := CHv.start (hELs hw) (fun q hq => hcalls.1 q hq) (hsets _ (List.mem_of_getElem? (i := 2) rfl)) (tw16 hw) (tw3 hw)
  obtain ⟨n, o, h1, h2, h3, v, L, rfl, ⟨N, -, rfl⟩, -, r1, r2, r3, r4⟩ := law_c l s _ s.heap.size hw (hELs hw) i11 S12 c17 SO_as SO_hi SO_lo ro Sro i0 i1 i2 i3 s.heap (Old.start s) tables_1 p e ha hc hk s m _ below hf ((Spec.applies_iff_loose hf).mp happ).1 ⟨rfl, State.Warmed39.refl s, rfl, hCH, sf0⟩ trivial
  exact ⟨n, _, h1, h2, h3, hpost _ _ _ _ _ _ ⟨Cond.after_iff.mpr rfl, Cond.after_iff.mpr (eq_i res_at (Term.int_eval (1)) rfl), trivial⟩ ⟨r1, r2, r3, (r4.sift fun y hy => Or.inr (N y hy)).mono (by decide) (by decide)⟩⟩
theorem main_1_1 : Claimed_1_1 := comes_1 fun _ _ _ _ _ _ h hF => ⟨h.1, hF⟩
theorem main_1_2 : Claimed_1_2 := comes_1 fun _ _ _ _ _ _ h hF => ⟨h.2.1, hF⟩
end Jvm.Pilot.@@N@@
namespace Jvm.Pilot.@@N@@
open Jvm Jvm.ClassFile Sem Op Lib Jvm.Free Jvm.Stand Jvm.Pilot.@@N@@.Jvm.D
/-! MADE BY PROGRAM (witnessworld.py) out of the Statement's table words and the real class files: 24 classes; the members and pool entries that the words name. The judged class is class 1, her method 1. -/
namespace start1
open Jvm.ClassFile
def u (s : String) : CpInfo := .utf8 (stringToUtf16 s)
/-- a pool by its gaps: so many unusable entries, then the entry; so many at the end -/
def gap : Nat → List CpInfo → List CpInfo
  | 0, r => r
  | n + 1, r => .unusable :: gap n r
def poolList (es : List (Nat × CpInfo)) (last : Nat) : List CpInfo := es.foldr (fun e r => gap e.1 (e.2 :: r)) (gap last [])
def pool (es : List (Nat × CpInfo)) (last : Nat) : Array CpInfo := ⟨poolList es last⟩
def fileOf (pool : Array CpInfo) (this : Nat) (attrs : Array Attribute := #[]) (ms : Array MethodInfo := #[]) (fl : Nat := 33) (sup : Nat := 0) (ifs : Array Nat := #[]) (fds : Array FieldInfo := #[]) : ClassFile where
  minorVersion := 0
  majorVersion := 65
  constantPool := pool
  accessFlags := fl
  thisClass := this
  superClass := sup
  interfaces := ifs
  fields := fds
  methods := ms
  attributes := attrs
def plain (name : String) (sup : Option ClassId) : Class where
  name := name
  kind := .ordinary
  loader := none
  accessFlags := 33
  super := sup
  interfaces := #[]
  cf := none
  fields := #[]
  methods := #[]
  instanceTypes := #[]
  staticTypes := #[]
  resolved := #[]
  callSites := []
  init := .initialized
  statics := none
  mirror := none

def pool0 : Array CpInfo := pool [(5, u "<init>"), (0, u "()V"), (1, .class_ 10), (1, u "java/lang/Object")] 113

def k0c0 : Code := { maxStack := 0, maxLocals := 1, code := object_method_1_code, exceptionTable := #[], attributes := #[] }
def k0m0 : Method := { name := "<init>", desc := "()V", sig := { parameters := [], returnType := none }, accessFlags := 1, code := some k0c0 }
/-- java/lang/Object -/
def k0 : Class := { plain "java/lang/Object" none with
  accessFlags := 33
  interfaces := #[]
  cf := some (fileOf pool0 8 #[] #[{ accessFlags := 1, nameIndex := 5, descriptorIndex := 6, attributes := #[] }] 33 0 #[] #[])
  fields := #[]
  methods := #[k0m0]
  instanceTypes := #[]
  staticTypes := #[]
  resolved := Array.replicate 124 none
  statics := none }

def pool1 : Array CpInfo := pool [(2, .class_ 4), (1, u "java/lang/Object"), (0, u "<init>"), (0, u "()V"), (0, .integer 65535), (0, .class_ 9), (0, u "java/lang/String"), (0, .methodref 8 11), (0, .nameAndType 5 12), (0, u "([C)V"), (0, .methodref 14 15), (0, .class_ 16), (0, .nameAndType 17 18), (0, u "com/example/rolebind/rolebind/Decision"), (0, u "allowedByRole"), (0, u "(Ljava/lang/String;)Lcom/example/rolebind/rolebind/Decision;"), (0, .methodref 14 20), (0, .nameAndType 21 22), (0, u "allowed"), (0, u "()Z"), (0, .methodref 14 24), (0, .nameAndType 25 26), (0, u "reason"), (0, u "()Lcom/example/rolebind/rolebind/Decision$Reason;"), (0, .fieldref 28 29), (0, .class_ 30), (0, .nameAndType 31 32), (0, u "com/example/rolebind/rolebind/Decision$Reason"), (0, u "ROLE"), (0, u "Lcom/example/rolebind/rolebind/Decision$Reason;"), (0, .methodref 14 34), (0, .nameAndType 35 36), (0, u "role"), (0, u "()Ljava/lang/String;"), (0, .methodref 8 38), (0, .nameAndType 39 40), (0, u "equals"), (0, u "(Ljava/lang/Object;)Z"), (0, .methodref 8 42), (0, .nameAndType 43 44), (0, u "length"), (0, u "()I"), (0, .class_ 46), (0, u "com/example/rolebind/rolebind/DecisionAllowedByRolePinLaw"), (2, u "law"), (0, u "(IIII)Z")] 7

def k1m0 : Method := { name := "<init>", desc := "()V", sig := { parameters := [], returnType := none }, accessFlags := 1, code := none }
def k1c1 : Code := { maxStack := 4, maxLocals := 12, code := code, exceptionTable := #[], attributes := #[] }
def k1m1 : Method := { name := "law", desc := "(IIII)Z", sig := { parameters := [.int, .int, .int, .int], returnType := some .boolean }, accessFlags := 9, code := some k1c1 }
/-- com/example/rolebind/rolebind/DecisionAllowedByRolePinLaw -/
def k1 : Class := { plain "com/example/rolebind/rolebind/DecisionAllowedByRolePinLaw" (some 0) with
  accessFlags := 49
  interfaces := #[]
  cf := some (fileOf pool1 45 #[] #[{ accessFlags := 1, nameIndex := 5, descriptorIndex := 6, attributes := #[] }, { accessFlags := 9, nameIndex := 49, descriptorIndex := 50, attributes := #[] }] 49 2 #[] #[])
  fields := #[]
  methods := #[k1m0, k1m1]
  instanceTypes := #[]
  staticTypes := #[]
  resolved := Array.replicate 58 none
  statics := none }

def pool2 : Array CpInfo := pool [(1, .class_ 2), (0, u "java/io/Serializable"), (0, .class_ 4), (0, u "java/lang/Object")] 2

/-- java/io/Serializable -/
def k2 : Class := { plain "java/io/Serializable" (some 0) with
  accessFlags := 1537
  interfaces := #[]
  cf := some (fileOf pool2 1 #[] #[] 1537 3 #[] #[])
  fields := #[]
  methods := #[]
  instanceTypes := #[]
  staticTypes := #[]
  resolved := Array.replicate 7 none
  statics := none }

def pool3 : Array CpInfo := pool [(1, .class_ 2), (0, u "java/lang/Comparable"), (0, .class_ 4), (0, u "java/lang/Object")] 7

/-- java/lang/Comparable -/
def k3 : Class := { plain "java/lang/Comparable" (some 0) with
  accessFlags := 1537
  interfaces := #[]
  cf := some (fileOf pool3 1 #[] #[] 1537 3 #[] #[])
  fields := #[]
  methods := #[]
  instanceTypes := #[]
  staticTypes := #[]
  resolved := Array.replicate 12 none
  statics := none }

def pool4 : Array CpInfo := pool [(2, .class_ 4), (1, u "java/lang/CharSequence"), (42, .class_ 48), (0, u "java/lang/CharSequence$1CodePointIterator"), (10, .class_ 60), (0, u "java/lang/CharSequence$1CharIterator"), (5, .class_ 67), (0, u "java/lang/Object")] 63

/-- java/lang/CharSequence -/
def k4 : Class := { plain "java/lang/CharSequence" (some 0) with
  accessFlags := 1537
  interfaces := #[]
  cf := some (fileOf pool4 2 #[.nestMembers #[47, 59]] #[] 1537 66 #[] #[])
  fields := #[]
  methods := #[]
  instanceTypes := #[]
  staticTypes := #[]
  resolved := Array.replicate 131 none
  statics := none }

def pool5 : Array CpInfo := pool [(1, .class_ 2), (0, u "java/lang/constant/Constable"), (0, .class_ 4), (0, u "java/lang/Object")] 6

/-- java/lang/constant/Constable -/
def k5 : Class := { plain "java/lang/constant/Constable" (some 0) with
  accessFlags := 1537
  interfaces := #[]
  cf := some (fileOf pool5 1 #[] #[] 1537 3 #[] #[])
  fields := #[]
  methods := #[]
  instanceTypes := #[]
  staticTypes := #[]
  resolved := Array.replicate 11 none
  statics := none }

def pool6 : Array CpInfo := pool [(1, .class_ 2), (0, u "java/lang/constant/ConstantDesc"), (0, .class_ 4), (0, u "java/lang/Object")] 32

/-- java/lang/constant/ConstantDesc -/
def k6 : Class := { plain "java/lang/constant/ConstantDesc" (some 0) with
  accessFlags := 1537
  interfaces := #[]
  cf := some (fileOf pool6 1 #[] #[] 1537 3 #[] #[])
  fields := #[]
  methods := #[]
  instanceTypes := #[]
  staticTypes := #[]
  resolved := Array.replicate 37 none
  statics := none }

def pool7 : Array CpInfo := pool [(1, .methodref 2 3), (0, .class_ 4), (0, .nameAndType 5 6), (0, u "java/lang/Object"), (0, u "<init>"), (0, u "()V"), (0, .string 8), (0, u ""), (0, .fieldref 10 11), (0, .class_ 12), (0, .nameAndType 13 14), (0, u "java/lang/String"), (0, u "value"), (0, u "[B"), (0, .fieldref 10 16), (0, .nameAndType 17 18), (0, u "coder"), (0, u "B"), (2, u "hash"), (0, u "I"), (2, u "hashIsZero"), (0, u "Z"), (0, .methodref 10 28), (0, .nameAndType 5 29), (0, u "([CIILjava/lang/Void;)V"), (8, .fieldref 10 39), (0, .nameAndType 40 26), (0, u "COMPACT_STRINGS"), (1, .class_ 44), (1, u "java/lang/StringUTF16"), (0, u "compress"), (1, .methodref 42 48), (0, .nameAndType 49 50), (0, u "coderFromArrayLen"), (0, u "([BI)B"), (126, .methodref 42 178), (0, .nameAndType 45 179), (0, u "([CII)[B"), (154, u "()I"), (0, .methodref 10 336), (0, .nameAndType 17 337), (0, u "()B"), (169, u "length"), (35, u "equals"), (29, u "(Ljava/lang/Object;)Z"), (1, .class_ 576), (0, u "java/lang/CharSequence"), (22, u "CASE_INSENSITIVE_ORDER"), (0, u "Ljava/util/Comparator;"), (409, u "([C)V"), (90, u "serialPersistentFields"), (0, u "[Ljava/io/ObjectStreamField;"), (0, .class_ 1104), (0, u "java/lang/String$CaseInsensitiveComparator"), (1, .class_ 1107), (0, u "java/io/Serializable"), (0, .class_ 1109), (0, u "java/lang/Comparable"), (0, .class_ 1111), (0, u "java/lang/constant/Constable"), (0, .class_ 1113), (0, u "java/lang/constant/ConstantDesc"), (2, u "serialVersionUID"), (0, u "J"), (3, u "REPL"), (0, u "C"), (2, u "LATIN1"), (1, u "UTF16")] 323

def k7m0 : Method := { name := "<init>", desc := "()V", sig := { parameters := [], returnType := none }, accessFlags := 1, code := none }
def k7c1 : Code := { maxStack := 5, maxLocals := 2, code := jdk_42_method_3_code, exceptionTable := #[], attributes := #[] }
def k7m1 : Method := { name := "<init>", desc := "([C)V", sig := { parameters := [(.array .char)], returnType := none }, accessFlags := 1, code := some k7c1 }
def k7c2 : Code := { maxStack := 2, maxLocals := 1, code := jdk_42_method_54_code, exceptionTable := #[], attributes := #[] }
def k7m2 : Method := { name := "length", desc := "()I", sig := { parameters := [], returnType := some .int }, accessFlags := 1, code := some k7c2 }
def k7c3 : Code := { maxStack := 2, maxLocals := 3, code := jdk_42_method_66_code, exceptionTable := #[], attributes := #[] }
def k7m3 : Method := { name := "equals", desc := "(Ljava/lang/Object;)Z", sig := { parameters := [(.object "java/lang/Object")], returnType := some .boolean }, accessFlags := 1, code := some k7c3 }
def k7c4 : Code := { maxStack := 4, maxLocals := 6, code := jdk_42_method_149_code, exceptionTable := #[], attributes := #[] }
def k7m4 : Method := { name := "<init>", desc := "([CIILjava/lang/Void;)V", sig := { parameters := [(.array .char), .int, .int, (.object "java/lang/Void")], returnType := none }, accessFlags := 2, code := some k7c4 }
def k7c5 : Code := { maxStack := 1, maxLocals := 1, code := jdk_42_method_152_code, exceptionTable := #[], attributes := #[] }
def k7m5 : Method := { name := "coder", desc := "()B", sig := { parameters := [], returnType := some .byte }, accessFlags := 0, code := some k7c5 }
/-- java/lang/String -/
def k7 : Class := { plain "java/lang/String" (some 0) with
  accessFlags := 49
  interfaces := #[2, 3, 4, 5, 6]
  cf := some (fileOf pool7 10 #[.nestMembers #[1103]] #[{ accessFlags := 1, nameIndex := 5, descriptorIndex := 6, attributes := #[] }, { accessFlags := 1, nameIndex := 5, descriptorIndex := 1010, attributes := #[] }, { accessFlags := 1, nameIndex := 507, descriptorIndex := 334, attributes := #[] }, { accessFlags := 1, nameIndex := 543, descriptorIndex := 573, attributes := #[] }, { accessFlags := 2, nameIndex := 5, descriptorIndex := 29, attributes := #[] }, { accessFlags := 0, nameIndex := 17, descriptorIndex := 337, attributes := #[] }] 49 2 #[1106, 1108, 575, 1110, 1112] #[{ accessFlags := 18, nameIndex := 13, descriptorIndex := 14, attributes := #[] }, { accessFlags := 18, nameIndex := 17, descriptorIndex := 18, attributes := #[] }, { accessFlags := 2, nameIndex := 21, descriptorIndex := 22, attributes := #[] }, { accessFlags := 2, nameIndex := 25, descriptorIndex := 26, attributes := #[] }, { accessFlags := 26, nameIndex := 1116, descriptorIndex := 1117, attributes := #[] }, { accessFlags := 24, nameIndex := 40, descriptorIndex := 26, attributes := #[] }, { accessFlags := 26, nameIndex := 1101, descriptorIndex := 1102, attributes := #[] }, { accessFlags := 26, nameIndex := 1121, descriptorIndex := 1122, attributes := #[] }, { accessFlags := 25, nameIndex := 599, descriptorIndex := 600, attributes := #[] }, { accessFlags := 24, nameIndex := 1125, descriptorIndex := 18, attributes := #[] }, { accessFlags := 24, nameIndex := 1127, descriptorIndex := 18, attributes := #[] }])
  fields := #[{ name := "value", type := (.array .byte), accessFlags := 18, slot := 0, constantValue := 0 }, { name := "coder", type := .byte, accessFlags := 18, slot := 1, constantValue := 0 }, { name := "hash", type := .int, accessFlags := 2, slot := 2, constantValue := 0 }, { name := "hashIsZero", type := .boolean, accessFlags := 2, slot := 3, constantValue := 0 }, { name := "serialVersionUID", type := .long, accessFlags := 26, slot := 0, constantValue := 0 }, { name := "COMPACT_STRINGS", type := .boolean, accessFlags := 24, slot := 1, constantValue := 0 }, { name := "serialPersistentFields", type := (.array (.object "java/io/ObjectStreamField")), accessFlags := 26, slot := 2, constantValue := 0 }, { name := "REPL", type := .char, accessFlags := 26, slot := 3, constantValue := 0 }, { name := "CASE_INSENSITIVE_ORDER", type := (.object "java/util/Comparator"), accessFlags := 25, slot := 4, constantValue := 0 }, { name := "LATIN1", type := .byte, accessFlags := 24, slot := 5, constantValue := 0 }, { name := "UTF16", type := .byte, accessFlags := 24, slot := 6, constantValue := 0 }]
  methods := #[k7m0, k7m1, k7m2, k7m3, k7m4, k7m5]
  instanceTypes := #[(.array .byte), .byte, .int, .boolean]
  staticTypes := #[.long, .boolean, (.array (.object "java/io/ObjectStreamField")), .char, (.object "java/util/Comparator"), .byte, .byte]
  resolved := Array.replicate 1451 none
  statics := some 0 }

def pool8 : Array CpInfo := pool [(1, .methodref 2 3), (0, .class_ 4), (0, .nameAndType 5 6), (0, u "java/lang/Object"), (0, u "<init>"), (0, u "()V"), (0, .class_ 8), (0, u "java/lang/Record")] 13

def k8c0 : Code := { maxStack := 1, maxLocals := 1, code := jdk_30_method_1_code, exceptionTable := #[], attributes := #[] }
def k8m0 : Method := { name := "<init>", desc := "()V", sig := { parameters := [], returnType := none }, accessFlags := 4, code := some k8c0 }
/-- java/lang/Record -/
def k8 : Class := { plain "java/lang/Record" (some 0) with
  accessFlags := 1057
  interfaces := #[]
  cf := some (fileOf pool8 7 #[] #[{ accessFlags := 4, nameIndex := 5, descriptorIndex := 6, attributes := #[] }] 1057 2 #[] #[])
  fields := #[]
  methods := #[k8m0]
  instanceTypes := #[]
  staticTypes := #[]
  resolved := Array.replicate 22 none
  statics := none }

def pool9 : Array CpInfo := pool [(1, .methodref 2 3), (0, .class_ 4), (0, .nameAndType 5 6), (0, u "java/lang/Record"), (0, u "<init>"), (0, u "()V"), (0, .string 8), (0, u "reason"), (0, .methodref 10 11), (0, .class_ 12), (0, .nameAndType 13 14), (0, u "java/util/Objects"), (0, u "requireNonNull"), (0, u "(Ljava/lang/Object;Ljava/lang/String;)Ljava/lang/Object;"), (0, .fieldref 16 17), (0, .class_ 18), (0, .nameAndType 19 20), (0, u "com/example/rolebind/rolebind/Decision$Reason"), (0, u "ROLE"), (0, u "Lcom/example/rolebind/rolebind/Decision$Reason;"), (7, .fieldref 29 30), (0, .class_ 31), (0, .nameAndType 32 33), (0, u "com/example/rolebind/rolebind/Decision"), (0, u "allowed"), (0, u "Z"), (0, .fieldref 29 35), (0, .nameAndType 8 20), (0, .fieldref 29 37), (0, .nameAndType 38 39), (0, u "role"), (0, u "Ljava/lang/String;"), (0, .string 38), (0, .class_ 42), (0, u "java/lang/String"), (0, .methodref 29 44), (0, .nameAndType 5 45), (0, u "(ZLcom/example/rolebind/rolebind/Decision$Reason;Ljava/lang/String;)V"), (19, u "()Ljava/lang/String;"), (23, u "allowedByRole"), (0, u "(Ljava/lang/String;)Lcom/example/rolebind/rolebind/Decision;"), (9, u "()Z"), (0, u "()Lcom/example/rolebind/rolebind/Decision$Reason;")] 34

def k9c0 : Code := { maxStack := 3, maxLocals := 4, code := prog_16_method_1_code, exceptionTable := #[], attributes := #[] }
def k9m0 : Method := { name := "<init>", desc := "(ZLcom/example/rolebind/rolebind/Decision$Reason;Ljava/lang/String;)V", sig := { parameters := [.boolean, (.object "com/example/rolebind/rolebind/Decision$Reason"), (.object "java/lang/String")], returnType := none }, accessFlags := 1, code := some k9c0 }
def k9c1 : Code := { maxStack := 6, maxLocals := 1, code := prog_16_method_2_code, exceptionTable := #[], attributes := #[] }
def k9m1 : Method := { name := "allowedByRole", desc := "(Ljava/lang/String;)Lcom/example/rolebind/rolebind/Decision;", sig := { parameters := [(.object "java/lang/String")], returnType := some (.object "com/example/rolebind/rolebind/Decision") }, accessFlags := 9, code := some k9c1 }
def k9c2 : Code := { maxStack := 1, maxLocals := 1, code := prog_16_method_11_code, exceptionTable := #[], attributes := #[] }
def k9m2 : Method := { name := "allowed", desc := "()Z", sig := { parameters := [], returnType := some .boolean }, accessFlags := 1, code := some k9c2 }
def k9c3 : Code := { maxStack := 1, maxLocals := 1, code := prog_16_method_12_code, exceptionTable := #[], attributes := #[] }
def k9m3 : Method := { name := "reason", desc := "()Lcom/example/rolebind/rolebind/Decision$Reason;", sig := { parameters := [], returnType := some (.object "com/example/rolebind/rolebind/Decision$Reason") }, accessFlags := 1, code := some k9c3 }
def k9c4 : Code := { maxStack := 1, maxLocals := 1, code := prog_16_method_13_code, exceptionTable := #[], attributes := #[] }
def k9m4 : Method := { name := "role", desc := "()Ljava/lang/String;", sig := { parameters := [], returnType := some (.object "java/lang/String") }, accessFlags := 1, code := some k9c4 }
/-- com/example/rolebind/rolebind/Decision -/
def k9 : Class := { plain "com/example/rolebind/rolebind/Decision" (some 8) with
  accessFlags := 49
  interfaces := #[]
  cf := some (fileOf pool9 29 #[.nestMembers #[16]] #[{ accessFlags := 1, nameIndex := 5, descriptorIndex := 45, attributes := #[] }, { accessFlags := 9, nameIndex := 89, descriptorIndex := 90, attributes := #[] }, { accessFlags := 1, nameIndex := 32, descriptorIndex := 100, attributes := #[] }, { accessFlags := 1, nameIndex := 8, descriptorIndex := 101, attributes := #[] }, { accessFlags := 1, nameIndex := 38, descriptorIndex := 65, attributes := #[] }] 49 2 #[] #[{ accessFlags := 18, nameIndex := 32, descriptorIndex := 33, attributes := #[] }, { accessFlags := 18, nameIndex := 8, descriptorIndex := 20, attributes := #[] }, { accessFlags := 18, nameIndex := 38, descriptorIndex := 39, attributes := #[] }])
  fields := #[{ name := "allowed", type := .boolean, accessFlags := 18, slot := 0, constantValue := 0 }, { name := "reason", type := (.object "com/example/rolebind/rolebind/Decision$Reason"), accessFlags := 18, slot := 1, constantValue := 0 }, { name := "role", type := (.object "java/lang/String"), accessFlags := 18, slot := 2, constantValue := 0 }]
  methods := #[k9m0, k9m1, k9m2, k9m3, k9m4]
  instanceTypes := #[.boolean, (.object "com/example/rolebind/rolebind/Decision$Reason"), (.object "java/lang/String")]
  staticTypes := #[]
  resolved := Array.replicate 136 none
  statics := none }

def pool10 : Array CpInfo := pool [(2, .class_ 4), (1, u "java/lang/Enum"), (0, u "name"), (0, u "Ljava/lang/String;"), (2, u "ordinal"), (0, u "I"), (1, .class_ 14), (1, u "java/lang/Object"), (4, u "hash"), (86, .class_ 108), (1, u "java/lang/Enum$EnumDesc"), (2, .class_ 112), (0, u "java/lang/constant/Constable"), (0, .class_ 114), (0, u "java/lang/Comparable"), (0, .class_ 116), (0, u "java/io/Serializable")] 87

/-- java/lang/Enum -/
def k10 : Class := { plain "java/lang/Enum" (some 0) with
  accessFlags := 1057
  interfaces := #[5, 3, 2]
  cf := some (fileOf pool10 2 #[.nestMembers #[106]] #[] 1057 12 #[111, 113, 115] #[{ accessFlags := 18, nameIndex := 5, descriptorIndex := 6, attributes := #[] }, { accessFlags := 18, nameIndex := 9, descriptorIndex := 10, attributes := #[] }, { accessFlags := 2, nameIndex := 19, descriptorIndex := 10, attributes := #[] }])
  fields := #[{ name := "name", type := (.object "java/lang/String"), accessFlags := 18, slot := 0, constantValue := 0 }, { name := "ordinal", type := .int, accessFlags := 18, slot := 1, constantValue := 0 }, { name := "hash", type := .int, accessFlags := 2, slot := 2, constantValue := 0 }]
  methods := #[]
  instanceTypes := #[(.object "java/lang/String"), .int, .int]
  staticTypes := #[]
  resolved := Array.replicate 204 none
  statics := none }

def pool11 : Array CpInfo := pool [(1, .class_ 2), (0, u "com/example/rolebind/rolebind/Decision$Reason"), (2, u "ROLE"), (0, u "Lcom/example/rolebind/rolebind/Decision$Reason;"), (2, u "UNCHECKED"), (2, u "UNSPECIFIED"), (2, u "EXCLUDED"), (2, u "NO_ROLE"), (2, u "$VALUES"), (0, u "[Lcom/example/rolebind/rolebind/Decision$Reason;"), (6, .class_ 31), (1, u "java/lang/Enum"), (8, u "word"), (0, u "Ljava/lang/String;"), (36, .class_ 79), (0, u "com/example/rolebind/rolebind/Decision")] 2

/-- com/example/rolebind/rolebind/Decision$Reason -/
def k11 : Class := { plain "com/example/rolebind/rolebind/Decision$Reason" (some 10) with
  accessFlags := 16433
  interfaces := #[]
  cf := some (fileOf pool11 1 #[.nestHost 78] #[] 16433 29 #[] #[{ accessFlags := 16409, nameIndex := 5, descriptorIndex := 6, attributes := #[] }, { accessFlags := 16409, nameIndex := 9, descriptorIndex := 6, attributes := #[] }, { accessFlags := 16409, nameIndex := 12, descriptorIndex := 6, attributes := #[] }, { accessFlags := 16409, nameIndex := 15, descriptorIndex := 6, attributes := #[] }, { accessFlags := 16409, nameIndex := 18, descriptorIndex := 6, attributes := #[] }, { accessFlags := 18, nameIndex := 40, descriptorIndex := 41, attributes := #[] }, { accessFlags := 4122, nameIndex := 21, descriptorIndex := 22, attributes := #[] }])
  fields := #[{ name := "ROLE", type := (.object "com/example/rolebind/rolebind/Decision$Reason"), accessFlags := 16409, slot := 0, constantValue := 0 }, { name := "UNCHECKED", type := (.object "com/example/rolebind/rolebind/Decision$Reason"), accessFlags := 16409, slot := 1, constantValue := 0 }, { name := "UNSPECIFIED", type := (.object "com/example/rolebind/rolebind/Decision$Reason"), accessFlags := 16409, slot := 2, constantValue := 0 }, { name := "EXCLUDED", type := (.object "com/example/rolebind/rolebind/Decision$Reason"), accessFlags := 16409, slot := 3, constantValue := 0 }, { name := "NO_ROLE", type := (.object "com/example/rolebind/rolebind/Decision$Reason"), accessFlags := 16409, slot := 4, constantValue := 0 }, { name := "word", type := (.object "java/lang/String"), accessFlags := 18, slot := 3, constantValue := 0 }, { name := "$VALUES", type := (.array (.object "com/example/rolebind/rolebind/Decision$Reason")), accessFlags := 4122, slot := 5, constantValue := 0 }]
  methods := #[]
  instanceTypes := #[(.object "java/lang/String"), .int, .int, (.object "java/lang/String")]
  staticTypes := #[(.object "com/example/rolebind/rolebind/Decision$Reason"), (.object "com/example/rolebind/rolebind/Decision$Reason"), (.object "com/example/rolebind/rolebind/Decision$Reason"), (.object "com/example/rolebind/rolebind/Decision$Reason"), (.object "com/example/rolebind/rolebind/Decision$Reason"), (.array (.object "com/example/rolebind/rolebind/Decision$Reason"))]
  resolved := Array.replicate 82 none
  statics := some 1 }

def pool12 : Array CpInfo := pool [(2, .class_ 4), (1, u "java/lang/Object"), (0, u "<init>"), (0, u "()V"), (35, .class_ 44), (1, u "java/util/Objects"), (0, u "requireNonNull"), (48, u "(Ljava/lang/Object;Ljava/lang/String;)Ljava/lang/Object;")] 89

def k12m0 : Method := { name := "<init>", desc := "()V", sig := { parameters := [], returnType := none }, accessFlags := 2, code := none }
def k12c1 : Code := { maxStack := 3, maxLocals := 2, code := jdk_31_method_11_code, exceptionTable := #[], attributes := #[] }
def k12m1 : Method := { name := "requireNonNull", desc := "(Ljava/lang/Object;Ljava/lang/String;)Ljava/lang/Object;", sig := { parameters := [(.object "java/lang/Object"), (.object "java/lang/String")], returnType := some (.object "java/lang/Object") }, accessFlags := 9, code := some k12c1 }
/-- java/util/Objects -/
def k12 : Class := { plain "java/util/Objects" (some 0) with
  accessFlags := 49
  interfaces := #[]
  cf := some (fileOf pool12 42 #[] #[{ accessFlags := 2, nameIndex := 5, descriptorIndex := 6, attributes := #[] }, { accessFlags := 9, nameIndex := 45, descriptorIndex := 94, attributes := #[] }] 49 2 #[] #[])
  fields := #[]
  methods := #[k12m0, k12m1]
  instanceTypes := #[]
  staticTypes := #[]
  resolved := Array.replicate 184 none
  statics := none }

def pool13 : Array CpInfo := pool [(6, .class_ 8), (1, u "java/lang/Object"), (0, u "<init>"), (0, u "()V"), (0, .methodref 12 13), (0, .class_ 14), (0, .nameAndType 15 16), (0, u "java/lang/StringUTF16"), (0, u "newBytesLength"), (0, u "(I)I"), (3, .integer 1073741823), (23, .fieldref 12 45), (0, .nameAndType 46 47), (0, u "$assertionsDisabled"), (0, u "Z"), (11, .fieldref 12 60), (0, .nameAndType 61 62), (0, u "HI_BYTE_SHIFT"), (0, u "I"), (0, .fieldref 12 64), (0, .nameAndType 65 62), (0, u "LO_BYTE_SHIFT"), (5, .methodref 12 72), (0, .nameAndType 73 74), (0, u "getChar"), (0, u "([BI)C"), (32, .methodref 12 108), (0, .nameAndType 109 110), (0, u "newBytesFor"), (0, u "(I)[B"), (0, .methodref 12 112), (0, .nameAndType 113 114), (0, u "putChar"), (0, u "([BII)V"), (0, .methodref 12 116), (0, .nameAndType 117 118), (0, u "compress"), (0, u "([CI[BII)I"), (0, .methodref 12 120), (0, .nameAndType 121 122), (0, u "toBytes"), (0, u "([CII)[B"), (138, u "coderFromArrayLen"), (0, u "([BI)B"), (106, .class_ 371), (1, u "java/lang/StringUTF16$LinesSpliterator"), (58, u "MAX_LENGTH"), (196, .class_ 628), (0, u "java/lang/StringUTF16$CodePointsSpliterator"), (0, .class_ 630), (0, u "java/lang/StringUTF16$CharsSpliterator")] 4

def k13m0 : Method := { name := "<init>", desc := "()V", sig := { parameters := [], returnType := none }, accessFlags := 0, code := none }
def k13c1 : Code := { maxStack := 1, maxLocals := 1, code := jdk_52_method_2_code, exceptionTable := #[], attributes := #[] }
def k13m1 : Method := { name := "newBytesFor", desc := "(I)[B", sig := { parameters := [.int], returnType := some (.array .byte) }, accessFlags := 9, code := some k13c1 }
def k13c2 : Code := { maxStack := 4, maxLocals := 1, code := jdk_52_method_3_code, exceptionTable := #[], attributes := #[] }
def k13m2 : Method := { name := "newBytesLength", desc := "(I)I", sig := { parameters := [.int], returnType := some .int }, accessFlags := 9, code := some k13c2 }
def k13c3 : Code := { maxStack := 4, maxLocals := 3, code := jdk_52_method_4_code, exceptionTable := #[], attributes := #[] }
def k13m3 : Method := { name := "putChar", desc := "([BII)V", sig := { parameters := [(.array .byte), .int, .int], returnType := none }, accessFlags := 8, code := some k13c3 }
def k13c4 : Code := { maxStack := 3, maxLocals := 2, code := jdk_52_method_5_code, exceptionTable := #[], attributes := #[] }
def k13m4 : Method := { name := "getChar", desc := "([BI)C", sig := { parameters := [(.array .byte), .int], returnType := some .char }, accessFlags := 8, code := some k13c4 }
def k13c5 : Code := { maxStack := 4, maxLocals := 5, code := jdk_52_method_14_code, exceptionTable := #[], attributes := #[] }
def k13m5 : Method := { name := "toBytes", desc := "([CII)[B", sig := { parameters := [(.array .char), .int, .int], returnType := some (.array .byte) }, accessFlags := 9, code := some k13c5 }
def k13c6 : Code := { maxStack := 2, maxLocals := 2, code := jdk_52_method_15_code, exceptionTable := #[], attributes := #[] }
def k13m6 : Method := { name := "coderFromArrayLen", desc := "([BI)B", sig := { parameters := [(.array .byte), .int], returnType := some .byte }, accessFlags := 8, code := some k13c6 }
def k13c7 : Code := { maxStack := 5, maxLocals := 6, code := jdk_52_method_16_code, exceptionTable := #[], attributes := #[] }
def k13m7 : Method := { name := "compress", desc := "([CII)[B", sig := { parameters := [(.array .char), .int, .int], returnType := some (.array .byte) }, accessFlags := 9, code := some k13c7 }
def k13c8 : Code := { maxStack := 3, maxLocals := 7, code := jdk_52_method_21_code, exceptionTable := #[], attributes := #[] }
def k13m8 : Method := { name := "compress", desc := "([CI[BII)I", sig := { parameters := [(.array .char), .int, (.array .byte), .int, .int], returnType := some .int }, accessFlags := 9, code := some k13c8 }
/-- java/lang/StringUTF16 -/
def k13 : Class := { plain "java/lang/StringUTF16" (some 0) with
  accessFlags := 48
  interfaces := #[]
  cf := some (fileOf pool13 12 #[.nestMembers #[627, 629, 369]] #[{ accessFlags := 0, nameIndex := 9, descriptorIndex := 10, attributes := #[] }, { accessFlags := 9, nameIndex := 109, descriptorIndex := 110, attributes := #[] }, { accessFlags := 9, nameIndex := 15, descriptorIndex := 16, attributes := #[] }, { accessFlags := 8, nameIndex := 113, descriptorIndex := 114, attributes := #[] }, { accessFlags := 8, nameIndex := 73, descriptorIndex := 74, attributes := #[] }, { accessFlags := 9, nameIndex := 121, descriptorIndex := 122, attributes := #[] }, { accessFlags := 8, nameIndex := 261, descriptorIndex := 262, attributes := #[] }, { accessFlags := 9, nameIndex := 117, descriptorIndex := 122, attributes := #[] }, { accessFlags := 9, nameIndex := 117, descriptorIndex := 118, attributes := #[] }] 48 6 #[] #[{ accessFlags := 26, nameIndex := 61, descriptorIndex := 62, attributes := #[] }, { accessFlags := 26, nameIndex := 65, descriptorIndex := 62, attributes := #[] }, { accessFlags := 24, nameIndex := 430, descriptorIndex := 62, attributes := #[] }, { accessFlags := 4120, nameIndex := 46, descriptorIndex := 47, attributes := #[] }])
  fields := #[{ name := "HI_BYTE_SHIFT", type := .int, accessFlags := 26, slot := 0, constantValue := 0 }, { name := "LO_BYTE_SHIFT", type := .int, accessFlags := 26, slot := 1, constantValue := 0 }, { name := "MAX_LENGTH", type := .int, accessFlags := 24, slot := 2, constantValue := 0 }, { name := "$assertionsDisabled", type := .boolean, accessFlags := 4120, slot := 3, constantValue := 0 }]
  methods := #[k13m0, k13m1, k13m2, k13m3, k13m4, k13m5, k13m6, k13m7, k13m8]
  instanceTypes := #[]
  staticTypes := #[.int, .int, .int, .boolean]
  resolved := Array.replicate 635 none
  statics := some 2 }

def pool14 : Array CpInfo := pool [(4, .class_ 6), (1, u "java/lang/Object"), (0, u "<init>"), (0, u "()V"), (5, .class_ 16), (1, u "java/lang/StringLatin1"), (104, u "$assertionsDisabled"), (0, u "Z"), (98, .class_ 223), (1, u "java/lang/StringLatin1$LinesSpliterator"), (166, .class_ 391), (0, u "java/lang/StringLatin1$CharsSpliterator")] 3

def k14m0 : Method := { name := "<init>", desc := "()V", sig := { parameters := [], returnType := none }, accessFlags := 0, code := none }
/-- java/lang/StringLatin1 -/
def k14 : Class := { plain "java/lang/StringLatin1" (some 0) with
  accessFlags := 48
  interfaces := #[]
  cf := some (fileOf pool14 14 #[.nestMembers #[390, 221]] #[{ accessFlags := 0, nameIndex := 7, descriptorIndex := 8, attributes := #[] }] 48 4 #[] #[{ accessFlags := 4120, nameIndex := 121, descriptorIndex := 122, attributes := #[] }])
  fields := #[{ name := "$assertionsDisabled", type := .boolean, accessFlags := 4120, slot := 0, constantValue := 0 }]
  methods := #[k14m0]
  instanceTypes := #[]
  staticTypes := #[.boolean]
  resolved := Array.replicate 395 none
  statics := none }

def pool15 : Array CpInfo := pool [(2, .class_ 4), (1, u "java/lang/Object"), (0, u "<init>"), (0, u "()V"), (17, .class_ 26), (1, u "jdk/internal/util/Preconditions"), (28, .class_ 56), (0, u "jdk/internal/util/Preconditions$4"), (57, .class_ 115), (0, u "jdk/internal/util/Preconditions$1"), (7, u "SIOOBE_FORMATTER"), (0, u "Ljava/util/function/BiFunction;"), (0, .class_ 126), (0, u "jdk/internal/util/Preconditions$2"), (3, u "AIOOBE_FORMATTER"), (0, .class_ 132), (0, u "jdk/internal/util/Preconditions$3"), (3, u "IOOBE_FORMATTER")] 57

def k15m0 : Method := { name := "<init>", desc := "()V", sig := { parameters := [], returnType := none }, accessFlags := 1, code := none }
/-- jdk/internal/util/Preconditions -/
def k15 : Class := { plain "jdk/internal/util/Preconditions" (some 0) with
  accessFlags := 33
  interfaces := #[]
  cf := some (fileOf pool15 24 #[.nestMembers #[55, 131, 125, 114]] #[{ accessFlags := 1, nameIndex := 5, descriptorIndex := 6, attributes := #[] }] 33 2 #[] #[{ accessFlags := 25, nameIndex := 123, descriptorIndex := 124, attributes := #[] }, { accessFlags := 25, nameIndex := 130, descriptorIndex := 124, attributes := #[] }, { accessFlags := 25, nameIndex := 136, descriptorIndex := 124, attributes := #[] }])
  fields := #[{ name := "SIOOBE_FORMATTER", type := (.object "java/util/function/BiFunction"), accessFlags := 25, slot := 0, constantValue := 0 }, { name := "AIOOBE_FORMATTER", type := (.object "java/util/function/BiFunction"), accessFlags := 25, slot := 1, constantValue := 0 }, { name := "IOOBE_FORMATTER", type := (.object "java/util/function/BiFunction"), accessFlags := 25, slot := 2, constantValue := 0 }]
  methods := #[k15m0]
  instanceTypes := #[]
  staticTypes := #[(.object "java/util/function/BiFunction"), (.object "java/util/function/BiFunction"), (.object "java/util/function/BiFunction")]
  resolved := Array.replicate 194 none
  statics := some 3 }

def pool16 : Array CpInfo := pool [(9, u "<init>"), (6, .class_ 18), (1, u "java/lang/Object"), (0, u "()V"), (1, .class_ 23), (1, u "jdk/internal/util/ArraysSupport"), (0, u "LOG2_ARRAY_LONG_INDEX_SCALE"), (0, u "I"), (2, u "U"), (0, u "Ljdk/internal/misc/Unsafe;"), (8, u "BIG_ENDIAN"), (0, u "Z"), (8, u "LOG2_BYTE_BIT_SIZE"), (4, u "LOG2_ARRAY_INT_INDEX_SCALE"), (54, u "JLA"), (0, u "Ljdk/internal/access/JavaLangAccess;"), (11, u "LOG2_ARRAY_BOOLEAN_INDEX_SCALE"), (9, u "LOG2_ARRAY_BYTE_INDEX_SCALE"), (5, u "LOG2_ARRAY_CHAR_INDEX_SCALE"), (5, u "LOG2_ARRAY_SHORT_INDEX_SCALE"), (18, u "LOG2_ARRAY_FLOAT_INDEX_SCALE"), (24, u "LOG2_ARRAY_DOUBLE_INDEX_SCALE"), (89, u "T_BOOLEAN"), (2, u "T_CHAR"), (1, u "T_FLOAT"), (1, u "T_DOUBLE"), (1, u "T_BYTE"), (1, u "T_SHORT"), (1, u "T_INT"), (1, u "T_LONG"), (1, u "SOFT_MAX_ARRAY_LENGTH")] 83

def k16m0 : Method := { name := "<init>", desc := "()V", sig := { parameters := [], returnType := none }, accessFlags := 2, code := none }
/-- jdk/internal/util/ArraysSupport -/
def k16 : Class := { plain "jdk/internal/util/ArraysSupport" (some 0) with
  accessFlags := 33
  interfaces := #[]
  cf := some (fileOf pool16 21 #[] #[{ accessFlags := 2, nameIndex := 9, descriptorIndex := 19, attributes := #[] }] 33 16 #[] #[{ accessFlags := 24, nameIndex := 28, descriptorIndex := 29, attributes := #[] }, { accessFlags := 26, nameIndex := 38, descriptorIndex := 39, attributes := #[] }, { accessFlags := 25, nameIndex := 121, descriptorIndex := 25, attributes := #[] }, { accessFlags := 25, nameIndex := 131, descriptorIndex := 25, attributes := #[] }, { accessFlags := 25, nameIndex := 137, descriptorIndex := 25, attributes := #[] }, { accessFlags := 25, nameIndex := 143, descriptorIndex := 25, attributes := #[] }, { accessFlags := 25, nameIndex := 53, descriptorIndex := 25, attributes := #[] }, { accessFlags := 25, nameIndex := 24, descriptorIndex := 25, attributes := #[] }, { accessFlags := 25, nameIndex := 162, descriptorIndex := 25, attributes := #[] }, { accessFlags := 25, nameIndex := 187, descriptorIndex := 25, attributes := #[] }, { accessFlags := 26, nameIndex := 48, descriptorIndex := 25, attributes := #[] }, { accessFlags := 25, nameIndex := 277, descriptorIndex := 25, attributes := #[] }, { accessFlags := 25, nameIndex := 280, descriptorIndex := 25, attributes := #[] }, { accessFlags := 25, nameIndex := 282, descriptorIndex := 25, attributes := #[] }, { accessFlags := 25, nameIndex := 284, descriptorIndex := 25, attributes := #[] }, { accessFlags := 25, nameIndex := 286, descriptorIndex := 25, attributes := #[] }, { accessFlags := 25, nameIndex := 288, descriptorIndex := 25, attributes := #[] }, { accessFlags := 25, nameIndex := 290, descriptorIndex := 25, attributes := #[] }, { accessFlags := 25, nameIndex := 292, descriptorIndex := 25, attributes := #[] }, { accessFlags := 26, nameIndex := 108, descriptorIndex := 109, attributes := #[] }, { accessFlags := 25, nameIndex := 294, descriptorIndex := 25, attributes := #[] }])
  fields := #[{ name := "U", type := (.object "jdk/internal/misc/Unsafe"), accessFlags := 24, slot := 0, constantValue := 0 }, { name := "BIG_ENDIAN", type := .boolean, accessFlags := 26, slot := 1, constantValue := 0 }, { name := "LOG2_ARRAY_BOOLEAN_INDEX_SCALE", type := .int, accessFlags := 25, slot := 2, constantValue := 0 }, { name := "LOG2_ARRAY_BYTE_INDEX_SCALE", type := .int, accessFlags := 25, slot := 3, constantValue := 0 }, { name := "LOG2_ARRAY_CHAR_INDEX_SCALE", type := .int, accessFlags := 25, slot := 4, constantValue := 0 }, { name := "LOG2_ARRAY_SHORT_INDEX_SCALE", type := .int, accessFlags := 25, slot := 5, constantValue := 0 }, { name := "LOG2_ARRAY_INT_INDEX_SCALE", type := .int, accessFlags := 25, slot := 6, constantValue := 0 }, { name := "LOG2_ARRAY_LONG_INDEX_SCALE", type := .int, accessFlags := 25, slot := 7, constantValue := 0 }, { name := "LOG2_ARRAY_FLOAT_INDEX_SCALE", type := .int, accessFlags := 25, slot := 8, constantValue := 0 }, { name := "LOG2_ARRAY_DOUBLE_INDEX_SCALE", type := .int, accessFlags := 25, slot := 9, constantValue := 0 }, { name := "LOG2_BYTE_BIT_SIZE", type := .int, accessFlags := 26, slot := 10, constantValue := 0 }, { name := "T_BOOLEAN", type := .int, accessFlags := 25, slot := 11, constantValue := 0 }, { name := "T_CHAR", type := .int, accessFlags := 25, slot := 12, constantValue := 0 }, { name := "T_FLOAT", type := .int, accessFlags := 25, slot := 13, constantValue := 0 }, { name := "T_DOUBLE", type := .int, accessFlags := 25, slot := 14, constantValue := 0 }, { name := "T_BYTE", type := .int, accessFlags := 25, slot := 15, constantValue := 0 }, { name := "T_SHORT", type := .int, accessFlags := 25, slot := 16, constantValue := 0 }, { name := "T_INT", type := .int, accessFlags := 25, slot := 17, constantValue := 0 }, { name := "T_LONG", type := .int, accessFlags := 25, slot := 18, constantValue := 0 }, { name := "JLA", type := (.object "jdk/internal/access/JavaLangAccess"), accessFlags := 26, slot := 19, constantValue := 0 }, { name := "SOFT_MAX_ARRAY_LENGTH", type := .int, accessFlags := 25, slot := 20, constantValue := 0 }]
  methods := #[k16m0]
  instanceTypes := #[]
  staticTypes := #[(.object "jdk/internal/misc/Unsafe"), .boolean, .int, .int, .int, .int, .int, .int, .int, .int, .int, .int, .int, .int, .int, .int, .int, .int, .int, (.object "jdk/internal/access/JavaLangAccess"), .int]
  resolved := Array.replicate 378 none
  statics := none }

def pool17 : Array CpInfo := pool [(1, u "java/lang/Cloneable"), (0, .class_ 1), (0, u "java/lang/Object"), (0, .class_ 3)] 3

/-- java/lang/Cloneable -/
def k17 : Class := { plain "java/lang/Cloneable" (some 0) with
  accessFlags := 1537
  interfaces := #[]
  cf := some (fileOf pool17 2 #[] #[] 1537 4 #[] #[])
  fields := #[]
  methods := #[]
  instanceTypes := #[]
  staticTypes := #[]
  resolved := Array.replicate 8 none
  statics := none }

/-- the primitive byte -/
def k18 : Class := { plain "byte" none with kind := .primitive 'B', accessFlags := 0x411 }
/-- [B -/
def k19 : Class := { plain "[B" (some 0) with kind := .array 18 .byte, interfaces := #[17, 2], accessFlags := 1041 }

/-- the primitive char -/
def k20 : Class := { plain "char" none with kind := .primitive 'C', accessFlags := 0x411 }
/-- [C -/
def k21 : Class := { plain "[C" (some 0) with kind := .array 20 .char, interfaces := #[17, 2], accessFlags := 1041 }

/-- the primitive int -/
def k22 : Class := { plain "int" none with kind := .primitive 'I', accessFlags := 0x411 }
/-- [I -/
def k23 : Class := { plain "[I" (some 0) with kind := .array 22 .int, interfaces := #[17, 2], accessFlags := 1041 }

def heap : Heap := #[{ cls := 7, slots := #[.long 0, .int 1, .null, .int 0, .null, .int 0, .int 0], vm := .statics 7 },
  { cls := 11, slots := #[.ref 4, .null, .null, .null, .null, .null], vm := .statics 11 },
  { cls := 13, slots := #[.int 0, .int 8, .int 0, .int 1], vm := .statics 13 },
  { cls := 15, slots := #[.null, .null, .null], vm := .statics 15 },
  { cls := 11, slots := #[.null, .int 0, .int 0, .null], vm := .none }]
def classes : Array Class := #[k0, k1, k2, k3, k4, k5, k6, k7, k8, k9, k10, k11, k12, k13, k14, k15, k16, k17, k18, k19, k20, k21, k22, k23]
def interned : List (Array UInt16 × Addr) := []
def slotsUsed : Nat := 24
def theMethod : MethodId := ⟨1, 1⟩
def args0 : Array Value := #[.int 5, .int 5, .int 5, .int 5]
def aboutOver (below : List Frame) : State where
  vm := { classes := classes, interned := interned.toArray }
  heap := heap
  slotsUsed := slotsUsed
  threads := #[{ frames := .invoking theMethod args0 :: below }]
def below0 : List Frame := [.native { method := ⟨0, 0⟩, args := #[] }]
def about1 : State := aboutOver below0
def p0 : Program := .bare "" "" ""
def e0 : Env := launch0.env 0 0 0
theorem w_frames : about1.frames = Frame.invoking theMethod args0 :: below0 := rfl
set_option maxRecDepth 65536 in
theorem w_args : argsFit about1.vm theMethod args0 = true := by decide +kernel
set_option maxRecDepth 65536 in
theorem w_heap : heapFits about1 = true := by decide +kernel
set_option maxRecDepth 65536 in
theorem w_runnable : about1.curStatus? = some .runnable := by decide +kernel
set_option maxRecDepth 65536 in
theorem w_alone : about1.alone = true := by decide +kernel
set_option maxRecDepth 65536 in
theorem w_named : about1.methodNamed? x = some theMethod := by decide +kernel
set_option maxRecDepth 65536 in
theorem w_hears : about1.hears theMethod below0 = true := by decide +kernel
set_option maxRecDepth 65536 in
theorem w_ripe : about1.ripe theMethod args0 below0 = true := by decide +kernel
theorem w_running : about1.status = .running := rfl
set_option maxRecDepth 65536 in
theorem w_room : about1.hasRoom e0.platform room_1 = true :=
  launch0.hasRoom_least _ room_1 (by decide +kernel) (by decide +kernel) (by decide +kernel) (by decide +kernel) (by decide +kernel) (by decide +kernel)
theorem allAtoms_all (ts : List Jvm.Cond) (a : Array Jvm.Value) (st : Jvm.State) : (allAtoms ts).before a st = ts.all (fun c => c.before a st) := by
  induction ts with
  | nil => rfl
  | cons c t ih =>
    show (Jvm.Cond.and c (allAtoms t)).before a st = _
    rw [Jvm.Cond.before_and, ih, List.all_cons]
def words1 : List Jvm.Cond := Jvm.Cond.code x code maxLocals ret :: tables_1
/-- a 'code' word, met by the world's own term for the bytes: nothing is compared byte by byte -/
theorem code_word {y : MethodName} {bytes : ByteArray} {mx : Nat} {rt : Option FieldType} {a : Array Value} {s : State} {m : MethodId} {meth : Method} {c : Code} (h1 : s.methodNamed? y = some m) (h2 : s.vm.method? m = some meth) (h3 : meth.code = some c) (h4 : c.code = bytes)
    (h5 : (c.maxLocals == mx && c.exceptionTable.isEmpty && decide (c.maxStack ≤ mostOperands) && decide (meth.sig.returnType = rt) && !meth.locks && decide (parseMethodDescriptor y.desc = some meth.sig)) = true) : (Jvm.Cond.code y bytes mx rt).before a s = true := by
  simp only [Bool.and_eq_true, beq_iff_eq, Bool.not_eq_true', decide_eq_true_eq] at h5
  obtain ⟨⟨⟨⟨⟨g1, g2⟩, g3⟩, g4⟩, g5⟩, g6⟩ := h5
  simp [Cond.before, Cond.holds, Cond.value, h1, h2, h3, h4, g1, g2, g3, g4, g5, g6]
def isCode : Jvm.Cond → Bool
  | .code _ _ _ _ => true
  | _ => false
theorem all_split {L : List Jvm.Cond} {P : Jvm.Cond → Bool} (h1 : L.all (fun c => isCode c || P c) = true) (h2 : ∀ c ∈ L.filter isCode, P c = true) : L.all P = true := by
  refine List.all_eq_true.mpr fun c hc => ?_
  have h := List.all_eq_true.mp h1 c hc
  rcases Bool.eq_false_or_eq_true (isCode c) with hi | hi
  · exact h2 c (List.mem_filter.mpr ⟨hc, hi⟩)
  · simpa [hi] using h
set_option maxRecDepth 65536 in
theorem w_c0 : (Jvm.Cond.code x code maxLocals ret).before args0 about1 = true := code_word (m := ⟨1, 1⟩) (meth := k1m1) (c := k1c1) (by decide +kernel) rfl rfl rfl (by decide +kernel)
set_option maxRecDepth 65536 in
theorem w_c1 : (Jvm.Cond.code ({ cls := "java/lang/String", name := "<init>", desc := "([C)V" } : Jvm.MethodName) jdk_42_method_3_code (2 : Nat) (Option.none : Option Jvm.ClassFile.FieldType)).before args0 about1 = true := code_word (m := ⟨7, 1⟩) (meth := k7m1) (c := k7c1) (by decide +kernel) rfl rfl rfl (by decide +kernel)
set_option maxRecDepth 65536 in
theorem w_c2 : (Jvm.Cond.code ({ cls := "java/lang/String", name := "<init>", desc := "([CIILjava/lang/Void;)V" } : Jvm.MethodName) jdk_42_method_149_code (6 : Nat) (Option.none : Option Jvm.ClassFile.FieldType)).before args0 about1 = true := code_word (m := ⟨7, 4⟩) (meth := k7m4) (c := k7c4) (by decide +kernel) rfl rfl rfl (by decide +kernel)
set_option maxRecDepth 65536 in
theorem w_c3 : (Jvm.Cond.code ({ cls := "java/lang/Object", name := "<init>", desc := "()V" } : Jvm.MethodName) object_method_1_code (1 : Nat) (Option.none : Option Jvm.ClassFile.FieldType)).before args0 about1 = true := code_word (m := ⟨0, 0⟩) (meth := k0m0) (c := k0c0) (by decide +kernel) rfl rfl rfl (by decide +kernel)
set_option maxRecDepth 65536 in
theorem w_c4 : (Jvm.Cond.code ({ cls := "com/example/rolebind/rolebind/Decision", name := "allowedByRole", desc := "(Ljava/lang/String;)Lcom/example/rolebind/rolebind/Decision;" } : Jvm.MethodName) prog_16_method_2_code (1 : Nat) (Option.some (Jvm.ClassFile.FieldType.object "com/example/rolebind/rolebind/Decision"))).before args0 about1 = true := code_word (m := ⟨9, 1⟩) (meth := k9m1) (c := k9c1) (by decide +kernel) rfl rfl rfl (by decide +kernel)
set_option maxRecDepth 65536 in
theorem w_c5 : (Jvm.Cond.code ({ cls := "java/util/Objects", name := "requireNonNull", desc := "(Ljava/lang/Object;Ljava/lang/String;)Ljava/lang/Object;" } : Jvm.MethodName) jdk_31_method_11_code (2 : Nat) (Option.some (Jvm.ClassFile.FieldType.object "java/lang/Object"))).before args0 about1 = true := code_word (m := ⟨12, 1⟩) (meth := k12m1) (c := k12c1) (by decide +kernel) rfl rfl rfl (by decide +kernel)
set_option maxRecDepth 65536 in
theorem w_c6 : (Jvm.Cond.code ({ cls := "com/example/rolebind/rolebind/Decision", name := "<init>", desc := "(ZLcom/example/rolebind/rolebind/Decision$Reason;Ljava/lang/String;)V" } : Jvm.MethodName) prog_16_method_1_code (4 : Nat) (Option.none : Option Jvm.ClassFile.FieldType)).before args0 about1 = true := code_word (m := ⟨9, 0⟩) (meth := k9m0) (c := k9c0) (by decide +kernel) rfl rfl rfl (by decide +kernel)
set_option maxRecDepth 65536 in
theorem w_c7 : (Jvm.Cond.code ({ cls := "java/lang/Record", name := "<init>", desc := "()V" } : Jvm.MethodName) jdk_30_method_1_code (1 : Nat) (Option.none : Option Jvm.ClassFile.FieldType)).before args0 about1 = true := code_word (m := ⟨8, 0⟩) (meth := k8m0) (c := k8c0) (by decide +kernel) rfl rfl rfl (by decide +kernel)
set_option maxRecDepth 65536 in
theorem w_c8 : (Jvm.Cond.code ({ cls := "com/example/rolebind/rolebind/Decision", name := "allowed", desc := "()Z" } : Jvm.MethodName) prog_16_method_11_code (1 : Nat) (Option.some Jvm.ClassFile.FieldType.boolean)).before args0 about1 = true := code_word (m := ⟨9, 2⟩) (meth := k9m2) (c := k9c2) (by decide +kernel) rfl rfl rfl (by decide +kernel)
set_option maxRecDepth 65536 in
theorem w_c9 : (Jvm.Cond.code ({ cls := "com/example/rolebind/rolebind/Decision", name := "reason", desc := "()Lcom/example/rolebind/rolebind/Decision$Reason;" } : Jvm.MethodName) prog_16_method_12_code (1 : Nat) (Option.some (Jvm.ClassFile.FieldType.object "com/example/rolebind/rolebind/Decision$Reason"))).before args0 about1 = true := code_word (m := ⟨9, 3⟩) (meth := k9m3) (c := k9c3) (by decide +kernel) rfl rfl rfl (by decide +kernel)
set_option maxRecDepth 65536 in
theorem w_c10 : (Jvm.Cond.code ({ cls := "com/example/rolebind/rolebind/Decision", name := "role", desc := "()Ljava/lang/String;" } : Jvm.MethodName) prog_16_method_13_code (1 : Nat) (Option.some (Jvm.ClassFile.FieldType.object "java/lang/String"))).before args0 about1 = true := code_word (m := ⟨9, 4⟩) (meth := k9m4) (c := k9c4) (by decide +kernel) rfl rfl rfl (by decide +kernel)
set_option maxRecDepth 65536 in
theorem w_c11 : (Jvm.Cond.code ({ cls := "java/lang/String", name := "equals", desc := "(Ljava/lang/Object;)Z" } : Jvm.MethodName) jdk_42_method_66_code (3 : Nat) (Option.some Jvm.ClassFile.FieldType.boolean)).before args0 about1 = true := code_word (m := ⟨7, 3⟩) (meth := k7m3) (c := k7c3) (by decide +kernel) rfl rfl rfl (by decide +kernel)
set_option maxRecDepth 65536 in
theorem w_c12 : (Jvm.Cond.code ({ cls := "java/lang/String", name := "length", desc := "()I" } : Jvm.MethodName) jdk_42_method_54_code (1 : Nat) (Option.some Jvm.ClassFile.FieldType.int)).before args0 about1 = true := code_word (m := ⟨7, 2⟩) (meth := k7m2) (c := k7c2) (by decide +kernel) rfl rfl rfl (by decide +kernel)
set_option maxRecDepth 65536 in
theorem w_c13 : (Jvm.Cond.code ({ cls := "java/lang/String", name := "coder", desc := "()B" } : Jvm.MethodName) jdk_42_method_152_code (1 : Nat) (Option.some Jvm.ClassFile.FieldType.byte)).before args0 about1 = true := code_word (m := ⟨7, 5⟩) (meth := k7m5) (c := k7c5) (by decide +kernel) rfl rfl rfl (by decide +kernel)
set_option maxRecDepth 65536 in
theorem w_c14 : (Jvm.Cond.code ({ cls := "java/lang/StringUTF16", name := "compress", desc := "([CII)[B" } : Jvm.MethodName) jdk_52_method_16_code (6 : Nat) (Option.some (Jvm.ClassFile.FieldType.array Jvm.ClassFile.FieldType.byte))).before args0 about1 = true := code_word (m := ⟨13, 7⟩) (meth := k13m7) (c := k13c7) (by decide +kernel) rfl rfl rfl (by decide +kernel)
set_option maxRecDepth 65536 in
theorem w_c15 : (Jvm.Cond.code ({ cls := "java/lang/StringUTF16", name := "compress", desc := "([CI[BII)I" } : Jvm.MethodName) jdk_52_method_21_code (7 : Nat) (Option.some Jvm.ClassFile.FieldType.int)).before args0 about1 = true := code_word (m := ⟨13, 8⟩) (meth := k13m8) (c := k13c8) (by decide +kernel) rfl rfl rfl (by decide +kernel)
set_option maxRecDepth 65536 in
theorem w_c16 : (Jvm.Cond.code ({ cls := "java/lang/StringUTF16", name := "coderFromArrayLen", desc := "([BI)B" } : Jvm.MethodName) jdk_52_method_15_code (2 : Nat) (Option.some Jvm.ClassFile.FieldType.byte)).before args0 about1 = true := code_word (m := ⟨13, 6⟩) (meth := k13m6) (c := k13c6) (by decide +kernel) rfl rfl rfl (by decide +kernel)
set_option maxRecDepth 65536 in
theorem w_c17 : (Jvm.Cond.code ({ cls := "java/lang/StringUTF16", name := "toBytes", desc := "([CII)[B" } : Jvm.MethodName) jdk_52_method_14_code (5 : Nat) (Option.some (Jvm.ClassFile.FieldType.array Jvm.ClassFile.FieldType.byte))).before args0 about1 = true := code_word (m := ⟨13, 5⟩) (meth := k13m5) (c := k13c5) (by decide +kernel) rfl rfl rfl (by decide +kernel)
set_option maxRecDepth 65536 in
theorem w_c18 : (Jvm.Cond.code ({ cls := "java/lang/StringUTF16", name := "newBytesFor", desc := "(I)[B" } : Jvm.MethodName) jdk_52_method_2_code (1 : Nat) (Option.some (Jvm.ClassFile.FieldType.array Jvm.ClassFile.FieldType.byte))).before args0 about1 = true := code_word (m := ⟨13, 1⟩) (meth := k13m1) (c := k13c1) (by decide +kernel) rfl rfl rfl (by decide +kernel)
set_option maxRecDepth 65536 in
theorem w_c19 : (Jvm.Cond.code ({ cls := "java/lang/StringUTF16", name := "newBytesLength", desc := "(I)I" } : Jvm.MethodName) jdk_52_method_3_code (1 : Nat) (Option.some Jvm.ClassFile.FieldType.int)).before args0 about1 = true := code_word (m := ⟨13, 2⟩) (meth := k13m2) (c := k13c2) (by decide +kernel) rfl rfl rfl (by decide +kernel)
set_option maxRecDepth 65536 in
theorem w_c20 : (Jvm.Cond.code ({ cls := "java/lang/StringUTF16", name := "putChar", desc := "([BII)V" } : Jvm.MethodName) jdk_52_method_4_code (3 : Nat) (Option.none : Option Jvm.ClassFile.FieldType)).before args0 about1 = true := code_word (m := ⟨13, 3⟩) (meth := k13m3) (c := k13c3) (by decide +kernel) rfl rfl rfl (by decide +kernel)
set_option maxRecDepth 65536 in
theorem w_c21 : (Jvm.Cond.code ({ cls := "java/lang/StringUTF16", name := "getChar", desc := "([BI)C" } : Jvm.MethodName) jdk_52_method_5_code (2 : Nat) (Option.some Jvm.ClassFile.FieldType.char)).before args0 about1 = true := code_word (m := ⟨13, 4⟩) (meth := k13m4) (c := k13c4) (by decide +kernel) rfl rfl rfl (by decide +kernel)
def codes1 : List Jvm.Cond := [Jvm.Cond.code x code maxLocals ret, Jvm.Cond.code ({ cls := "java/lang/String", name := "<init>", desc := "([C)V" } : Jvm.MethodName) jdk_42_method_3_code (2 : Nat) (Option.none : Option Jvm.ClassFile.FieldType), Jvm.Cond.code ({ cls := "java/lang/String", name := "<init>", desc := "([CIILjava/lang/Void;)V" } : Jvm.MethodName) jdk_42_method_149_code (6 : Nat) (Option.none : Option Jvm.ClassFile.FieldType), Jvm.Cond.code ({ cls := "java/lang/Object", name := "<init>", desc := "()V" } : Jvm.MethodName) object_method_1_code (1 : Nat) (Option.none : Option Jvm.ClassFile.FieldType), Jvm.Cond.code ({ cls := "com/example/rolebind/rolebind/Decision", name := "allowedByRole", desc := "(Ljava/lang/String;)Lcom/example/rolebind/rolebind/Decision;" } : Jvm.MethodName) prog_16_method_2_code (1 : Nat) (Option.some (Jvm.ClassFile.FieldType.object "com/example/rolebind/rolebind/Decision")), Jvm.Cond.code ({ cls := "java/util/Objects", name := "requireNonNull", desc := "(Ljava/lang/Object;Ljava/lang/String;)Ljava/lang/Object;" } : Jvm.MethodName) jdk_31_method_11_code (2 : Nat) (Option.some (Jvm.ClassFile.FieldType.object "java/lang/Object")), Jvm.Cond.code ({ cls := "com/example/rolebind/rolebind/Decision", name := "<init>", desc := "(ZLcom/example/rolebind/rolebind/Decision$Reason;Ljava/lang/String;)V" } : Jvm.MethodName) prog_16_method_1_code (4 : Nat) (Option.none : Option Jvm.ClassFile.FieldType), Jvm.Cond.code ({ cls := "java/lang/Record", name := "<init>", desc := "()V" } : Jvm.MethodName) jdk_30_method_1_code (1 : Nat) (Option.none : Option Jvm.ClassFile.FieldType), Jvm.Cond.code ({ cls := "com/example/rolebind/rolebind/Decision", name := "allowed", desc := "()Z" } : Jvm.MethodName) prog_16_method_11_code (1 : Nat) (Option.some Jvm.ClassFile.FieldType.boolean), Jvm.Cond.code ({ cls := "com/example/rolebind/rolebind/Decision", name := "reason", desc := "()Lcom/example/rolebind/rolebind/Decision$Reason;" } : Jvm.MethodName) prog_16_method_12_code (1 : Nat) (Option.some (Jvm.ClassFile.FieldType.object "com/example/rolebind/rolebind/Decision$Reason")), Jvm.Cond.code ({ cls := "com/example/rolebind/rolebind/Decision", name := "role", desc := "()Ljava/lang/String;" } : Jvm.MethodName) prog_16_method_13_code (1 : Nat) (Option.some (Jvm.ClassFile.FieldType.object "java/lang/String")), Jvm.Cond.code ({ cls := "java/lang/String", name := "equals", desc := "(Ljava/lang/Object;)Z" } : Jvm.MethodName) jdk_42_method_66_code (3 : Nat) (Option.some Jvm.ClassFile.FieldType.boolean), Jvm.Cond.code ({ cls := "java/lang/String", name := "length", desc := "()I" } : Jvm.MethodName) jdk_42_method_54_code (1 : Nat) (Option.some Jvm.ClassFile.FieldType.int), Jvm.Cond.code ({ cls := "java/lang/String", name := "coder", desc := "()B" } : Jvm.MethodName) jdk_42_method_152_code (1 : Nat) (Option.some Jvm.ClassFile.FieldType.byte), Jvm.Cond.code ({ cls := "java/lang/StringUTF16", name := "compress", desc := "([CII)[B" } : Jvm.MethodName) jdk_52_method_16_code (6 : Nat) (Option.some (Jvm.ClassFile.FieldType.array Jvm.ClassFile.FieldType.byte)), Jvm.Cond.code ({ cls := "java/lang/StringUTF16", name := "compress", desc := "([CI[BII)I" } : Jvm.MethodName) jdk_52_method_21_code (7 : Nat) (Option.some Jvm.ClassFile.FieldType.int), Jvm.Cond.code ({ cls := "java/lang/StringUTF16", name := "coderFromArrayLen", desc := "([BI)B" } : Jvm.MethodName) jdk_52_method_15_code (2 : Nat) (Option.some Jvm.ClassFile.FieldType.byte), Jvm.Cond.code ({ cls := "java/lang/StringUTF16", name := "toBytes", desc := "([CII)[B" } : Jvm.MethodName) jdk_52_method_14_code (5 : Nat) (Option.some (Jvm.ClassFile.FieldType.array Jvm.ClassFile.FieldType.byte)), Jvm.Cond.code ({ cls := "java/lang/StringUTF16", name := "newBytesFor", desc := "(I)[B" } : Jvm.MethodName) jdk_52_method_2_code (1 : Nat) (Option.some (Jvm.ClassFile.FieldType.array Jvm.ClassFile.FieldType.byte)), Jvm.Cond.code ({ cls := "java/lang/StringUTF16", name := "newBytesLength", desc := "(I)I" } : Jvm.MethodName) jdk_52_method_3_code (1 : Nat) (Option.some Jvm.ClassFile.FieldType.int), Jvm.Cond.code ({ cls := "java/lang/StringUTF16", name := "putChar", desc := "([BII)V" } : Jvm.MethodName) jdk_52_method_4_code (3 : Nat) (Option.none : Option Jvm.ClassFile.FieldType), Jvm.Cond.code ({ cls := "java/lang/StringUTF16", name := "getChar", desc := "([BI)C" } : Jvm.MethodName) jdk_52_method_5_code (2 : Nat) (Option.some Jvm.ClassFile.FieldType.char)]
set_option maxRecDepth 65536 in
theorem codes_eq : words1.filter isCode = codes1 := rfl
theorem w_codes : ∀ c ∈ words1.filter isCode, c.before args0 about1 = true := by
  rw [codes_eq]
  intro c hc
  simp only [codes1, List.mem_cons, List.not_mem_nil, or_false] at hc
  rcases hc with rfl | rfl | rfl | rfl | rfl | rfl | rfl | rfl | rfl | rfl | rfl | rfl | rfl | rfl | rfl | rfl | rfl | rfl | rfl | rfl | rfl | rfl
  · exact w_c0
  · exact w_c1
  · exact w_c2
  · exact w_c3
  · exact w_c4
  · exact w_c5
  · exact w_c6
  · exact w_c7
  · exact w_c8
  · exact w_c9
  · exact w_c10
  · exact w_c11
  · exact w_c12
  · exact w_c13
  · exact w_c14
  · exact w_c15
  · exact w_c16
  · exact w_c17
  · exact w_c18
  · exact w_c19
  · exact w_c20
  · exact w_c21
set_option maxRecDepth 65536 in
theorem w_t1 : (words1.take 24).all (fun c => isCode c || c.before args0 about1) = true := by decide +kernel
set_option maxRecDepth 65536 in
theorem w_t2 : ((words1.drop 24).take 24).all (fun c => isCode c || c.before args0 about1) = true := by decide +kernel
set_option maxRecDepth 65536 in
theorem w_t3 : (((words1.drop 24).drop 24).take 24).all (fun c => isCode c || c.before args0 about1) = true := by decide +kernel
set_option maxRecDepth 65536 in
theorem w_t4 : ((((words1.drop 24).drop 24).drop 24).take 24).all (fun c => isCode c || c.before args0 about1) = true := by decide +kernel
set_option maxRecDepth 65536 in
theorem w_t5 : ((((words1.drop 24).drop 24).drop 24).drop 24).all (fun c => isCode c || c.before args0 about1) = true := by decide +kernel
theorem w_tables : (allAtoms (Jvm.Cond.code x code maxLocals ret :: tables_1)).before args0 about1 = true := by
  rw [allAtoms_all]
  show words1.all (fun c => c.before args0 about1) = true
  refine all_split ?_ w_codes
  rw [← List.take_append_drop 24 words1, List.all_append, w_t1, ← List.take_append_drop 24 (words1.drop 24), List.all_append, w_t2, ← List.take_append_drop 24 ((words1.drop 24).drop 24), List.all_append, w_t3, ← List.take_append_drop 24 (((words1.drop 24).drop 24).drop 24), List.all_append, w_t4, w_t5]
  rfl
set_option maxRecDepth 65536 in
theorem w_rest : rest_1_c.before args0 about1 = true := by decide +kernel
set_option maxRecDepth 65536 in
theorem w_case : (Jvm.Cond.and given_1 narrow_1).before args0 about1 = true := by decide +kernel
set_option maxRecDepth 65536 in
theorem w_consts : constsHeld consts_1 about1 := Jvm.Lit.constsHeldB_iff.mp (by decide +kernel)
theorem w_applies : (headSpec (Jvm.Cond.code x code maxLocals ret :: tables_1) room_1).applies x e0.platform about1 = true :=
  (Spec.applies_iff w_frames).mpr ⟨w_running, w_runnable, w_alone, w_named, w_hears, w_ripe, w_room, w_tables⟩
theorem atStart : AtStart classFile x code maxLocals ret World_1 tables_1 room_1 Calls_1 rest_1 Pre_1 launch0 p0 e0 about1 theMethod args0 below0 :=
  ⟨lists_1, trivial, launch0.admits_env _ _ _, launch0.least_env, fairChoices_fair.cas, fairChoices_fair.clock, w_frames, w_args, w_heap, w_applies, ⟨w_consts, trivial⟩, w_rest, w_case⟩
end start1
theorem witness_1 : WitnessClaimed_1 := ⟨start1.p0, start1.e0, start1.about1, start1.theMethod, start1.args0, start1.below0, start1.atStart⟩
end Jvm.Pilot.@@N@@
